import PyProof.Rows.All
import Wide.All
import OpenK.AllK
import Wide.FinOn
import KE.BitLaws
import PySem.Challenge.RW_xe0034_01
open PySem PySem.Spec PySem.Calls PyProof.Rows PySem.W
set_option Elab.async false
set_option linter.unusedVariables false
namespace Mine
noncomputable section NC
/-- abstract values -/
inductive AV where
  | none
  | bool (b : Bool)
  | int (i : Int)
  | str (x : Str)
  | tup (l : List AV)
  | lst (l : List AV)
  | dI (l : List (Int × Int))
  | dS (l : List (Str × Int))
  | obj (l : AV)
  /-- a function, by its address -/
  | fn (a : Nat)
noncomputable def usedB : List Str := [Str.ofString "range", Str.ofString "reversed", Str.ofString "len", Str.ofString "abs", Str.ofString "str", Str.ofString "divmod", Str.ofString "sum", Str.ofString "isinstance", Str.ofString "tuple", Str.ofString "zip"]
/-- an object that may be a code record -/
noncomputable def isRec (o : Obj) : Prop := ∃ vs q t, o.data = .fields vs ∧ vs[1]? = some (.str q t)
/-- what the world's old part must say, and that it stays said -/
structure WOk (W : Heap → Prop) (wd xc : Addr → Prop) (mg mb : Str → Option Value) : Prop where
  stable : ∀ h h', W h → (∀ b o, (wd b ∨ isRec o) → h.get? b = some o → h'.get? b = some o) → W h'
  alive : ∀ h b, W h → wd b → ∃ o, h.get? b = some o
  xcwd : ∀ b, xc b → wd b
  glob : ∀ h, W h → h.Ns mainGlobals mg
  blt : ∀ h, W h → h.Ns builtinsNs mb
  nolim : ∀ h, W h → h.NoLimit
  nodig : ∀ h, W h → ∃ mc, h.Ns cStatics mc ∧ mc "sys.int_max_str_digits" = none
  bnames : ∀ x : Str, x ≠ "__name__" → mb x = bootBuiltins x
  nog : ∀ x ∈ usedB, mg x = none
  sysm : wd sysModules
  divl : ∃ t, mg (Str.ofString "_DIV_LIMIT") = some (.int 4000 t)
section
variable (P : Program) (w : World) (CC : Addr)
/-- a tuple object, in full -/
noncomputable def TupX (h : Heap) (a : Addr) (vs : Array Value) : Prop := ∃ n, h.get? a = some { cls := .type "tuple", dict := none, data := .seq vs n, slots := #[] }
theorem TupX.is {h : Heap} {a : Addr} {vs : Array Value} (x : TupX h a vs) : h.IsTuple a vs := let ⟨n, e⟩ := x; ⟨_, e, rfl, n, rfl⟩
theorem TupX.keep1 {h h' : Heap} {a : Addr} {vs : Array Value} (x : TupX h a vs) (k : ∀ o, h.get? a = some o → h'.get? a = some o) : TupX h' a vs := let ⟨n, e⟩ := x; ⟨n, k _ e⟩
theorem TupX.some {h : Heap} {a : Addr} {vs : Array Value} (x : TupX h a vs) : ∃ o, h.get? a = Option.some o := let ⟨_, e⟩ := x; ⟨_, e⟩
mutual
/-- the value v bears d in h, through frozen objects alone (those outside X) -/
inductive Rep (X : Addr → Prop) (h : Heap) : Value → AV → Prop
  | none : Rep X h .none .none
  | bool (b : Bool) : Rep X h (.bool b) (.bool b)
  | int (i : Int) (t : Tok) : Rep X h (.int i t) (.int i)
  | str (x : Str) (t : Tok) : Rep X h (.str x t) (.str x)
  | fn (a : Addr) : Rep X h (.ref a) (.fn a)
  | tup {a : Addr} {vs : List Value} {ds : List AV} : ¬ X a → TupX h a vs.toArray → Reps X h vs ds → Rep X h (.ref a) (.tup ds)
  | lst {a : Addr} {vs : List Value} {ds : List AV} : ¬ X a → h.IsList a vs.toArray → Reps X h vs ds → Rep X h (.ref a) (.lst ds)
  | dI {a : Addr} {kv : List (Int × Value)} {l : List (Int × Int)} : ¬ X a → (a == sysModules) = false → h.DictOf (intKind P w) a kv → kv.map (·.1) = l.map (·.1) → Reps X h (kv.map (·.2)) (l.map fun p => AV.int p.2) → Rep X h (.ref a) (.dI l)
  | dS {a : Addr} {kv : List (Str × Value)} {l : List (Str × Int)} : ¬ X a → (a == sysModules) = false → h.DictOf (PySem.strKind P w) a kv → kv.map (·.1) = l.map (·.1) → Reps X h (kv.map (·.2)) (l.map fun p => AV.int p.2) → Rep X h (.ref a) (.dS l)
  | obj {a da : Addr} {hs : Int} {t : Tok} {v : Value} {n : Nat} {d : AV} {sl : Array (Option Value)} : ¬ X a → ¬ X da → h.get? a = some ⟨.ref CC, some da, .plain, sl⟩ →
      h.get? da = some (dictOf [⟨hs, .str "comp_select_list" t, v⟩] n) → Rep X h v d → Rep X h (.ref a) (.obj d)
inductive Reps (X : Addr → Prop) (h : Heap) : List Value → List AV → Prop
  | nil : Reps X h [] []
  | cons {v : Value} {vs : List Value} {d : AV} {ds : List AV} : Rep X h v d → Reps X h vs ds → Reps X h (v :: vs) (d :: ds)
end
end
section
variable {P : Program} {w : World} {CC : Addr}
theorem IsTuple.keep1 {h h' : Heap} {a : Addr} {vs : Array Value} (x : h.IsTuple a vs) (k : ∀ o, h.get? a = some o → h'.get? a = some o) : h'.IsTuple a vs :=
  let ⟨o, e, r⟩ := x; ⟨o, k o e, r⟩
theorem IsList.keep1 {h h' : Heap} {a : Addr} {vs : Array Value} (x : h.IsList a vs) (k : ∀ o, h.get? a = some o → h'.get? a = some o) : h'.IsList a vs :=
  let ⟨o, e, r⟩ := x; ⟨o, k o e, r⟩
theorem DictOf.keep1 {K : Type} [DecidableEq K] {knd : KeyKind P w K} {h h' : Heap} {a : Addr} {kv : List (K × Value)} (x : h.DictOf knd a kv) (k : ∀ o, h.get? a = some o → h'.get? a = some o) : h'.DictOf knd a kv :=
  let ⟨o, es, ep, e, r⟩ := x; ⟨o, es, ep, k o e, r⟩
theorem IsTuple.some {h : Heap} {a : Addr} {vs : Array Value} (x : h.IsTuple a vs) : ∃ o, h.get? a = Option.some o := let ⟨o, e, _⟩ := x; ⟨o, e⟩
theorem IsList.some {h : Heap} {a : Addr} {vs : Array Value} (x : h.IsList a vs) : ∃ o, h.get? a = Option.some o := let ⟨o, e, _⟩ := x; ⟨o, e⟩
theorem DictOf.some {K : Type} [DecidableEq K] {knd : KeyKind P w K} {h : Heap} {a : Addr} {kv : List (K × Value)} (x : h.DictOf knd a kv) : ∃ o, h.get? a = Option.some o := let ⟨o, _, _, e, _⟩ := x; ⟨o, e⟩
theorem Rep.mono {X X' : Addr → Prop} {h h' : Heap} (k : ∀ b o, ¬ X b → h.get? b = some o → h'.get? b = some o) (kx : ∀ b o, X' b → h.get? b = some o → X b) {v : Value} {d : AV} (r : Rep P w CC X h v d) : Rep P w CC X' h' v d :=
  Rep.rec (motive_1 := fun v d _ => Rep P w CC X' h' v d) (motive_2 := fun v d _ => Reps P w CC X' h' v d) .none .bool .int .str .fn
    (fun nx e _ r => .tup (fun q => let ⟨_, e'⟩ := TupX.some e; nx (kx _ _ q e')) (TupX.keep1 e fun o e' => k _ o nx e') r)
    (fun nx e _ r => .lst (fun q => let ⟨_, e'⟩ := IsList.some e; nx (kx _ _ q e')) (IsList.keep1 e fun o e' => k _ o nx e') r)
    (fun nx ns e m _ r => .dI (fun q => let ⟨_, e'⟩ := DictOf.some e; nx (kx _ _ q e')) ns (DictOf.keep1 e fun o e' => k _ o nx e') m r)
    (fun nx ns e m _ r => .dS (fun q => let ⟨_, e'⟩ := DictOf.some e; nx (kx _ _ q e')) ns (DictOf.keep1 e fun o e' => k _ o nx e') m r)
    (fun nx ny e e' _ r => .obj (fun q => nx (kx _ _ q e)) (fun q => ny (kx _ _ q e')) (k _ _ nx e) (k _ _ ny e') r)
    .nil (fun _ _ a b => .cons a b) r
/-- along a list of values -/
theorem Reps.run {X : Addr → Prop} {h : Heap} {M : List Value → List AV → Prop} (n : M [] []) (c : ∀ {v vs d ds}, Rep P w CC X h v d → Reps P w CC X h vs ds → M vs ds → M (v :: vs) (d :: ds)) {vs : List Value} {ds : List AV} (r : Reps P w CC X h vs ds) : M vs ds :=
  Reps.rec (motive_1 := fun _ _ _ => True) (motive_2 := fun v d _ => M v d) trivial (fun _ => trivial) (fun _ _ => trivial) (fun _ _ => trivial) (fun _ => trivial) (fun _ _ _ _ => trivial) (fun _ _ _ _ => trivial) (fun _ _ _ _ _ _ => trivial) (fun _ _ _ _ _ _ => trivial)
    (fun _ _ _ _ _ _ => trivial) n (fun a b _ r => c a b r) r
theorem Reps.mono {X X' : Addr → Prop} {h h' : Heap} (k : ∀ b o, ¬ X b → h.get? b = some o → h'.get? b = some o) (kx : ∀ b o, X' b → h.get? b = some o → X b) {vs : List Value} {ds : List AV} (r : Reps P w CC X h vs ds) : Reps P w CC X' h' vs ds :=
  Reps.run .nil (fun a _ r => .cons (Rep.mono k kx a) r) r
section
variable {X : Addr → Prop} {h : Heap} {v : Value} {vs : List Value} {ds : List AV} {M : Value → Prop} {N : List Value → Prop}
@[elab_as_elim] theorem Rep.int_k {i : Int} (r : Rep P w CC X h v (.int i)) (k : ∀ t, M (.int i t)) : M v := by cases r; exact k _
@[elab_as_elim] theorem Rep.bool_k {i : Bool} (r : Rep P w CC X h v (.bool i)) (k : M (.bool i)) : M v := by cases r; exact k
@[elab_as_elim] theorem Rep.str_k {i : Str} (r : Rep P w CC X h v (.str i)) (k : ∀ t, M (.str i t)) : M v := by cases r; exact k _
@[elab_as_elim] theorem Rep.tup_k (r : Rep P w CC X h v (.tup ds)) (k : ∀ a vs, ¬ X a → TupX h a vs.toArray → Reps P w CC X h vs ds → M (.ref a)) : M v := by cases r with | tup a b c => exact k _ _ a b c
@[elab_as_elim] theorem Rep.lst_k (r : Rep P w CC X h v (.lst ds)) (k : ∀ a vs, ¬ X a → h.IsList a vs.toArray → Reps P w CC X h vs ds → M (.ref a)) : M v := by cases r with | lst a b c => exact k _ _ a b c
@[elab_as_elim] theorem Rep.dI_k {l : List (Int × Int)} (r : Rep P w CC X h v (.dI l)) (k : ∀ (a : Addr) (kv : List (Int × Value)), ¬ X a → (a == sysModules) = false → h.DictOf (intKind P w) a kv → kv.map (·.1) = l.map (·.1) → Reps P w CC X h (kv.map (·.2)) (l.map fun p => AV.int p.2) → M (.ref a)) : M v := by cases r with | dI a b c d e => exact k _ _ a b c d e
@[elab_as_elim] theorem Rep.dS_k {l : List (Str × Int)} (r : Rep P w CC X h v (.dS l)) (k : ∀ (a : Addr) (kv : List (Str × Value)), ¬ X a → (a == sysModules) = false → h.DictOf (PySem.strKind P w) a kv → kv.map (·.1) = l.map (·.1) → Reps P w CC X h (kv.map (·.2)) (l.map fun p => AV.int p.2) → M (.ref a)) : M v := by cases r with | dS a b c d e => exact k _ _ a b c d e
@[elab_as_elim] theorem Rep.obj_k {d : AV} (r : Rep P w CC X h v (.obj d)) (k : ∀ (a da : Addr) (hs : Int) (t : Tok) (u : Value) (n : Nat) (sl : Array (Option Value)), ¬ X a → ¬ X da → h.get? a = some ⟨.ref CC, some da, .plain, sl⟩ → h.get? da = some (dictOf [⟨hs, .str "comp_select_list" t, u⟩] n) → Rep P w CC X h u d → M (.ref a)) : M v := by cases r with | obj a b c d e => exact k _ _ _ _ _ _ _ a b c d e
@[elab_as_elim] theorem Reps.cons_k {d : AV} (r : Reps P w CC X h vs (d :: ds)) (k : ∀ v vs, Rep P w CC X h v d → Reps P w CC X h vs ds → N (v :: vs)) : N vs := by cases r with | cons a b => exact k _ _ a b
@[elab_as_elim] theorem Reps.nil_k (r : Reps P w CC X h vs []) (k : N []) : N vs := by cases r; exact k
@[elab_as_elim] theorem Reps.one_k {d : AV} (r : Reps P w CC X h vs [d]) (k : ∀ v, Rep P w CC X h v d → N [v]) : N vs := Reps.cons_k r fun v vs a r => Reps.nil_k r (k v a)
@[elab_as_elim] theorem Reps.two_k {d e : AV} (r : Reps P w CC X h vs [d, e]) (k : ∀ v u, Rep P w CC X h v d → Rep P w CC X h u e → N [v, u]) : N vs := Reps.cons_k r fun v vs a r => Reps.one_k (N := fun vs => N (v :: vs)) r fun u b => k v u a b
end
theorem Reps.length {X : Addr → Prop} {h : Heap} {vs : List Value} {ds : List AV} (r : Reps P w CC X h vs ds) : vs.length = ds.length := Reps.run (M := fun vs ds => vs.length = ds.length) rfl (fun _ _ e => congrArg (· + 1) e) r
theorem Reps.get {X : Addr → Prop} {h : Heap} {vs : List Value} {ds : List AV} {i : Nat} {d : AV} (r : Reps P w CC X h vs ds) (e : ds[i]? = some d) : ∃ v, vs[i]? = some v ∧ Rep P w CC X h v d :=
  Reps.run (M := fun vs ds => ∀ i d, ds[i]? = some d → ∃ v, vs[i]? = some v ∧ Rep P w CC X h v d) (fun i d (e : none = some d) => nomatch e) (fun {v vs d ds} a _ ih i d' e => @Nat.casesOn (fun i => (d :: ds)[i]? = some d' → ∃ u, (v :: vs)[i]? = some u ∧ Rep P w CC X h u d') i (fun e => ⟨v, rfl, Option.some.inj (show some d = some d' from e) ▸ a⟩) (fun j e => ih j d' e) e) r i d e
theorem Reps.append {X : Addr → Prop} {h : Heap} {vs : List Value} {ds : List AV} {vs' : List Value} {ds' : List AV} (r : Reps P w CC X h vs ds) (r' : Reps P w CC X h vs' ds') : Reps P w CC X h (vs ++ vs') (ds ++ ds') := Reps.run (M := fun vs ds => Reps P w CC X h (vs ++ vs') (ds ++ ds')) r' (fun a _ r => .cons a r) r
theorem Reps.reverse {X : Addr → Prop} {h : Heap} {vs : List Value} {ds : List AV} (r : Reps P w CC X h vs ds) : Reps P w CC X h vs.reverse ds.reverse :=
  Reps.run (M := fun vs ds => Reps P w CC X h vs.reverse ds.reverse) .nil (fun {v vs d ds} a _ r => Eq.mpr (congr (congrArg (Reps P w CC X h) List.reverse_cons) List.reverse_cons) (Reps.append r (.cons a .nil))) r
theorem Reps.ints {X : Addr → Prop} {h : Heap} {vs : List Value} {ns : List Int} (r : Reps P w CC X h vs (ns.map AV.int)) : IntsAre vs ns :=
  @List.rec Int (fun ns => ∀ vs, Reps P w CC X h vs (ns.map AV.int) → IntsAre vs ns) (fun vs r => Reps.nil_k r .nil) (fun n ns ih vs r => Reps.cons_k r fun v vs a r => Rep.int_k a fun t => .cons _ _ (ih vs r)) ns vs r
theorem Reps.of_ints {X : Addr → Prop} {h : Heap} {vs : List Value} {ns : List Int} (r : IntsAre vs ns) : Reps P w CC X h vs (ns.map AV.int) := by
  induction r with
  | nil => exact .nil
  | cons i t r ih => exact .cons (.int i t) ih
end
/-- the call may do this to a state -/
structure Ext (W : Heap → Prop) (xc : Addr → Prop) (s s' : Shared) : Prop where
  same : ∃ h tk, s' = { s with heap := h, toks := tk }
  keep : ∀ b o, ¬ xc b → s.heap.get? b = some o → s'.heap.get? b = some o
  wd : W s.heap → W s'.heap
section
variable {W : Heap → Prop} {wd : Addr → Prop} {mg mb : Str → Option Value} {xc : Addr → Prop}
theorem Ext.refl (s : Shared) : Ext W xc s s := ⟨⟨s.heap, s.toks, rfl⟩, fun _ _ _ e => e, fun x => x⟩
theorem Ext.trans {s s' s'' : Shared} (a : Ext W xc s s') (b : Ext W xc s' s'') : Ext W xc s s'' := by
  refine ⟨?_, fun x o nx e => b.keep x o nx (a.keep x o nx e), fun x => b.wd (a.wd x)⟩
  obtain ⟨h, tk, rfl⟩ := a.same
  obtain ⟨h', tk', rfl⟩ := b.same
  exact ⟨h', tk', rfl⟩
theorem Ext.weaken {xc' : Addr → Prop} {s s' : Shared} (h : ∀ b, xc b → xc' b) (a : Ext W xc s s') : Ext W xc' s s' := ⟨a.same, fun b o n e => a.keep b o (fun q => n (h b q)) e, a.wd⟩
theorem Ext.tok (s : Shared) (t : Nat) : Ext W xc s { s with toks := t } := ⟨⟨s.heap, t, rfl⟩, fun _ _ _ e => e, fun x => x⟩
theorem Ext.of_keeps (hW : WOk W wd xc mg mb) {s : Shared} {h : Heap} {tk : Nat} (k : ∀ b o, s.heap.get? b = some o → h.get? b = some o) : Ext W xc s { s with heap := h, toks := tk } :=
  ⟨⟨_, _, rfl⟩, fun _ _ _ e => k _ _ e, fun x => hW.stable _ _ x fun _ _ _ e => k _ _ e⟩
theorem Ext.push (hW : WOk W wd xc mg mb) (s : Shared) (o : Obj) : Ext W xc s { s with heap := s.heap.push o } := Ext.of_keeps hW fun _ _ e => Heap.get?_push_of_some _ e
variable {P : Program} {w : World} {CC : Addr}
theorem Rep.ext {X : Addr → Prop} {s s' : Shared} {v : Value} {d : AV} (hx : ∀ b, xc b → X b) (e : Ext W xc s s') (r : Rep P w CC X s.heap v d) : Rep P w CC X s'.heap v d :=
  r.mono (fun b o nx q => e.keep b o (fun y => nx (hx b y)) q) fun _ _ q _ => q
theorem Reps.ext {X : Addr → Prop} {s s' : Shared} {vs : List Value} {ds : List AV} (hx : ∀ b, xc b → X b) (e : Ext W xc s s') (r : Reps P w CC X s.heap vs ds) : Reps P w CC X s'.heap vs ds :=
  r.mono (fun b o nx q => e.keep b o (fun y => nx (hx b y)) q) fun _ _ q _ => q
end
/-- room for n more frames -/
structure Room (A : Around) (n : Nat) : Prop where
  hd : A.handled = none
  dp : A.depth + n + 2 < recursionLimit
  un : A.units + 8 * n + 200 < cLine
  gd : A.guards = some []
theorem Room.le {A : Around} {n m : Nat} (r : Room A n) (h : m ≤ n) : Room A m := ⟨r.hd, by have := r.dp; omega, by have := r.un; omega, r.gd⟩
theorem Room.deeper {A : Around} {n : Nat} (r : Room A (n + 1)) (env : Env) : Room (A.deeper env) n := ⟨r.hd, by have := r.dp; show A.depth + 1 + n + 2 < _; omega, by have := r.un; show A.units + 3 + 8 * n + 200 < _; omega, r.gd⟩
/-- a name of the frame's holds v -/
noncomputable def Ld (env : Env) (h : Heap) (x : Str) (v : Value) : Prop :=
  (env.kindOf x = some .local ∧ ∃ m, h.Ns env.locals m ∧ m x = some v) ∨
  ((env.kindOf x = some .cell ∨ env.kindOf x = some .free) ∧ ∃ c, env.cells.lookup x = some c ∧ h.IsCell c (some v))
noncomputable def okN (x : Str) : Bool := !(x == ("__debug__" : Str)) && !(x == ("__classdict__" : Str))
theorem okN_d {x : Str} (ok : okN x = true) : (x == ("__debug__" : Str)) = false := by
  unfold okN at ok
  revert ok
  cases (x == ("__debug__" : Str)) with
  | false => exact fun _ => rfl
  | true => exact fun h => nomatch h
theorem okN_c {x : Str} (ok : okN x = true) : (x == ("__classdict__" : Str)) = false := by
  have := (Bool.and_eq_true_iff.mp ok).2
  revert this
  cases (x == ("__classdict__" : Str)) with
  | false => exact fun _ => rfl
  | true => exact fun h => nomatch h
section
variable {M : Model} {A : Around} {E : Value → Shared → Prop} {s : Shared} {env : Env} {x : Str} {pos : Pos} {v : Value} {Q : Value → Shared → Prop}
theorem load_Ld (hk : env.scope.kind = .function) (l : Ld env s.heap x v) (ok : okN x = true) (h : Q v s) : wpAny M A (loadName env x) Q E s := by
  refine l.elim (fun ⟨hl, m, hn, hv⟩ => wpAny_loadName_local hk hl hn hv h) fun ⟨hl, c, hc, hv⟩ => hl.elim (fun hl => wpAny_loadName_cell hk hl hc hv h) fun hl => wpAny_loadName_free hk hl hc hv h (okN_c ok)
theorem name_Ld (hk : env.scope.kind = .function) (l : Ld env s.heap x v) (ok : okN x = true) (h : Q v s) : wpAny M A (eval (.Name x pos) env) Q E s := wpAny_Name (load_Ld hk l ok h) (okN_d ok)
end
theorem Ld.keep {env : Env} {h h' : Heap} {x : Str} {v : Value} (k : ∀ b o, h.get? b = some o → h'.get? b = some o) (l : Ld env h x v) : Ld env h' x v := by
  rcases l with ⟨hl, m, hn, hv⟩ | ⟨hl, c, hc, hv⟩
  · exact .inl ⟨hl, m, hn.keeps k, hv⟩
  · exact .inr ⟨hl, c, hc, hv.keeps k⟩
end NC
end Mine
namespace Mine
noncomputable section NC
theorem fT : false ≠ true := fun h => Bool.noConfusion h
theorem oN {α : Type} {a : α} : none ≠ some a := nofun
/-- what holds of a view that is there -/
theorem kv {V E β : Type} {v : Option V} {z r : β} {g : V → β} {e : E} {mk : V → E} {M : E → Prop} (he : v.elim True fun q => e = mk q) (hz : z ≠ r) (h : v.elim z g = r) (k : ∀ q, g q = r → M (mk q)) : M e := by
  cases v with
  | none => exact absurd h hz
  | some q => exact Eq.mpr (congrArg M he) (k q h)
@[elab_as_elim] theorem ko_k {V β : Type} {z r : β} {o : Option V} {g : V → β} {M : Option V → Prop} (hz : z ≠ r) (h : o.elim z g = r) (k : ∀ q, g q = r → M (some q)) : M o := @Option.casesOn V (fun o => o.elim z g = r → M o) o (fun h => absurd h hz) (fun q h => k q h) h
noncomputable def kc {α β : Type} (z : β) (l : List α) (f : α → List α → β) : β := @List.casesOn α (fun _ => β) l z f
@[elab_as_elim] theorem kc_k {α β : Type} {z r : β} {l : List α} {f : α → List α → β} {M : List α → Prop} (hz : z ≠ r) (h : kc z l f = r) (k : ∀ a t, f a t = r → M (a :: t)) : M l := @List.casesOn α (fun l => kc z l f = r → M l) l (fun h => absurd h hz) k h
noncomputable def k1 {α β : Type} (z : β) (l : List α) (f : α → β) : β := kc z l fun a t => @List.casesOn α (fun _ => β) t (f a) fun _ _ => z
@[elab_as_elim] theorem k1_k {α β : Type} {z r : β} {l : List α} {f : α → β} {M : List α → Prop} (hz : z ≠ r) (h : k1 z l f = r) (k : ∀ a, f a = r → M [a]) : M l :=
  kc_k hz h fun a t => @List.casesOn α (fun t => @List.casesOn α (fun _ => β) t (f a) (fun _ _ => z) = r → M (a :: t)) t (k a) fun _ _ h => absurd h hz
noncomputable def k2 {α β : Type} (z : β) (l : List α) (f : α → α → β) : β := kc z l fun a t => k1 z t (f a)
@[elab_as_elim] theorem k2_k {α β : Type} {z r : β} {l : List α} {f : α → α → β} {M : List α → Prop} (hz : z ≠ r) (h : k2 z l f = r) (k : ∀ a b, f a b = r → M [a, b]) : M l :=
  kc_k (M := M) hz h fun a t h => k1_k (M := fun t => M (a :: t)) hz h (k a)
@[elab_as_elim] theorem emp_k {α : Type} {l : List α} {M : List α → Prop} (h : l.isEmpty = true) (k : M []) : M l := @List.casesOn α (fun l => l.isEmpty = true → M l) l (fun _ => k) (fun _ _ h => absurd h fT) h
@[elab_as_elim] theorem deq_k {α : Type} {a b : α} {i : Decidable (a = b)} {M : α → Prop} (h : @decide (a = b) i = true) (k : M a) : M b := of_decide_eq_true h ▸ k
@[elab_as_elim] theorem beq_k {α : Type} {i : BEq α} [LawfulBEq α] {a b : α} {M : α → Prop} (h : @BEq.beq α i a b = true) (k : M b) : M a := Eq.mpr (congrArg M (eq_of_beq h)) k
theorem and_t {a b : Bool} (h : (a && b) = true) : a = true ∧ b = true := Bool.and_eq_true_iff.mp h
/-- the goal, out of sight -/
theorem hide {G : Prop} (h : ∀ X : Prop, (G → X) → X) : G := h G id
noncomputable def v1 {α : Type} (l : List α) : Option α := k1 none l some
noncomputable def vc {α : Type} (l : List α) : Option (α × List α) := kc none l fun a r => some (a, r)
noncomputable def v2 {α : Type} (l : List α) : Option (α × α) := k2 none l fun a b => some (a, b)
noncomputable def vName (e : Expr) : Option (Str × Pos) := @Expr.casesOn (fun _ => Option (Str × Pos)) e (fun _ _ _ => none) (fun _ _ _ => none) (fun _ _ _ _ => none) (fun _ _ _ => none) (fun _ _ _ _ => none) (fun _ _ _ _ => none) (fun _ _ _ => none) (fun _ _ _ => none) (fun _ _ _ _ => none) (fun _ _ _ _ => none) (fun _ _ _ _ _ => none) (fun _ _ _ _ => none) (fun _ _ => none) (fun _ _ => none) (fun _ _ => none) (fun _ _ _ _ => none) (fun _ _ _ _ => none) (fun _ _ _ _ => none) (fun _ _ => none) (fun _ _ _ => none) (fun _ _ _ => none) (fun _ _ _ => none) (fun _ _ => none) (fun a0 a1 => some (a0, a1)) (fun _ _ => none) (fun _ _ _ => none) (fun _ _ _ _ => none)
theorem vName_e (e : Expr) : (vName e).elim True fun q => e = .Name q.1 q.2 := @Expr.casesOn (fun e => (vName e).elim True fun q => e = .Name q.1 q.2) e (fun _ _ _ => trivial) (fun _ _ _ => trivial) (fun _ _ _ _ => trivial) (fun _ _ _ => trivial) (fun _ _ _ _ => trivial) (fun _ _ _ _ => trivial) (fun _ _ _ => trivial) (fun _ _ _ => trivial) (fun _ _ _ _ => trivial) (fun _ _ _ _ => trivial) (fun _ _ _ _ _ => trivial) (fun _ _ _ _ => trivial) (fun _ _ => trivial) (fun _ _ => trivial) (fun _ _ => trivial) (fun _ _ _ _ => trivial) (fun _ _ _ _ => trivial) (fun _ _ _ _ => trivial) (fun _ _ => trivial) (fun _ _ _ => trivial) (fun _ _ _ => trivial) (fun _ _ _ => trivial) (fun _ _ => trivial) (fun a0 a1 => rfl) (fun _ _ => trivial) (fun _ _ _ => trivial) (fun _ _ _ _ => trivial)
@[irreducible] noncomputable def kName {β : Type} (z : β) (e : Expr) (f : Str → Pos → β) : β := (vName e).elim z fun q => f q.1 q.2
@[elab_as_elim] theorem kName_k {β : Type} {z r : β} {e : Expr} {f : Str → Pos → β} {M : Expr → Prop} (hz : z ≠ r) (h : kName z e f = r) (k : ∀ a0 a1, f a0 a1 = r → M (.Name a0 a1)) : M e := by with_unfolding_all exact kv (vName_e e) hz h fun q => k q.1 q.2
noncomputable def vConstant (e : Expr) : Option (Const × Nat × Pos) := @Expr.casesOn (fun _ => Option (Const × Nat × Pos)) e (fun _ _ _ => none) (fun _ _ _ => none) (fun _ _ _ _ => none) (fun _ _ _ => none) (fun _ _ _ _ => none) (fun _ _ _ _ => none) (fun _ _ _ => none) (fun _ _ _ => none) (fun _ _ _ _ => none) (fun _ _ _ _ => none) (fun _ _ _ _ _ => none) (fun _ _ _ _ => none) (fun _ _ => none) (fun _ _ => none) (fun _ _ => none) (fun _ _ _ _ => none) (fun _ _ _ _ => none) (fun _ _ _ _ => none) (fun _ _ => none) (fun a0 a1 a2 => some (a0, a1, a2)) (fun _ _ _ => none) (fun _ _ _ => none) (fun _ _ => none) (fun _ _ => none) (fun _ _ => none) (fun _ _ _ => none) (fun _ _ _ _ => none)
theorem vConstant_e (e : Expr) : (vConstant e).elim True fun q => e = .Constant q.1 q.2.1 q.2.2 := @Expr.casesOn (fun e => (vConstant e).elim True fun q => e = .Constant q.1 q.2.1 q.2.2) e (fun _ _ _ => trivial) (fun _ _ _ => trivial) (fun _ _ _ _ => trivial) (fun _ _ _ => trivial) (fun _ _ _ _ => trivial) (fun _ _ _ _ => trivial) (fun _ _ _ => trivial) (fun _ _ _ => trivial) (fun _ _ _ _ => trivial) (fun _ _ _ _ => trivial) (fun _ _ _ _ _ => trivial) (fun _ _ _ _ => trivial) (fun _ _ => trivial) (fun _ _ => trivial) (fun _ _ => trivial) (fun _ _ _ _ => trivial) (fun _ _ _ _ => trivial) (fun _ _ _ _ => trivial) (fun _ _ => trivial) (fun a0 a1 a2 => rfl) (fun _ _ _ => trivial) (fun _ _ _ => trivial) (fun _ _ => trivial) (fun _ _ => trivial) (fun _ _ => trivial) (fun _ _ _ => trivial) (fun _ _ _ _ => trivial)
@[irreducible] noncomputable def kConstant {β : Type} (z : β) (e : Expr) (f : Const → Nat → Pos → β) : β := (vConstant e).elim z fun q => f q.1 q.2.1 q.2.2
@[elab_as_elim] theorem kConstant_k {β : Type} {z r : β} {e : Expr} {f : Const → Nat → Pos → β} {M : Expr → Prop} (hz : z ≠ r) (h : kConstant z e f = r) (k : ∀ a0 a1 a2, f a0 a1 a2 = r → M (.Constant a0 a1 a2)) : M e := by with_unfolding_all exact kv (vConstant_e e) hz h fun q => k q.1 q.2.1 q.2.2
noncomputable def vBinOp (e : Expr) : Option (Expr × Operator × Expr × Pos) := @Expr.casesOn (fun _ => Option (Expr × Operator × Expr × Pos)) e (fun _ _ _ => none) (fun _ _ _ => none) (fun a0 a1 a2 a3 => some (a0, a1, a2, a3)) (fun _ _ _ => none) (fun _ _ _ _ => none) (fun _ _ _ _ => none) (fun _ _ _ => none) (fun _ _ _ => none) (fun _ _ _ _ => none) (fun _ _ _ _ => none) (fun _ _ _ _ _ => none) (fun _ _ _ _ => none) (fun _ _ => none) (fun _ _ => none) (fun _ _ => none) (fun _ _ _ _ => none) (fun _ _ _ _ => none) (fun _ _ _ _ => none) (fun _ _ => none) (fun _ _ _ => none) (fun _ _ _ => none) (fun _ _ _ => none) (fun _ _ => none) (fun _ _ => none) (fun _ _ => none) (fun _ _ _ => none) (fun _ _ _ _ => none)
theorem vBinOp_e (e : Expr) : (vBinOp e).elim True fun q => e = .BinOp q.1 q.2.1 q.2.2.1 q.2.2.2 := @Expr.casesOn (fun e => (vBinOp e).elim True fun q => e = .BinOp q.1 q.2.1 q.2.2.1 q.2.2.2) e (fun _ _ _ => trivial) (fun _ _ _ => trivial) (fun a0 a1 a2 a3 => rfl) (fun _ _ _ => trivial) (fun _ _ _ _ => trivial) (fun _ _ _ _ => trivial) (fun _ _ _ => trivial) (fun _ _ _ => trivial) (fun _ _ _ _ => trivial) (fun _ _ _ _ => trivial) (fun _ _ _ _ _ => trivial) (fun _ _ _ _ => trivial) (fun _ _ => trivial) (fun _ _ => trivial) (fun _ _ => trivial) (fun _ _ _ _ => trivial) (fun _ _ _ _ => trivial) (fun _ _ _ _ => trivial) (fun _ _ => trivial) (fun _ _ _ => trivial) (fun _ _ _ => trivial) (fun _ _ _ => trivial) (fun _ _ => trivial) (fun _ _ => trivial) (fun _ _ => trivial) (fun _ _ _ => trivial) (fun _ _ _ _ => trivial)
@[irreducible] noncomputable def kBinOp {β : Type} (z : β) (e : Expr) (f : Expr → Operator → Expr → Pos → β) : β := (vBinOp e).elim z fun q => f q.1 q.2.1 q.2.2.1 q.2.2.2
@[elab_as_elim] theorem kBinOp_k {β : Type} {z r : β} {e : Expr} {f : Expr → Operator → Expr → Pos → β} {M : Expr → Prop} (hz : z ≠ r) (h : kBinOp z e f = r) (k : ∀ a0 a1 a2 a3, f a0 a1 a2 a3 = r → M (.BinOp a0 a1 a2 a3)) : M e := by with_unfolding_all exact kv (vBinOp_e e) hz h fun q => k q.1 q.2.1 q.2.2.1 q.2.2.2
noncomputable def vUnaryOp (e : Expr) : Option (UnaryOp × Expr × Pos) := @Expr.casesOn (fun _ => Option (UnaryOp × Expr × Pos)) e (fun _ _ _ => none) (fun _ _ _ => none) (fun _ _ _ _ => none) (fun a0 a1 a2 => some (a0, a1, a2)) (fun _ _ _ _ => none) (fun _ _ _ _ => none) (fun _ _ _ => none) (fun _ _ _ => none) (fun _ _ _ _ => none) (fun _ _ _ _ => none) (fun _ _ _ _ _ => none) (fun _ _ _ _ => none) (fun _ _ => none) (fun _ _ => none) (fun _ _ => none) (fun _ _ _ _ => none) (fun _ _ _ _ => none) (fun _ _ _ _ => none) (fun _ _ => none) (fun _ _ _ => none) (fun _ _ _ => none) (fun _ _ _ => none) (fun _ _ => none) (fun _ _ => none) (fun _ _ => none) (fun _ _ _ => none) (fun _ _ _ _ => none)
theorem vUnaryOp_e (e : Expr) : (vUnaryOp e).elim True fun q => e = .UnaryOp q.1 q.2.1 q.2.2 := @Expr.casesOn (fun e => (vUnaryOp e).elim True fun q => e = .UnaryOp q.1 q.2.1 q.2.2) e (fun _ _ _ => trivial) (fun _ _ _ => trivial) (fun _ _ _ _ => trivial) (fun a0 a1 a2 => rfl) (fun _ _ _ _ => trivial) (fun _ _ _ _ => trivial) (fun _ _ _ => trivial) (fun _ _ _ => trivial) (fun _ _ _ _ => trivial) (fun _ _ _ _ => trivial) (fun _ _ _ _ _ => trivial) (fun _ _ _ _ => trivial) (fun _ _ => trivial) (fun _ _ => trivial) (fun _ _ => trivial) (fun _ _ _ _ => trivial) (fun _ _ _ _ => trivial) (fun _ _ _ _ => trivial) (fun _ _ => trivial) (fun _ _ _ => trivial) (fun _ _ _ => trivial) (fun _ _ _ => trivial) (fun _ _ => trivial) (fun _ _ => trivial) (fun _ _ => trivial) (fun _ _ _ => trivial) (fun _ _ _ _ => trivial)
@[irreducible] noncomputable def kUnaryOp {β : Type} (z : β) (e : Expr) (f : UnaryOp → Expr → Pos → β) : β := (vUnaryOp e).elim z fun q => f q.1 q.2.1 q.2.2
@[elab_as_elim] theorem kUnaryOp_k {β : Type} {z r : β} {e : Expr} {f : UnaryOp → Expr → Pos → β} {M : Expr → Prop} (hz : z ≠ r) (h : kUnaryOp z e f = r) (k : ∀ a0 a1 a2, f a0 a1 a2 = r → M (.UnaryOp a0 a1 a2)) : M e := by with_unfolding_all exact kv (vUnaryOp_e e) hz h fun q => k q.1 q.2.1 q.2.2
noncomputable def vCompare (e : Expr) : Option (Expr × (List CmpOp) × (List Expr) × Pos) := @Expr.casesOn (fun _ => Option (Expr × (List CmpOp) × (List Expr) × Pos)) e (fun _ _ _ => none) (fun _ _ _ => none) (fun _ _ _ _ => none) (fun _ _ _ => none) (fun _ _ _ _ => none) (fun _ _ _ _ => none) (fun _ _ _ => none) (fun _ _ _ => none) (fun _ _ _ _ => none) (fun _ _ _ _ => none) (fun _ _ _ _ _ => none) (fun _ _ _ _ => none) (fun _ _ => none) (fun _ _ => none) (fun _ _ => none) (fun a0 a1 a2 a3 => some (a0, a1, a2, a3)) (fun _ _ _ _ => none) (fun _ _ _ _ => none) (fun _ _ => none) (fun _ _ _ => none) (fun _ _ _ => none) (fun _ _ _ => none) (fun _ _ => none) (fun _ _ => none) (fun _ _ => none) (fun _ _ _ => none) (fun _ _ _ _ => none)
theorem vCompare_e (e : Expr) : (vCompare e).elim True fun q => e = .Compare q.1 q.2.1 q.2.2.1 q.2.2.2 := @Expr.casesOn (fun e => (vCompare e).elim True fun q => e = .Compare q.1 q.2.1 q.2.2.1 q.2.2.2) e (fun _ _ _ => trivial) (fun _ _ _ => trivial) (fun _ _ _ _ => trivial) (fun _ _ _ => trivial) (fun _ _ _ _ => trivial) (fun _ _ _ _ => trivial) (fun _ _ _ => trivial) (fun _ _ _ => trivial) (fun _ _ _ _ => trivial) (fun _ _ _ _ => trivial) (fun _ _ _ _ _ => trivial) (fun _ _ _ _ => trivial) (fun _ _ => trivial) (fun _ _ => trivial) (fun _ _ => trivial) (fun a0 a1 a2 a3 => rfl) (fun _ _ _ _ => trivial) (fun _ _ _ _ => trivial) (fun _ _ => trivial) (fun _ _ _ => trivial) (fun _ _ _ => trivial) (fun _ _ _ => trivial) (fun _ _ => trivial) (fun _ _ => trivial) (fun _ _ => trivial) (fun _ _ _ => trivial) (fun _ _ _ _ => trivial)
@[irreducible] noncomputable def kCompare {β : Type} (z : β) (e : Expr) (f : Expr → (List CmpOp) → (List Expr) → Pos → β) : β := (vCompare e).elim z fun q => f q.1 q.2.1 q.2.2.1 q.2.2.2
@[elab_as_elim] theorem kCompare_k {β : Type} {z r : β} {e : Expr} {f : Expr → (List CmpOp) → (List Expr) → Pos → β} {M : Expr → Prop} (hz : z ≠ r) (h : kCompare z e f = r) (k : ∀ a0 a1 a2 a3, f a0 a1 a2 a3 = r → M (.Compare a0 a1 a2 a3)) : M e := by with_unfolding_all exact kv (vCompare_e e) hz h fun q => k q.1 q.2.1 q.2.2.1 q.2.2.2
noncomputable def vBoolOp (e : Expr) : Option (BoolOp × (List Expr) × Pos) := @Expr.casesOn (fun _ => Option (BoolOp × (List Expr) × Pos)) e (fun a0 a1 a2 => some (a0, a1, a2)) (fun _ _ _ => none) (fun _ _ _ _ => none) (fun _ _ _ => none) (fun _ _ _ _ => none) (fun _ _ _ _ => none) (fun _ _ _ => none) (fun _ _ _ => none) (fun _ _ _ _ => none) (fun _ _ _ _ => none) (fun _ _ _ _ _ => none) (fun _ _ _ _ => none) (fun _ _ => none) (fun _ _ => none) (fun _ _ => none) (fun _ _ _ _ => none) (fun _ _ _ _ => none) (fun _ _ _ _ => none) (fun _ _ => none) (fun _ _ _ => none) (fun _ _ _ => none) (fun _ _ _ => none) (fun _ _ => none) (fun _ _ => none) (fun _ _ => none) (fun _ _ _ => none) (fun _ _ _ _ => none)
theorem vBoolOp_e (e : Expr) : (vBoolOp e).elim True fun q => e = .BoolOp q.1 q.2.1 q.2.2 := @Expr.casesOn (fun e => (vBoolOp e).elim True fun q => e = .BoolOp q.1 q.2.1 q.2.2) e (fun a0 a1 a2 => rfl) (fun _ _ _ => trivial) (fun _ _ _ _ => trivial) (fun _ _ _ => trivial) (fun _ _ _ _ => trivial) (fun _ _ _ _ => trivial) (fun _ _ _ => trivial) (fun _ _ _ => trivial) (fun _ _ _ _ => trivial) (fun _ _ _ _ => trivial) (fun _ _ _ _ _ => trivial) (fun _ _ _ _ => trivial) (fun _ _ => trivial) (fun _ _ => trivial) (fun _ _ => trivial) (fun _ _ _ _ => trivial) (fun _ _ _ _ => trivial) (fun _ _ _ _ => trivial) (fun _ _ => trivial) (fun _ _ _ => trivial) (fun _ _ _ => trivial) (fun _ _ _ => trivial) (fun _ _ => trivial) (fun _ _ => trivial) (fun _ _ => trivial) (fun _ _ _ => trivial) (fun _ _ _ _ => trivial)
@[irreducible] noncomputable def kBoolOp {β : Type} (z : β) (e : Expr) (f : BoolOp → (List Expr) → Pos → β) : β := (vBoolOp e).elim z fun q => f q.1 q.2.1 q.2.2
@[elab_as_elim] theorem kBoolOp_k {β : Type} {z r : β} {e : Expr} {f : BoolOp → (List Expr) → Pos → β} {M : Expr → Prop} (hz : z ≠ r) (h : kBoolOp z e f = r) (k : ∀ a0 a1 a2, f a0 a1 a2 = r → M (.BoolOp a0 a1 a2)) : M e := by with_unfolding_all exact kv (vBoolOp_e e) hz h fun q => k q.1 q.2.1 q.2.2
noncomputable def vIfExp (e : Expr) : Option (Expr × Expr × Expr × Pos) := @Expr.casesOn (fun _ => Option (Expr × Expr × Expr × Pos)) e (fun _ _ _ => none) (fun _ _ _ => none) (fun _ _ _ _ => none) (fun _ _ _ => none) (fun _ _ _ _ => none) (fun a0 a1 a2 a3 => some (a0, a1, a2, a3)) (fun _ _ _ => none) (fun _ _ _ => none) (fun _ _ _ _ => none) (fun _ _ _ _ => none) (fun _ _ _ _ _ => none) (fun _ _ _ _ => none) (fun _ _ => none) (fun _ _ => none) (fun _ _ => none) (fun _ _ _ _ => none) (fun _ _ _ _ => none) (fun _ _ _ _ => none) (fun _ _ => none) (fun _ _ _ => none) (fun _ _ _ => none) (fun _ _ _ => none) (fun _ _ => none) (fun _ _ => none) (fun _ _ => none) (fun _ _ _ => none) (fun _ _ _ _ => none)
theorem vIfExp_e (e : Expr) : (vIfExp e).elim True fun q => e = .IfExp q.1 q.2.1 q.2.2.1 q.2.2.2 := @Expr.casesOn (fun e => (vIfExp e).elim True fun q => e = .IfExp q.1 q.2.1 q.2.2.1 q.2.2.2) e (fun _ _ _ => trivial) (fun _ _ _ => trivial) (fun _ _ _ _ => trivial) (fun _ _ _ => trivial) (fun _ _ _ _ => trivial) (fun a0 a1 a2 a3 => rfl) (fun _ _ _ => trivial) (fun _ _ _ => trivial) (fun _ _ _ _ => trivial) (fun _ _ _ _ => trivial) (fun _ _ _ _ _ => trivial) (fun _ _ _ _ => trivial) (fun _ _ => trivial) (fun _ _ => trivial) (fun _ _ => trivial) (fun _ _ _ _ => trivial) (fun _ _ _ _ => trivial) (fun _ _ _ _ => trivial) (fun _ _ => trivial) (fun _ _ _ => trivial) (fun _ _ _ => trivial) (fun _ _ _ => trivial) (fun _ _ => trivial) (fun _ _ => trivial) (fun _ _ => trivial) (fun _ _ _ => trivial) (fun _ _ _ _ => trivial)
@[irreducible] noncomputable def kIfExp {β : Type} (z : β) (e : Expr) (f : Expr → Expr → Expr → Pos → β) : β := (vIfExp e).elim z fun q => f q.1 q.2.1 q.2.2.1 q.2.2.2
@[elab_as_elim] theorem kIfExp_k {β : Type} {z r : β} {e : Expr} {f : Expr → Expr → Expr → Pos → β} {M : Expr → Prop} (hz : z ≠ r) (h : kIfExp z e f = r) (k : ∀ a0 a1 a2 a3, f a0 a1 a2 a3 = r → M (.IfExp a0 a1 a2 a3)) : M e := by with_unfolding_all exact kv (vIfExp_e e) hz h fun q => k q.1 q.2.1 q.2.2.1 q.2.2.2
noncomputable def vTuple (e : Expr) : Option ((List Expr) × Nat × Pos) := @Expr.casesOn (fun _ => Option ((List Expr) × Nat × Pos)) e (fun _ _ _ => none) (fun _ _ _ => none) (fun _ _ _ _ => none) (fun _ _ _ => none) (fun _ _ _ _ => none) (fun _ _ _ _ => none) (fun _ _ _ => none) (fun _ _ _ => none) (fun _ _ _ _ => none) (fun _ _ _ _ => none) (fun _ _ _ _ _ => none) (fun _ _ _ _ => none) (fun _ _ => none) (fun _ _ => none) (fun _ _ => none) (fun _ _ _ _ => none) (fun _ _ _ _ => none) (fun _ _ _ _ => none) (fun _ _ => none) (fun _ _ _ => none) (fun _ _ _ => none) (fun _ _ _ => none) (fun _ _ => none) (fun _ _ => none) (fun _ _ => none) (fun a0 a1 a2 => some (a0, a1, a2)) (fun _ _ _ _ => none)
theorem vTuple_e (e : Expr) : (vTuple e).elim True fun q => e = .Tuple q.1 q.2.1 q.2.2 := @Expr.casesOn (fun e => (vTuple e).elim True fun q => e = .Tuple q.1 q.2.1 q.2.2) e (fun _ _ _ => trivial) (fun _ _ _ => trivial) (fun _ _ _ _ => trivial) (fun _ _ _ => trivial) (fun _ _ _ _ => trivial) (fun _ _ _ _ => trivial) (fun _ _ _ => trivial) (fun _ _ _ => trivial) (fun _ _ _ _ => trivial) (fun _ _ _ _ => trivial) (fun _ _ _ _ _ => trivial) (fun _ _ _ _ => trivial) (fun _ _ => trivial) (fun _ _ => trivial) (fun _ _ => trivial) (fun _ _ _ _ => trivial) (fun _ _ _ _ => trivial) (fun _ _ _ _ => trivial) (fun _ _ => trivial) (fun _ _ _ => trivial) (fun _ _ _ => trivial) (fun _ _ _ => trivial) (fun _ _ => trivial) (fun _ _ => trivial) (fun _ _ => trivial) (fun a0 a1 a2 => rfl) (fun _ _ _ _ => trivial)
@[irreducible] noncomputable def kTuple {β : Type} (z : β) (e : Expr) (f : (List Expr) → Nat → Pos → β) : β := (vTuple e).elim z fun q => f q.1 q.2.1 q.2.2
@[elab_as_elim] theorem kTuple_k {β : Type} {z r : β} {e : Expr} {f : (List Expr) → Nat → Pos → β} {M : Expr → Prop} (hz : z ≠ r) (h : kTuple z e f = r) (k : ∀ a0 a1 a2, f a0 a1 a2 = r → M (.Tuple a0 a1 a2)) : M e := by with_unfolding_all exact kv (vTuple_e e) hz h fun q => k q.1 q.2.1 q.2.2
noncomputable def vList (e : Expr) : Option ((List Expr) × Pos) := @Expr.casesOn (fun _ => Option ((List Expr) × Pos)) e (fun _ _ _ => none) (fun _ _ _ => none) (fun _ _ _ _ => none) (fun _ _ _ => none) (fun _ _ _ _ => none) (fun _ _ _ _ => none) (fun _ _ _ => none) (fun _ _ _ => none) (fun _ _ _ _ => none) (fun _ _ _ _ => none) (fun _ _ _ _ _ => none) (fun _ _ _ _ => none) (fun _ _ => none) (fun _ _ => none) (fun _ _ => none) (fun _ _ _ _ => none) (fun _ _ _ _ => none) (fun _ _ _ _ => none) (fun _ _ => none) (fun _ _ _ => none) (fun _ _ _ => none) (fun _ _ _ => none) (fun _ _ => none) (fun _ _ => none) (fun a0 a1 => some (a0, a1)) (fun _ _ _ => none) (fun _ _ _ _ => none)
theorem vList_e (e : Expr) : (vList e).elim True fun q => e = .List q.1 q.2 := @Expr.casesOn (fun e => (vList e).elim True fun q => e = .List q.1 q.2) e (fun _ _ _ => trivial) (fun _ _ _ => trivial) (fun _ _ _ _ => trivial) (fun _ _ _ => trivial) (fun _ _ _ _ => trivial) (fun _ _ _ _ => trivial) (fun _ _ _ => trivial) (fun _ _ _ => trivial) (fun _ _ _ _ => trivial) (fun _ _ _ _ => trivial) (fun _ _ _ _ _ => trivial) (fun _ _ _ _ => trivial) (fun _ _ => trivial) (fun _ _ => trivial) (fun _ _ => trivial) (fun _ _ _ _ => trivial) (fun _ _ _ _ => trivial) (fun _ _ _ _ => trivial) (fun _ _ => trivial) (fun _ _ _ => trivial) (fun _ _ _ => trivial) (fun _ _ _ => trivial) (fun _ _ => trivial) (fun _ _ => trivial) (fun a0 a1 => rfl) (fun _ _ _ => trivial) (fun _ _ _ _ => trivial)
@[irreducible] noncomputable def kList {β : Type} (z : β) (e : Expr) (f : (List Expr) → Pos → β) : β := (vList e).elim z fun q => f q.1 q.2
@[elab_as_elim] theorem kList_k {β : Type} {z r : β} {e : Expr} {f : (List Expr) → Pos → β} {M : Expr → Prop} (hz : z ≠ r) (h : kList z e f = r) (k : ∀ a0 a1, f a0 a1 = r → M (.List a0 a1)) : M e := by with_unfolding_all exact kv (vList_e e) hz h fun q => k q.1 q.2
noncomputable def vSubscript (e : Expr) : Option (Expr × Expr × Pos) := @Expr.casesOn (fun _ => Option (Expr × Expr × Pos)) e (fun _ _ _ => none) (fun _ _ _ => none) (fun _ _ _ _ => none) (fun _ _ _ => none) (fun _ _ _ _ => none) (fun _ _ _ _ => none) (fun _ _ _ => none) (fun _ _ _ => none) (fun _ _ _ _ => none) (fun _ _ _ _ => none) (fun _ _ _ _ _ => none) (fun _ _ _ _ => none) (fun _ _ => none) (fun _ _ => none) (fun _ _ => none) (fun _ _ _ _ => none) (fun _ _ _ _ => none) (fun _ _ _ _ => none) (fun _ _ => none) (fun _ _ _ => none) (fun _ _ _ => none) (fun a0 a1 a2 => some (a0, a1, a2)) (fun _ _ => none) (fun _ _ => none) (fun _ _ => none) (fun _ _ _ => none) (fun _ _ _ _ => none)
theorem vSubscript_e (e : Expr) : (vSubscript e).elim True fun q => e = .Subscript q.1 q.2.1 q.2.2 := @Expr.casesOn (fun e => (vSubscript e).elim True fun q => e = .Subscript q.1 q.2.1 q.2.2) e (fun _ _ _ => trivial) (fun _ _ _ => trivial) (fun _ _ _ _ => trivial) (fun _ _ _ => trivial) (fun _ _ _ _ => trivial) (fun _ _ _ _ => trivial) (fun _ _ _ => trivial) (fun _ _ _ => trivial) (fun _ _ _ _ => trivial) (fun _ _ _ _ => trivial) (fun _ _ _ _ _ => trivial) (fun _ _ _ _ => trivial) (fun _ _ => trivial) (fun _ _ => trivial) (fun _ _ => trivial) (fun _ _ _ _ => trivial) (fun _ _ _ _ => trivial) (fun _ _ _ _ => trivial) (fun _ _ => trivial) (fun _ _ _ => trivial) (fun _ _ _ => trivial) (fun a0 a1 a2 => rfl) (fun _ _ => trivial) (fun _ _ => trivial) (fun _ _ => trivial) (fun _ _ _ => trivial) (fun _ _ _ _ => trivial)
@[irreducible] noncomputable def kSubscript {β : Type} (z : β) (e : Expr) (f : Expr → Expr → Pos → β) : β := (vSubscript e).elim z fun q => f q.1 q.2.1 q.2.2
@[elab_as_elim] theorem kSubscript_k {β : Type} {z r : β} {e : Expr} {f : Expr → Expr → Pos → β} {M : Expr → Prop} (hz : z ≠ r) (h : kSubscript z e f = r) (k : ∀ a0 a1 a2, f a0 a1 a2 = r → M (.Subscript a0 a1 a2)) : M e := by with_unfolding_all exact kv (vSubscript_e e) hz h fun q => k q.1 q.2.1 q.2.2
noncomputable def vCall (e : Expr) : Option (Expr × (List Expr) × (List Keyword) × Pos) := @Expr.casesOn (fun _ => Option (Expr × (List Expr) × (List Keyword) × Pos)) e (fun _ _ _ => none) (fun _ _ _ => none) (fun _ _ _ _ => none) (fun _ _ _ => none) (fun _ _ _ _ => none) (fun _ _ _ _ => none) (fun _ _ _ => none) (fun _ _ _ => none) (fun _ _ _ _ => none) (fun _ _ _ _ => none) (fun _ _ _ _ _ => none) (fun _ _ _ _ => none) (fun _ _ => none) (fun _ _ => none) (fun _ _ => none) (fun _ _ _ _ => none) (fun a0 a1 a2 a3 => some (a0, a1, a2, a3)) (fun _ _ _ _ => none) (fun _ _ => none) (fun _ _ _ => none) (fun _ _ _ => none) (fun _ _ _ => none) (fun _ _ => none) (fun _ _ => none) (fun _ _ => none) (fun _ _ _ => none) (fun _ _ _ _ => none)
theorem vCall_e (e : Expr) : (vCall e).elim True fun q => e = .Call q.1 q.2.1 q.2.2.1 q.2.2.2 := @Expr.casesOn (fun e => (vCall e).elim True fun q => e = .Call q.1 q.2.1 q.2.2.1 q.2.2.2) e (fun _ _ _ => trivial) (fun _ _ _ => trivial) (fun _ _ _ _ => trivial) (fun _ _ _ => trivial) (fun _ _ _ _ => trivial) (fun _ _ _ _ => trivial) (fun _ _ _ => trivial) (fun _ _ _ => trivial) (fun _ _ _ _ => trivial) (fun _ _ _ _ => trivial) (fun _ _ _ _ _ => trivial) (fun _ _ _ _ => trivial) (fun _ _ => trivial) (fun _ _ => trivial) (fun _ _ => trivial) (fun _ _ _ _ => trivial) (fun a0 a1 a2 a3 => rfl) (fun _ _ _ _ => trivial) (fun _ _ => trivial) (fun _ _ _ => trivial) (fun _ _ _ => trivial) (fun _ _ _ => trivial) (fun _ _ => trivial) (fun _ _ => trivial) (fun _ _ => trivial) (fun _ _ _ => trivial) (fun _ _ _ _ => trivial)
@[irreducible] noncomputable def kCall {β : Type} (z : β) (e : Expr) (f : Expr → (List Expr) → (List Keyword) → Pos → β) : β := (vCall e).elim z fun q => f q.1 q.2.1 q.2.2.1 q.2.2.2
@[elab_as_elim] theorem kCall_k {β : Type} {z r : β} {e : Expr} {f : Expr → (List Expr) → (List Keyword) → Pos → β} {M : Expr → Prop} (hz : z ≠ r) (h : kCall z e f = r) (k : ∀ a0 a1 a2 a3, f a0 a1 a2 a3 = r → M (.Call a0 a1 a2 a3)) : M e := by with_unfolding_all exact kv (vCall_e e) hz h fun q => k q.1 q.2.1 q.2.2.1 q.2.2.2
noncomputable def vAttribute (e : Expr) : Option (Expr × Str × Pos) := @Expr.casesOn (fun _ => Option (Expr × Str × Pos)) e (fun _ _ _ => none) (fun _ _ _ => none) (fun _ _ _ _ => none) (fun _ _ _ => none) (fun _ _ _ _ => none) (fun _ _ _ _ => none) (fun _ _ _ => none) (fun _ _ _ => none) (fun _ _ _ _ => none) (fun _ _ _ _ => none) (fun _ _ _ _ _ => none) (fun _ _ _ _ => none) (fun _ _ => none) (fun _ _ => none) (fun _ _ => none) (fun _ _ _ _ => none) (fun _ _ _ _ => none) (fun _ _ _ _ => none) (fun _ _ => none) (fun _ _ _ => none) (fun a0 a1 a2 => some (a0, a1, a2)) (fun _ _ _ => none) (fun _ _ => none) (fun _ _ => none) (fun _ _ => none) (fun _ _ _ => none) (fun _ _ _ _ => none)
theorem vAttribute_e (e : Expr) : (vAttribute e).elim True fun q => e = .Attribute q.1 q.2.1 q.2.2 := @Expr.casesOn (fun e => (vAttribute e).elim True fun q => e = .Attribute q.1 q.2.1 q.2.2) e (fun _ _ _ => trivial) (fun _ _ _ => trivial) (fun _ _ _ _ => trivial) (fun _ _ _ => trivial) (fun _ _ _ _ => trivial) (fun _ _ _ _ => trivial) (fun _ _ _ => trivial) (fun _ _ _ => trivial) (fun _ _ _ _ => trivial) (fun _ _ _ _ => trivial) (fun _ _ _ _ _ => trivial) (fun _ _ _ _ => trivial) (fun _ _ => trivial) (fun _ _ => trivial) (fun _ _ => trivial) (fun _ _ _ _ => trivial) (fun _ _ _ _ => trivial) (fun _ _ _ _ => trivial) (fun _ _ => trivial) (fun _ _ _ => trivial) (fun a0 a1 a2 => rfl) (fun _ _ _ => trivial) (fun _ _ => trivial) (fun _ _ => trivial) (fun _ _ => trivial) (fun _ _ _ => trivial) (fun _ _ _ _ => trivial)
@[irreducible] noncomputable def kAttribute {β : Type} (z : β) (e : Expr) (f : Expr → Str → Pos → β) : β := (vAttribute e).elim z fun q => f q.1 q.2.1 q.2.2
@[elab_as_elim] theorem kAttribute_k {β : Type} {z r : β} {e : Expr} {f : Expr → Str → Pos → β} {M : Expr → Prop} (hz : z ≠ r) (h : kAttribute z e f = r) (k : ∀ a0 a1 a2, f a0 a1 a2 = r → M (.Attribute a0 a1 a2)) : M e := by with_unfolding_all exact kv (vAttribute_e e) hz h fun q => k q.1 q.2.1 q.2.2
noncomputable def vSlice (e : Expr) : Option ((Option Expr) × (Option Expr) × (Option Expr) × Pos) := @Expr.casesOn (fun _ => Option ((Option Expr) × (Option Expr) × (Option Expr) × Pos)) e (fun _ _ _ => none) (fun _ _ _ => none) (fun _ _ _ _ => none) (fun _ _ _ => none) (fun _ _ _ _ => none) (fun _ _ _ _ => none) (fun _ _ _ => none) (fun _ _ _ => none) (fun _ _ _ _ => none) (fun _ _ _ _ => none) (fun _ _ _ _ _ => none) (fun _ _ _ _ => none) (fun _ _ => none) (fun _ _ => none) (fun _ _ => none) (fun _ _ _ _ => none) (fun _ _ _ _ => none) (fun _ _ _ _ => none) (fun _ _ => none) (fun _ _ _ => none) (fun _ _ _ => none) (fun _ _ _ => none) (fun _ _ => none) (fun _ _ => none) (fun _ _ => none) (fun _ _ _ => none) (fun a0 a1 a2 a3 => some (a0, a1, a2, a3))
theorem vSlice_e (e : Expr) : (vSlice e).elim True fun q => e = .Slice q.1 q.2.1 q.2.2.1 q.2.2.2 := @Expr.casesOn (fun e => (vSlice e).elim True fun q => e = .Slice q.1 q.2.1 q.2.2.1 q.2.2.2) e (fun _ _ _ => trivial) (fun _ _ _ => trivial) (fun _ _ _ _ => trivial) (fun _ _ _ => trivial) (fun _ _ _ _ => trivial) (fun _ _ _ _ => trivial) (fun _ _ _ => trivial) (fun _ _ _ => trivial) (fun _ _ _ _ => trivial) (fun _ _ _ _ => trivial) (fun _ _ _ _ _ => trivial) (fun _ _ _ _ => trivial) (fun _ _ => trivial) (fun _ _ => trivial) (fun _ _ => trivial) (fun _ _ _ _ => trivial) (fun _ _ _ _ => trivial) (fun _ _ _ _ => trivial) (fun _ _ => trivial) (fun _ _ _ => trivial) (fun _ _ _ => trivial) (fun _ _ _ => trivial) (fun _ _ => trivial) (fun _ _ => trivial) (fun _ _ => trivial) (fun _ _ _ => trivial) (fun a0 a1 a2 a3 => rfl)
@[irreducible] noncomputable def kSlice {β : Type} (z : β) (e : Expr) (f : (Option Expr) → (Option Expr) → (Option Expr) → Pos → β) : β := (vSlice e).elim z fun q => f q.1 q.2.1 q.2.2.1 q.2.2.2
@[elab_as_elim] theorem kSlice_k {β : Type} {z r : β} {e : Expr} {f : (Option Expr) → (Option Expr) → (Option Expr) → Pos → β} {M : Expr → Prop} (hz : z ≠ r) (h : kSlice z e f = r) (k : ∀ a0 a1 a2 a3, f a0 a1 a2 a3 = r → M (.Slice a0 a1 a2 a3)) : M e := by with_unfolding_all exact kv (vSlice_e e) hz h fun q => k q.1 q.2.1 q.2.2.1 q.2.2.2
noncomputable def vDict (e : Expr) : Option ((List (Option Expr)) × (List Expr) × Pos) := @Expr.casesOn (fun _ => Option ((List (Option Expr)) × (List Expr) × Pos)) e (fun _ _ _ => none) (fun _ _ _ => none) (fun _ _ _ _ => none) (fun _ _ _ => none) (fun _ _ _ _ => none) (fun _ _ _ _ => none) (fun a0 a1 a2 => some (a0, a1, a2)) (fun _ _ _ => none) (fun _ _ _ _ => none) (fun _ _ _ _ => none) (fun _ _ _ _ _ => none) (fun _ _ _ _ => none) (fun _ _ => none) (fun _ _ => none) (fun _ _ => none) (fun _ _ _ _ => none) (fun _ _ _ _ => none) (fun _ _ _ _ => none) (fun _ _ => none) (fun _ _ _ => none) (fun _ _ _ => none) (fun _ _ _ => none) (fun _ _ => none) (fun _ _ => none) (fun _ _ => none) (fun _ _ _ => none) (fun _ _ _ _ => none)
theorem vDict_e (e : Expr) : (vDict e).elim True fun q => e = .Dict q.1 q.2.1 q.2.2 := @Expr.casesOn (fun e => (vDict e).elim True fun q => e = .Dict q.1 q.2.1 q.2.2) e (fun _ _ _ => trivial) (fun _ _ _ => trivial) (fun _ _ _ _ => trivial) (fun _ _ _ => trivial) (fun _ _ _ _ => trivial) (fun _ _ _ _ => trivial) (fun a0 a1 a2 => rfl) (fun _ _ _ => trivial) (fun _ _ _ _ => trivial) (fun _ _ _ _ => trivial) (fun _ _ _ _ _ => trivial) (fun _ _ _ _ => trivial) (fun _ _ => trivial) (fun _ _ => trivial) (fun _ _ => trivial) (fun _ _ _ _ => trivial) (fun _ _ _ _ => trivial) (fun _ _ _ _ => trivial) (fun _ _ => trivial) (fun _ _ _ => trivial) (fun _ _ _ => trivial) (fun _ _ _ => trivial) (fun _ _ => trivial) (fun _ _ => trivial) (fun _ _ => trivial) (fun _ _ _ => trivial) (fun _ _ _ _ => trivial)
@[irreducible] noncomputable def kDict {β : Type} (z : β) (e : Expr) (f : (List (Option Expr)) → (List Expr) → Pos → β) : β := (vDict e).elim z fun q => f q.1 q.2.1 q.2.2
@[elab_as_elim] theorem kDict_k {β : Type} {z r : β} {e : Expr} {f : (List (Option Expr)) → (List Expr) → Pos → β} {M : Expr → Prop} (hz : z ≠ r) (h : kDict z e f = r) (k : ∀ a0 a1 a2, f a0 a1 a2 = r → M (.Dict a0 a1 a2)) : M e := by with_unfolding_all exact kv (vDict_e e) hz h fun q => k q.1 q.2.1 q.2.2
noncomputable def cbool (e : Const) : Option (Bool) := @Const.casesOn (fun _ => Option (Bool)) e none (fun a0 => some a0) (fun _ => none) (fun _ => none) (fun _ _ => none) (fun _ => none) (fun _ => none) none
theorem cbool_e (e : Const) : (cbool e).elim True fun q => e = .bool q := @Const.casesOn (fun e => (cbool e).elim True fun q => e = .bool q) e trivial (fun a0 => rfl) (fun _ => trivial) (fun _ => trivial) (fun _ _ => trivial) (fun _ => trivial) (fun _ => trivial) trivial
@[irreducible] noncomputable def kcbool {β : Type} (z : β) (e : Const) (f : Bool → β) : β := (cbool e).elim z fun q => f q
@[elab_as_elim] theorem kcbool_k {β : Type} {z r : β} {e : Const} {f : Bool → β} {M : Const → Prop} (hz : z ≠ r) (h : kcbool z e f = r) (k : ∀ a0, f a0 = r → M (.bool a0)) : M e := by with_unfolding_all exact kv (cbool_e e) hz h fun q => k q
noncomputable def cint (e : Const) : Option (Int) := @Const.casesOn (fun _ => Option (Int)) e none (fun _ => none) (fun a0 => some a0) (fun _ => none) (fun _ _ => none) (fun _ => none) (fun _ => none) none
theorem cint_e (e : Const) : (cint e).elim True fun q => e = .int q := @Const.casesOn (fun e => (cint e).elim True fun q => e = .int q) e trivial (fun _ => trivial) (fun a0 => rfl) (fun _ => trivial) (fun _ _ => trivial) (fun _ => trivial) (fun _ => trivial) trivial
@[irreducible] noncomputable def kcint {β : Type} (z : β) (e : Const) (f : Int → β) : β := (cint e).elim z fun q => f q
@[elab_as_elim] theorem kcint_k {β : Type} {z r : β} {e : Const} {f : Int → β} {M : Const → Prop} (hz : z ≠ r) (h : kcint z e f = r) (k : ∀ a0, f a0 = r → M (.int a0)) : M e := by with_unfolding_all exact kv (cint_e e) hz h fun q => k q
noncomputable def cstr (e : Const) : Option (Str) := @Const.casesOn (fun _ => Option (Str)) e none (fun _ => none) (fun _ => none) (fun _ => none) (fun _ _ => none) (fun a0 => some a0) (fun _ => none) none
theorem cstr_e (e : Const) : (cstr e).elim True fun q => e = .str q := @Const.casesOn (fun e => (cstr e).elim True fun q => e = .str q) e trivial (fun _ => trivial) (fun _ => trivial) (fun _ => trivial) (fun _ _ => trivial) (fun a0 => rfl) (fun _ => trivial) trivial
@[irreducible] noncomputable def kcstr {β : Type} (z : β) (e : Const) (f : Str → β) : β := (cstr e).elim z fun q => f q
@[elab_as_elim] theorem kcstr_k {β : Type} {z r : β} {e : Const} {f : Str → β} {M : Const → Prop} (hz : z ≠ r) (h : kcstr z e f = r) (k : ∀ a0, f a0 = r → M (.str a0)) : M e := by with_unfolding_all exact kv (cstr_e e) hz h fun q => k q
noncomputable def sReturn (e : Stmt) : Option ((Option Expr) × Pos) := @Stmt.casesOn (fun _ => Option ((Option Expr) × Pos)) e (fun _ _ _ _ _ _ _ _ _ _ => none) (fun _ _ _ _ _ _ _ _ _ _ => none) (fun _ _ _ _ _ _ _ _ _ _ _ => none) (fun a0 a1 => some (a0, a1)) (fun _ _ => none) (fun _ _ _ => none) (fun _ _ _ _ _ _ _ => none) (fun _ _ _ _ => none) (fun _ _ _ _ _ => none) (fun _ _ _ _ _ => none) (fun _ _ _ _ _ => none) (fun _ _ _ _ => none) (fun _ _ _ _ => none) (fun _ _ _ => none) (fun _ _ _ => none) (fun _ _ _ => none) (fun _ _ _ => none) (fun _ _ _ _ _ => none) (fun _ _ _ _ _ => none) (fun _ _ _ => none) (fun _ _ => none) (fun _ _ _ _ => none) (fun _ _ => none) (fun _ _ => none) (fun _ _ => none) (fun _ => none) (fun _ => none) (fun _ => none)
theorem sReturn_e (e : Stmt) : (sReturn e).elim True fun q => e = .Return q.1 q.2 := @Stmt.casesOn (fun e => (sReturn e).elim True fun q => e = .Return q.1 q.2) e (fun _ _ _ _ _ _ _ _ _ _ => trivial) (fun _ _ _ _ _ _ _ _ _ _ => trivial) (fun _ _ _ _ _ _ _ _ _ _ _ => trivial) (fun a0 a1 => rfl) (fun _ _ => trivial) (fun _ _ _ => trivial) (fun _ _ _ _ _ _ _ => trivial) (fun _ _ _ _ => trivial) (fun _ _ _ _ _ => trivial) (fun _ _ _ _ _ => trivial) (fun _ _ _ _ _ => trivial) (fun _ _ _ _ => trivial) (fun _ _ _ _ => trivial) (fun _ _ _ => trivial) (fun _ _ _ => trivial) (fun _ _ _ => trivial) (fun _ _ _ => trivial) (fun _ _ _ _ _ => trivial) (fun _ _ _ _ _ => trivial) (fun _ _ _ => trivial) (fun _ _ => trivial) (fun _ _ _ _ => trivial) (fun _ _ => trivial) (fun _ _ => trivial) (fun _ _ => trivial) (fun _ => trivial) (fun _ => trivial) (fun _ => trivial)
@[irreducible] noncomputable def ksReturn {β : Type} (z : β) (e : Stmt) (f : (Option Expr) → Pos → β) : β := (sReturn e).elim z fun q => f q.1 q.2
@[elab_as_elim] theorem ksReturn_k {β : Type} {z r : β} {e : Stmt} {f : (Option Expr) → Pos → β} {M : Stmt → Prop} (hz : z ≠ r) (h : ksReturn z e f = r) (k : ∀ a0 a1, f a0 a1 = r → M (.Return a0 a1)) : M e := by with_unfolding_all exact kv (sReturn_e e) hz h fun q => k q.1 q.2
noncomputable def sAssign (e : Stmt) : Option ((List Expr) × Expr × Pos) := @Stmt.casesOn (fun _ => Option ((List Expr) × Expr × Pos)) e (fun _ _ _ _ _ _ _ _ _ _ => none) (fun _ _ _ _ _ _ _ _ _ _ => none) (fun _ _ _ _ _ _ _ _ _ _ _ => none) (fun _ _ => none) (fun _ _ => none) (fun a0 a1 a2 => some (a0, a1, a2)) (fun _ _ _ _ _ _ _ => none) (fun _ _ _ _ => none) (fun _ _ _ _ _ => none) (fun _ _ _ _ _ => none) (fun _ _ _ _ _ => none) (fun _ _ _ _ => none) (fun _ _ _ _ => none) (fun _ _ _ => none) (fun _ _ _ => none) (fun _ _ _ => none) (fun _ _ _ => none) (fun _ _ _ _ _ => none) (fun _ _ _ _ _ => none) (fun _ _ _ => none) (fun _ _ => none) (fun _ _ _ _ => none) (fun _ _ => none) (fun _ _ => none) (fun _ _ => none) (fun _ => none) (fun _ => none) (fun _ => none)
theorem sAssign_e (e : Stmt) : (sAssign e).elim True fun q => e = .Assign q.1 q.2.1 q.2.2 := @Stmt.casesOn (fun e => (sAssign e).elim True fun q => e = .Assign q.1 q.2.1 q.2.2) e (fun _ _ _ _ _ _ _ _ _ _ => trivial) (fun _ _ _ _ _ _ _ _ _ _ => trivial) (fun _ _ _ _ _ _ _ _ _ _ _ => trivial) (fun _ _ => trivial) (fun _ _ => trivial) (fun a0 a1 a2 => rfl) (fun _ _ _ _ _ _ _ => trivial) (fun _ _ _ _ => trivial) (fun _ _ _ _ _ => trivial) (fun _ _ _ _ _ => trivial) (fun _ _ _ _ _ => trivial) (fun _ _ _ _ => trivial) (fun _ _ _ _ => trivial) (fun _ _ _ => trivial) (fun _ _ _ => trivial) (fun _ _ _ => trivial) (fun _ _ _ => trivial) (fun _ _ _ _ _ => trivial) (fun _ _ _ _ _ => trivial) (fun _ _ _ => trivial) (fun _ _ => trivial) (fun _ _ _ _ => trivial) (fun _ _ => trivial) (fun _ _ => trivial) (fun _ _ => trivial) (fun _ => trivial) (fun _ => trivial) (fun _ => trivial)
@[irreducible] noncomputable def ksAssign {β : Type} (z : β) (e : Stmt) (f : (List Expr) → Expr → Pos → β) : β := (sAssign e).elim z fun q => f q.1 q.2.1 q.2.2
@[elab_as_elim] theorem ksAssign_k {β : Type} {z r : β} {e : Stmt} {f : (List Expr) → Expr → Pos → β} {M : Stmt → Prop} (hz : z ≠ r) (h : ksAssign z e f = r) (k : ∀ a0 a1 a2, f a0 a1 a2 = r → M (.Assign a0 a1 a2)) : M e := by with_unfolding_all exact kv (sAssign_e e) hz h fun q => k q.1 q.2.1 q.2.2
noncomputable def sAugAssign (e : Stmt) : Option (Expr × Operator × Expr × Pos) := @Stmt.casesOn (fun _ => Option (Expr × Operator × Expr × Pos)) e (fun _ _ _ _ _ _ _ _ _ _ => none) (fun _ _ _ _ _ _ _ _ _ _ => none) (fun _ _ _ _ _ _ _ _ _ _ _ => none) (fun _ _ => none) (fun _ _ => none) (fun _ _ _ => none) (fun _ _ _ _ _ _ _ => none) (fun a0 a1 a2 a3 => some (a0, a1, a2, a3)) (fun _ _ _ _ _ => none) (fun _ _ _ _ _ => none) (fun _ _ _ _ _ => none) (fun _ _ _ _ => none) (fun _ _ _ _ => none) (fun _ _ _ => none) (fun _ _ _ => none) (fun _ _ _ => none) (fun _ _ _ => none) (fun _ _ _ _ _ => none) (fun _ _ _ _ _ => none) (fun _ _ _ => none) (fun _ _ => none) (fun _ _ _ _ => none) (fun _ _ => none) (fun _ _ => none) (fun _ _ => none) (fun _ => none) (fun _ => none) (fun _ => none)
theorem sAugAssign_e (e : Stmt) : (sAugAssign e).elim True fun q => e = .AugAssign q.1 q.2.1 q.2.2.1 q.2.2.2 := @Stmt.casesOn (fun e => (sAugAssign e).elim True fun q => e = .AugAssign q.1 q.2.1 q.2.2.1 q.2.2.2) e (fun _ _ _ _ _ _ _ _ _ _ => trivial) (fun _ _ _ _ _ _ _ _ _ _ => trivial) (fun _ _ _ _ _ _ _ _ _ _ _ => trivial) (fun _ _ => trivial) (fun _ _ => trivial) (fun _ _ _ => trivial) (fun _ _ _ _ _ _ _ => trivial) (fun a0 a1 a2 a3 => rfl) (fun _ _ _ _ _ => trivial) (fun _ _ _ _ _ => trivial) (fun _ _ _ _ _ => trivial) (fun _ _ _ _ => trivial) (fun _ _ _ _ => trivial) (fun _ _ _ => trivial) (fun _ _ _ => trivial) (fun _ _ _ => trivial) (fun _ _ _ => trivial) (fun _ _ _ _ _ => trivial) (fun _ _ _ _ _ => trivial) (fun _ _ _ => trivial) (fun _ _ => trivial) (fun _ _ _ _ => trivial) (fun _ _ => trivial) (fun _ _ => trivial) (fun _ _ => trivial) (fun _ => trivial) (fun _ => trivial) (fun _ => trivial)
@[irreducible] noncomputable def ksAugAssign {β : Type} (z : β) (e : Stmt) (f : Expr → Operator → Expr → Pos → β) : β := (sAugAssign e).elim z fun q => f q.1 q.2.1 q.2.2.1 q.2.2.2
@[elab_as_elim] theorem ksAugAssign_k {β : Type} {z r : β} {e : Stmt} {f : Expr → Operator → Expr → Pos → β} {M : Stmt → Prop} (hz : z ≠ r) (h : ksAugAssign z e f = r) (k : ∀ a0 a1 a2 a3, f a0 a1 a2 a3 = r → M (.AugAssign a0 a1 a2 a3)) : M e := by with_unfolding_all exact kv (sAugAssign_e e) hz h fun q => k q.1 q.2.1 q.2.2.1 q.2.2.2
noncomputable def sFor (e : Stmt) : Option (Expr × Expr × (List Stmt) × (List Stmt) × Pos) := @Stmt.casesOn (fun _ => Option (Expr × Expr × (List Stmt) × (List Stmt) × Pos)) e (fun _ _ _ _ _ _ _ _ _ _ => none) (fun _ _ _ _ _ _ _ _ _ _ => none) (fun _ _ _ _ _ _ _ _ _ _ _ => none) (fun _ _ => none) (fun _ _ => none) (fun _ _ _ => none) (fun _ _ _ _ _ _ _ => none) (fun _ _ _ _ => none) (fun _ _ _ _ _ => none) (fun a0 a1 a2 a3 a4 => some (a0, a1, a2, a3, a4)) (fun _ _ _ _ _ => none) (fun _ _ _ _ => none) (fun _ _ _ _ => none) (fun _ _ _ => none) (fun _ _ _ => none) (fun _ _ _ => none) (fun _ _ _ => none) (fun _ _ _ _ _ => none) (fun _ _ _ _ _ => none) (fun _ _ _ => none) (fun _ _ => none) (fun _ _ _ _ => none) (fun _ _ => none) (fun _ _ => none) (fun _ _ => none) (fun _ => none) (fun _ => none) (fun _ => none)
theorem sFor_e (e : Stmt) : (sFor e).elim True fun q => e = .For q.1 q.2.1 q.2.2.1 q.2.2.2.1 q.2.2.2.2 := @Stmt.casesOn (fun e => (sFor e).elim True fun q => e = .For q.1 q.2.1 q.2.2.1 q.2.2.2.1 q.2.2.2.2) e (fun _ _ _ _ _ _ _ _ _ _ => trivial) (fun _ _ _ _ _ _ _ _ _ _ => trivial) (fun _ _ _ _ _ _ _ _ _ _ _ => trivial) (fun _ _ => trivial) (fun _ _ => trivial) (fun _ _ _ => trivial) (fun _ _ _ _ _ _ _ => trivial) (fun _ _ _ _ => trivial) (fun _ _ _ _ _ => trivial) (fun a0 a1 a2 a3 a4 => rfl) (fun _ _ _ _ _ => trivial) (fun _ _ _ _ => trivial) (fun _ _ _ _ => trivial) (fun _ _ _ => trivial) (fun _ _ _ => trivial) (fun _ _ _ => trivial) (fun _ _ _ => trivial) (fun _ _ _ _ _ => trivial) (fun _ _ _ _ _ => trivial) (fun _ _ _ => trivial) (fun _ _ => trivial) (fun _ _ _ _ => trivial) (fun _ _ => trivial) (fun _ _ => trivial) (fun _ _ => trivial) (fun _ => trivial) (fun _ => trivial) (fun _ => trivial)
@[irreducible] noncomputable def ksFor {β : Type} (z : β) (e : Stmt) (f : Expr → Expr → (List Stmt) → (List Stmt) → Pos → β) : β := (sFor e).elim z fun q => f q.1 q.2.1 q.2.2.1 q.2.2.2.1 q.2.2.2.2
@[elab_as_elim] theorem ksFor_k {β : Type} {z r : β} {e : Stmt} {f : Expr → Expr → (List Stmt) → (List Stmt) → Pos → β} {M : Stmt → Prop} (hz : z ≠ r) (h : ksFor z e f = r) (k : ∀ a0 a1 a2 a3 a4, f a0 a1 a2 a3 a4 = r → M (.For a0 a1 a2 a3 a4)) : M e := by with_unfolding_all exact kv (sFor_e e) hz h fun q => k q.1 q.2.1 q.2.2.1 q.2.2.2.1 q.2.2.2.2
noncomputable def sWhile (e : Stmt) : Option (Expr × (List Stmt) × (List Stmt) × Pos) := @Stmt.casesOn (fun _ => Option (Expr × (List Stmt) × (List Stmt) × Pos)) e (fun _ _ _ _ _ _ _ _ _ _ => none) (fun _ _ _ _ _ _ _ _ _ _ => none) (fun _ _ _ _ _ _ _ _ _ _ _ => none) (fun _ _ => none) (fun _ _ => none) (fun _ _ _ => none) (fun _ _ _ _ _ _ _ => none) (fun _ _ _ _ => none) (fun _ _ _ _ _ => none) (fun _ _ _ _ _ => none) (fun _ _ _ _ _ => none) (fun a0 a1 a2 a3 => some (a0, a1, a2, a3)) (fun _ _ _ _ => none) (fun _ _ _ => none) (fun _ _ _ => none) (fun _ _ _ => none) (fun _ _ _ => none) (fun _ _ _ _ _ => none) (fun _ _ _ _ _ => none) (fun _ _ _ => none) (fun _ _ => none) (fun _ _ _ _ => none) (fun _ _ => none) (fun _ _ => none) (fun _ _ => none) (fun _ => none) (fun _ => none) (fun _ => none)
theorem sWhile_e (e : Stmt) : (sWhile e).elim True fun q => e = .While q.1 q.2.1 q.2.2.1 q.2.2.2 := @Stmt.casesOn (fun e => (sWhile e).elim True fun q => e = .While q.1 q.2.1 q.2.2.1 q.2.2.2) e (fun _ _ _ _ _ _ _ _ _ _ => trivial) (fun _ _ _ _ _ _ _ _ _ _ => trivial) (fun _ _ _ _ _ _ _ _ _ _ _ => trivial) (fun _ _ => trivial) (fun _ _ => trivial) (fun _ _ _ => trivial) (fun _ _ _ _ _ _ _ => trivial) (fun _ _ _ _ => trivial) (fun _ _ _ _ _ => trivial) (fun _ _ _ _ _ => trivial) (fun _ _ _ _ _ => trivial) (fun a0 a1 a2 a3 => rfl) (fun _ _ _ _ => trivial) (fun _ _ _ => trivial) (fun _ _ _ => trivial) (fun _ _ _ => trivial) (fun _ _ _ => trivial) (fun _ _ _ _ _ => trivial) (fun _ _ _ _ _ => trivial) (fun _ _ _ => trivial) (fun _ _ => trivial) (fun _ _ _ _ => trivial) (fun _ _ => trivial) (fun _ _ => trivial) (fun _ _ => trivial) (fun _ => trivial) (fun _ => trivial) (fun _ => trivial)
@[irreducible] noncomputable def ksWhile {β : Type} (z : β) (e : Stmt) (f : Expr → (List Stmt) → (List Stmt) → Pos → β) : β := (sWhile e).elim z fun q => f q.1 q.2.1 q.2.2.1 q.2.2.2
@[elab_as_elim] theorem ksWhile_k {β : Type} {z r : β} {e : Stmt} {f : Expr → (List Stmt) → (List Stmt) → Pos → β} {M : Stmt → Prop} (hz : z ≠ r) (h : ksWhile z e f = r) (k : ∀ a0 a1 a2 a3, f a0 a1 a2 a3 = r → M (.While a0 a1 a2 a3)) : M e := by with_unfolding_all exact kv (sWhile_e e) hz h fun q => k q.1 q.2.1 q.2.2.1 q.2.2.2
noncomputable def sIf (e : Stmt) : Option (Expr × (List Stmt) × (List Stmt) × Pos) := @Stmt.casesOn (fun _ => Option (Expr × (List Stmt) × (List Stmt) × Pos)) e (fun _ _ _ _ _ _ _ _ _ _ => none) (fun _ _ _ _ _ _ _ _ _ _ => none) (fun _ _ _ _ _ _ _ _ _ _ _ => none) (fun _ _ => none) (fun _ _ => none) (fun _ _ _ => none) (fun _ _ _ _ _ _ _ => none) (fun _ _ _ _ => none) (fun _ _ _ _ _ => none) (fun _ _ _ _ _ => none) (fun _ _ _ _ _ => none) (fun _ _ _ _ => none) (fun a0 a1 a2 a3 => some (a0, a1, a2, a3)) (fun _ _ _ => none) (fun _ _ _ => none) (fun _ _ _ => none) (fun _ _ _ => none) (fun _ _ _ _ _ => none) (fun _ _ _ _ _ => none) (fun _ _ _ => none) (fun _ _ => none) (fun _ _ _ _ => none) (fun _ _ => none) (fun _ _ => none) (fun _ _ => none) (fun _ => none) (fun _ => none) (fun _ => none)
theorem sIf_e (e : Stmt) : (sIf e).elim True fun q => e = .If q.1 q.2.1 q.2.2.1 q.2.2.2 := @Stmt.casesOn (fun e => (sIf e).elim True fun q => e = .If q.1 q.2.1 q.2.2.1 q.2.2.2) e (fun _ _ _ _ _ _ _ _ _ _ => trivial) (fun _ _ _ _ _ _ _ _ _ _ => trivial) (fun _ _ _ _ _ _ _ _ _ _ _ => trivial) (fun _ _ => trivial) (fun _ _ => trivial) (fun _ _ _ => trivial) (fun _ _ _ _ _ _ _ => trivial) (fun _ _ _ _ => trivial) (fun _ _ _ _ _ => trivial) (fun _ _ _ _ _ => trivial) (fun _ _ _ _ _ => trivial) (fun _ _ _ _ => trivial) (fun a0 a1 a2 a3 => rfl) (fun _ _ _ => trivial) (fun _ _ _ => trivial) (fun _ _ _ => trivial) (fun _ _ _ => trivial) (fun _ _ _ _ _ => trivial) (fun _ _ _ _ _ => trivial) (fun _ _ _ => trivial) (fun _ _ => trivial) (fun _ _ _ _ => trivial) (fun _ _ => trivial) (fun _ _ => trivial) (fun _ _ => trivial) (fun _ => trivial) (fun _ => trivial) (fun _ => trivial)
@[irreducible] noncomputable def ksIf {β : Type} (z : β) (e : Stmt) (f : Expr → (List Stmt) → (List Stmt) → Pos → β) : β := (sIf e).elim z fun q => f q.1 q.2.1 q.2.2.1 q.2.2.2
@[elab_as_elim] theorem ksIf_k {β : Type} {z r : β} {e : Stmt} {f : Expr → (List Stmt) → (List Stmt) → Pos → β} {M : Stmt → Prop} (hz : z ≠ r) (h : ksIf z e f = r) (k : ∀ a0 a1 a2 a3, f a0 a1 a2 a3 = r → M (.If a0 a1 a2 a3)) : M e := by with_unfolding_all exact kv (sIf_e e) hz h fun q => k q.1 q.2.1 q.2.2.1 q.2.2.2
noncomputable def sExpr (e : Stmt) : Option (Expr × Pos) := @Stmt.casesOn (fun _ => Option (Expr × Pos)) e (fun _ _ _ _ _ _ _ _ _ _ => none) (fun _ _ _ _ _ _ _ _ _ _ => none) (fun _ _ _ _ _ _ _ _ _ _ _ => none) (fun _ _ => none) (fun _ _ => none) (fun _ _ _ => none) (fun _ _ _ _ _ _ _ => none) (fun _ _ _ _ => none) (fun _ _ _ _ _ => none) (fun _ _ _ _ _ => none) (fun _ _ _ _ _ => none) (fun _ _ _ _ => none) (fun _ _ _ _ => none) (fun _ _ _ => none) (fun _ _ _ => none) (fun _ _ _ => none) (fun _ _ _ => none) (fun _ _ _ _ _ => none) (fun _ _ _ _ _ => none) (fun _ _ _ => none) (fun _ _ => none) (fun _ _ _ _ => none) (fun _ _ => none) (fun _ _ => none) (fun a0 a1 => some (a0, a1)) (fun _ => none) (fun _ => none) (fun _ => none)
theorem sExpr_e (e : Stmt) : (sExpr e).elim True fun q => e = .Expr q.1 q.2 := @Stmt.casesOn (fun e => (sExpr e).elim True fun q => e = .Expr q.1 q.2) e (fun _ _ _ _ _ _ _ _ _ _ => trivial) (fun _ _ _ _ _ _ _ _ _ _ => trivial) (fun _ _ _ _ _ _ _ _ _ _ _ => trivial) (fun _ _ => trivial) (fun _ _ => trivial) (fun _ _ _ => trivial) (fun _ _ _ _ _ _ _ => trivial) (fun _ _ _ _ => trivial) (fun _ _ _ _ _ => trivial) (fun _ _ _ _ _ => trivial) (fun _ _ _ _ _ => trivial) (fun _ _ _ _ => trivial) (fun _ _ _ _ => trivial) (fun _ _ _ => trivial) (fun _ _ _ => trivial) (fun _ _ _ => trivial) (fun _ _ _ => trivial) (fun _ _ _ _ _ => trivial) (fun _ _ _ _ _ => trivial) (fun _ _ _ => trivial) (fun _ _ => trivial) (fun _ _ _ _ => trivial) (fun _ _ => trivial) (fun _ _ => trivial) (fun a0 a1 => rfl) (fun _ => trivial) (fun _ => trivial) (fun _ => trivial)
@[irreducible] noncomputable def ksExpr {β : Type} (z : β) (e : Stmt) (f : Expr → Pos → β) : β := (sExpr e).elim z fun q => f q.1 q.2
@[elab_as_elim] theorem ksExpr_k {β : Type} {z r : β} {e : Stmt} {f : Expr → Pos → β} {M : Stmt → Prop} (hz : z ≠ r) (h : ksExpr z e f = r) (k : ∀ a0 a1, f a0 a1 = r → M (.Expr a0 a1)) : M e := by with_unfolding_all exact kv (sExpr_e e) hz h fun q => k q.1 q.2
noncomputable def sFunctionDef (e : Stmt) : Option (Str × Arguments × (List Stmt) × (List Expr) × (Option Expr) × (List TypeParam) × Scope × (Option Scope) × Str × Pos) := @Stmt.casesOn (fun _ => Option (Str × Arguments × (List Stmt) × (List Expr) × (Option Expr) × (List TypeParam) × Scope × (Option Scope) × Str × Pos)) e (fun a0 a1 a2 a3 a4 a5 a6 a7 a8 a9 => some (a0, a1, a2, a3, a4, a5, a6, a7, a8, a9)) (fun _ _ _ _ _ _ _ _ _ _ => none) (fun _ _ _ _ _ _ _ _ _ _ _ => none) (fun _ _ => none) (fun _ _ => none) (fun _ _ _ => none) (fun _ _ _ _ _ _ _ => none) (fun _ _ _ _ => none) (fun _ _ _ _ _ => none) (fun _ _ _ _ _ => none) (fun _ _ _ _ _ => none) (fun _ _ _ _ => none) (fun _ _ _ _ => none) (fun _ _ _ => none) (fun _ _ _ => none) (fun _ _ _ => none) (fun _ _ _ => none) (fun _ _ _ _ _ => none) (fun _ _ _ _ _ => none) (fun _ _ _ => none) (fun _ _ => none) (fun _ _ _ _ => none) (fun _ _ => none) (fun _ _ => none) (fun _ _ => none) (fun _ => none) (fun _ => none) (fun _ => none)
theorem sFunctionDef_e (e : Stmt) : (sFunctionDef e).elim True fun q => e = .FunctionDef q.1 q.2.1 q.2.2.1 q.2.2.2.1 q.2.2.2.2.1 q.2.2.2.2.2.1 q.2.2.2.2.2.2.1 q.2.2.2.2.2.2.2.1 q.2.2.2.2.2.2.2.2.1 q.2.2.2.2.2.2.2.2.2 := @Stmt.casesOn (fun e => (sFunctionDef e).elim True fun q => e = .FunctionDef q.1 q.2.1 q.2.2.1 q.2.2.2.1 q.2.2.2.2.1 q.2.2.2.2.2.1 q.2.2.2.2.2.2.1 q.2.2.2.2.2.2.2.1 q.2.2.2.2.2.2.2.2.1 q.2.2.2.2.2.2.2.2.2) e (fun a0 a1 a2 a3 a4 a5 a6 a7 a8 a9 => rfl) (fun _ _ _ _ _ _ _ _ _ _ => trivial) (fun _ _ _ _ _ _ _ _ _ _ _ => trivial) (fun _ _ => trivial) (fun _ _ => trivial) (fun _ _ _ => trivial) (fun _ _ _ _ _ _ _ => trivial) (fun _ _ _ _ => trivial) (fun _ _ _ _ _ => trivial) (fun _ _ _ _ _ => trivial) (fun _ _ _ _ _ => trivial) (fun _ _ _ _ => trivial) (fun _ _ _ _ => trivial) (fun _ _ _ => trivial) (fun _ _ _ => trivial) (fun _ _ _ => trivial) (fun _ _ _ => trivial) (fun _ _ _ _ _ => trivial) (fun _ _ _ _ _ => trivial) (fun _ _ _ => trivial) (fun _ _ => trivial) (fun _ _ _ _ => trivial) (fun _ _ => trivial) (fun _ _ => trivial) (fun _ _ => trivial) (fun _ => trivial) (fun _ => trivial) (fun _ => trivial)
@[irreducible] noncomputable def ksFunctionDef {β : Type} (z : β) (e : Stmt) (f : Str → Arguments → (List Stmt) → (List Expr) → (Option Expr) → (List TypeParam) → Scope → (Option Scope) → Str → Pos → β) : β := (sFunctionDef e).elim z fun q => f q.1 q.2.1 q.2.2.1 q.2.2.2.1 q.2.2.2.2.1 q.2.2.2.2.2.1 q.2.2.2.2.2.2.1 q.2.2.2.2.2.2.2.1 q.2.2.2.2.2.2.2.2.1 q.2.2.2.2.2.2.2.2.2
@[elab_as_elim] theorem ksFunctionDef_k {β : Type} {z r : β} {e : Stmt} {f : Str → Arguments → (List Stmt) → (List Expr) → (Option Expr) → (List TypeParam) → Scope → (Option Scope) → Str → Pos → β} {M : Stmt → Prop} (hz : z ≠ r) (h : ksFunctionDef z e f = r) (k : ∀ a0 a1 a2 a3 a4 a5 a6 a7 a8 a9, f a0 a1 a2 a3 a4 a5 a6 a7 a8 a9 = r → M (.FunctionDef a0 a1 a2 a3 a4 a5 a6 a7 a8 a9)) : M e := by with_unfolding_all exact kv (sFunctionDef_e e) hz h fun q => k q.1 q.2.1 q.2.2.1 q.2.2.2.1 q.2.2.2.2.1 q.2.2.2.2.2.1 q.2.2.2.2.2.2.1 q.2.2.2.2.2.2.2.1 q.2.2.2.2.2.2.2.2.1 q.2.2.2.2.2.2.2.2.2
noncomputable def plainE (e : Expr) : Bool := @Expr.casesOn (fun _ => Bool) e (fun _ _ _ => true) (fun _ _ _ => true) (fun _ _ _ _ => true) (fun _ _ _ => true) (fun _ _ _ _ => true) (fun _ _ _ _ => true) (fun _ _ _ => true) (fun _ _ _ => false) (fun _ _ _ _ => true) (fun _ _ _ _ => true) (fun _ _ _ _ _ => true) (fun _ _ _ _ => true) (fun _ _ => true) (fun _ _ => true) (fun _ _ => true) (fun _ _ _ _ => true) (fun _ _ _ _ => true) (fun _ _ _ _ => true) (fun _ _ => true) (fun _ _ _ => true) (fun _ _ _ => true) (fun _ _ _ => true) (fun _ _ => false) (fun _ _ => true) (fun _ _ => true) (fun _ _ _ => true) (fun _ _ _ _ => false)
noncomputable def notComp (e : Expr) : Bool := @Expr.casesOn (fun _ => Bool) e (fun _ _ _ => true) (fun _ _ _ => true) (fun _ _ _ _ => true) (fun _ _ _ => true) (fun _ _ _ _ => true) (fun _ _ _ _ => true) (fun _ _ _ => true) (fun _ _ _ => true) (fun _ _ _ _ => false) (fun _ _ _ _ => false) (fun _ _ _ _ _ => false) (fun _ _ _ _ => true) (fun _ _ => true) (fun _ _ => true) (fun _ _ => true) (fun _ _ _ _ => true) (fun _ _ _ _ => true) (fun _ _ _ _ => true) (fun _ _ => true) (fun _ _ _ => true) (fun _ _ _ => true) (fun _ _ _ => true) (fun _ _ => true) (fun _ _ => true) (fun _ _ => true) (fun _ _ _ => false) (fun _ _ _ _ => true)
noncomputable def notComp1 (e : Expr) : Bool := @Expr.casesOn (fun _ => Bool) e (fun _ _ _ => true) (fun _ _ _ => true) (fun _ _ _ _ => true) (fun _ _ _ => true) (fun _ _ _ _ => true) (fun _ _ _ _ => true) (fun _ _ _ => true) (fun _ _ _ => true) (fun _ _ _ _ => false) (fun _ _ _ _ => false) (fun _ _ _ _ _ => false) (fun _ _ _ _ => true) (fun _ _ => true) (fun _ _ => true) (fun _ _ => true) (fun _ _ _ _ => true) (fun _ _ _ _ => true) (fun _ _ _ _ => true) (fun _ _ => true) (fun _ _ _ => true) (fun _ _ _ => true) (fun _ _ _ => true) (fun _ _ => true) (fun _ _ => true) (fun _ _ => true) (fun _ _ _ => true) (fun _ _ _ _ => true)
end NC
end Mine
set_option genSizeOf false
namespace Mine
noncomputable section NC
/-- expressions, their names numbered; some bear a hint -/
inductive ME where
  | var (i : Nat)
  | int (i : Int)
  | str (x : Str)
  | bool (b : Bool)
  | bin (op : Operator) (a b : ME)
  | neg (a : ME)
  | inv (a : ME)
  | cmp (op : CmpOp) (a b : ME)
  | and (a b : ME)
  | or (a b : ME)
  | ife (t a b : ME)
  | tup (l : List ME)
  | lst (l : List ME)
  | item (a i : ME)
  | itemI (a i : ME)
  | itemS (a i : ME)
  | itemP (a i : ME)
  | call (f : Nat) (l : List ME)
  /-- anything else: its number in a table of words of one's own, its parts -/
  | ext (k : Nat) (l : List ME)
noncomputable def oInt {β : Type} (d : AV) (f : Int → Option β) : Option β := @AV.casesOn (fun _ => Option β) d none (fun _ => none) f (fun _ => none) (fun _ => none) (fun _ => none) (fun _ => none) (fun _ => none) (fun _ => none) (fun _ => none)
@[elab_as_elim] theorem oInt_k {β : Type} {d : AV} {f : Int → Option β} {r : β} {M : AV → Prop} (h : oInt d f = some r) (k : ∀ i, f i = some r → M (.int i)) : M d := @AV.casesOn (fun d => oInt d f = some r → M d) d (fun h => absurd h oN) (fun _ h => absurd h oN) k (fun _ h => absurd h oN) (fun _ h => absurd h oN) (fun _ h => absurd h oN) (fun _ h => absurd h oN) (fun _ h => absurd h oN) (fun _ h => absurd h oN) (fun _ h => absurd h oN) h
noncomputable def oBool {β : Type} (d : AV) (f : Bool → Option β) : Option β := @AV.casesOn (fun _ => Option β) d none f (fun _ => none) (fun _ => none) (fun _ => none) (fun _ => none) (fun _ => none) (fun _ => none) (fun _ => none) (fun _ => none)
@[elab_as_elim] theorem oBool_k {β : Type} {d : AV} {f : Bool → Option β} {r : β} {M : AV → Prop} (h : oBool d f = some r) (k : ∀ i, f i = some r → M (.bool i)) : M d := @AV.casesOn (fun d => oBool d f = some r → M d) d (fun h => absurd h oN) k (fun _ h => absurd h oN) (fun _ h => absurd h oN) (fun _ h => absurd h oN) (fun _ h => absurd h oN) (fun _ h => absurd h oN) (fun _ h => absurd h oN) (fun _ h => absurd h oN) (fun _ h => absurd h oN) h
noncomputable def oStr {β : Type} (d : AV) (f : Str → Option β) : Option β := @AV.casesOn (fun _ => Option β) d none (fun _ => none) (fun _ => none) f (fun _ => none) (fun _ => none) (fun _ => none) (fun _ => none) (fun _ => none) (fun _ => none)
@[elab_as_elim] theorem oStr_k {β : Type} {d : AV} {f : Str → Option β} {r : β} {M : AV → Prop} (h : oStr d f = some r) (k : ∀ i, f i = some r → M (.str i)) : M d := @AV.casesOn (fun d => oStr d f = some r → M d) d (fun h => absurd h oN) (fun _ h => absurd h oN) (fun _ h => absurd h oN) k (fun _ h => absurd h oN) (fun _ h => absurd h oN) (fun _ h => absurd h oN) (fun _ h => absurd h oN) (fun _ h => absurd h oN) (fun _ h => absurd h oN) h
noncomputable def oTup {β : Type} (d : AV) (f : List AV → Option β) : Option β := @AV.casesOn (fun _ => Option β) d none (fun _ => none) (fun _ => none) (fun _ => none) f (fun _ => none) (fun _ => none) (fun _ => none) (fun _ => none) (fun _ => none)
@[elab_as_elim] theorem oTup_k {β : Type} {d : AV} {f : List AV → Option β} {r : β} {M : AV → Prop} (h : oTup d f = some r) (k : ∀ i, f i = some r → M (.tup i)) : M d := @AV.casesOn (fun d => oTup d f = some r → M d) d (fun h => absurd h oN) (fun _ h => absurd h oN) (fun _ h => absurd h oN) (fun _ h => absurd h oN) k (fun _ h => absurd h oN) (fun _ h => absurd h oN) (fun _ h => absurd h oN) (fun _ h => absurd h oN) (fun _ h => absurd h oN) h
noncomputable def oLst {β : Type} (d : AV) (f : List AV → Option β) : Option β := @AV.casesOn (fun _ => Option β) d none (fun _ => none) (fun _ => none) (fun _ => none) (fun _ => none) f (fun _ => none) (fun _ => none) (fun _ => none) (fun _ => none)
@[elab_as_elim] theorem oLst_k {β : Type} {d : AV} {f : List AV → Option β} {r : β} {M : AV → Prop} (h : oLst d f = some r) (k : ∀ i, f i = some r → M (.lst i)) : M d := @AV.casesOn (fun d => oLst d f = some r → M d) d (fun h => absurd h oN) (fun _ h => absurd h oN) (fun _ h => absurd h oN) (fun _ h => absurd h oN) (fun _ h => absurd h oN) k (fun _ h => absurd h oN) (fun _ h => absurd h oN) (fun _ h => absurd h oN) (fun _ h => absurd h oN) h
noncomputable def oDI {β : Type} (d : AV) (f : List (Int × Int) → Option β) : Option β := @AV.casesOn (fun _ => Option β) d none (fun _ => none) (fun _ => none) (fun _ => none) (fun _ => none) (fun _ => none) f (fun _ => none) (fun _ => none) (fun _ => none)
@[elab_as_elim] theorem oDI_k {β : Type} {d : AV} {f : List (Int × Int) → Option β} {r : β} {M : AV → Prop} (h : oDI d f = some r) (k : ∀ i, f i = some r → M (.dI i)) : M d := @AV.casesOn (fun d => oDI d f = some r → M d) d (fun h => absurd h oN) (fun _ h => absurd h oN) (fun _ h => absurd h oN) (fun _ h => absurd h oN) (fun _ h => absurd h oN) (fun _ h => absurd h oN) k (fun _ h => absurd h oN) (fun _ h => absurd h oN) (fun _ h => absurd h oN) h
noncomputable def oDS {β : Type} (d : AV) (f : List (Str × Int) → Option β) : Option β := @AV.casesOn (fun _ => Option β) d none (fun _ => none) (fun _ => none) (fun _ => none) (fun _ => none) (fun _ => none) (fun _ => none) f (fun _ => none) (fun _ => none)
@[elab_as_elim] theorem oDS_k {β : Type} {d : AV} {f : List (Str × Int) → Option β} {r : β} {M : AV → Prop} (h : oDS d f = some r) (k : ∀ i, f i = some r → M (.dS i)) : M d := @AV.casesOn (fun d => oDS d f = some r → M d) d (fun h => absurd h oN) (fun _ h => absurd h oN) (fun _ h => absurd h oN) (fun _ h => absurd h oN) (fun _ h => absurd h oN) (fun _ h => absurd h oN) (fun _ h => absurd h oN) k (fun _ h => absurd h oN) (fun _ h => absurd h oN) h
noncomputable def oObj {β : Type} (d : AV) (f : AV → Option β) : Option β := @AV.casesOn (fun _ => Option β) d none (fun _ => none) (fun _ => none) (fun _ => none) (fun _ => none) (fun _ => none) (fun _ => none) (fun _ => none) f (fun _ => none)
@[elab_as_elim] theorem oObj_k {β : Type} {d : AV} {f : AV → Option β} {r : β} {M : AV → Prop} (h : oObj d f = some r) (k : ∀ i, f i = some r → M (.obj i)) : M d := @AV.casesOn (fun d => oObj d f = some r → M d) d (fun h => absurd h oN) (fun _ h => absurd h oN) (fun _ h => absurd h oN) (fun _ h => absurd h oN) (fun _ h => absurd h oN) (fun _ h => absurd h oN) (fun _ h => absurd h oN) (fun _ h => absurd h oN) k (fun _ h => absurd h oN) h
noncomputable abbrev Rho := List (Option AV)
noncomputable abbrev AP := Option (AV × Prop)
noncomputable def truthOf (d : AV) : Option Bool := @AV.casesOn (fun _ => Option Bool) d none some (fun i => some (i != 0)) (fun _ => none) (fun _ => none) (fun l => some (!l.isEmpty)) (fun _ => none) (fun _ => none) (fun _ => none) fun _ => none
noncomputable def truthC (d : AV) : Prop := @AV.casesOn (fun _ => Prop) d True (fun _ => True) (fun _ => True) (fun _ => True) (fun _ => True) (fun l => l.length ≤ 2 ^ 20) (fun _ => True) (fun _ => True) (fun _ => True) fun _ => True
noncomputable def ii (x y : AV) (f : Int → Int → AP) : AP := oInt x fun i => oInt y fun j => f i j
noncomputable def ss (x y : AV) (f : Str → Str → AP) : AP := oStr x fun i => oStr y fun j => f i j
/-- one of two -/
noncomputable def oor (a b : AP) : AP := @Option.casesOn _ (fun _ => AP) a b fun q => some q
@[elab_as_elim] theorem some_k {A : Type} {x d : A} {p C : Prop} {M : A → Prop → Prop} (h : some (x, p) = some (d, C)) (k : M x p) : M d C := by
  cases h; exact k
@[elab_as_elim] theorem ii_k {x y : AV} {r : AV × Prop} {f : Int → Int → AP} {M : AV → AV → Prop} (h : ii x y f = some r) (k : ∀ i j, f i j = some r → M (.int i) (.int j)) : M x y :=
  oInt_k (M := fun x => M x y) h fun i h => oInt_k (M := fun y => M (.int i) y) h fun j h => k i j h
@[elab_as_elim] theorem ss_k {x y : AV} {r : AV × Prop} {f : Str → Str → AP} {M : AV → AV → Prop} (h : ss x y f = some r) (k : ∀ i j, f i j = some r → M (.str i) (.str j)) : M x y :=
  oStr_k (M := fun x => M x y) h fun i h => oStr_k (M := fun y => M (.str i) y) h fun j h => k i j h
theorem oor_k {a b : AP} {r : AV × Prop} {M : Prop} (h : oor a b = some r) (k : a = some r → M) (k' : b = some r → M) : M := @Option.casesOn _ (fun a => oor a b = some r → (a = some r → M) → M) a (fun h _ => k' h) (fun _ h k => k h) h k
noncomputable def bin2 (op : Operator) (x y : AV) : AP := @Operator.casesOn (fun _ => AP) op (oor (ii x y fun x y => some (.int (x + y), True)) (ss x y fun x y => some (.str (x ++ y), x.length + y.length ≤ sizeLine))) (ii x y fun x y => some (.int (x - y), True)) (ii x y fun x y => some (.int (x * y), x.natAbs < 2 ^ 64)) none none
  (ii x y fun x y => some (.int (x % y), 0 < y)) (ii x y fun x y => some (.int (x ^ y.toNat), 0 ≤ y ∧ (Builtin.Int.intBits x : Int) * y ≤ 2 ^ 27)) (ii x y fun x y => some (.int (x * 2 ^ y.toNat), 0 ≤ y ∧ y ≤ 1000000 ∧ x.natAbs < 2 ^ 64))
  (ii x y fun x y => some (.int (x / 2 ^ y.toNat), 0 ≤ y)) none (ii x y fun x y => some (.int (Builtin.bitXor x y), True)) none (ii x y fun x y => some (.int (x / y), 0 < y ∧ y < 2 ^ 64))
mutual
noncomputable def isPy (d : AV) : Bool := match d with
  | .none => true
  | .bool _ => true
  | .int _ => true
  | .str _ => true
  | .tup l => isPyL l
  | .lst l => isPyL l
  | .dI _ => false
  | .dS _ => false
  | .obj _ => false
  | .fn _ => false
noncomputable def isPyL (l : List AV) : Bool := match l with
  | [] => true
  | a :: r => isPy a && isPyL r
end
mutual
noncomputable def pyOf (d : AV) : PyData := match d with
  | .none => .none
  | .bool b => .bool b
  | .int i => .int i
  | .str i => .str i
  | .tup l => .tuple (pyOfL l)
  | .lst l => .list (pyOfL l)
  | .dI _ => .none
  | .dS _ => .none
  | .obj _ => .none
  | .fn _ => .none
noncomputable def pyOfL (l : List AV) : List PyData := match l with
  | [] => []
  | a :: r => pyOf a :: pyOfL r
end
/-- two that are the same, and known to compare so -/
noncomputable def eqC (x y : AV) : Prop := (x = y ∧ isPy x = true ∧ SeqAt.shaped (pyOf x) = true) ∨
  ∃ a b c d l l', x = .tup [.int a, .int b, .int c, .int d, .dI l] ∧ y = .tup [.int a, .int b, .int c, .int d, .dI l'] ∧ l.length = l'.length ∧ ∀ p ∈ l, p ∈ l'
noncomputable def sq (x y : AV) (b : Bool) : AP := oor (oTup x fun l => oTup y fun m => some (.bool b, eqC (.tup l) (.tup m))) (oLst x fun l => oLst y fun m => some (.bool b, eqC (.lst l) (.lst m)))
@[elab_as_elim] theorem sq_k {x y d : AV} {b : Bool} {C : Prop} {M : AV → Prop → Prop} (h : sq x y b = some (d, C)) (k : M (.bool b) (eqC x y)) : M d C :=
  oor_k h (fun h => oTup_k (M := fun x => M (.bool b) (eqC x y) → M d C) h (fun l h => oTup_k (M := fun y => M (.bool b) (eqC (.tup l) y) → M d C) h fun m h k => by cases h; exact k) k)
    (fun h => oLst_k (M := fun x => M (.bool b) (eqC x y) → M d C) h (fun l h => oLst_k (M := fun y => M (.bool b) (eqC (.lst l) y) → M d C) h fun m h k => by cases h; exact k) k)
noncomputable def cmp2 (op : CmpOp) (x y : AV) : AP := @CmpOp.casesOn (fun _ => AP) op (oor (ii x y fun x y => some (.bool (decide (x = y)), True)) (oor (ss x y fun x y => some (.bool (x == y), True)) (sq x y true)))
  (oor (ii x y fun x y => some (.bool (!decide (x = y)), True)) (oor (ss x y fun x y => some (.bool (x != y), True)) (sq x y false))) (ii x y fun x y => some (.bool (decide (x < y)), True)) (ii x y fun x y => some (.bool (decide (x ≤ y)), True))
  (ii x y fun x y => some (.bool (decide (y < x)), True)) (ii x y fun x y => some (.bool (decide (y ≤ x)), True)) none none (ss x y fun x y => some (.bool (Txt.contains y x), True)) none
/-- the two ways of a choice, joined where their kinds meet -/
noncomputable def join2 (c : Bool) (x y : AV) : AV :=
  let z : AV := bif c then x else y
  @AV.casesOn (fun _ => AV) x z (fun i => @AV.casesOn (fun _ => AV) y z (fun j => .bool (bif c then i else j)) (fun _ => z) (fun _ => z) (fun _ => z) (fun _ => z) (fun _ => z) (fun _ => z) (fun _ => z) fun _ => z)
    (fun i => @AV.casesOn (fun _ => AV) y z (fun _ => z) (fun j => .int (bif c then i else j)) (fun _ => z) (fun _ => z) (fun _ => z) (fun _ => z) (fun _ => z) (fun _ => z) fun _ => z)
    (fun i => @AV.casesOn (fun _ => AV) y z (fun _ => z) (fun _ => z) (fun j => .str (bif c then i else j)) (fun _ => z) (fun _ => z) (fun _ => z) (fun _ => z) (fun _ => z) fun _ => z) (fun _ => z)
    (fun i => @AV.casesOn (fun _ => AV) y z (fun _ => z) (fun _ => z) (fun _ => z) (fun _ => z) (fun j => .lst (bif c then i else j)) (fun _ => z) (fun _ => z) (fun _ => z) fun _ => z) (fun _ => z) (fun _ => z) (fun _ => z) fun _ => z
theorem join2_eq (c : Bool) (x y : AV) : join2 c x y = bif c then x else y := by
  cases c <;> cases x <;> first | rfl | (cases y <;> rfl)
noncomputable def getI (d : AV) : Int := @AV.casesOn (fun _ => Int) d 0 (fun _ => 0) (fun i => i) (fun _ => 0) (fun _ => 0) (fun _ => 0) (fun _ => 0) (fun _ => 0) (fun _ => 0) fun _ => 0
noncomputable def getS (d : AV) : Str := @AV.casesOn (fun _ => Str) d Str.empty (fun _ => Str.empty) (fun _ => Str.empty) (fun i => i) (fun _ => Str.empty) (fun _ => Str.empty) (fun _ => Str.empty) (fun _ => Str.empty) (fun _ => Str.empty) fun _ => Str.empty
noncomputable def pI (j : Nat) (d : AV) : Int := @AV.casesOn (fun _ => Int) d 0 (fun _ => 0) (fun _ => 0) (fun _ => 0) (fun l => getI (l.getD j .none)) (fun _ => 0) (fun _ => 0) (fun _ => 0) (fun _ => 0) fun _ => 0
noncomputable def itemsOf (d : AV) : Option (List AV) := @AV.casesOn (fun _ => Option (List AV)) d none (fun _ => none) (fun _ => none) (fun _ => none) some some (fun _ => none) (fun _ => none) (fun _ => none) fun _ => none
/-- the value, and what it asks, handed on -/
noncomputable def oV {A β : Type} (a : Option (A × Prop)) (f : A → Prop → Option β) : Option β := @Option.casesOn _ (fun _ => Option β) a none fun q => @Prod.casesOn A Prop (fun _ => Option β) q f
theorem oV_k {A β : Type} {a : Option (A × Prop)} {f : A → Prop → Option β} {r : β} {M : Prop} (h : oV a f = some r) (k : ∀ x p, a = some (x, p) → f x p = some r → M) : M := by
  rcases a with _ | ⟨x, p⟩
  · exact absurd h oN
  · exact k x p rfl h
noncomputable def oI (a : AP) (f : Int → Prop → AP) : AP := oV a fun x p => oInt x fun i => f i p
theorem oI_k {a : AP} {f : Int → Prop → AP} {r : AV × Prop} {M : Prop} (h : oI a f = some r) (k : ∀ x p, a = some (.int x, p) → f x p = some r → M) : M :=
  oV_k h fun x p e h => oInt_k (M := fun x => a = some (x, p) → M) h (fun i h e => k i p e h) e
noncomputable def oB (a : AP) (f : Bool → Prop → AP) : AP := oV a fun x p => oBool x fun i => f i p
theorem oB_k {a : AP} {f : Bool → Prop → AP} {r : AV × Prop} {M : Prop} (h : oB a f = some r) (k : ∀ x p, a = some (.bool x, p) → f x p = some r → M) : M :=
  oV_k h fun x p e h => oBool_k (M := fun x => a = some (x, p) → M) h (fun i h e => k i p e h) e
/-- an item, its place told -/
noncomputable def oIt (a i : AP) (f : List AV → Int → Prop → Prop → AV × Prop) : AP := oV a fun x p => oI i fun k q => @Option.casesOn _ (fun _ => AP) (itemsOf x) none fun l => some (f l k p q)
theorem oIt_k {a i : AP} {f : List AV → Int → Prop → Prop → AV × Prop} {r : AV × Prop} {M : Prop} (h : oIt a i f = some r) (k : ∀ x p k q l, a = some (x, p) → i = some (.int k, q) → itemsOf x = some l → f l k p q = r → M) : M :=
  oV_k h fun x p e h => oI_k h fun j q e' h => by
    rcases hl : itemsOf x with _ | l
    · rw [hl] at h; exact absurd h oN
    · rw [hl] at h; exact k x p j q l e e' hl (Option.some.inj h)
section
variable (F : Nat → List AV → AP) (X : Nat → List AV → AP)
mutual
/-- the value, and what it asks -/
noncomputable def mev (ρ : Rho) : ME → AP
  | .var i => @Option.casesOn _ (fun _ => AP) ρ[i]? none fun o => @Option.casesOn _ (fun _ => AP) o none fun d => some (d, True)
  | .int i => some (.int i, True)
  | .str x => some (.str x, True)
  | .bool b => some (.bool b, True)
  | .bin op a b => oV (mev ρ a) fun x p => oV (mev ρ b) fun y q => oV (bin2 op x y) fun z r => some (z, p ∧ q ∧ r)
  | .neg a => oI (mev ρ a) fun x p => some (.int (-x), p)
  | .inv a => oI (mev ρ a) fun x p => some (.int (-x - 1), p)
  | .cmp op a b => oV (mev ρ a) fun x p => oV (mev ρ b) fun y q => oV (cmp2 op x y) fun z r => some (z, p ∧ q ∧ r)
  | .and a b => oB (mev ρ a) fun x p => oB (mev ρ b) fun y q => some (.bool (x && y), p ∧ (x = true → q))
  | .or a b => oB (mev ρ a) fun x p => oB (mev ρ b) fun y q => some (.bool (x || y), p ∧ (x = false → q))
  | .ife t a b => oV (mev ρ t) fun z p => oV (mev ρ a) fun x q => oV (mev ρ b) fun y r => @Option.casesOn _ (fun _ => AP) (truthOf z) none fun c => some (join2 c x y, p ∧ truthC z ∧ (c = true → q) ∧ (c = false → r))
  | .tup l => oV (mevL ρ l) fun ds p => some (.tup ds, p ∧ l.length ≤ 1000)
  | .lst l => oV (mevL ρ l) fun ds p => some (.lst ds, p ∧ l.length ≤ 1000)
  | .item a i => oIt (mev ρ a) (mev ρ i) fun l k p q => (l.getD k.toNat .none, p ∧ q ∧ 0 ≤ k ∧ k < 2 ^ 62 ∧ k.toNat < l.length)
  | .itemI a i => oIt (mev ρ a) (mev ρ i) fun l k p q => (.int (getI (l.getD k.toNat .none)), p ∧ q ∧ 0 ≤ k ∧ k < 2 ^ 62 ∧ l[k.toNat]? = some (.int (getI (l.getD k.toNat .none))))
  | .itemS a i => oIt (mev ρ a) (mev ρ i) fun l k p q => (.str (getS (l.getD k.toNat .none)), p ∧ q ∧ 0 ≤ k ∧ k < 2 ^ 62 ∧ l[k.toNat]? = some (.str (getS (l.getD k.toNat .none))))
  | .itemP a i => oIt (mev ρ a) (mev ρ i) fun l k p q => (.tup [.int (pI 0 (l.getD k.toNat .none)), .int (pI 1 (l.getD k.toNat .none))], p ∧ q ∧ 0 ≤ k ∧ k < 2 ^ 62 ∧ l[k.toNat]? = some (.tup [.int (pI 0 (l.getD k.toNat .none)), .int (pI 1 (l.getD k.toNat .none))]))
  | .call f l => oV (mevL ρ l) fun ds p => oV (F f ds) fun d q => some (d, p ∧ q)
  | .ext k l => oV (mevL ρ l) fun ds p => oV (X k ds) fun d q => some (d, p ∧ q)
noncomputable def mevL (ρ : Rho) : List ME → Option (List AV × Prop)
  | [] => some ([], True)
  | a :: r => oV (mev ρ a) fun x p => oV (mevL ρ r) fun xs q => some (x :: xs, p ∧ q)
end
end
section
variable {F : Nat → List AV → AP} {X : Nat → List AV → AP} {ρ : Rho} {d : AV} {C : Prop}
theorem mev_var {i : Nat} (h : mev F X ρ (.var i) = some (d, C)) : ρ[i]? = some (some d) := by
  replace h : (@Option.casesOn _ (fun _ => AP) ρ[i]? none fun o => @Option.casesOn _ (fun _ => AP) o none fun d => some (d, True)) = some (d, C) := h
  rcases e : ρ[i]? with _ | _ | d' <;> rw [e] at h <;> cases h
  rfl
end
/-- truth by the value: for the words whose truth is asked so -/
noncomputable def byVal (e : Expr) : Bool := @Expr.casesOn (fun _ => Bool) e (fun _ _ _ => false) (fun _ _ _ => true) (fun _ _ _ _ => true) (fun op _ _ => @UnaryOp.casesOn (fun _ => Bool) op true false true true) (fun _ _ _ _ => true) (fun _ _ _ _ => false) (fun _ _ _ => true) (fun _ _ _ => true) (fun _ _ _ _ => true) (fun _ _ _ _ => true) (fun _ _ _ _ _ => true) (fun _ _ _ _ => true) (fun _ _ => true) (fun _ _ => true) (fun _ _ => true) (fun _ _ _ _ => false) (fun _ _ _ _ => true) (fun _ _ _ _ => true) (fun _ _ => true) (fun _ _ _ => true) (fun _ _ _ => true) (fun _ _ _ => true) (fun _ _ => true) (fun _ _ => true) (fun _ _ => true) (fun _ _ _ => true) (fun _ _ _ _ => true)
section
variable (names : List Str) (kd : Str → Option NameKind) (gs : List Str)
variable (xs : Nat → Expr → Option (List Expr × List Str))
noncomputable def glob (kd : Str → Option NameKind) (x : Str) : Bool := kd x == some .globalImplicit && okN x
mutual
noncomputable def chk : ME → Expr → Bool
  | .var i, e => kName false e fun x _ => names[i]? == some x && okN x
  | .int k, e => kConstant false e fun c _ _ => kcint false c fun j => decide (k = j)
  | .str k, e => kConstant false e fun c _ _ => kcstr false c fun j => j == k
  | .bool k, e => kConstant false e fun c _ _ => kcbool false c fun j => j == k
  | .bin op a b, e => kBinOp false e fun l o r _ => decide (op = o) && (chk a l && chk b r)
  | .neg a, e => kUnaryOp false e fun o l _ => decide (UnaryOp.USub = o) && chk a l
  | .inv a, e => kUnaryOp false e fun o l _ => decide (UnaryOp.Invert = o) && chk a l
  | .cmp op a b, e => kCompare false e fun l os rs _ => decide ([op] = os) && (chk a l && k1 false rs fun r => chk b r)
  | .and a b, e => kBoolOp false e fun o l _ => decide (BoolOp.And = o) && k2 false l fun l r => chk a l && chk b r
  | .or a b, e => kBoolOp false e fun o l _ => decide (BoolOp.Or = o) && k2 false l fun l r => chk a l && chk b r
  | .ife t a b, e => kIfExp false e fun t0 l r _ => chk t t0 && (chk a l && chk b r)
  | .tup l, e => kTuple false e fun es _ _ => chkL l es
  | .lst l, e => kList false e fun es _ => chkL l es
  | .item a i, e => kSubscript false e fun a0 j _ => chk a a0 && chk i j
  | .itemI a i, e => kSubscript false e fun a0 j _ => chk a a0 && chk i j
  | .itemS a i, e => kSubscript false e fun a0 j _ => chk a a0 && chk i j
  | .itemP a i, e => kSubscript false e fun a0 j _ => chk a a0 && chk i j
  | .call f l, e => kCall false e fun g es ks _ => kName false g fun x _ => ks.isEmpty && (gs[f]? == some x && (glob kd x && (!es.isEmpty && chkL l es)))
  | .ext k l, e => (xs k e).elim false fun q => plainE e && (byVal e && (q.2.all (glob kd) && chkL l q.1))
noncomputable def chkL : List ME → List Expr → Bool
  | [], es => es.isEmpty
  | a :: l, es => kc false es fun e es => chk a e && chkL l es
end
end
end NC
end Mine
set_option genInjectivity false
namespace Mine
noncomputable section NC
noncomputable def noE : Value → Shared → Prop := fun _ _ => False
structure Cx where
  P : Program
  w : World
  CC : Addr
  W : Heap → Prop
  wd : Addr → Prop
  mg : Str → Option Value
  mb : Str → Option Value
  xc : Addr → Prop
  gs : List Str
  n : Nat
  F : Nat → List AV → AP
  X : Nat → List AV → AP
  xs : Nat → Expr → Option (List Expr × List Str)
noncomputable abbrev Cx.M (c : Cx) : Model := model c.P c.w
noncomputable abbrev Cx.Rep (c : Cx) (X : Addr → Prop) (h : Heap) (v : Value) (d : AV) : Prop := Mine.Rep c.P c.w c.CC X h v d
noncomputable abbrev Cx.Reps (c : Cx) (X : Addr → Prop) (h : Heap) (v : List Value) (d : List AV) : Prop := Mine.Reps c.P c.w c.CC X h v d
noncomputable abbrev Cx.Ext (c : Cx) (s s' : Shared) : Prop := Mine.Ext c.W c.xc s s'
noncomputable abbrev CxW (c : Cx) : Prop := WOk c.W c.wd c.xc c.mg c.mb
/-- a set of addresses that may change -/
structure XOk (c : Cx) (X : Addr → Prop) (s : Shared) : Prop where
  xc : ∀ b, c.xc b → X b
  lt : ∀ a, X a → c.xc a ∨ ∃ o, s.heap.get? a = some o
theorem XOk.ext {c : Cx} {X : Addr → Prop} {s s' : Shared} (x : XOk c X s) (e : c.Ext s s') : XOk c X s' := ⟨x.xc, fun a h => by
  by_cases q : c.xc a
  · exact .inl q
  · rcases x.lt a h with y | ⟨o, y⟩
    · exact .inl y
    · exact .inr ⟨o, e.keep a o q y⟩⟩
/-- the frame at hand -/
structure Vs (c : Cx) (env : Env) (names : List Str) (kd : Str → Option NameKind) (X : Addr → Prop) (ρ : Rho) (s : Shared) : Prop where
  fk : env.scope.kind = .function
  gl : env.globals = mainGlobals
  bi : env.builtins = builtinsNs
  kd : ∀ x, kd x = some .globalImplicit → env.kindOf x = some .globalImplicit
  wd : c.W s.heap
  x : XOk c X s
  lc : ¬ c.xc env.locals ∧ ∀ x a, env.cells.lookup x = some a → ¬ c.xc a
  al : (∃ o, s.heap.get? env.locals = some o) ∧ ∀ x a, env.cells.lookup x = some a → ∃ o, s.heap.get? a = some o
  vars : ∀ (i : Nat) (x : Str) (d : AV), names[i]? = some x → ρ[i]? = some (some d) → ∃ v, Ld env s.heap x v ∧ c.Rep X s.heap v d
section
variable {c : Cx} {env : Env} {names : List Str} {kd : Str → Option NameKind} {X : Addr → Prop} {ρ : Rho} {s s' : Shared}
theorem Ns.keep1 {h h' : Heap} {a : Addr} {m : Str → Option Value} (x : h.Ns a m) (k : ∀ o, h.get? a = some o → h'.get? a = some o) : h'.Ns a m :=
  let ⟨o, es, ep, e, r⟩ := x; ⟨o, es, ep, k o e, r⟩
theorem IsCell.keep1 {h h' : Heap} {a : Addr} {v : Option Value} (x : h.IsCell a v) (k : ∀ o, h.get? a = some o → h'.get? a = some o) : h'.IsCell a v :=
  let ⟨o, e, r⟩ := x; ⟨o, k o e, r⟩
theorem Vs.ext (V : Vs c env names kd X ρ s) (e : c.Ext s s') : Vs c env names kd X ρ s' where
  fk := V.fk
  gl := V.gl
  bi := V.bi
  kd := V.kd
  wd := e.wd V.wd
  x := V.x.ext e
  lc := V.lc
  al := ⟨let ⟨o, q⟩ := V.al.1; ⟨o, e.keep _ o V.lc.1 q⟩, fun x a ha => let ⟨o, q⟩ := V.al.2 x a ha; ⟨o, e.keep _ o (V.lc.2 _ _ ha) q⟩⟩
  vars := fun i x d hn hr => by
    obtain ⟨v, l, r⟩ := V.vars i x d hn hr
    refine ⟨v, ?_, Rep.ext V.x.xc e r⟩
    rcases l with ⟨hl, m, hm, hv⟩ | ⟨hl, a, ha, hv⟩
    · exact .inl ⟨hl, m, Ns.keep1 hm fun o q => e.keep _ o V.lc.1 q, hv⟩
    · exact .inr ⟨hl, a, ha, IsCell.keep1 hv fun o q => e.keep _ o (V.lc.2 _ _ ha) q⟩
end
/-- the expression gives d, wherever the frame stands so -/
noncomputable def EvOk (c : Cx) (env : Env) (names : List Str) (kd : Str → Option NameKind) (ρ : Rho) (e : Expr) (d : AV) : Prop :=
  ∀ (A : Around) (X : Addr → Prop) (s : Shared) (Q : Value → Shared → Prop), Room A c.n → Vs c env names kd X ρ s → (∀ v s', c.Ext s s' → c.Rep X s'.heap v d → Q v s') → wpAny c.M A (eval e env) Q noE s
noncomputable def TrOk (c : Cx) (env : Env) (names : List Str) (kd : Str → Option NameKind) (ρ : Rho) (e : Expr) (b : Bool) : Prop :=
  ∀ (A : Around) (X : Addr → Prop) (s : Shared) (Q : Bool → Shared → Prop), Room A c.n → Vs c env names kd X ρ s → (∀ s', c.Ext s s' → Q b s') → wpAny c.M A (isTrue e env (eval e env)) Q noE s
noncomputable def EvsOk (c : Cx) (env : Env) (names : List Str) (kd : Str → Option NameKind) (ρ : Rho) : List Expr → List AV → Prop
  | [], [] => True
  | e :: es, d :: ds => EvOk c env names kd ρ e d ∧ plainE e = true ∧ EvsOk c env names kd ρ es ds
  | _, _ => False
/-- the global function number k answers d -/
noncomputable def FnOk (c : Cx) (n : Nat) (k : Nat) (ds : List AV) (d : AV) : Prop :=
  ∃ x f, c.gs[k]? = some x ∧ c.mg x = some (.ref f) ∧ (∀ h, c.W h → ∃ o fd, h.get? f = some o ∧ o.data = .func fd) ∧
    ∀ (A : Around) (X : Addr → Prop) (s : Shared) (vs : List Value) (Q : Value → Shared → Prop), Room A n → c.W s.heap → XOk c X s → c.Reps X s.heap vs ds →
      (∀ v s', c.Ext s s' → c.Rep X s'.heap v d → Q v s') → wpAny c.M A (call (.ref f) vs) Q noE s
structure CxOk (c : Cx) : Prop where
  w : CxW c
  f : ∀ k ds d C, c.F k ds = some (d, C) → C → FnOk c c.n k ds d
  x : ∀ k e es gn, c.xs k e = some (es, gn) → ∀ env names kd ρ ds d C, (∀ x ∈ gn, glob kd x = true) → c.X k ds = some (d, C) → C → EvsOk c env names kd ρ es ds → (∃ l D, chkL names kd c.gs c.xs l es = true ∧ mevL c.F c.X ρ l = some (ds, D)) → EvOk c env names kd ρ e d
theorem starEach_plain {e : Expr} {rest : List Expr} {env : Env} (h : plainE e = true) : starEach (e :: rest) env = (false, eval e env) :: starEach rest env := by
  cases e <;> first | rfl | cases h
theorem plain_any : ∀ {es : List Expr} {env : Env} {pos : Pos}, (∀ e ∈ es, plainE e = true) → (backTo pos (starEach es env)).any (·.1) = false
  | [], _, _, _ => rfl
  | e :: r, env, pos, h => by
    rw [starEach_plain (h e List.mem_cons_self)]
    show (false || (backTo pos (starEach r env)).any (·.1)) = false
    rw [plain_any fun e he => h e (List.mem_cons_of_mem _ he)]
    rfl
theorem marks_plain {op : CmpOp} {e : Expr} (h : plainE e = true) : behindInMarks op e = false := by
  cases e <;> first | rfl | cases h
theorem chk_plain {names : List Str} {kd : Str → Option NameKind} {gs : List Str} {xs : Nat → Expr → Option (List Expr × List Str)} {me : ME} {e : Expr} (h : chk names kd gs xs me e = true) : plainE e = true :=
  @ME.casesOn (fun me => chk names kd gs xs me e = true → plainE e = true) me (fun i h => kName_k fT h fun _ _ _ => rfl) (fun i h => kConstant_k fT h fun _ _ _ _ => rfl) (fun i h => kConstant_k fT h fun _ _ _ _ => rfl) (fun i h => kConstant_k fT h fun _ _ _ _ => rfl)
    (fun op a b h => kBinOp_k fT h fun _ _ _ _ _ => rfl) (fun a h => kUnaryOp_k fT h fun _ _ _ _ => rfl) (fun a h => kUnaryOp_k fT h fun _ _ _ _ => rfl) (fun op a b h => kCompare_k fT h fun _ _ _ _ _ => rfl) (fun a b h => kBoolOp_k fT h fun _ _ _ _ => rfl) (fun a b h => kBoolOp_k fT h fun _ _ _ _ => rfl)
    (fun t a b h => kIfExp_k fT h fun _ _ _ _ _ => rfl) (fun l h => kTuple_k fT h fun _ _ _ _ => rfl) (fun l h => kList_k fT h fun _ _ _ => rfl) (fun a i h => kSubscript_k fT h fun _ _ _ _ => rfl) (fun a i h => kSubscript_k fT h fun _ _ _ _ => rfl) (fun a i h => kSubscript_k fT h fun _ _ _ _ => rfl)
    (fun a i h => kSubscript_k fT h fun _ _ _ _ => rfl) (fun f l h => kCall_k fT h fun _ _ _ _ _ => rfl) (fun k l h => ko_k (M := fun _ => plainE e = true) fT h fun q h => (and_t h).1) h
section
variable {c : Cx} {env : Env} {names : List Str} {kd : Str → Option NameKind} {ρ : Rho}
theorem EvsOk.plain : ∀ {es : List Expr} {ds : List AV}, EvsOk c env names kd ρ es ds → ∀ e ∈ es, plainE e = true
  | e :: es, d :: ds, h, x, hx => by
    rcases List.mem_cons.mp hx with rfl | hx
    · exact h.2.1
    · exact EvsOk.plain h.2.2 x hx
  | [], _, _, x, hx => by cases hx
  | _ :: _, [], h, _, _ => h.elim
theorem evs_ok : ∀ {es : List Expr} {ds : List AV}, EvsOk c env names kd ρ es ds → ∀ (pos : Pos) (A : Around) (X : Addr → Prop) (s : Shared) (Q : List Value → Shared → Prop), Room A c.n → Vs c env names kd X ρ s →
    (∀ vs s', c.Ext s s' → c.Reps X s'.heap vs ds → Q vs s') → wpAny c.M A (spliced (backTo pos (starEach es env))) Q noE s
  | [], [], _, pos, A, X, s, Q, _, _, h => wpAny_items_nil (h [] s (.refl s) .nil)
  | e :: es, d :: ds, he, pos, A, X, s, Q, R, V, h => by
    refine wpAny_items_cons (he.1 A X s _ R V fun v s₁ e₁ r₁ => ?_) (starEach_plain he.2.1)
    refine evs_ok he.2.2 pos A X s₁ _ R (V.ext e₁) fun vs s₂ e₂ r₂ => h _ _ (e₁.trans e₂) (.cons (Rep.ext V.x.xc e₂ r₁) r₂)
  | [], _ :: _, he, _, _, _, _, _, _, _, _ => he.elim
  | _ :: _, [], he, _, _, _, _, _, _, _, _ => he.elim
/-- a call of what a name holds, a function at fi -/
theorem call_name {A : Around} {X : Addr → Prop} {s : Shared} {Q : Value → Shared → Prop} {x : Str} {p pos : Pos} {es : List Expr} {ds : List AV} {fi : Addr} (R : Room A c.n) (V : Vs c env names kd X ρ s) (P : Heap → Prop) (hn : ∀ Q : Value → Shared → Prop, Q (.ref fi) s → wpAny c.M A (eval (.Name x p) env) Q noE s)
    (hf : ∀ h, P h → ∃ o fd, h.get? fi = some o ∧ o.data = .func fd) (hne : es ≠ []) (he : EvsOk c env names kd ρ es ds) (h : ∀ vs s₁, c.Ext s s₁ → c.Reps X s₁.heap vs ds → P s₁.heap ∧ wpAny c.M A (PySem.call (.ref fi) vs) Q noE s₁) : wpAny c.M A (eval (.Call (.Name x p) es [] pos) env) Q noE s := by
  have hp := he.plain
  cases es with
  | nil => exact absurd rfl hne
  | cons e rest =>
    refine wpAny_Call_NameR (hn _ (callWith_of (P := P) (by rw [plain_any hp]; rfl) (fun h' W' => ?_) ?_))
    · obtain ⟨o, fd, ho, hd⟩ := hf h' W'
      refine ⟨.frame, .inl rfl, (Looks.ld (part := none) ho).andThen ?_⟩
      rw [hd]
      exact .now
    · have hs := starEach_plain (rest := rest) (env := env) (hp e List.mem_cons_self)
      have key := evs_ok he pos A X s _ R V h
      rw [hs] at key ⊢
      exact evalArgs_plain key
theorem FnOk.call {k : Nat} {ds : List AV} {d : AV} {x : Str} {p pos : Pos} {es : List Expr} (hf : FnOk c c.n k ds d) (hx : c.gs[k]? = some x) (hg : glob kd x = true) (hne : es ≠ []) (he : EvsOk c env names kd ρ es ds) (hw : CxW c) :
    EvOk c env names kd ρ (.Call (.Name x p) es [] pos) d := by
  intro A X s Q R V h
  refine hide fun G kG => ?_
  obtain ⟨x', f, h1, h2, h3, h4⟩ := hf
  rw [← Option.some.inj (hx.symm.trans h1)] at h2
  exact kG (call_name R V c.W (fun Q hq => Calls.Name_function_global V.fk (V.kd x (eq_of_beq (and_t hg).1)) (Calls.loadGlobal_global (V.gl ▸ hw.glob _ V.wd) h2 hq) (okN_d (and_t hg).2)) h3 hne he fun vs s₁ e₁ r₁ =>
    ⟨e₁.wd V.wd, h4 A X s₁ vs Q R (e₁.wd V.wd) (V.x.ext e₁) r₁ fun v s₂ e₂ r₂ => h v s₂ (e₁.trans e₂) r₂⟩)
end
end NC
end Mine
namespace Mine
noncomputable section NC
section
variable {P : Program} {w : World} {CC : Addr}
theorem Rep.reads {X : Addr → Prop} {h : Heap} {v : Value} {d : AV} (r : Rep P w CC X h v d) (q : isPy d = true) : ∃ as, Reads h v (pyOf d) as :=
  Rep.rec (motive_1 := fun v d _ => isPy d = true → ∃ as, Reads h v (pyOf d) as) (motive_2 := fun v d _ => isPyL d = true → ∃ as, ReadsAll h v (pyOfL d) as) (fun _ => ⟨_, .none⟩) (fun b _ => ⟨_, .bool b⟩) (fun i t _ => ⟨_, .int i t⟩) (fun i t _ => ⟨_, .str i t⟩) (fun _ q => nomatch q)
    (fun _ ⟨_, e⟩ _ ih q => let ⟨_, z⟩ := ih q; ⟨_, .tuple e rfl rfl z⟩) (fun _ ⟨_, e, e2, _, e3⟩ _ ih q => let ⟨_, z⟩ := ih q; ⟨_, .list e e2 e3 z⟩) (fun _ _ _ _ _ _ q => nomatch q) (fun _ _ _ _ _ _ q => nomatch q) (fun _ _ _ _ _ _ q => nomatch q)
    (fun _ => ⟨_, .nil⟩) (fun _ _ ih1 ih2 q => let ⟨_, z⟩ := ih1 (and_t q).1; let ⟨_, y⟩ := ih2 (and_t q).2; ⟨_, .cons z y⟩) r q
theorem valueAt_mem {K : Type} [DecidableEq K] {kv : List (K × Value)} {k : K} {v : Value} (nd : (kv.map (·.1)).Nodup) (h : (k, v) ∈ kv) : valueAt kv k = some v := by
  induction kv with
  | nil => cases h
  | cons p r ih =>
    have nd' := List.nodup_cons.mp (show (p.1 :: r.map (·.1)).Nodup from nd)
    refine (List.mem_cons.mp h).elim (fun e => ?_) fun h => ?_
    · rw [← e]; simp [valueAt]
    · have ne : ¬ p.1 = k := fun q => nd'.1 (q ▸ List.mem_map.mpr ⟨_, h, rfl⟩)
      refine Eq.trans ?_ (ih nd'.2 h)
      simp [valueAt, ne]
theorem DictOf.nodup {K : Type} [DecidableEq K] {knd : KeyKind P w K} {h : Heap} {a : Addr} {kv : List (K × Value)} (x : h.DictOf knd a kv) : (kv.map (·.1)).Nodup := by
  obtain ⟨_, _, _, _, _, _, _, _, n⟩ := x; exact n
/-- along a dict of ints: its entries and the numbers they bear -/
theorem dict_run {K : Type} {X : Addr → Prop} {h : Heap} {M : List (K × Value) → List (K × Int) → Prop} (n : M [] []) (c : ∀ {k v t kv i l}, Rep P w CC X h v (.int i) → v = .int i t → M kv l → M ((k, v) :: kv) ((k, i) :: l)) :
    ∀ {kv : List (K × Value)} {l : List (K × Int)}, kv.map (·.1) = l.map (·.1) → Reps P w CC X h (kv.map (·.2)) (l.map fun p => AV.int p.2) → M kv l
  | [], [] => fun _ _ => n
  | (k, v) :: kv, (k', i) :: l => fun m r => Reps.cons_k (N := fun vs => v :: kv.map (·.2) = vs → M ((k, v) :: kv) ((k', i) :: l)) r (fun v' vs a b e => by
      cases e
      cases (List.cons.inj m).1
      exact Rep.int_k (M := fun v' => v = v' → M ((k, v) :: kv) ((k, i) :: l)) a (fun t e => c a e (dict_run n c (List.cons.inj m).2 b)) rfl) rfl
  | [], _ :: _ => fun m => nomatch m
  | _ :: _, [] => fun m => nomatch m
/-- the pair that stands with an entry -/
theorem dict_pair {K : Type} {X : Addr → Prop} {h : Heap} {kv : List (K × Value)} {l : List (K × Int)} (m : kv.map (·.1) = l.map (·.1)) (r : Reps P w CC X h (kv.map (·.2)) (l.map fun p => AV.int p.2)) : ∀ p ∈ l, ∃ t, (p.1, Value.int p.2 t) ∈ kv :=
  dict_run (M := fun kv l => ∀ p ∈ l, ∃ t, (p.1, Value.int p.2 t) ∈ kv) (fun p q => nomatch q) (fun {k v t kv i l} _ e ih p q => (List.mem_cons.mp q).elim (fun z => ⟨t, by rw [z, e]; exact List.mem_cons_self⟩) fun z => let ⟨t, y⟩ := ih p z; ⟨t, List.mem_cons_of_mem _ y⟩) m r
theorem keq_hits {A : Around} {s : Shared} {X : Addr → Prop} {h : Heap} {kb : List (Int × Value)} {l' : List (Int × Int)} (nd : (kb.map (·.1)).Nodup) (mb : kb.map (·.1) = l'.map (·.1)) (rb : Reps P w CC X h (kb.map (·.2)) (l'.map fun p => AV.int p.2))
    {ka : List (Int × Value)} {l : List (Int × Int)} (m : ka.map (·.1) = l.map (·.1)) (r : Reps P w CC X h (ka.map (·.2)) (l.map fun p => AV.int p.2)) (sub : ∀ p ∈ l, p ∈ l') : KeqHits A s kb ka true :=
  dict_run (M := fun ka l => (∀ p ∈ l, p ∈ l') → KeqHits A s kb ka true) (fun _ => .nil) (fun {k v t kv i l} _ e ih sub => by
    obtain ⟨t', z⟩ := dict_pair mb rb _ (sub _ List.mem_cons_self)
    have q := SeqAt.EqAt.int_int (A := A) (s := s) i t i t'
    rw [show (i == i) = true from beq_self_eq_true i] at q
    exact e ▸ KeqHits.hit (A := A) (s := s) (valueAt_mem nd z) (e := true) q (ih fun p hp => sub p (List.mem_cons_of_mem _ hp))) m r sub
theorem pairs_int {P' : Program} {w' : World} {es : List DictEntry} {kv : List (Int × Value)} (h : Pairs (intKind P w) es kv) : Pairs (intKind P' w') es kv := by
  induction h with
  | nil => exact .nil
  | cons a b r ih => exact .cons a b ih
theorem DictOf.int {P' : Program} {w' : World} {h : Heap} {a : Addr} {kv : List (Int × Value)} (x : h.DictOf (intKind P w) a kv) : h.DictOf (intKind P' w') a kv := by
  obtain ⟨o, es, ep, e1, e2, e3, e4, e5, e6⟩ := x
  exact ⟨o, es, ep, e1, e2, e3, e4, pairs_int e5, e6⟩
theorem keq_dI {A : Around} {s : Shared} {X : Addr → Prop} {a b : Addr} {ka kb : List (Int × Value)} {l l' : List (Int × Int)} (ha : (a == sysModules) = false) (hb : (b == sysModules) = false) (da : s.heap.DictOf (intKind P w) a ka) (db : s.heap.DictOf (intKind P w) b kb)
    (ma : ka.map (·.1) = l.map (·.1)) (mb : kb.map (·.1) = l'.map (·.1)) (ra : Reps P w CC X s.heap (ka.map (·.2)) (l.map fun p => AV.int p.2)) (rb : Reps P w CC X s.heap (kb.map (·.2)) (l'.map fun p => AV.int p.2))
    (hl : l.length = l'.length) (sub : ∀ p ∈ l, p ∈ l') (hu : A.units < cLine) : SeqAt.EqAt A s (.ref a) (.ref b) true := by
  by_cases q : a = b
  · subst q; exact SeqAt.EqAt.same _
  · refine SeqAt.EqAt.of_refs q fun prog w' E Q h => ?_
    have l1 : ka.length = l.length := by simpa using congrArg List.length ma
    have l2 : kb.length = l'.length := by simpa using congrArg List.length mb
    exact keq_eq ha hb (DictOf.int da) (DictOf.int db) hu (fun _ => keq_hits (DictOf.nodup db) mb rb ma ra sub) (by
      have : (ka.length == kb.length && true) = true := by simp; omega
      rw [this]; exact h)
theorem eqAt_intv {A : Around} {s : Shared} {X : Addr → Prop} {h : Heap} {u v : Value} {i : Int} (a : Rep P w CC X h u (.int i)) (b : Rep P w CC X h v (.int i)) : SeqAt.EqAt A s u v true :=
  Rep.int_k a fun t0 => Rep.int_k b fun t1 => by
    have q := SeqAt.EqAt.int_int (A := A) (s := s) i t0 i t1
    rw [show (i == i) = true from beq_self_eq_true i] at q
    exact q
/-- two tuples of four ints and a dict, place by place -/
theorem five_eq {A : Around} {s : Shared} {X : Addr → Prop} {us vs : List Value} {n1 n2 n3 n4 : Int} {l l' : List (Int × Int)} (r : Reps P w CC X s.heap us [.int n1, .int n2, .int n3, .int n4, .dI l]) (r' : Reps P w CC X s.heap vs [.int n1, .int n2, .int n3, .int n4, .dI l']) (hl : l.length = l'.length) (sub : ∀ p ∈ l, p ∈ l') (hu : A.units < cLine) :
    ((List.range (min us.toArray.size vs.toArray.size)).all (fun _ => true) && us.toArray.size == vs.toArray.size) = true ∧ ∀ j (h1 : j < us.toArray.size) (h2 : j < vs.toArray.size), SeqAt.EqAt A s us.toArray[j] vs.toArray[j] true := by
  refine ⟨by rw [List.size_toArray, List.size_toArray, r.length, r'.length]; rfl, fun j h1 h2 => ?_⟩
  have key : ∀ j u v, us[j]? = some u → vs[j]? = some v → SeqAt.EqAt A s u v true := fun j u v => by
    refine Reps.cons_k r fun a0 us p0 r => Reps.cons_k r' fun b0 vs q0 r' => Reps.cons_k r fun a1 us p1 r => Reps.cons_k r' fun b1 vs q1 r' => Reps.cons_k r fun a2 us p2 r => Reps.cons_k r' fun b2 vs q2 r' => Reps.cons_k r fun a3 us p3 r => Reps.cons_k r' fun b3 vs q3 r' => Reps.one_k r fun a4 p4 => Reps.one_k r' fun b4 q4 => ?_
    match j with
    | 0 => exact fun e e' => Option.some.inj e ▸ Option.some.inj e' ▸ eqAt_intv p0 q0
    | 1 => exact fun e e' => Option.some.inj e ▸ Option.some.inj e' ▸ eqAt_intv p1 q1
    | 2 => exact fun e e' => Option.some.inj e ▸ Option.some.inj e' ▸ eqAt_intv p2 q2
    | 3 => exact fun e e' => Option.some.inj e ▸ Option.some.inj e' ▸ eqAt_intv p3 q3
    | 4 => exact fun e e' => Option.some.inj e ▸ Option.some.inj e' ▸ Rep.dI_k p4 fun a ka _ sa da ma ra => Rep.dI_k q4 fun b kb _ sb db mb rb => keq_dI sa sb da db ma mb ra rb hl sub hu
    | _ + 5 => exact fun e => nomatch e
  exact key j _ _ (List.getElem?_eq_getElem h1) (List.getElem?_eq_getElem h2)
/-- == and != of two that are known to be the same -/
theorem eqC_eq {A : Around} {s : Shared} {X : Addr → Prop} {u v : Value} {x y : AV} {Q : Value → Shared → Prop} {E : Value → Shared → Prop} (a : Rep P w CC X s.heap u x) (b : Rep P w CC X s.heap v y) (hc : eqC x y) (hu : A.units + 66 < cLine) (h : Q (.bool true) s) :
    wpAny (model P w) A (compareOp .Eq u v) Q E s := by
  refine hide fun G kG => ?_
  rcases hc with ⟨rfl, hp, hs⟩ | ⟨n1, n2, n3, n4, l, l', rfl, rfl, hl, sub⟩
  · obtain ⟨as, ra⟩ := Rep.reads a hp
    obtain ⟨bs, rb⟩ := Rep.reads b hp
    exact kG (eq_dataH ra rb hs hs (by omega) (by rw [SeqAt.eqv_refl _ (SeqAt.canLay_of_shaped hs)]; exact h))
  · refine kG (Rep.tup_k a fun a0 us _ ta ra => Rep.tup_k b fun b0 vs _ tb rb => ?_)
    have f := five_eq (A := A.in1) ra rb hl sub (show A.units + 1 < _ by omega)
    exact SeqAt.eq_tupleAt (e := fun _ => true) ta.is tb.is (by omega) f.2 (by rw [f.1]; exact h)
theorem eqC_ne {A : Around} {s : Shared} {X : Addr → Prop} {u v : Value} {x y : AV} {Q : Value → Shared → Prop} {E : Value → Shared → Prop} (a : Rep P w CC X s.heap u x) (b : Rep P w CC X s.heap v y) (hc : eqC x y) (hu : A.units + 66 < cLine) (h : Q (.bool false) s) :
    wpAny (model P w) A (compareOp .NotEq u v) Q E s := by
  refine hide fun G kG => ?_
  rcases hc with ⟨rfl, hp, hs⟩ | ⟨n1, n2, n3, n4, l, l', rfl, rfl, hl, sub⟩
  · obtain ⟨as, ra⟩ := Rep.reads a hp
    obtain ⟨bs, rb⟩ := Rep.reads b hp
    exact kG (ne_dataH ra rb hs hs (by omega) (by rw [SeqAt.eqv_refl _ (SeqAt.canLay_of_shaped hs)]; exact h))
  · refine kG (Rep.tup_k a fun a0 us _ ta ra => Rep.tup_k b fun b0 vs _ tb rb => ?_)
    have f := five_eq (A := A.in1) ra rb hl sub (show A.units + 1 < _ by omega)
    exact SeqAt.RcNeAt.tuples (e := fun _ => true) ta.is tb.is (by omega) f.2 P w E Q (by rw [f.1]; exact h)
end
end NC
end Mine
namespace Mine
noncomputable section NC
section
variable {c : Cx} {env : Env} {names : List Str} {kd : Str → Option NameKind} {ρ : Rho}
theorem Ext.tk {c : Cx} {s s' : Shared} (e : c.Ext s s') (t : Nat) : c.Ext s { s' with toks := t } := Ext.trans e (Ext.tok s' t)
theorem ev_var {i : Nat} {x : Str} {d : AV} {pos : Pos} (hn : names[i]? = some x) (hr : ρ[i]? = some (some d)) (ok : okN x = true) : EvOk c env names kd ρ (.Name x pos) d := by
  intro A X s Q R V h
  obtain ⟨v, l, r⟩ := V.vars i x d hn hr
  exact name_Ld V.fk l ok (h v s (.refl s) r)
theorem ev_int {i : Int} {k : Nat} {pos : Pos} : EvOk c env names kd ρ (.Constant (.int i) k pos) (.int i) := by
  intro A X s Q R V h
  exact wpAny_Constant_int (h _ _ (.tok s _) (.int _ _))
theorem ev_str {i : Str} {k : Nat} {pos : Pos} : EvOk c env names kd ρ (.Constant (.str i) k pos) (.str i) := by
  intro A X s Q R V h
  exact wpAny_Constant_str (h _ _ (.tok s _) (.str _ _))
theorem ev_bool {i : Bool} {k : Nat} {pos : Pos} : EvOk c env names kd ρ (.Constant (.bool i) k pos) (.bool i) := by
  intro A X s Q R V h
  exact wpAny_Constant_bool (h _ _ (.refl s) (.bool _))
theorem mul_ok {x y : Int} (h : x.natAbs < 2 ^ 64) : IntMulOk x y := by
  have h1 : ¬ (Builtin.Int.intBits x > shortFactorBits) := by
    have := intBits_le_64 (k := x) (by omega) (by omega)
    unfold shortFactorBits
    omega
  unfold IntMulOk
  simp [h1]
theorem div_ok {x y : Int} (h0 : 0 < y) (h : y < 2 ^ 64) : Builtin.divisionGoesByPylong x y = false := by
  have h2 : y.natAbs.log2 < 64 := by
    rw [Nat.log2_lt (by omega)]
    omega
  have h3 : ¬ ((if y == 0 then 0 else y.natAbs.log2 / 30 + 1) > 300) := by
    split <;> omega
  unfold Builtin.divisionGoesByPylong
  dsimp only
  rw [Bool.and_eq_false_iff]
  exact .inl (decide_eq_false h3)
theorem bin_go {op : Operator} {x y d : AV} {C : Prop} (h : bin2 op x y = some (d, C)) : C → ∀ (A : Around) (X : Addr → Prop) (s s2 : Shared) (u v : Value) (Q : Value → Shared → Prop), c.Ext s s2 → c.Rep X s2.heap u x → c.Rep X s2.heap v y → (∀ v s', c.Ext s s' → c.Rep X s'.heap v d → Q v s') → wpAny c.M A (binaryOp op u v) Q noE s2 := by
  cases op
  · refine oor_k h (fun h => ii_k h fun i j h => some_k h ?_) fun h => ss_k h fun i j h => some_k h ?_
    · exact fun _ A X s s2 u v Q e r r' h => Rep.int_k r fun t => Rep.int_k r' fun t' => PyProof.Rows.add_int (h _ _ (e.tk _) (.int _ _))
    · exact fun hC A X s s2 u v Q e r r' h => Rep.str_k r fun t => Rep.str_k r' fun t' => PyProof.Rows.add_str (fun t' tk => h _ _ (e.tk _) (.str _ _)) hC
  · exact ii_k h fun i j h => some_k h fun _ A X s s2 u v Q e r r' h => Rep.int_k r fun t => Rep.int_k r' fun t' => PyProof.Rows.sub_int' (h _ _ (e.tk _) (.int _ _))
  · exact ii_k h fun i j h => some_k h fun hC A X s s2 u v Q e r r' h => Rep.int_k r fun t => Rep.int_k r' fun t' => PyProof.Rows.mul_int (h _ _ (e.tk _) (.int _ _)) (mul_ok hC)
  · exact absurd h oN
  · exact absurd h oN
  · refine ii_k h fun i j h => some_k h fun hC A X s s2 u v Q e r r' h => Rep.int_k r fun t => Rep.int_k r' fun t' => PyProof.Rows.mod_int' (Int.ne_of_gt hC) ?_
    rw [Int.fmod_eq_emod_of_nonneg _ (Int.le_of_lt hC)]
    exact h _ _ (e.tk _) (.int _ _)
  · exact ii_k h fun i j h => some_k h fun hC A X s s2 u v Q e r r' h => Rep.int_k r fun t => Rep.int_k r' fun t' => PyProof.Rows.pow_int hC.1 hC.2 (h _ _ (e.tk _) (.int _ _))
  · exact ii_k h fun i j h => some_k h fun hC A X s s2 u v Q e r r' h => Rep.int_k r fun t => Rep.int_k r' fun t' => lshift_int_small hC.1 hC.2.1 hC.2.2 (h _ _ (e.tk _) (.int _ _))
  · refine ii_k h fun i j h => some_k h fun hC A X s s2 u v Q e r r' h => Rep.int_k r fun t => Rep.int_k r' fun t' => rshift_int hC ?_
    rw [Int.fdiv_eq_ediv_of_nonneg _ (Int.pow_nonneg (by decide))]
    exact h _ _ (e.tk _) (.int _ _)
  · exact absurd h oN
  · exact ii_k h fun i j h => some_k h fun _ A X s s2 u v Q e r r' h => Rep.int_k r fun t => Rep.int_k r' fun t' => xor_int (h _ _ (e.tk _) (.int _ _))
  · exact absurd h oN
  · refine ii_k h fun i j h => some_k h fun hC A X s s2 u v Q e r r' h => Rep.int_k r fun t => Rep.int_k r' fun t' => PyProof.Rows.floordiv_int (Int.ne_of_gt hC.1) ?_ (.inl (div_ok hC.1 hC.2))
    rw [Int.fdiv_eq_ediv_of_nonneg _ (Int.le_of_lt hC.1)]
    exact h _ _ (e.tk _) (.int _ _)
theorem ev_bin {op : Operator} {l r : Expr} {pos : Pos} {x y z : AV} {C : Prop} (hl : EvOk c env names kd ρ l x) (hr : EvOk c env names kd ρ r y) (hb : bin2 op x y = some (z, C)) (hC : C) :
    EvOk c env names kd ρ (.BinOp l op r pos) z := fun A X s Q R V h =>
  wpAny_BinOp (hl A X s _ R V fun v1 s1 e1 r1 => hr A X s1 _ R (V.ext e1) fun v2 s2 e2 r2 => bin_go hb hC A X s s2 v1 v2 Q (e1.trans e2) (Rep.ext V.x.xc e2 r1) r2 h)
theorem ev_neg {l : Expr} {pos : Pos} {x : Int} (hl : EvOk c env names kd ρ l (.int x)) : EvOk c env names kd ρ (.UnaryOp .USub l pos) (.int (-x)) := fun A X s Q R V h =>
  wpAny_UnaryOp (hl A X s _ R V fun v1 s1 e1 r1 => Rep.int_k r1 fun t => PyProof.Rows.neg_int (h _ _ (e1.tk _) (.int _ _)))
theorem ev_inv {l : Expr} {pos : Pos} {x : Int} (hl : EvOk c env names kd ρ l (.int x)) : EvOk c env names kd ρ (.UnaryOp .Invert l pos) (.int (-x - 1)) := by
  intro A X s Q R V h
  have : Builtin.bitNot x = -x - 1 := by unfold Builtin.bitNot; omega
  refine wpAny_UnaryOp (hl A X s _ R V fun v1 s1 e1 r1 => Rep.int_k r1 fun t => invert_int ?_)
  rw [this]
  exact h _ _ (e1.tk _) (.int _ _)
theorem cmp_go {op : CmpOp} {x y z : AV} {C : Prop} (hb : cmp2 op x y = some (z, C)) : C → ∀ (A : Around) (X : Addr → Prop) (s s2 : Shared) (u v : Value) (Q : Value → Shared → Prop), Room A c.n → c.Ext s s2 → c.Rep X s2.heap u x → c.Rep X s2.heap v y → (∀ v s', c.Ext s s' → c.Rep X s'.heap v z → Q v s') → wpAny c.M A (compareOp op u v) Q noE s2 := by
  have hu : ∀ {A}, Room A c.n → A.units + 66 < cLine := fun R => by have := R.un; omega
  cases op
  · exact oor_k hb (fun h => ii_k h fun i j h => some_k h fun _ A X s s2 u v Q R e r r' h => Rep.int_k r fun t => Rep.int_k r' fun t' => PyProof.Rows.eq_int (h _ _ e (.bool _)))
      fun h => oor_k h (fun h => ss_k h fun i j h => some_k h fun _ A X s s2 u v Q R e r r' h => Rep.str_k r fun t => Rep.str_k r' fun t' => PyProof.Rows.eq_str (h _ _ e (.bool _)))
      fun h => sq_k h fun hC A X s s2 u v Q R e r r' h => eqC_eq r r' hC (hu R) (h _ _ e (.bool _))
  · exact oor_k hb (fun h => ii_k h fun i j h => some_k h fun _ A X s s2 u v Q R e r r' h => Rep.int_k r fun t => Rep.int_k r' fun t' => PyProof.Rows.ne_int (h _ _ e (.bool _)))
      fun h => oor_k h (fun h => ss_k h fun i j h => some_k h fun _ A X s s2 u v Q R e r r' h => Rep.str_k r fun t => Rep.str_k r' fun t' => PyProof.Rows.ne_str (h _ _ e (.bool _)))
      fun h => sq_k h fun hC A X s s2 u v Q R e r r' h => eqC_ne r r' hC (hu R) (h _ _ e (.bool _))
  · exact ii_k hb fun i j h => some_k h fun _ A X s s2 u v Q R e r r' h => Rep.int_k r fun t => Rep.int_k r' fun t' => PyProof.Rows.lt_int (h _ _ e (.bool _))
  · exact ii_k hb fun i j h => some_k h fun _ A X s s2 u v Q R e r r' h => Rep.int_k r fun t => Rep.int_k r' fun t' => PyProof.Rows.le_int (h _ _ e (.bool _))
  · exact ii_k hb fun i j h => some_k h fun _ A X s s2 u v Q R e r r' h => Rep.int_k r fun t => Rep.int_k r' fun t' => PyProof.Rows.gt_int (h _ _ e (.bool _))
  · exact ii_k hb fun i j h => some_k h fun _ A X s s2 u v Q R e r r' h => Rep.int_k r fun t => Rep.int_k r' fun t' => PyProof.Rows.ge_int (h _ _ e (.bool _))
  · exact absurd hb oN
  · exact absurd hb oN
  · exact ss_k hb fun i j h => some_k h fun _ A X s s2 u v Q R e r r' h => Rep.str_k r fun t => Rep.str_k r' fun t' => PyProof.Rows.in_str (h _ _ e (.bool _))
  · exact absurd hb oN
theorem cmp2_bool {op : CmpOp} {x y z : AV} {C : Prop} (hb : cmp2 op x y = some (z, C)) : ∃ b, z = .bool b := by
  have i2 : ∀ {f : Int → Int → Bool}, ii x y (fun i j => some (.bool (f i j), True)) = some (z, C) → ∃ b, z = .bool b := fun h => ii_k (M := fun _ _ => ∃ b, z = .bool b) h fun i j h => some_k (M := fun z _ => ∃ b, z = .bool b) h ⟨_, rfl⟩
  have s2 : ∀ {f : Str → Str → Bool}, ss x y (fun i j => some (.bool (f i j), True)) = some (z, C) → ∃ b, z = .bool b := fun h => ss_k (M := fun _ _ => ∃ b, z = .bool b) h fun i j h => some_k (M := fun z _ => ∃ b, z = .bool b) h ⟨_, rfl⟩
  have q2 : ∀ {b}, sq x y b = some (z, C) → ∃ b, z = .bool b := fun h => sq_k (M := fun z _ => ∃ b, z = .bool b) h ⟨_, rfl⟩
  cases op
  · exact oor_k hb i2 fun h => oor_k h s2 q2
  · exact oor_k hb i2 fun h => oor_k h s2 q2
  · exact i2 hb
  · exact i2 hb
  · exact i2 hb
  · exact i2 hb
  · exact absurd hb oN
  · exact absurd hb oN
  · exact s2 hb
  · exact absurd hb oN
theorem ev_cmp {op : CmpOp} {l r : Expr} {pos : Pos} {x y z : AV} {C : Prop} (hl : EvOk c env names kd ρ l x) (hr : EvOk c env names kd ρ r y) (hp : plainE r = true) (hb : cmp2 op x y = some (z, C)) (hC : C) :
    EvOk c env names kd ρ (.Compare l [op] [r] pos) z := fun A X s Q R V h =>
  wpAny_Compare1 (hl A X s _ R V fun v1 s1 e1 r1 => hr A X s1 _ R (V.ext e1) fun v2 s2 e2 r2 => cmp_go hb hC A X s s2 v1 v2 Q R (e1.trans e2) (Rep.ext V.x.xc e2 r1) r2 h) (marks_plain hp)
theorem tr_cmp {op : CmpOp} {l r : Expr} {pos : Pos} {x y : AV} {b : Bool} {C : Prop} (hl : EvOk c env names kd ρ l x) (hr : EvOk c env names kd ρ r y) (hp : plainE r = true) (hb : cmp2 op x y = some (.bool b, C)) (hC : C) :
    TrOk c env names kd ρ (.Compare l [op] [r] pos) b := fun A X s Q R V h =>
  wpAny_isTrue_Compare1 (hl A X s _ R V fun v1 s1 e1 r1 => hr A X s1 _ R (V.ext e1) fun v2 s2 e2 r2 => cmp_go hb hC A X s s2 v1 v2 _ R (e1.trans e2) (Rep.ext V.x.xc e2 r1) r2 fun v s' e r => Rep.bool_k r (wpAny_truthy_bool (h _ e))) (marks_plain hp)
theorem ev_and {l r : Expr} {pos : Pos} {x y : Bool} (hl : EvOk c env names kd ρ l (.bool x)) (hr : x = true → EvOk c env names kd ρ r (.bool y)) : EvOk c env names kd ρ (.BoolOp .And [l, r] pos) (.bool (x && y)) := by
  intro A X s Q R V h
  refine wpAny_And2 (hl A X s _ R V fun v1 s1 e1 r1 => Rep.bool_k r1 (wpAny_truthy_bool ?_))
  cases x with
  | false => exact h _ _ e1 (.bool _)
  | true => exact hr rfl A X s1 _ R (V.ext e1) fun v s' e r => h v s' (e1.trans e) r
theorem ev_or {l r : Expr} {pos : Pos} {x y : Bool} (hl : EvOk c env names kd ρ l (.bool x)) (hr : x = false → EvOk c env names kd ρ r (.bool y)) : EvOk c env names kd ρ (.BoolOp .Or [l, r] pos) (.bool (x || y)) := by
  intro A X s Q R V h
  refine wpAny_Or2 (hl A X s _ R V fun v1 s1 e1 r1 => Rep.bool_k r1 (wpAny_truthy_bool ?_))
  cases x with
  | true => exact h _ _ e1 (.bool _)
  | false => exact hr rfl A X s1 _ R (V.ext e1) fun v s' e r => h v s' (e1.trans e) r
theorem tr_and {l r : Expr} {pos : Pos} {x y : Bool} (hl : TrOk c env names kd ρ l x) (hr : x = true → TrOk c env names kd ρ r y) : TrOk c env names kd ρ (.BoolOp .And [l, r] pos) (x && y) := by
  intro A X s Q R V h
  refine wpAny_isTrue_BoolOp (wpAny_allTrue_And_cons (hl A X s _ R V fun s1 e1 => ?_))
  cases x with
  | false => exact h _ e1
  | true =>
    refine wpAny_allTrue_And_cons (hr rfl A X s1 _ R (V.ext e1) fun s2 e2 => ?_)
    cases y with
    | false => exact h _ (e1.trans e2)
    | true => exact wpAny_allTrue_And_nil (h _ (e1.trans e2))
theorem tr_or {l r : Expr} {pos : Pos} {x y : Bool} (hl : TrOk c env names kd ρ l x) (hr : x = false → TrOk c env names kd ρ r y) : TrOk c env names kd ρ (.BoolOp .Or [l, r] pos) (x || y) := by
  intro A X s Q R V h
  refine wpAny_isTrue_BoolOp (wpAny_allTrue_Or_cons (hl A X s _ R V fun s1 e1 => ?_))
  cases x with
  | true => exact h _ e1
  | false =>
    refine wpAny_allTrue_Or_cons (hr rfl A X s1 _ R (V.ext e1) fun s2 e2 => ?_)
    cases y with
    | true => exact h _ (e1.trans e2)
    | false => exact wpAny_allTrue_Or_nil (h _ (e1.trans e2))
theorem ev_ife {t l r : Expr} {pos : Pos} {b : Bool} {x y : AV} (ht : TrOk c env names kd ρ t b) (hl : b = true → EvOk c env names kd ρ l x) (hr : b = false → EvOk c env names kd ρ r y) :
    EvOk c env names kd ρ (.IfExp t l r pos) (join2 b x y) := by
  intro A X s Q R V h
  rw [join2_eq] at h
  refine wpAny_IfExp (ht A X s _ R V fun s1 e1 => ?_)
  cases b with
  | true => exact hl rfl A X s1 _ R (V.ext e1) fun v s' e r => h v s' (e1.trans e) r
  | false => exact hr rfl A X s1 _ R (V.ext e1) fun v s' e r => h v s' (e1.trans e) r
theorem fresh_none (s : Shared) : s.heap.get? s.heap.objs.size = none := Heap.get?_none_of_le (Nat.le_refl _)
theorem fresh_not {X : Addr → Prop} {s : Shared} (hw : CxW c) (W : c.W s.heap) (x : XOk c X s) : ¬ X s.heap.objs.size := fun q => by
  rcases x.lt _ q with y | ⟨o, y⟩
  · obtain ⟨o, z⟩ := hw.alive _ _ W (hw.xcwd _ y)
    rw [fresh_none] at z; cases z
  · rw [fresh_none] at y; cases y
theorem ev_tup {es : List Expr} {k : Nat} {pos : Pos} {ds : List AV} (hw : CxW c) (he : EvsOk c env names kd ρ es ds) (hl : ds.length ≤ 1000) : EvOk c env names kd ρ (.Tuple es k pos) (.tup ds) := by
  intro A X s Q R V h
  refine wpAny_Tuple (evs_ok he pos A X s _ R V fun vs s1 e1 r1 => ⟨?_, ?_⟩)
  · rw [sizeLine_eq]; have := r1.length; omega
  · have e2 : c.Ext s1 { s1 with heap := s1.heap.push { cls := .type "tuple", data := .seq vs.toArray } } := Ext.push hw s1 _
    exact h _ _ (e1.trans e2) (.tup (fresh_not hw (e1.wd V.wd) (V.x.ext e1)) ⟨_, Heap.get?_push_size _ rfl⟩ (Reps.ext V.x.xc e2 r1))
theorem ev_lst {es : List Expr} {pos : Pos} {ds : List AV} (hw : CxW c) (he : EvsOk c env names kd ρ es ds) (hl : ds.length ≤ 1000) : EvOk c env names kd ρ (.List es pos) (.lst ds) := by
  intro A X s Q R V h
  refine wpAny_List (evs_ok he pos A X s _ R V fun vs s1 e1 r1 => ⟨?_, ?_⟩)
  · rw [sizeLine_eq]; have := r1.length; omega
  · have e2 : c.Ext s1 { s1 with heap := s1.heap.push { cls := .type "list", data := .seq vs.toArray } } := Ext.push hw s1 _
    exact h _ _ (e1.trans e2) (.lst (fresh_not hw (e1.wd V.wd) (V.x.ext e1)) ⟨_, Heap.get?_push_size _ rfl, rfl, _, rfl⟩ (Reps.ext V.x.xc e2 r1))
theorem sub_int_slice {slice : Expr} {o : Value} {k : Int} {u : Tok} (hs : plainE slice = true) : subscripted slice false o (.int k u) = operate [o, .int k u] (getItem o (.int k u)) := by
  cases slice <;> first | rfl | cases hs
theorem ev_item {a i : Expr} {pos : Pos} {x : AV} {l : List AV} {k : Int} {d : AV} (ha : EvOk c env names kd ρ a x) (hi : EvOk c env names kd ρ i (.int k)) (hp : plainE i = true) (hx : itemsOf x = some l) (h0 : 0 ≤ k) (h1 : k < 2 ^ 62) (hd : l[k.toNat]? = some d) :
    EvOk c env names kd ρ (.Subscript a i pos) d := by
  intro A X s Q R V h
  refine Subscript_ (ha A X s _ R V fun v1 s1 e1 r1 => hi A X s1 _ R (V.ext e1) fun v2 s2 e2 r2 => ?_)
  have r1' := Rep.ext V.x.xc e2 r1
  refine Rep.int_k r2 fun tk => ?_
  have hlen : k.toNat < l.length := (List.getElem?_eq_some_iff.mp hd).1
  refine hide fun G kG => ?_
  cases x <;> first | exact absurd hx oN | cases hx
  · refine Rep.tup_k (M := fun v => v1 = v → G) r1' (fun a vs nx ht rs ev => ?_) rfl
    obtain ⟨v, hv, rv⟩ := rs.get hd
    have hl := rs.length
    refine kG (ev ▸ item_tupleT ht.is (by omega) (by omega) (j := k.toNat) ?_ hv (h _ _ (e1.trans e2) rv) (sub_int_slice hp))
    unfold seqIndex?
    rw [if_neg (Int.not_lt.mpr h0), if_pos]
    simp only [Bool.and_eq_true, decide_eq_true_eq]
    omega
  · refine Rep.lst_k (M := fun v => v1 = v → G) r1' (fun a vs nx ht rs ev => ?_) rfl
    obtain ⟨v, hv, rv⟩ := rs.get hd
    exact kG (ev ▸ tail_any ht.typeIs slot_list_getitem.lookup (wpAny_getItem_list ht h0 (by omega) (by rw [List.getElem?_toArray]; exact hv) (h _ _ (e1.trans e2) rv)) (sub_int_slice hp))
end
end NC
end Mine
namespace Mine
noncomputable section NC
section
variable {c : Cx} {env : Env} {names : List Str} {kd : Str → Option NameKind} {ρ : Rho}
theorem isTrue_byVal {e : Expr} {env : Env} {t : Sem Value} (h : byVal e = true) : isTrue e env t = (do let v ← t; standAt e.pos; holding [v] (truthy v)) := by
  cases e <;> first | rfl | cases h | skip
  rename_i op _ _
  cases op <;> first | rfl | cases h
theorem tr_byVal {e : Expr} {d : AV} {b : Bool} (hb : byVal e = true) (h : EvOk c env names kd ρ e d) (ht : truthOf d = some b) (hl : truthC d) : TrOk c env names kd ρ e b := by
  intro A X s Q R V hq
  refine wpAny_isTrue_value (h A X s _ R V fun v s1 e1 r1 => ?_) (isTrue_byVal hb)
  refine hide fun G kG => ?_
  cases d <;> first | exact absurd ht oN | cases ht
  · exact Rep.bool_k (M := fun u => v = u → G) r1 (fun e => kG (e ▸ wpAny_truthy_bool (hq _ e1))) rfl
  · exact Rep.int_k (M := fun u => v = u → G) r1 (fun t e => kG (e ▸ PyProof.Rows.truthy_int (hq _ (e1.tk _)))) rfl
  · refine Rep.lst_k (M := fun u => v = u → G) r1 (fun a vs nx hli rs e => kG (e ▸ ?_)) rfl
    have hlen := rs.length
    have hl' : vs.length ≤ 2 ^ 20 := hlen ▸ hl
    refine wpAny_truthy_list hli (by rw [List.size_toArray]; omega) ?_
    rw [show vs.toArray.isEmpty = List.isEmpty _ from ?_]
    · exact hq _ (e1.tk _)
    · exact Reps.run (M := fun vs ds => vs.toArray.isEmpty = ds.isEmpty) rfl (fun _ _ _ => rfl) rs
theorem tr_ife {t l r : Expr} {pos : Pos} {b x : Bool} (ht : TrOk c env names kd ρ t b) (hl : b = true → TrOk c env names kd ρ l x) (hr : b = false → TrOk c env names kd ρ r x) :
    TrOk c env names kd ρ (.IfExp t l r pos) x := by
  intro A X s Q R V h
  have key : wpAny c.M A (isTrue t env (eval t env) >>= fun b => if b = true then isTrue l env (eval l env) else isTrue r env (eval r env)) Q noE s := by
    refine wpAny_bind (ht A X s _ R V fun s1 e1 => ?_)
    cases b with
    | true => exact hl rfl A X s1 _ R (V.ext e1) fun s' e => h s' (e1.trans e)
    | false => exact hr rfl A X s1 _ R (V.ext e1) fun s' e => h s' (e1.trans e)
  exact key
/-- the expression, and what it says to a test -/
noncomputable def EvT (c : Cx) (env : Env) (names : List Str) (kd : Str → Option NameKind) (ρ : Rho) (e : Expr) (d : AV) : Prop := EvOk c env names kd ρ e d ∧ ∀ b, truthOf d = some b → truthC d → TrOk c env names kd ρ e b
theorem byV {e : Expr} {d : AV} (hb : byVal e = true) (h : EvOk c env names kd ρ e d) : EvT c env names kd ρ e d := ⟨h, fun _ h1 h2 => tr_byVal hb h h1 h2⟩
noncomputable def Snd (c : Cx) (env : Env) (names : List Str) (kd : Str → Option NameKind) (ρ : Rho) (me : ME) : Prop := ∀ (e : Expr) (d : AV) (C : Prop), chk names kd c.gs c.xs me e = true → mev c.F c.X ρ me = some (d, C) → C → EvT c env names kd ρ e d
noncomputable def SndL (c : Cx) (env : Env) (names : List Str) (kd : Str → Option NameKind) (ρ : Rho) (l : List ME) : Prop := ∀ (es : List Expr) (ds : List AV) (C : Prop), chkL names kd c.gs c.xs l es = true → mevL c.F c.X ρ l = some (ds, C) → C → EvsOk c env names kd ρ es ds ∧ l.length = ds.length
theorem snd_var (i : Nat) : Snd c env names kd ρ (.var i) := fun e d C h hm _ => kName_k fT h fun x p h => byV rfl (ev_var (eq_of_beq (and_t h).1) (mev_var hm) (and_t h).2)
theorem snd_int (i : Int) : Snd c env names kd ρ (.int i) := fun e d C h hm => kConstant_k fT h fun c0 k p h => kcint_k fT h fun j h => deq_k h (some_k hm fun _ => byV rfl ev_int)
theorem snd_str (i : Str) : Snd c env names kd ρ (.str i) := fun e d C h hm => kConstant_k fT h fun c0 k p h => kcstr_k fT h fun j h => beq_k h (some_k hm fun _ => byV rfl ev_str)
theorem snd_bool (i : Bool) : Snd c env names kd ρ (.bool i) := fun e d C h hm => kConstant_k fT h fun c0 k p h => kcbool_k fT h fun j h => beq_k h (some_k hm fun _ => byV rfl ev_bool)
theorem snd_bin (op : Operator) (a b : ME) (ha : Snd c env names kd ρ a) (hb : Snd c env names kd ρ b) : Snd c env names kd ρ (.bin op a b) := fun e d C h hm => kBinOp_k fT h fun l o r p h => deq_k (and_t h).1 (oV_k hm fun x p e1 hm => oV_k hm fun y q e2 hm => oV_k hm fun z r h3 hm => some_k hm fun hC =>
  byV rfl (ev_bin (ha _ x p (and_t (and_t h).2).1 e1 hC.1).1 (hb _ y q (and_t (and_t h).2).2 e2 hC.2.1).1 h3 hC.2.2))
theorem snd_neg (a : ME) (ha : Snd c env names kd ρ a) : Snd c env names kd ρ (.neg a) := fun e d C h hm => kUnaryOp_k fT h fun o l p h => deq_k (and_t h).1 (oI_k hm fun x p e1 hm => some_k hm fun hC => byV rfl (ev_neg (ha _ _ p (and_t h).2 e1 hC).1))
theorem snd_inv (a : ME) (ha : Snd c env names kd ρ a) : Snd c env names kd ρ (.inv a) := fun e d C h hm => kUnaryOp_k fT h fun o l p h => deq_k (and_t h).1 (oI_k hm fun x p e1 hm => some_k hm fun hC => byV rfl (ev_inv (ha _ _ p (and_t h).2 e1 hC).1))
theorem snd_cmp (op : CmpOp) (a b : ME) (ha : Snd c env names kd ρ a) (hb : Snd c env names kd ρ b) : Snd c env names kd ρ (.cmp op a b) := fun e d C h hm => kCompare_k fT h fun l os rs p h => deq_k (and_t h).1 (k1_k fT (and_t (and_t h).2).2 fun r h4 => oV_k hm fun x p e1 hm => oV_k hm fun y q e2 hm => oV_k hm fun z r h3 hm => some_k hm fun hC => by
  have hl := (ha _ x p (and_t (and_t h).2).1 e1 hC.1).1
  have hr := (hb _ y q h4 e2 hC.2.1).1
  refine ⟨ev_cmp hl hr (chk_plain h4) h3 hC.2.2, fun b' hb' _ => ?_⟩
  obtain ⟨b'', rfl⟩ := cmp2_bool h3
  cases hb'
  exact tr_cmp hl hr (chk_plain h4) h3 hC.2.2)
theorem snd_and (a b : ME) (ha : Snd c env names kd ρ a) (hb : Snd c env names kd ρ b) : Snd c env names kd ρ (.and a b) := fun e d C h hm => kBoolOp_k fT h fun o l p h => deq_k (and_t h).1 (k2_k fT (and_t h).2 fun l r h2 => oB_k hm fun x p e1 hm => oB_k hm fun y q e2 hm => some_k hm fun hC =>
  have hl := ha _ _ p (and_t h2).1 e1 hC.1
  have hr := fun hx => hb _ _ q (and_t h2).2 e2 (hC.2 hx)
  ⟨ev_and hl.1 fun hx => (hr hx).1, fun b' hb' _ => Option.some.inj hb' ▸ tr_and (hl.2 _ rfl trivial) fun hx => (hr hx).2 _ rfl trivial⟩)
theorem snd_or (a b : ME) (ha : Snd c env names kd ρ a) (hb : Snd c env names kd ρ b) : Snd c env names kd ρ (.or a b) := fun e d C h hm => kBoolOp_k fT h fun o l p h => deq_k (and_t h).1 (k2_k fT (and_t h).2 fun l r h2 => oB_k hm fun x p e1 hm => oB_k hm fun y q e2 hm => some_k hm fun hC =>
  have hl := ha _ _ p (and_t h2).1 e1 hC.1
  have hr := fun hx => hb _ _ q (and_t h2).2 e2 (hC.2 hx)
  ⟨ev_or hl.1 fun hx => (hr hx).1, fun b' hb' _ => Option.some.inj hb' ▸ tr_or (hl.2 _ rfl trivial) fun hx => (hr hx).2 _ rfl trivial⟩)
theorem snd_ife (t a b : ME) (h0 : Snd c env names kd ρ t) (ha : Snd c env names kd ρ a) (hb : Snd c env names kd ρ b) : Snd c env names kd ρ (.ife t a b) := fun e d C h hm => kIfExp_k fT h fun t0 l r p h => oV_k hm fun z p e0 hm => oV_k hm fun x q e1 hm => oV_k hm fun y r e2 hm => by
  rcases ec : truthOf z with _ | cc
  · rw [ec] at hm; exact absurd hm oN
  rw [ec] at hm
  refine some_k hm fun hC => ?_
  have ht := (h0 _ z p (and_t h).1 e0 hC.1).2 cc ec hC.2.1
  have ha := fun hx => ha _ _ q (and_t (and_t h).2).1 e1 (hC.2.2.1 hx)
  have hb := fun hx => hb _ _ r (and_t (and_t h).2).2 e2 (hC.2.2.2 hx)
  refine ⟨ev_ife ht (fun hx => (ha hx).1) fun hx => (hb hx).1, fun b' hb' hc' => ?_⟩
  rw [join2_eq] at hb' hc'
  refine tr_ife ht (fun hx => ?_) fun hx => ?_
  · subst hx; exact (ha rfl).2 _ hb' hc'
  · subst hx; exact (hb rfl).2 _ hb' hc'
theorem snd_item {a i : ME} (ha : Snd c env names kd ρ a) (hi : Snd c env names kd ρ i) {e : Expr} {d : AV} {C : Prop} {f : List AV → Int → Prop → Prop → AV × Prop} (hf : ∀ l k p q, (f l k p q).2 → p ∧ q ∧ 0 ≤ k ∧ k < 2 ^ 62 ∧ l[k.toNat]? = some (f l k p q).1)
    (h : kSubscript false e (fun a0 j _ => chk names kd c.gs c.xs a a0 && chk names kd c.gs c.xs i j) = true) (hm : oIt (mev c.F c.X ρ a) (mev c.F c.X ρ i) f = some (d, C)) (hC : C) : EvT c env names kd ρ e d :=
  kSubscript_k fT h fun a0 j p h => oIt_k hm fun x p k q l e1 e2 hl e => by
    have z := hf l k p q
    rw [e] at z
    have z := z hC
    exact byV rfl (ev_item (ha a0 x p (and_t h).1 e1 z.1).1 (hi j _ q (and_t h).2 e2 z.2.1).1 (chk_plain (and_t h).2) hl z.2.2.1 z.2.2.2.1 z.2.2.2.2)
theorem snd_call (ok : CxOk c) (f : Nat) (l : List ME) (hl : SndL c env names kd ρ l) : Snd c env names kd ρ (.call f l) := fun e d C h hm => kCall_k fT h fun g es ks pos h => kName_k fT h fun x p0 h => emp_k (and_t h).1 (oV_k hm fun ds p e1 hm => oV_k hm fun d q hq hm => some_k hm fun hC =>
  have h3 := and_t (and_t (and_t h).2).2
  have hs := hl _ ds p (and_t h3.2).2 e1 hC.1
  byV rfl (FnOk.call (ok.f _ _ _ _ hq hC.2) (eq_of_beq (and_t (and_t h).2).1) h3.1 (fun e => by rw [e] at h3; exact absurd (and_t h3.2).1 fT) hs.1 ok.w))
theorem snd_ext (ok : CxOk c) (k : Nat) (l : List ME) (hl : SndL c env names kd ρ l) : Snd c env names kd ρ (.ext k l) := fun e d C h hm => oV_k hm fun ds p e1 hm => oV_k hm fun d' q hq hm => some_k hm fun hC => by
  replace h : ((c.xs k e).elim false fun q => plainE e && (byVal e && (q.2.all (glob kd) && chkL names kd c.gs c.xs l q.1))) = true := h
  rcases he : c.xs k e with _ | w
  · rw [he] at h; exact absurd h fT
  rw [he] at h
  have h2 := and_t (and_t h).2
  have h3 := and_t h2.2
  have hs := hl _ ds p h3.2 e1 hC.1
  exact byV h2.1 (ok.x k e w.1 w.2 he env names kd ρ ds _ _ (List.all_eq_true.mp h3.1) hq hC.2 hs.1 ⟨l, p, h3.2, e1⟩)
theorem snd_tup (ok : CxOk c) (l : List ME) (hl : SndL c env names kd ρ l) : Snd c env names kd ρ (.tup l) := fun e d C h hm => kTuple_k fT h fun es k p h => oV_k hm fun ds p e1 hm => some_k hm fun hC =>
  have hs := hl _ ds p h e1 hC.1
  byV rfl (ev_tup ok.w hs.1 (hs.2 ▸ hC.2))
theorem snd_lst (ok : CxOk c) (l : List ME) (hl : SndL c env names kd ρ l) : Snd c env names kd ρ (.lst l) := fun e d C h hm => kList_k fT h fun es p h => oV_k hm fun ds p e1 hm => some_k hm fun hC =>
  have hs := hl _ ds p h e1 hC.1
  byV rfl (ev_lst ok.w hs.1 (hs.2 ▸ hC.2))
theorem snd_nil : SndL c env names kd ρ [] := fun es ds C h hm => emp_k h (some_k hm fun _ => ⟨trivial, rfl⟩)
theorem snd_cons (a : ME) (r : List ME) (ha : Snd c env names kd ρ a) (hr : SndL c env names kd ρ r) : SndL c env names kd ρ (a :: r) := fun es ds C h hm => kc_k fT h fun e es h => oV_k hm fun x p e1 hm => oV_k hm fun xs q e2 hm => some_k hm fun hC =>
  have h2 := hr _ xs q (and_t h).2 e2 hC.2
  ⟨⟨(ha _ x p (and_t h).1 e1 hC.1).1, chk_plain (and_t h).1, h2.1⟩, congrArg (· + 1) h2.2⟩
theorem getD_item (l : List AV) (k : Int) (p q : Prop) (h : p ∧ q ∧ 0 ≤ k ∧ k < 2 ^ 62 ∧ k.toNat < l.length) : p ∧ q ∧ 0 ≤ k ∧ k < 2 ^ 62 ∧ l[k.toNat]? = some (l.getD k.toNat .none) :=
  ⟨h.1, h.2.1, h.2.2.1, h.2.2.2.1, by rw [List.getD_eq_getElem?_getD, List.getElem?_eq_getElem h.2.2.2.2]; rfl⟩
theorem sound (ok : CxOk c) (me : ME) : Snd c env names kd ρ me :=
  ME.rec (motive_1 := Snd c env names kd ρ) (motive_2 := SndL c env names kd ρ) snd_var snd_int snd_str snd_bool snd_bin snd_neg snd_inv snd_cmp snd_and snd_or snd_ife (snd_tup ok) (snd_lst ok)
    (fun _ _ ha hi _ _ _ h hm hC => snd_item ha hi getD_item h hm hC) (fun _ _ ha hi _ _ _ h hm hC => snd_item ha hi (fun _ _ _ _ h => h) h hm hC) (fun _ _ ha hi _ _ _ h hm hC => snd_item ha hi (fun _ _ _ _ h => h) h hm hC) (fun _ _ ha hi _ _ _ h hm hC => snd_item ha hi (fun _ _ _ _ h => h) h hm hC)
    (snd_call ok) (snd_ext ok) snd_nil snd_cons me
theorem soundL (ok : CxOk c) : ∀ (l : List ME), SndL c env names kd ρ l
  | [] => snd_nil
  | a :: r => snd_cons a r (sound ok a) (soundL ok r)
end
end NC
end Mine
namespace Mine
noncomputable section NC
noncomputable abbrev OwnO := Option (Nat × Addr × AV)
/-- what the frame itself may write to -/
noncomputable def WrS (xc : Addr → Prop) (env : Env) (kd : Str → Option NameKind) (own : OwnO) (b : Addr) : Prop :=
  xc b ∨ b = env.locals ∨ (∃ x, kd x = some .cell ∧ env.cells.lookup x = some b) ∨ ∃ i l, own = some (i, b, l)
theorem PlainList.keep1 {h h' : Heap} {a : Addr} {vs : Array Value} (x : h.PlainList a vs) (k : ∀ o, h.get? a = some o → h'.get? a = some o) : h'.PlainList a vs :=
  let ⟨n, e⟩ := x; ⟨n, k _ e⟩
/-- the frame's own object bears d -/
noncomputable def OwnAt (c : Cx) (X : Addr → Prop) (h : Heap) (a : Addr) : AV → Prop
  | .lst l => ∃ vs : List Value, h.PlainList a vs.toArray ∧ c.Reps X h vs l
  | .dI l => (a == sysModules) = false ∧ ∃ kv : List (Int × Value), h.DictOf (intKind c.P c.w) a kv ∧ kv.map (·.1) = l.map (·.1) ∧ c.Reps X h (kv.map (·.2)) (l.map fun p => AV.int p.2)
  | .dS l => (a == sysModules) = false ∧ ∃ kv : List (Str × Value), h.DictOf (PySem.strKind c.P c.w) a kv ∧ kv.map (·.1) = l.map (·.1) ∧ c.Reps X h (kv.map (·.2)) (l.map fun p => AV.int p.2)
  | _ => False
theorem OwnAt.mono {c : Cx} {X X' : Addr → Prop} {h h' : Heap} {a : Addr} {d : AV} (r : OwnAt c X h a d) (ka : ∀ o, h.get? a = some o → h'.get? a = some o) (k : ∀ b o, ¬ X b → h.get? b = some o → h'.get? b = some o)
    (kx : ∀ b o, X' b → h.get? b = some o → X b) : OwnAt c X' h' a d := by
  cases d <;> first | exact r.elim | skip
  · obtain ⟨vs, p, q⟩ := r; exact ⟨vs, PlainList.keep1 p ka, q.mono k kx⟩
  · obtain ⟨n, vs, p, m, q⟩ := r; exact ⟨n, vs, DictOf.keep1 p ka, m, q.mono k kx⟩
  · obtain ⟨n, vs, p, m, q⟩ := r; exact ⟨n, vs, DictOf.keep1 p ka, m, q.mono k kx⟩
theorem OwnAt.rep {c : Cx} {X X' : Addr → Prop} {h : Heap} {a : Addr} {d : AV} (r : OwnAt c X h a d) (na : ¬ X' a) (kx : ∀ b o, X' b → h.get? b = some o → X b) : c.Rep X' h (.ref a) d := by
  cases d <;> first | exact r.elim | skip
  · obtain ⟨vs, p, q⟩ := r; exact .lst na p.isList (q.mono (fun _ _ _ e => e) kx)
  · obtain ⟨n, vs, p, m, q⟩ := r; exact .dI na n p m (q.mono (fun _ _ _ e => e) kx)
  · obtain ⟨n, vs, p, m, q⟩ := r; exact .dS na n p m (q.mono (fun _ _ _ e => e) kx)
theorem OwnAt.alive {c : Cx} {X : Addr → Prop} {h : Heap} {a : Addr} {d : AV} (r : OwnAt c X h a d) : ∃ o, h.get? a = some o := by
  cases d <;> first | exact r.elim | skip
  · obtain ⟨vs, ⟨_, e⟩, q⟩ := r; exact ⟨_, e⟩
  · obtain ⟨n, vs, p, m, q⟩ := r; exact DictOf.some p
  · obtain ⟨n, vs, p, m, q⟩ := r; exact DictOf.some p
theorem OwnAt.notRec {c : Cx} {X : Addr → Prop} {h : Heap} {a : Addr} {d : AV} (r : OwnAt c X h a d) {o : Obj} (e : h.get? a = some o) : ¬ isRec o := by
  rintro ⟨vs, q, t, hd, _⟩
  cases d <;> first | exact r.elim | skip
  · obtain ⟨vs, ⟨_, e'⟩, _⟩ := r
    rw [e] at e'; cases e'; cases hd
  · obtain ⟨n, vs, ⟨o', _, _, e', _, hd', _⟩, m, _⟩ := r
    rw [e] at e'; cases e'
    rw [hd] at hd'; cases hd'
  · obtain ⟨n, vs, ⟨o', _, _, e', _, hd', _⟩, m, _⟩ := r
    rw [e] at e'; cases e'
    rw [hd] at hd'; cases hd'
/-- the frame's own object: its name, its place -/
structure OwnF (c : Cx) (env : Env) (names : List Str) (xo : Addr → Prop) (s₀ : Shared) (X : Addr → Prop) (s : Shared) (i : Nat) (a : Addr) (l : AV) (x : Str) : Prop where
  nm : names[i]? = some x
  ld : Ld env s.heap x (.ref a)
  x : X a
  nwd : ¬ c.wd a
  new : s₀.heap.get? a = none ∨ xo a
  sep : a ≠ env.locals ∧ ∀ y, env.cells.lookup y ≠ some a
  own : OwnAt c X s.heap a l
/-- a def's frame, between two statements -/
structure St (c : Cx) (env : Env) (names : List Str) (kd : Str → Option NameKind) (xo : Addr → Prop) (s₀ : Shared) (X0 X : Addr → Prop) (ρ : Rho) (own : OwnO) (s : Shared) : Prop where
  v : Vs c env names kd X ρ s
  e : Mine.Ext c.W (fun b => c.xc b ∨ xo b) s₀ s
  xo0 : ∀ a, xo a → X0 a
  up : ∀ a, X0 a → X a
  kde : ∀ x, env.kindOf x = kd x
  loc : s₀.heap.get? env.locals = none ∧ X env.locals ∧ ¬ c.wd env.locals
  ns : ∃ m, s.heap.Ns env.locals m
  cel : ∀ x, kd x = some .cell → ∃ a, env.cells.lookup x = some a ∧ X a ∧ ¬ c.wd a ∧ s₀.heap.get? a = none ∧ ∃ v, s.heap.IsCell a v
  apart : ∀ x y a, x ≠ y → env.cells.lookup x = some a → env.cells.lookup y ≠ some a
  x0 : ∀ a, X0 a → c.xc a ∨ ∃ o, s₀.heap.get? a = some o
  own : ∀ i a l, own = some (i, a, l) → ∃ x, OwnF c env names xo s₀ X s i a l x
structure Stored (env : Env) (x : Str) (v : Value) (h h' : Heap) (tgt : Addr) : Prop where
  keep : ∀ b o, b ≠ tgt → h.get? b = some o → h'.get? b = some o
  alive : ∃ o, h'.get? tgt = some o
  ld : Ld env h' x v
  lds : ∀ y u, y ≠ x → Ld env h y u → Ld env h' y u
  ns : ∃ m, h'.Ns env.locals m
  cells : ∀ a u, h.IsCell a u → ∃ u', h'.IsCell a u'
  tg : tgt = env.locals ∨ ∃ y, env.cells.lookup y = some tgt
  nr : ∀ o, h.get? tgt = some o → ¬ isRec o
theorem Ns.uniq {h : Heap} {a : Addr} {m m' : Str → Option Value} (x : h.Ns a m) (y : h.Ns a m') : m = m' := by
  obtain ⟨o, es, ep, e, hd, _, hf⟩ := x
  obtain ⟨o', es', ep', e', hd', _, hf'⟩ := y
  rw [e] at e'; cases e'
  rw [hd] at hd'; cases hd'
  funext n
  rw [← hf, ← hf']
theorem Ns.notCell {h : Heap} {a b : Addr} {m : Str → Option Value} {v : Option Value} (x : h.Ns a m) (y : h.IsCell b v) : a ≠ b := by
  rintro rfl
  obtain ⟨o, es, ep, e, hd, _, hf⟩ := x
  obtain ⟨o', e', hd'⟩ := y
  rw [e] at e'; cases e'
  rw [hd] at hd'; cases hd'
theorem Ns.notRec {h : Heap} {a : Addr} {m : Str → Option Value} (x : h.Ns a m) {o : Obj} (e : h.get? a = some o) : ¬ isRec o := by
  rintro ⟨vs, q, t, hd, _⟩
  obtain ⟨o', es, ep, e', hd', _⟩ := x
  rw [e] at e'; cases e'
  rw [hd] at hd'; cases hd'
theorem IsCell.notRec {h : Heap} {a : Addr} {v : Option Value} (x : h.IsCell a v) {o : Obj} (e : h.get? a = some o) : ¬ isRec o := by
  rintro ⟨vs, q, t, hd, _⟩
  obtain ⟨o', e', hd'⟩ := x
  rw [e] at e'; cases e'
  rw [hd] at hd'; cases hd'
theorem Ns.notList {h : Heap} {a b : Addr} {m : Str → Option Value} {v : Array Value} (x : h.Ns a m) (y : h.IsList b v) : b ≠ a := by
  rintro rfl
  obtain ⟨o, es, ep, e, hd, _, hf⟩ := x
  obtain ⟨o', e', _, n, hd'⟩ := y
  rw [e] at e'; cases e'
  rw [hd] at hd'; cases hd'
theorem IsCell.notList {h : Heap} {a b : Addr} {u : Option Value} {v : Array Value} (x : h.IsCell a u) (y : h.IsList b v) : b ≠ a := by
  rintro rfl
  obtain ⟨o, e, hd⟩ := x
  obtain ⟨o', e', _, n, hd'⟩ := y
  rw [e] at e'; cases e'
  rw [hd] at hd'; cases hd'
section
variable {c : Cx} {env : Env} {names : List Str} {kd : Str → Option NameKind} {xo : Addr → Prop} {s₀ : Shared} {X0 X : Addr → Prop} {ρ : Rho} {own : OwnO} {s : Shared}
theorem St.store (S : St c env names kd xo s₀ X0 X ρ own s) {A : Around} {x : Str} {v : Value} {Q : Unit → Shared → Prop} (hk : kd x = some .local ∨ kd x = some .cell)
    (h : ∀ h' tk tgt, WrS c.xc env kd none tgt → X tgt → ¬ c.wd tgt → s₀.heap.get? tgt = none → Stored env x v s.heap h' tgt → Q () { s with heap := h', toks := tk }) : wpAny c.M A (storeName env x v) Q noE s := by
  obtain ⟨m, hm⟩ := S.ns
  rcases hk with hk | hk
  · refine wpAny_storeName_local ((S.kde x).trans hk) hm (fun h' hn hs => h h' _ env.locals (.inr (.inl rfl)) S.loc.2.1 S.loc.2.2 S.loc.1 ?_) (by rw [S.v.fk]; rfl)
    refine ⟨fun b o nb e => (hs.2 b nb).trans e, ?_, .inl ⟨(S.kde x).trans hk, _, hn, by simp⟩, fun y u ny l => ?_, ⟨_, hn⟩, fun a u ha => ?_, .inl rfl, fun o e => Ns.notRec hm e⟩
    · obtain ⟨o, _, _, e, _⟩ := hn; exact ⟨o, e⟩
    · rcases l with ⟨hl, m', hm', hv⟩ | ⟨hl, a, ha, hv⟩
      · obtain rfl := Ns.uniq hm hm'
        exact .inl ⟨hl, _, hn, by rw [if_neg ny]; exact hv⟩
      · exact .inr ⟨hl, a, ha, IsCell.keep1 hv fun o e => (hs.2 a (Ns.notCell hm hv).symm).trans e⟩
    · exact ⟨u, IsCell.keep1 ha fun o e => (hs.2 a (Ns.notCell hm ha).symm).trans e⟩
  · obtain ⟨a, h1, h2, h3, h4, u, h5⟩ := S.cel x hk
    refine wpAny_storeName_cell S.v.fk ((S.kde x).trans hk) h1 h5 fun h' hc hs => h h' s.toks a (.inr (.inr (.inl ⟨x, hk, h1⟩))) h2 h3 h4 ?_
    refine ⟨fun b o nb e => (hs.2 b nb).trans e, ?_, .inr ⟨.inl ((S.kde x).trans hk), a, h1, hc⟩, fun y u' ny l => ?_, ⟨m, Ns.keep1 hm fun o e => (hs.2 _ (Ns.notCell hm h5)).trans e⟩, fun b u' hb => ?_, .inr ⟨x, h1⟩, fun o e => IsCell.notRec h5 e⟩
    · obtain ⟨o, e, _⟩ := hc; exact ⟨o, e⟩
    · rcases l with ⟨hl, m', hm', hv⟩ | ⟨hl, b, hb, hv⟩
      · exact .inl ⟨hl, m', Ns.keep1 hm' fun o e => (hs.2 _ (Ns.notCell hm' h5)).trans e, hv⟩
      · refine .inr ⟨hl, b, hb, IsCell.keep1 hv fun o e => (hs.2 b fun q => ?_).trans e⟩
        subst q
        exact S.apart x y b (Ne.symm ny) h1 hb
    · by_cases q : b = a
      · subst q; exact ⟨_, hc⟩
      · exact ⟨u', IsCell.keep1 hb fun o e => (hs.2 b q).trans e⟩
/-- what a stored frozen value leaves -/
theorem St.stored (hw : CxW c) (S : St c env names kd xo s₀ X0 X ρ own s) {x : Str} {v : Value} {d : Option AV} {i : Nat} {h' : Heap} {tk : Nat} {tgt : Addr} (hn : names[i]? = some x) (nd : names.Nodup) (hx : X tgt) (hwd : ¬ c.wd tgt)
    (h0 : s₀.heap.get? tgt = none) (Z : Stored env x v s.heap h' tgt) (r : ∀ d', d = some d' → c.Rep X s.heap v d') (ho : ∀ j a l, own = some (j, a, l) → j ≠ i) : St c env names kd xo s₀ X0 X (ρ.set i d) own { s with heap := h', toks := tk } := by
  have kx : ∀ b o, ¬ X b → s.heap.get? b = some o → h'.get? b = some o := fun b o nb e => Z.keep b o (fun q => nb (q ▸ hx)) e
  have ndx : ∀ (j : Nat) (y : Str), names[j]? = some y → j ≠ i → y ≠ x := fun j y hj hji q => by
    subst q
    exact hji (List.getElem?_inj (List.getElem?_eq_some_iff.mp hj).1 nd |>.mp (hj.trans hn.symm))
  have W' : c.W h' := hw.stable _ _ S.v.wd fun b o wb e => Z.keep b o (fun q => wb.elim (fun wb => hwd (q ▸ wb)) (Z.nr o (q ▸ e))) e
  have kal : ∀ a, (∃ o, s.heap.get? a = some o) → ∃ o, h'.get? a = some o := fun a ⟨o, q⟩ => by
    by_cases t : a = tgt
    · subst t; exact Z.alive
    · exact ⟨o, Z.keep a o t q⟩
  refine ⟨⟨S.v.fk, S.v.gl, S.v.bi, S.v.kd, W', ⟨S.v.x.xc, fun a ha => ?_⟩, S.v.lc, ⟨kal _ S.v.al.1, fun y a ha => kal _ (S.v.al.2 y a ha)⟩, fun j y d' hj hr => ?_⟩, ⟨?_, fun b o nb e => Z.keep b o (fun q => by rw [q, ] at e; rw [h0] at e; cases e) ?_, fun _ => W'⟩, S.xo0, S.up, S.kde, S.loc, Z.ns, fun y hy => ?_, S.apart, S.x0, fun j a l hj => ?_⟩
  · rcases S.v.x.lt a ha with q | ⟨o, q⟩
    · exact .inl q
    · by_cases t : a = tgt
      · subst t; exact .inr Z.alive
      · exact .inr ⟨o, Z.keep a o t q⟩
  · by_cases hji : j = i
    · subst hji
      rw [hn] at hj; cases hj
      have hlen : j < ρ.length := by
        have := (List.getElem?_eq_some_iff.mp hr).1
        simpa using this
      rw [List.getElem?_set_self hlen] at hr
      exact ⟨v, Z.ld, (r d' (Option.some.inj hr)).mono kx fun b o q _ => q⟩
    · rw [List.getElem?_set_ne (Ne.symm hji)] at hr
      obtain ⟨u, l, r'⟩ := S.v.vars j y d' hj hr
      exact ⟨u, Z.lds y u (ndx j y hj hji) l, r'.mono kx fun b o q _ => q⟩
  · obtain ⟨h1, t1, e1⟩ := S.e.same
    exact ⟨h', tk, by rw [e1]⟩
  · exact S.e.keep b o nb e
  · obtain ⟨a, h1, h2, h3, h4, u, h5⟩ := S.cel y hy
    exact ⟨a, h1, h2, h3, h4, Z.cells a u h5⟩
  · obtain ⟨y, h1, h2, h3, h4, h5, h6, h7⟩ := S.own j a l hj
    have nt : a ≠ tgt := fun q => by
      rcases Z.tg with z | ⟨y, z⟩
      · exact h6.1 (q.trans z)
      · exact h6.2 y (q ▸ z)
    exact ⟨y, h1, Z.lds y _ (ndx j y h1 (ho j a l hj)) h2, h3, h4, h5, h6, h7.mono (fun o e => Z.keep a o nt e) kx fun b o q _ => q⟩
theorem St.notOld (S : St c env names kd xo s₀ X0 X ρ own s) (hw : CxW c) {a : Addr} (h : s.heap.get? a = none) : ¬ (c.xc a ∨ xo a) := by
  have wx : ¬ c.xc a := fun q => by obtain ⟨o, z⟩ := hw.alive _ _ S.v.wd (hw.xcwd _ q); rw [h] at z; cases z
  rintro (q | q)
  · exact wx q
  · rcases S.v.x.lt a (S.up a (S.xo0 a q)) with z | ⟨o, z⟩
    · exact wx z
    · rw [h] at z; cases z
theorem St.fresh0 (S : St c env names kd xo s₀ X0 X ρ own s) (hw : CxW c) {a : Addr} (h : s.heap.get? a = none) : s₀.heap.get? a = none := by
  cases q : s₀.heap.get? a with
  | none => rfl
  | some o => have := S.e.keep _ o (S.notOld hw h) q; rw [h] at this; cases this
theorem St.ext (S : St c env names kd xo s₀ X0 X ρ own s) {s' : Shared} (e : c.Ext s s') (hwx : ∀ b, c.xc b → c.wd b) : St c env names kd xo s₀ X0 X ρ own s' := by
  have k : ∀ b o, ¬ c.wd b → s.heap.get? b = some o → s'.heap.get? b = some o := fun b o nb q => e.keep b o (fun y => nb (hwx b y)) q
  refine ⟨S.v.ext e, S.e.trans (e.weaken fun b h => .inl h), S.xo0, S.up, S.kde, S.loc, ?_, fun y hy => ?_, S.apart, S.x0, fun j a l hj => ?_⟩
  · obtain ⟨m, hm⟩ := S.ns
    exact ⟨m, Ns.keep1 hm fun o q => k _ o S.loc.2.2 q⟩
  · obtain ⟨a, h1, h2, h3, h4, u, h5⟩ := S.cel y hy
    exact ⟨a, h1, h2, h3, h4, u, IsCell.keep1 h5 fun o q => k _ o h3 q⟩
  · obtain ⟨y, h1, h2, h3, h4, h5, h6, h7⟩ := S.own j a l hj
    refine ⟨y, h1, ?_, h3, h4, h5, h6, h7.mono (fun o q => k _ o h4 q) (fun b o nx q => e.keep b o (fun z => nx (S.v.x.xc b z)) q) fun _ _ q _ => q⟩
    rcases h2 with ⟨hl, m, hm, hv⟩ | ⟨hl, b, hb, hv⟩
    · exact .inl ⟨hl, m, Ns.keep1 hm fun o q => e.keep _ o S.v.lc.1 q, hv⟩
    · exact .inr ⟨hl, b, hb, IsCell.keep1 hv fun o q => e.keep _ o (S.v.lc.2 _ _ hb) q⟩
end
end NC
end Mine
namespace Mine
noncomputable section NC
/-- what a loop runs over -/
inductive MI where
  | val (e : ME)
  | rng (e : ME)
  | rng2 (a b : ME)
  | rev (e : ME)
  | ext (k : Nat) (l : List ME)
inductive Tg where
  | one (i : Nat)
  | two (i j : Nat)
inductive MS where
  | asg (i : Nat) (e : ME)
  | upk (is : List Nat) (e : ME)
  | aug (i : Nat) (op : Operator) (e : ME)
  | ret (e : ME)
  | ite (t : ME) (a b : List MS)
  | whl (t : ME) (b : List MS)
  | for (tg : Tg) (it : MI) (b : List MS)
  | app (i : Nat) (e : ME)
  | new (i : Nat)
  | newD (i : Nat) (str : Bool)
  | newL (i : Nat) (l : List ME)
  | newR (i : Nat) (a n : ME)
  | dset (i : Nat) (a e : ME)
  | daug (i : Nat) (a : ME) (op : Operator) (e : ME)
  | ifin (a : ME) (i : Nat) (p q : List MS)
  | rvs (i : Nat)
  /-- never reached -/
  | any
  | ext (k : Nat) (l : List ME) (is : List Nat)
theorem swaps_not {e : Expr} {t : Option Expr} {n : Nat} {env : Env} (h : notComp1 e = true) : swapsWith e t n env = pure false := by
  cases e <;> first | rfl | cases h
theorem swapped_not {ts : List Expr} {k : Nat} {pos : Pos} {e : Expr} {env : Env} (h : notComp e = true) : swappedStores [.Tuple ts k pos] e env = pure none := by
  cases e <;> first | rfl | cases h
section
variable (names : List Str) (kd : Str → Option NameKind) (gs : List Str) (xs : Nat → Expr → Option (List Expr × List Str)) (ys : Nat → List Nat → Stmt → Option (List Expr)) (zs : Nat → Expr → Option (List Expr × List Str))
noncomputable def stName (i : Nat) (x : Str) : Bool := names[i]? == some x && (kd x == some .local || kd x == some .cell)
noncomputable def chkT (is : List Nat) : List Expr → Bool := @List.rec Nat (fun _ => List Expr → Bool) (fun es => es.isEmpty) (fun i _ r es => kc false es fun e es => kName false e fun n _ => stName names kd i n && r es) is
noncomputable def chkG : Tg → Expr → Bool
  | .one i, e => kName false e fun n _ => stName names kd i n
  | .two i j, e => kTuple false e fun l _ _ => chkT names kd [i, j] l
/-- a call of a global by its name, without keywords -/
noncomputable def gCall (x : String) (e : Expr) (f : List Expr → Bool) : Bool := kCall false e fun g es ks _ => kName false g fun n _ => ks.isEmpty && (n == Str.ofString x && (glob kd n && f es))
noncomputable def chkI : MI → Expr → Bool
  | .val a, e => chk names kd gs xs a e
  | .rng a, e => gCall kd "range" e fun l => k1 false l fun e => chk names kd gs xs a e
  | .rng2 a b, e => gCall kd "range" e fun l => k2 false l fun e f => chk names kd gs xs a e && chk names kd gs xs b f
  | .rev a, e => gCall kd "reversed" e fun l => k1 false l fun e => chk names kd gs xs a e
  | .ext k l, e => (zs k e).elim false fun q => plainE e && (q.2.all (glob kd) && chkL names kd gs xs l q.1)
/-- x = e -/
noncomputable def sSet (st : Stmt) (f : Str → Expr → Bool) : Bool := ksAssign false st fun ts e _ => k1 false ts fun t => kName false t fun n _ => f n e
/-- x.m(..) -/
noncomputable def sMeth (m : String) (i : Nat) (st : Stmt) (f : List Expr → Bool) : Bool := ksExpr false st fun e _ => kCall false e fun g es ks cpos => kAttribute false g fun o z apos => kName false o fun n _ =>
  ks.isEmpty && (names[i]? == some n && (okN n && (z == Str.ofString m && (apos.endLine == cpos.line && f es))))
mutual
noncomputable def chkS : MS → Stmt → Bool
  | .asg i a, st => sSet st fun x e => stName names kd i x && (notComp1 e && chk names kd gs xs a e)
  | .upk is a, st => ksAssign false st fun ts e _ => k1 false ts fun t => kTuple false t fun n _ _ => chkT names kd is n && (notComp e && chk names kd gs xs a e)
  | .aug i op a, st => ksAugAssign false st fun t o e _ => kName false t fun n _ => stName names kd i n && (okN n && (decide (op = o) && chk names kd gs xs a e))
  | .ret a, st => ksReturn false st fun o _ => o.elim false fun e => chk names kd gs xs a e
  | .ite t a b, st => ksIf false st fun e l r _ => chk names kd gs xs t e && (chkSs a l && chkSs b r)
  | .whl t b, st => ksWhile false st fun e l r _ => r.isEmpty && (chk names kd gs xs t e && chkSs b l)
  | .for tg it b, st => ksFor false st fun te ie l r _ => r.isEmpty && (chkG names kd tg te && (chkI names kd gs xs zs it ie && (plainE ie && chkSs b l)))
  | .app i a, st => sMeth names "append" i st fun l => k1 false l fun e => chk names kd gs xs a e
  | .new i, st => sSet st fun x e => stName names kd i x && kList false e fun l _ => l.isEmpty
  | .newD i _, st => sSet st fun x e => stName names kd i x && kDict false e fun l m _ => l.isEmpty && m.isEmpty
  | .newL i l, st => sSet st fun x e => stName names kd i x && kList false e fun es _ => chkL names kd gs xs l es
  | .newR i a n, st => sSet st fun x e => stName names kd i x && kBinOp false e fun l o r _ => decide (Operator.Mult = o) && ((kList false l fun es _ => k1 false es fun e => chk names kd gs xs a e) && chk names kd gs xs n r)
  | .dset i a e, st => ksAssign false st fun ts v _ => k1 false ts fun t => kSubscript false t fun o k _ => kName false o fun n _ => names[i]? == some n && (okN n && (notComp1 v && (chk names kd gs xs a k && chk names kd gs xs e v)))
  | .daug i a op e, st => ksAugAssign false st fun t o' v _ => kSubscript false t fun o k _ => kName false o fun n _ => names[i]? == some n && (okN n && (plainE k && (decide (op = o') && (chk names kd gs xs a k && chk names kd gs xs e v))))
  | .ifin a i p r, st => ksIf false st fun t l m _ => kCompare false t fun k os rs _ => k1 false rs fun d => kName false d fun n _ => decide ([CmpOp.In] = os) && (names[i]? == some n && (okN n && (chk names kd gs xs a k && (chkSs p l && chkSs r m))))
  | .rvs i, st => sMeth names "reverse" i st fun l => l.isEmpty
  | .any, _ => true
  | .ext k l is, st => (ys k is st).elim false fun es => chkL names kd gs xs l es
noncomputable def chkSs : List MS → List Stmt → Bool
  | [], es => es.isEmpty
  | a :: l, es => kc false es fun e es => chkS a e && chkSs l es
end
end
section
variable {names : List Str} {kd : Str → Option NameKind} {gs : List Str} {xs : Nat → Expr → Option (List Expr × List Str)} {ys : Nat → List Nat → Stmt → Option (List Expr)} {zs : Nat → Expr → Option (List Expr × List Str)} {st : Stmt} {i : Nat}
@[elab_as_elim] theorem chkT_k {is : List Nat} {ts : List Expr} {M : List Expr → Prop} (h : chkT names kd (i :: is) ts = true) (k : ∀ y p r, stName names kd i y = true → chkT names kd is r = true → M (.Name y p :: r)) : M ts :=
  kc_k fT h fun e r h => kName_k (M := fun e => M (e :: r)) fT h fun y p h => k y p r (and_t h).1 (and_t h).2
@[elab_as_elim] theorem gCall_k {x : String} {e : Expr} {f : List Expr → Bool} {M : Expr → Prop} (h : gCall kd x e f = true) (k : ∀ p l pos, glob kd (Str.ofString x) = true → f l = true → M (.Call (.Name (Str.ofString x) p) l [] pos)) : M e :=
  kCall_k fT h fun g es ks pos h => kName_k (M := fun g => M (.Call g es ks pos)) fT h fun n p h => emp_k (M := fun ks => M (.Call (.Name n p) es ks pos)) (and_t h).1
    (beq_k (M := fun n => glob kd n = true → M (.Call (.Name n p) es [] pos)) (and_t (and_t h).2).1 (fun hg => k p es pos hg (and_t (and_t (and_t h).2).2).2) (and_t (and_t (and_t h).2).2).1)
@[elab_as_elim] theorem sSet_k {f : Str → Expr → Bool} {M : Stmt → Prop} (h : sSet st f = true) (k : ∀ y p e pos, f y e = true → M (.Assign [.Name y p] e pos)) : M st :=
  ksAssign_k fT h fun ts e pos h => k1_k (M := fun ts => M (.Assign ts e pos)) fT h fun t h => kName_k (M := fun t => M (.Assign [t] e pos)) fT h fun y p h => k y p e pos h
@[elab_as_elim] theorem sMeth_k {m : String} {f : List Expr → Bool} {M : Stmt → Prop} (h : sMeth names m i st f = true) (k : ∀ y p apos l cpos pos, names[i]? = some y → okN y = true → (apos.endLine == cpos.line) = true → f l = true → M (.Expr (.Call (.Attribute (.Name y p) (Str.ofString m) apos) l [] cpos) pos)) : M st :=
  ksExpr_k fT h fun e pos h => kCall_k (M := fun e => M (.Expr e pos)) fT h fun g es ks cpos h => kAttribute_k (M := fun g => M (.Expr (.Call g es ks cpos) pos)) fT h fun o z apos h => kName_k (M := fun o => M (.Expr (.Call (.Attribute o z apos) es ks cpos) pos)) fT h fun y p h =>
    have h2 := and_t (and_t (and_t h).2).2
    emp_k (M := fun ks => M (.Expr (.Call (.Attribute (.Name y p) z apos) es ks cpos) pos)) (and_t h).1 (beq_k (M := fun z => M (.Expr (.Call (.Attribute (.Name y p) z apos) es [] cpos) pos)) (and_t h2.2).1
      (k y p apos es cpos pos (eq_of_beq (and_t (and_t h).2).1) h2.1 (and_t (and_t h2.2).2).1 (and_t (and_t h2.2).2).2))
theorem chkSs_mk {m : MS} {ms : List MS} {ss : List Stmt} (h : chkS names kd gs xs ys zs m st = true) (h2 : chkSs names kd gs xs ys zs ms ss = true) : chkSs names kd gs xs ys zs (m :: ms) (st :: ss) = true := by
  show (chkS names kd gs xs ys zs m st && chkSs names kd gs xs ys zs ms ss) = true
  rw [h, h2]; rfl
theorem ext_mk {k : Nat} {is : List Nat} (h : ys k is st = some []) : chkS names kd gs xs ys zs (.ext k [] is) st = true := by
  show ((ys k is st).elim false fun es => chkL names kd gs xs [] es) = true
  rw [h]; rfl
/-- a statement told by itself -/
def isSt (nst st : Stmt) : Option (List Expr) := open Classical in if st = nst then some [] else none
theorem isSt_t {nst st : Stmt} {es : List Expr} (h : isSt nst st = some es) : st = nst := by
  unfold isSt at h
  by_cases q : st = nst
  · exact q
  · rw [if_neg q] at h; exact absurd h oN
theorem isSt_self (st : Stmt) : isSt st st = some [] := if_pos rfl
theorem ext_k {k : Nat} {l : List ME} {is : List Nat} {M : Prop} (h : chkS names kd gs xs ys zs (.ext k l is) st = true) (K : ∀ es, ys k is st = some es → chkL names kd gs xs l es = true → M) : M := by
  replace h : ((ys k is st).elim false fun es => chkL names kd gs xs l es) = true := h
  rcases he : ys k is st with _ | es
  · rw [he] at h; exact absurd h fT
  · rw [he] at h; exact K es he h
@[elab_as_elim] theorem chkSs_k {m : MS} {ms : List MS} {ss : List Stmt} {M : List Stmt → Prop} (h : chkSs names kd gs xs ys zs (m :: ms) ss = true) (k : ∀ st r, chkS names kd gs xs ys zs m st = true → chkSs names kd gs xs ys zs ms r = true → M (st :: r)) : M ss :=
  kc_k fT h fun st r h => k st r (and_t h).1 (and_t h).2
end
inductive Out where
  | next | brk | cont
  | ret (d : AV)
/-- the loop's own object I walks ds; hb: the heap as it was when I was made -/
structure Itr (c : Cx) (A : Around) (tgt : Expr) (I : Addr) (hb : Heap) (X1 : Addr → Prop) (ds : List AV) (S : Nat → Heap → Prop) : Prop where
  frame : ∀ i h h', S i h → (∀ b o, (∃ o', hb.get? b = some o') → (b = I ∨ ¬ X1 b) → h.get? b = some o → h'.get? b = some o) → S i h'
  item : ∀ i d (s : Shared) (Q : Value → Shared → Prop), S i s.heap → ds[i]? = some d → (∀ v h' tk, (∀ b o, b ≠ I → s.heap.get? b = some o → h'.get? b = some o) →
      (∀ X2 : Addr → Prop, (∀ b o, hb.get? b = some o → X2 b → X1 b) → (∀ b, s.heap.get? b = none → ¬ X2 b) → c.Rep X2 h' v d) → S (i + 1) h' → Q v { s with heap := h', toks := tk }) →
    wpAny c.M A (pyNext (.ref I)) (fun r s₁ => ∃ v, r = some v ∧ wpAny c.M A (letOwnedTupleGo tgt (.ref I) v) (fun _ s₂ => Q v s₂) noE s₁) noE s
  done : ∀ (s : Shared) (Q : Shared → Prop), S ds.length s.heap → (∀ h' tk, (∀ b o, b ≠ I → s.heap.get? b = some o → h'.get? b = some o) → Q { s with heap := h', toks := tk }) →
    wpAny c.M A (pyNext (.ref I)) (fun r s₁ => r = none ∧ Q s₁) noE s
  alive : ∀ i h, S i h → ∃ o, h.get? I = some o
  nr : ∀ i h, S i h → ∀ o, h.get? I = some o → ¬ isRec o
  self : (∃ y p, tgt = .Name y p) → ∀ i (s : Shared) (Q : Value → Shared → Prop) (E : Value → Shared → Prop), S i s.heap → Q (.ref I) s → wpAny c.M A (pyIter (.ref I)) Q E s
noncomputable def ItOk (c : Cx) (env : Env) (names : List Str) (kd : Str → Option NameKind) (ρ : Rho) (e : Expr) (tgt : Expr) (ds : List AV) : Prop :=
  ∀ (A : Around) (X : Addr → Prop) (s : Shared) (Q : Value → Shared → Prop), Room A c.n → Vs c env names kd X ρ s →
    (∀ I S s', c.Ext s s' → s.heap.get? I = none → ¬ X I → ¬ c.wd I → I ≠ env.locals → (∀ x, env.cells.lookup x ≠ some I) → Itr c A tgt I s'.heap (fun b => X b ∨ b = I) ds S → S 0 s'.heap → Q (.ref I) s') →
    wpAny c.M A (eval e env) (fun x s₁ => wpAny c.M A (pyIter x) Q noE s₁) noE s
end NC
end Mine
namespace Mine
noncomputable section NC
/-- the fixed surroundings of a def's body -/
structure Sx where
  c : Cx
  env : Env
  names : List Str
  kd : Str → Option NameKind
  s₀ : Shared
  X0 : Addr → Prop
  xo : Addr → Prop
  ys : Nat → List Nat → Stmt → Option (List Expr)
  zs : Nat → Expr → Option (List Expr × List Str)
noncomputable abbrev Sx.St (x : Sx) (X : Addr → Prop) (ρ : Rho) (own : OwnO) (s : Shared) : Prop := Mine.St x.c x.env x.names x.kd x.xo x.s₀ x.X0 X ρ own s
noncomputable abbrev Sx.Wr (x : Sx) (own : OwnO) (b : Addr) : Prop := WrS x.c.xc x.env x.kd own b
noncomputable abbrev Sx.chkSs (x : Sx) (ms : List MS) (ss : List Stmt) : Bool := Mine.chkSs x.names x.kd x.c.gs x.c.xs x.ys x.zs ms ss
noncomputable abbrev Sx.chkS (x : Sx) (ms : MS) (ss : Stmt) : Bool := Mine.chkS x.names x.kd x.c.gs x.c.xs x.ys x.zs ms ss
structure SxOk (x : Sx) : Prop where
  c : CxOk x.c
  nd : x.names.Nodup
structure Stp (x : Sx) (X : Addr → Prop) (own : OwnO) (s : Shared) (X' : Addr → Prop) (own' : OwnO) (s' : Shared) : Prop where
  keep : ∀ b o, ¬ x.Wr own b → s.heap.get? b = some o → s'.heap.get? b = some o
  xx : ∀ b o, s.heap.get? b = some o → X' b → X b
  ww : ∀ b o, s.heap.get? b = some o → x.Wr own' b → x.Wr own b
  xm : ∀ b, X b → ¬ x.Wr own b → X' b
noncomputable def OutOk (c : Cx) (X0 : Addr → Prop) (h : Heap) : Flow → Out → Prop
  | .next, .next => True
  | .brk, .brk => True
  | .cont, .cont => True
  | .ret v, .ret d => c.Rep X0 h v d
  | _, _ => False
noncomputable abbrev PostT := Out → Rho → OwnO → Prop
noncomputable def ExQ (x : Sx) (Post : PostT) (X : Addr → Prop) (own : OwnO) (s : Shared) (fl : Flow) (s' : Shared) : Prop :=
  ∃ o ρ' own' X', Post o ρ' own' ∧ OutOk x.c x.X0 s'.heap fl o ∧ x.St X' ρ' own' s' ∧ Stp x X own s X' own' s'
noncomputable def Ex (x : Sx) (ms : List MS) (ρ : Rho) (own : OwnO) (Post : PostT) : Prop :=
  ∀ ss, x.chkSs ms ss = true → ∀ (A : Around) (s : Shared) (X : Addr → Prop), Room A x.c.n → x.St X ρ own s → wpAny x.c.M A (execs ss x.env) (ExQ x Post X own s) noE s
noncomputable def Seq (x : Sx) (ms : List MS) (Post : PostT) : PostT := fun o ρ own => match o with
  | .next => Ex x ms ρ own Post
  | o => Post o ρ own
section
variable {x : Sx} {X X' X'' : Addr → Prop} {ρ ρ' : Rho} {own own' own'' : OwnO} {s s' s'' : Shared} {Post : PostT} {ms : List MS}
theorem Mine.St.wrX (S : x.St X ρ own s) {b : Addr} (h : x.Wr own b) : X b := by
  rcases h with h | rfl | ⟨y, hy, hl⟩ | ⟨i, l, e⟩
  · exact S.v.x.xc b h
  · exact S.loc.2.1
  · obtain ⟨a, h1, h2, _⟩ := S.cel y hy
    rw [hl] at h1; cases h1; exact h2
  · obtain ⟨_, _, _, h3, _⟩ := S.own i b l e
    exact h3
theorem Stp.refl : Stp x X own s X own s := ⟨fun _ _ _ e => e, fun _ _ _ e => e, fun _ _ _ e => e, fun _ e _ => e⟩
theorem Stp.trans (S : x.St X ρ own s) (a : Stp x X own s X' own' s') (b : Stp x X' own' s' X'' own'' s'') : Stp x X own s X'' own'' s'' := by
  refine ⟨fun q o n e => ?_, fun q o e h => ?_, fun q o e h => ?_, fun q h n => b.xm q (a.xm q h n) fun y => ?_⟩
  · exact b.keep q o (fun y => n (a.ww q o e y)) (a.keep q o n e)
  · by_cases n : x.Wr own q
    · exact Mine.St.wrX S n
    · exact a.xx q o e (b.xx q o (a.keep q o n e) h)
  · by_cases n : x.Wr own q
    · exact n
    · exact a.ww q o e (b.ww q o (a.keep q o n e) h)
  · rcases S.v.x.lt q h with z | ⟨o, z⟩
    · exact n (.inl z)
    · exact n (a.ww q o z y)
theorem ExQ.trans (S : x.St X ρ own s) (a : Stp x X own s X' own' s') {fl : Flow} (b : ExQ x Post X' own' s' fl s'') : ExQ x Post X own s fl s'' := by
  obtain ⟨o, ρ', o', X1, h1, h2, h3, h4⟩ := b
  exact ⟨o, ρ', o', X1, h1, h2, h3, a.trans S h4⟩
theorem Stp.ext (hw : CxW x.c) (e : x.c.Ext s s') : Stp x X own s X own s' := ⟨fun b o n q => e.keep b o (fun y => n (.inl y)) q, fun _ _ _ e => e, fun _ _ _ e => e, fun _ e _ => e⟩
theorem Ex_nil (h : Post .next ρ own) : Ex x [] ρ own Post := by
  intro ss hs A s X R S
  exact emp_k hs (wpAny_execs_nil ⟨.next, ρ, own, X, h, trivial, S, .refl⟩)
noncomputable def Nxt (x : Sx) (ms : List MS) (Post : PostT) (X : Addr → Prop) (own : OwnO) (s : Shared) (fl : Flow) (s' : Shared) : Prop :=
  (fl = .next ∧ ∃ ρ' own' X', x.St X' ρ' own' s' ∧ Stp x X own s X' own' s' ∧ Ex x ms ρ' own' Post) ∨ (fl ≠ .next ∧ ExQ x Post X own s fl s')
theorem Nxt.of_seq {fl : Flow} (h : ExQ x (Seq x ms Post) X own s fl s') : Nxt x ms Post X own s fl s' := by
  obtain ⟨o, ρ', o', X1, h1, h2, h3, h4⟩ := h
  cases o with
  | next =>
    cases fl <;> first | exact h2.elim | exact .inl ⟨rfl, ρ', o', X1, h3, h4, h1⟩
  | brk => cases fl <;> first | exact h2.elim | exact .inr ⟨by simp, .brk, ρ', o', X1, h1, h2, h3, h4⟩
  | cont => cases fl <;> first | exact h2.elim | exact .inr ⟨by simp, .cont, ρ', o', X1, h1, h2, h3, h4⟩
  | ret d => cases fl <;> first | exact h2.elim | exact .inr ⟨by simp, .ret d, ρ', o', X1, h1, h2, h3, h4⟩
/-- on to the statements behind -/
theorem Nxt.go {A : Around} {ss : List Stmt} (hs : x.chkSs ms ss = true) (R : Room A x.c.n) (S : x.St X ρ own s) {fl : Flow} (h1 : Nxt x ms Post X own s fl s') : match (motive := Flow → Prop) fl with | .next => wpAny x.c.M A (execs ss x.env) (ExQ x Post X own s) noE s' | f => ExQ x Post X own s f s' := by
  refine h1.elim (fun ⟨e, ρ', own', X1, S1, a1, h2⟩ => ?_) fun ⟨hne, h2⟩ => ?_
  · rw [e]; exact wpAny_mono (h2 ss hs A s' X1 R S1) (fun fl s2 h3 => ExQ.trans S a1 h3) fun _ _ e => e
  · cases fl <;> first | exact absurd rfl hne | exact h2
theorem Ex_cons {m : MS} (h : ∀ st, x.chkS m st = true → ∀ (A : Around) (s : Shared) (X : Addr → Prop), Room A x.c.n → x.St X ρ own s → wpAny x.c.M A (exec st x.env) (Nxt x ms Post X own s) noE s) : Ex x (m :: ms) ρ own Post := fun ss hs A s X R S =>
  chkSs_k hs fun a b hs1 hs2 => wpAny_execs_cons (wpAny_mono (h a hs1 A s X R S) (fun fl s1 => Nxt.go hs2 R S) fun _ _ e => e)
theorem Ex.mono {Post' : PostT} (h : Ex x ms ρ own Post) (hp : ∀ o ρ own, Post o ρ own → Post' o ρ own) : Ex x ms ρ own Post' := fun ss hs A s X R S =>
  wpAny_mono (h ss hs A s X R S) (fun fl s1 ⟨o, ρ', o', X1, h1, h2, h3, h4⟩ => ⟨o, ρ', o', X1, hp _ _ _ h1, h2, h3, h4⟩) fun _ _ e => e
theorem stName_of {names : List Str} {kd : Str → Option NameKind} {i : Nat} {y : Str} (h : stName names kd i y = true) : names[i]? = some y ∧ (kd y = some .local ∨ kd y = some .cell) := by
  exact ⟨eq_of_beq (and_t h).1, (Bool.or_eq_true_iff.mp (and_t h).2).imp eq_of_beq eq_of_beq⟩
theorem Stp.store {A : Around} (ok : SxOk x) (S : x.St X ρ own s) {y : Str} {v : Value} {d : AV} {i : Nat} {Q : Unit → Shared → Prop} (hs : stName x.names x.kd i y = true) (r : x.c.Rep X s.heap v d) (ho : ∀ j a l, own = some (j, a, l) → j ≠ i)
    (h : ∀ s', x.St X (ρ.set i (some d)) own s' → Stp x X own s X own s' → Q () s') : wpAny x.c.M A (storeName x.env y v) Q noE s := by
  obtain ⟨hn, hk⟩ := stName_of hs
  refine St.store S hk fun h' tk tgt hwr hx hwd h0 Z => h _ (St.stored ok.c.w S hn ok.nd hx hwd h0 Z (fun _ q => Option.some.inj q ▸ r) ho) ⟨fun b o nb e => Z.keep b o (fun q => nb ?_) e, fun _ _ _ e => e, fun _ _ _ e => e, fun _ e _ => e⟩
  subst q
  rcases hwr with q | q | q | ⟨_, _, q⟩
  · exact .inl q
  · exact .inr (.inl q)
  · exact .inr (.inr (.inl q))
  · cases q
theorem St.extS (ok : SxOk x) (S : x.St X ρ own s) (e : x.c.Ext s s') : x.St X ρ own s' := St.ext S e ok.c.w.xcwd
/-- x = e -/
theorem Ex_asg (ok : SxOk x) {i : Nat} {e : ME} {d : AV} {C : Prop} (hm : mev x.c.F x.c.X ρ e = some (d, C)) (hC : C) (ho : ∀ j a l, own = some (j, a, l) → j ≠ i) (h : Ex x ms (ρ.set i (some d)) own Post) : Ex x (.asg i e :: ms) ρ own Post :=
  Ex_cons fun st hs A s X R S => sSet_k hs fun y p e0 pos hs =>
    wpAny_Assign_Name ((sound ok.c e e0 d C (and_t (and_t hs).2).2 hm hC).1 A X s _ R S.v fun v s1 e1 r1 =>
      Stp.store ok (St.extS ok S e1) (and_t hs).1 r1 ho fun s2 S2 a2 => .inl ⟨rfl, _, _, X, S2, (Stp.ext ok.c.w e1).trans S a2, h⟩) (swaps_not (and_t (and_t hs).2).1)
/-- return e -/
theorem Ex_ret (ok : SxOk x) {e : ME} {d : AV} {C : Prop} (hm : mev x.c.F x.c.X ρ e = some (d, C)) (hC : C) (h : Post (.ret d) ρ own) : Ex x (.ret e :: ms) ρ own Post :=
  Ex_cons fun st hs A s X R S => ksReturn_k fT hs fun o pos hs => ko_k fT hs fun e0 hs =>
    wpAny_Return_some ((sound ok.c e _ d C hs hm hC).1 A X s _ R S.v fun v s1 e1 r1 =>
      .inr ⟨nofun, .ret d, ρ, own, X, h, r1.mono (fun _ _ _ e => e) fun b _ q _ => S.up b q, St.extS ok S e1, Stp.ext ok.c.w e1⟩)
/-- if t: a else: b -/
theorem Ex_ite (ok : SxOk x) {t : ME} {a b : List MS} {z : AV} {bb : Bool} {C : Prop} (hm : mev x.c.F x.c.X ρ t = some (z, C)) (hC : C) (hz : truthOf z = some bb) (hz' : truthC z)
    (ha : bb = true → Ex x a ρ own (Seq x ms Post)) (hb : bb = false → Ex x b ρ own (Seq x ms Post)) : Ex x (.ite t a b :: ms) ρ own Post := by
  refine Ex_cons fun st hs A s X R S => ksIf_k fT hs fun e0 l0 r0 pos hs => ?_
  refine wpAny_If ((sound ok.c t _ z C (and_t hs).1 hm hC).2 bb hz hz' A X s _ R S.v fun s1 e1 => ?_)
  have S1 := St.extS ok S e1
  have a1 := Stp.ext (X := X) (own := own) ok.c.w e1
  cases bb with
  | true => exact wpAny_mono (ha rfl _ (and_t (and_t hs).2).1 A s1 X R S1) (fun fl s2 h2 => Nxt.of_seq (ExQ.trans S a1 h2)) fun _ _ e => e
  | false => exact wpAny_mono (hb rfl _ (and_t (and_t hs).2).2 A s1 X R S1) (fun fl s2 h2 => Nxt.of_seq (ExQ.trans S a1 h2)) fun _ _ e => e
/-- x op= e -/
theorem Ex_aug (ok : SxOk x) {i : Nat} {op : Operator} {e : ME} {d0 d d' : AV} {C C' : Prop} (hr : ρ[i]? = some (some d0)) (hm : mev x.c.F x.c.X ρ e = some (d, C)) (hC : C) (hb : bin2 op d0 d = some (d', C')) (hC' : C')
    (hop : op = .Add ∨ op = .Sub) (hint : ∃ j, d0 = .int j)
    (ho : ∀ j a l, own = some (j, a, l) → j ≠ i) (h : Ex x ms (ρ.set i (some d')) own Post) : Ex x (.aug i op e :: ms) ρ own Post := by
  refine Ex_cons fun st hs A s X R S => ksAugAssign_k fT hs fun t o e0 pos hs => kName_k fT hs fun y p hs => deq_k (and_t (and_t (and_t hs).2).2).1 ?_
  have h1 := (and_t hs).1
  have h3 := (and_t (and_t (and_t hs).2).2).2
  refine hide fun G kG => ?_
  obtain ⟨v0, l0, r0⟩ := S.v.vars i _ d0 (stName_of h1).1 hr
  obtain ⟨j, rfl⟩ := hint
  refine kG (wpAny_AugAssign_Name (load_Ld S.v.fk l0 (and_t (and_t hs).2).1 ((sound ok.c e e0 d C h3 hm hC).1 A X s _ R S.v fun v s1 e1 r1 => ?_)))
  have fin : ∀ (y : Int) (tk : Tok), AV.int y = d' → wpAny x.c.M A (storeName x.env _ (.int y tk)) (fun _ => Nxt x ms Post X own s .next) noE { s1 with toks := s1.toks + 1 } := fun y tk hy =>
    have e2 : x.c.Ext s { s1 with toks := s1.toks + 1 } := e1.tk _
    Stp.store ok (St.extS ok S e2) h1 (.int _ _) ho fun s2 S2 a2 => .inl ⟨rfl, _, _, X, S2, (Stp.ext ok.c.w e2).trans S a2, hy ▸ h⟩
  rcases hop with rfl | rfl
  · refine oor_k hb (fun hb => oInt_k (M := fun d => x.c.Rep X s1.heap v d → _) (show oInt d (fun i => some (AV.int (j + i), True)) = some (d', C') from hb) (fun y hb r1 => ?_) r1) fun hb => absurd hb oN
    exact Rep.int_k r0 fun t0 => Rep.int_k r1 fun t1 => PyProof.Rows.iadd_int (fin _ _ (congrArg Prod.fst (Option.some.inj hb)))
  · refine oInt_k (M := fun d => x.c.Rep X s1.heap v d → _) (show oInt d (fun i => some (AV.int (j - i), True)) = some (d', C') from hb) (fun y hb r1 => ?_) r1
    exact Rep.int_k r0 fun t0 => Rep.int_k r1 fun t1 => PyProof.Rows.isub_int (fin _ _ (congrArg Prod.fst (Option.some.inj hb)))
end
end NC
end Mine
namespace Mine
noncomputable section NC
/-- names numbered is get ds, one after the other -/
noncomputable def setAll (ρ : Rho) : List Nat → List AV → Rho
  | i :: is, d :: ds => setAll (ρ.set i (some d)) is ds
  | _, _ => ρ
section
variable {x : Sx} {X X' X'' : Addr → Prop} {ρ ρ' : Rho} {own own' own'' : OwnO} {s s' s'' : Shared} {Post : PostT} {ms : List MS}
theorem notComp_1 {e : Expr} (h : notComp e = true) : notComp1 e = true := by
  cases e <;> first | rfl | cases h
theorem chkT_find {names : List Str} {kd : Str → Option NameKind} {env : Env} : ∀ {is : List Nat} {ts : List Expr}, chkT names kd is ts = true → (assignEach ts env).findIdx? (·.1) = none ∧ (assignEach ts env).length = is.length
  | [], ts => fun h => emp_k h ⟨rfl, rfl⟩
  | i :: is, ts => fun h => chkT_k h fun y p ts _ h => by
    have ih := chkT_find (env := env) h
    constructor
    · show List.findIdx? (·.1) ((false, _) :: assignEach ts env) = none
      rw [List.findIdx?_cons, ih.1]; rfl
    · exact congrArg (· + 1) ih.2
noncomputable def AsgAll (x : Sx) (X : Addr → Prop) (own : OwnO) (A : Around) (is : List Nat) : Prop := ∀ {ts : List Expr} {vs : List Value} {ds : List AV} {ρ : Rho} {s : Shared} {Q : Unit → Shared → Prop}, chkT x.names x.kd is ts = true → is.length = ds.length → x.St X ρ own s →
    x.c.Reps X s.heap vs ds → (∀ j a l, own = some (j, a, l) → j ∉ is) → (∀ s', x.St X (setAll ρ is ds) own s' → Stp x X own s X own s' → Q () s') →
    wpAny x.c.M A (assignInOrder ((assignEach ts x.env).map (·.2)) vs) Q noE s
theorem assign_all (ok : SxOk x) {A : Around} : ∀ {is : List Nat}, AsgAll x X own A is
  | [], ts, vs, ds, ρ, s, Q => fun h hl S r ho hq => emp_k h (Reps.nil_k (List.eq_nil_of_length_eq_zero hl.symm ▸ r) (wpAny_pure (by cases ds with | nil => exact hq s S .refl | cons d ds => cases hl)))
  | i :: is, ts, vs, ds, ρ, s, Q => fun h hl S r ho hq => chkT_k h fun y p ts h1 h2 => by
    rcases ds with _ | ⟨d, ds⟩
    · exact absurd hl nofun
    refine Reps.cons_k r fun v vs r1 rs => ?_
    show wpAny _ A (do holding vs (assign (.Name y p) x.env v); assignInOrder ((assignEach ts x.env).map (·.2)) vs) Q noE s
    refine wpAny_bind (wpAny_holding (wpAny_assign_Name (Stp.store ok S h1 r1 (fun j a l e q => ho j a l e (q ▸ List.mem_cons_self)) fun s1 S1 a1 => ?_)))
    exact assign_all ok h2 (Nat.succ.inj hl) S1 (rs.mono (fun b o nb e => a1.keep b o (fun y => nb (Mine.St.wrX S y)) e) fun b o q _ => q) (fun j a l e q => ho j a l e (List.mem_cons_of_mem _ q)) fun s2 S2 a2 => hq s2 S2 (a1.trans S a2)
/-- a tuple's items are laid under names -/
theorem upk_go (ok : SxOk x) {A : Around} {is : List Nat} {ts : List Expr} {k : Nat} {p : Pos} {v : Value} {ds : List AV} {Q : Unit → Shared → Prop} (R : Room A x.c.n) (hg : chkT x.names x.kd is ts = true) (hl : is.length = ds.length) (S : x.St X ρ own s) (r : x.c.Rep X s.heap v (.tup ds))
    (ho : ∀ j a l, own = some (j, a, l) → j ∉ is) (hq : ∀ s', x.St X (setAll ρ is ds) own s' → Stp x X own s X own s' → Q () s') : wpAny x.c.M A (assign (.Tuple ts k p) x.env v) Q noE s := by
  refine Rep.tup_k r fun a vs nx ht rs => ?_
  have hf := chkT_find (env := x.env) hg
  have hlen := rs.length
  refine wpAny_assign_Tuple R.hd ht.is (by rw [hf.2, List.size_toArray]; omega) hf.1 fun h' hx => ?_
  have e2 : x.c.Ext s { s with heap := h' } := Ext.of_keeps ok.c.w fun b o e => hx b o (Nat.ne_of_lt (Heap.lt_size e)) e
  exact assign_all ok hg hl (St.extS ok S e2) (Reps.ext S.v.x.xc e2 rs) ho fun s2 S2 a2 => hq s2 S2 ((Stp.ext ok.c.w e2).trans S a2)
/-- a, b, .. = e -/
theorem Ex_upk (ok : SxOk x) {is : List Nat} {e : ME} {ds : List AV} {C : Prop} (hm : mev x.c.F x.c.X ρ e = some (.tup ds, C)) (hC : C) (hl : is.length = ds.length) (ho : ∀ j a l, own = some (j, a, l) → j ∉ is)
    (h : Ex x ms (setAll ρ is ds) own Post) : Ex x (.upk is e :: ms) ρ own Post :=
  Ex_cons fun st hs A s X R S => ksAssign_k fT hs fun ts0 e0 pos hs => k1_k fT hs fun t hs => kTuple_k fT hs fun ts k tpos hs =>
    Assign_Tuple ((sound ok.c e e0 _ C (and_t (and_t hs).2).2 hm hC).1 A X s _ R S.v fun v s1 e1 r1 => upk_go ok R (and_t hs).1 hl (St.extS ok S e1) r1 ho fun s2 S2 a2 => .inl ⟨rfl, _, _, X, S2, (Stp.ext ok.c.w e1).trans S a2, h⟩)
      (show swapsWith e0 (some (.Tuple ts k tpos)) pos.line x.env = pure false from swaps_not (notComp_1 (and_t (and_t hs).2).1)) (swapped_not (and_t (and_t hs).2).1)
/-- what a loop's body leaves -/
noncomputable abbrev LoopP (N B : Rho → OwnO → Prop) (Post : PostT) : PostT := fun o ρ own => @Out.casesOn (fun _ => Prop) o (N ρ own) (B ρ own) (N ρ own) fun d => Post (.ret d) ρ own
/-- what the turn of a loop comes to -/
theorem LoopP.out {N B : Rho → OwnO → Prop} {o : Out} {ρ : Rho} {own : OwnO} {fl : Flow} {h : Heap} {C : Flow → Prop} (hP : LoopP N B Post o ρ own) (hO : OutOk x.c x.X0 h fl o) (n : N ρ own → C .next) (c : N ρ own → C .cont) (b : B ρ own → C .brk) (r : ∀ v d, Post (.ret d) ρ own → x.c.Rep x.X0 h v d → C (.ret v)) : C fl := by
  cases o <;> cases fl <;> first | exact hO.elim | exact n hP | exact c hP | exact b hP | exact r _ _ hP hO
noncomputable def WhlI (x : Sx) (X : Addr → Prop) (own : OwnO) (s : Shared) (Inv : Nat → Rho → OwnO → Prop) (n : Nat) (s' : Shared) : Prop := ∃ ρ' own' X', x.St X' ρ' own' s' ∧ Stp x X own s X' own' s' ∧ Inv n ρ' own'
/-- the flow behind a body: on with G, or out of the loop -/
noncomputable def LoopC (N : Flow → Prop) (G : Prop) (fl : Flow) : Prop := match fl with | .next | .cont => G | .brk => N .next | .ret v => N (.ret v)
/-- while t: b, by an invariant and a measure -/
theorem Ex_whl (ok : SxOk x) {t : ME} {b : List MS} (Inv : Nat → Rho → OwnO → Prop) (n : Nat) (h0 : Inv n ρ own)
    (turn : ∀ n ρ own, Inv n ρ own → ∃ bb C, mev x.c.F x.c.X ρ t = some (.bool bb, C) ∧ C ∧
      (bb = true → Ex x b ρ own (LoopP (fun ρ' own' => ∃ m, m < n ∧ Inv m ρ' own') (fun ρ' own' => Ex x ms ρ' own' Post) Post)) ∧
      (bb = false → Ex x ms ρ own Post)) : Ex x (.whl t b :: ms) ρ own Post := by
  refine Ex_cons fun st hs A s X R S => ksWhile_k fT hs fun e0 body r pos hs => emp_k (and_t hs).1 ?_
  refine wpAny_While ?_
  refine codeAny_mono (R := fun r s' => match r with | .ok f => Nxt x ms Post X own s f s' | .error _ => False) ?_ (fun r s' hr => by cases r with | ok f => exact hr | error e => exact hr.elim)
  refine codeAny_whileLoop (WhlI x X own s Inv) (fun n s1 ⟨ρ1, own1, X1, S1, a1, hi⟩ => ?_) n ⟨ρ, own, X, S, .refl, h0⟩
  obtain ⟨bb, C, hm, hC, ht, hf⟩ := turn n ρ1 own1 hi
  refine wpAny_mono ((sound ok.c t e0 _ C (and_t (and_t hs).2).1 hm hC).2 bb rfl trivial A X1 s1 (fun b' s2 => b' = bb ∧ x.c.Ext s1 s2) R S1.v fun s2 e2 => ⟨rfl, e2⟩) (fun b' s2 h2 => ?_) fun _ _ e => e.elim
  have S2 := St.extS ok S1 h2.2
  have a2 := a1.trans S (Stp.ext (X := X1) (own := own1) ok.c.w h2.2)
  rw [h2.1]
  cases bb with
  | true =>
    refine wpAny_mono (ht rfl body (and_t (and_t hs).2).2 A s2 X1 R S2) (fun fl s3 ⟨o, ρ3, own3, X3, h4, h5, S3, a3⟩ => ?_) fun _ _ e => e.elim
    have a13 := a2.trans S a3
    exact LoopP.out (C := LoopC (fun f => Nxt x ms Post X own s f s3) (∃ m, m < n ∧ WhlI x X own s Inv m s3)) h4 h5
      (fun ⟨m, hm, hi'⟩ => ⟨m, hm, ρ3, own3, X3, S3, a13, hi'⟩) (fun ⟨m, hm, hi'⟩ => ⟨m, hm, ρ3, own3, X3, S3, a13, hi'⟩) (fun h4 => .inl ⟨rfl, ρ3, own3, X3, S3, a13, h4⟩) fun v d h4 h5 => .inr ⟨nofun, .ret d, ρ3, own3, X3, h4, h5, S3, a13⟩
  | false => exact wpAny_execs_nil (.inl ⟨rfl, ρ1, own1, X1, S2, a2, hf rfl⟩)
noncomputable def bindT (ρ : Rho) (tg : Tg) (d : AV) : Option Rho := @Tg.casesOn (fun _ => Option Rho) tg (fun i => some (ρ.set i (some d))) fun i j => oTup d fun l => k2 none l fun a b => some ((ρ.set i (some a)).set j (some b))
noncomputable def Tg.names : Tg → List Nat
  | .one i => [i]
  | .two i j => [i, j]
theorem bind_tg (ok : SxOk x) {A : Around} {tg : Tg} {te : Expr} {v : Value} {d : AV} {ρ' : Rho} {Q : Unit → Shared → Prop} (R : Room A x.c.n) (hg : chkG x.names x.kd tg te = true) (hb : bindT ρ tg d = some ρ') (S : x.St X ρ own s) (r : x.c.Rep X s.heap v d)
    (ho : ∀ j a l, own = some (j, a, l) → j ∉ tg.names) (hq : ∀ s', x.St X ρ' own s' → Stp x X own s X own s' → Q () s') : wpAny x.c.M A (assign te x.env v) Q noE s := by
  cases tg with
  | one i => exact kName_k fT hg fun y p hg => wpAny_assign_Name (Stp.store ok S hg r (fun j a l e q => ho j a l e (by rw [q]; exact List.mem_cons_self)) (Option.some.inj hb ▸ hq))
  | two i j => exact kTuple_k fT hg fun ts k p hg => oTup_k (M := fun d => x.c.Rep X s.heap v d → _) hb (fun l hb => k2_k (M := fun l => x.c.Rep X s.heap v (.tup l) → _) oN hb fun a b hb r => upk_go ok R hg rfl S r ho ((show setAll ρ [i, j] [a, b] = ρ' from Option.some.inj hb) ▸ hq)) r
/-- the loop's own object among what may change, and out again -/
theorem St.withI (S : x.St X ρ own s) {I : Addr} (e : s.heap.get? I = none) (hw : x.c.Ext s s') (ha : ∃ o, s'.heap.get? I = some o) (ok : SxOk x) : x.St (fun b => X b ∨ b = I) ρ own s' := by
  have kx : ∀ b o, (X b ∨ b = I) → s.heap.get? b = some o → X b := fun b o q e' => by
    rcases q with q | rfl
    · exact q
    · rw [e] at e'; cases e'
  have S1 : x.St (fun b => X b ∨ b = I) ρ own s → x.St (fun b => X b ∨ b = I) ρ own s' := fun z => St.extS ok z hw
  have S' := St.extS ok S hw
  have rp : ∀ {v d}, x.c.Rep X s.heap v d → x.c.Rep (fun b => X b ∨ b = I) s'.heap v d := fun r => Rep.ext (fun b hb => .inl (S.v.x.xc b hb)) hw (r.mono (fun _ _ _ e => e) kx)
  have rps : ∀ {v d}, x.c.Reps X s.heap v d → x.c.Reps (fun b => X b ∨ b = I) s'.heap v d := fun r => Reps.ext (fun b hb => .inl (S.v.x.xc b hb)) hw (r.mono (fun _ _ _ e => e) kx)
  have ld : ∀ {y v}, Ld x.env s.heap y v → Ld x.env s'.heap y v := fun l => by
    rcases l with ⟨hl, m, hm, hv⟩ | ⟨hl, b, hb, hv⟩
    · exact .inl ⟨hl, m, Ns.keep1 hm fun o q => hw.keep _ o S.v.lc.1 q, hv⟩
    · exact .inr ⟨hl, b, hb, IsCell.keep1 hv fun o q => hw.keep _ o (S.v.lc.2 _ _ hb) q⟩
  refine ⟨⟨S.v.fk, S.v.gl, S.v.bi, S.v.kd, hw.wd S.v.wd, ⟨fun b hb => .inl (S.v.x.xc b hb), fun a q => ?_⟩, S.v.lc, S'.v.al, fun i y d hn hr => ?_⟩, S'.e, S.xo0, fun a q => .inl (S.up a q), S.kde, ⟨S.loc.1, .inl S.loc.2.1, S.loc.2.2⟩, S'.ns, fun y hy => ?_, S.apart, S.x0, fun i a l hj => ?_⟩
  · rcases q with q | rfl
    · exact S'.v.x.lt a q
    · exact .inr ha
  · obtain ⟨v, l, r⟩ := S.v.vars i y d hn hr
    exact ⟨v, ld l, rp r⟩
  · obtain ⟨a, h1, h2, h3⟩ := S'.cel y hy
    exact ⟨a, h1, .inl h2, h3⟩
  · obtain ⟨y, h1, h2, h3, h4, h5, h6, h7⟩ := S.own i a l hj
    exact ⟨y, h1, ld h2, .inl h3, h4, h5, h6, h7.mono (fun o q => hw.keep a o (fun z => h4 (ok.c.w.xcwd a z)) q) (fun b o nx q => hw.keep b o (fun z => nx (S.v.x.xc b z)) q) kx⟩
/-- the loop's object turned: nothing else -/
theorem St.turnI (ok : SxOk x) (S : x.St X ρ own s) {I : Addr} (hI : X I) (hnr : ∀ o, s.heap.get? I = some o → ¬ isRec o) (hwd : ¬ x.c.wd I) (h0 : x.s₀.heap.get? I = none) (hwr : ¬ x.Wr own I) (hcl : ∀ y, x.env.cells.lookup y ≠ some I) {h' : Heap} {tk : Nat}
    (k : ∀ b o, b ≠ I → s.heap.get? b = some o → h'.get? b = some o) (X' : Addr → Prop) (hx : ∀ b, X' b → X b) (hx' : ∀ b, X b → b ≠ I → X' b) (ha : X' I → ∃ o, h'.get? I = some o) : x.St X' ρ own { s with heap := h', toks := tk } := by
  have hxc : ¬ x.c.xc I := fun q => hwd (ok.c.w.xcwd I q)
  have hx0 : ¬ x.X0 I := fun q => by
    rcases S.x0 I q with z | ⟨o, z⟩
    · exact hxc z
    · rw [h0] at z; cases z
  have kx : ∀ b o, ¬ X b → s.heap.get? b = some o → h'.get? b = some o := fun b o nb e => k b o (fun q => nb (q ▸ hI)) e
  have kx' : ∀ b o, X' b → s.heap.get? b = some o → X b := fun b o q _ => hx b q
  have W' : x.c.W h' := ok.c.w.stable _ _ S.v.wd fun b o wb e => k b o (fun q => wb.elim (fun wb => hwd (q ▸ wb)) (hnr o (q ▸ e))) e
  have nl : x.env.locals ≠ I := fun q => hwr (.inr (.inl q.symm))
  have kl : ∀ {y v}, Ld x.env s.heap y v → Ld x.env h' y v := fun l => by
    rcases l with ⟨hl, m, hm, hv⟩ | ⟨hl, b, hb, hv⟩
    · exact .inl ⟨hl, m, Ns.keep1 hm fun o q => k _ o nl q, hv⟩
    · exact .inr ⟨hl, b, hb, IsCell.keep1 hv fun o q => k _ o (fun z => hcl _ (z ▸ hb)) q⟩
  refine ⟨⟨S.v.fk, S.v.gl, S.v.bi, S.v.kd, W', ⟨fun b hb => hx' b (S.v.x.xc b hb) (fun q => hxc (q ▸ hb)), fun a q => ?_⟩, S.v.lc, ⟨let ⟨o, q⟩ := S.v.al.1; ⟨o, k _ o nl q⟩, fun y a ha => let ⟨o, q⟩ := S.v.al.2 y a ha; ⟨o, k _ o (fun z => hcl _ (z ▸ ha)) q⟩⟩, fun i y d hn hr => ?_⟩, ⟨?_, fun b o nb e => k b o (fun q => ?_) (S.e.keep b o nb e), fun _ => W'⟩,
    S.xo0, fun a q => hx' a (S.up a q) (fun z => hx0 (z ▸ q)), S.kde, ⟨S.loc.1, hx' _ S.loc.2.1 nl, S.loc.2.2⟩, ?_, fun y hy => ?_, S.apart, S.x0, fun i a l hj => ?_⟩
  · by_cases t : a = I
    · subst t; exact .inr (ha q)
    · rcases S.v.x.lt a (hx a q) with z | ⟨o, z⟩
      · exact .inl z
      · exact .inr ⟨o, k a o t z⟩
  · obtain ⟨v, l, r⟩ := S.v.vars i y d hn hr
    exact ⟨v, kl l, r.mono kx kx'⟩
  · obtain ⟨h1, t1, e1⟩ := S.e.same
    exact ⟨h', tk, by rw [e1]⟩
  · rw [q, h0] at e; cases e
  · obtain ⟨m, hm⟩ := S.ns
    exact ⟨m, Ns.keep1 hm fun o q => k _ o nl q⟩
  · obtain ⟨a, h1, h2, h3, h4, u, h5⟩ := S.cel y hy
    have na : a ≠ I := fun z => hcl y (z ▸ h1)
    exact ⟨a, h1, hx' a h2 na, h3, h4, u, IsCell.keep1 h5 fun o q => k _ o na q⟩
  · obtain ⟨y, h1, h2, h3, h4, h5, h6, h7⟩ := S.own i a l hj
    have na : a ≠ I := fun z => hwr (.inr (.inr (.inr ⟨i, l, z ▸ hj⟩)))
    exact ⟨y, h1, kl h2, hx' a h3 na, h4, h5, h6, h7.mono (fun o q => k a o na q) kx kx'⟩
theorem folded_plain {e : Expr} {env : Env} (h : plainE e = true) (v : Value) : foldedSetIterable e env v = pure v := by
  cases e <;> first | rfl | cases h
/-- what a loop with its own object I has kept so far -/
structure ForK (x : Sx) (X : Addr → Prop) (own : OwnO) (s1 : Shared) (I : Addr) (own' : OwnO) (X' : Addr → Prop) (s' : Shared) : Prop where
  k1 : ∀ b o, ¬ x.Wr own b → b ≠ I → s1.heap.get? b = some o → s'.heap.get? b = some o
  k2 : ∀ b o, s1.heap.get? b = some o → X' b → X b ∨ b = I
  k3 : ∀ b o, s1.heap.get? b = some o → x.Wr own' b → x.Wr own b
  k4 : ∀ b, X b → ¬ x.Wr own b → X' b
theorem ForK.back {s1 : Shared} {I : Addr} (S : x.St X ρ own s) (e1 : x.c.Ext s s1) (hI0 : s.heap.get? I = none) (hIX : ¬ X I) (k : ForK x X own s1 I own' X' s') : Stp x X own s (fun b => X' b ∧ b ≠ I) own' s' := by
  have kk : ∀ b o, ¬ x.Wr own b → s.heap.get? b = some o → s1.heap.get? b = some o := fun b o n q => e1.keep b o (fun y => n (.inl y)) q
  refine ⟨fun b o n q => k.k1 b o n (fun z => by rw [z, hI0] at q; cases q) (kk b o n q), fun b o q z => ?_, fun b o q z => ?_, fun b q n => ⟨k.k4 b q n, fun z => hIX (z ▸ q)⟩⟩
  · exact (Classical.em (x.Wr own b)).elim (Mine.St.wrX S) fun n => (k.k2 b o (kk b o n q) z.1).resolve_right z.2
  · exact (Classical.em (x.Wr own b)).elim id fun n => k.k3 b o (kk b o n q) z
theorem ForK.step {s1 s2 : Shared} {I : Addr} {own2 : OwnO} {X2 : Addr → Prop} {h' : Heap} {tk : Nat} (S : x.St X ρ own s) (e1 : x.c.Ext s s1) (k : ForK x X own s1 I own2 X2 s2) (kk : ∀ b o, b ≠ I → s2.heap.get? b = some o → h'.get? b = some o) (a : Stp x X2 own2 { s2 with heap := h', toks := tk } X' own' s') (hw : ¬ x.Wr own2 I) (al : ∃ o, h'.get? I = some o) : ForK x X own s1 I own' X' s' := by
  have k12 : ∀ b o, ¬ x.Wr own b → b ≠ I → s1.heap.get? b = some o → h'.get? b = some o := fun b o n ne q => kk b o ne (k.k1 b o n ne q)
  refine ⟨fun b o n ne q => a.keep b o (fun y => n (k.k3 b o q y)) (k12 b o n ne q), fun b o q y => ?_, fun b o q y => ?_, fun b q n => a.xm b (k.k4 b q n) fun y => ?_⟩
  · refine (Classical.em (x.Wr own b)).elim (fun n => .inl (Mine.St.wrX S n)) fun n => (Classical.em (b = I)).elim .inr fun ne => k.k2 b o q (a.xx b o (k12 b o n ne q) y)
  · refine (Classical.em (x.Wr own b)).elim id fun n => (Classical.em (b = I)).elim (fun ne => ?_) fun ne => k.k3 b o q (a.ww b o (k12 b o n ne q) y)
    obtain ⟨o', e'⟩ := al
    exact absurd (a.ww I o' e' (ne ▸ y)) hw
  · exact (S.v.x.lt b q).elim (fun z => n (.inl z)) fun ⟨o, z⟩ => n (k.k3 b o (e1.keep b o (fun y => n (.inl y)) z) y)
noncomputable def ForI (x : Sx) (X : Addr → Prop) (own : OwnO) (s1 : Shared) (I : Addr) (ds : List AV) (Z : Nat → Heap → Prop) (Inv : List AV → Rho → OwnO → Prop) (n : Nat) (s' : Shared) : Prop :=
  ∃ i ρ' own' X', n = ds.length - i ∧ i ≤ ds.length ∧ x.St X' ρ' own' s' ∧ X' I ∧ Z i s'.heap ∧ Inv (ds.drop i) ρ' own' ∧ ForK x X own s1 I own' X' s'
/-- for tg in it: b -/
theorem Ex_for (ok : SxOk x) {tg : Tg} {it : MI} {b : List MS} {ds : List AV}
    (hit : ∀ ie te, chkG x.names x.kd tg te = true → chkI x.names x.kd x.c.gs x.c.xs x.zs it ie = true → ItOk x.c x.env x.names x.kd ρ ie te ds)
    (Inv : List AV → Rho → OwnO → Prop) (h0 : Inv ds ρ own)
    (turn : ∀ d rest ρ own, Inv (d :: rest) ρ own → ∃ ρ1, bindT ρ tg d = some ρ1 ∧ (∀ j a l, own = some (j, a, l) → j ∉ tg.names) ∧
      Ex x b ρ1 own (LoopP (Inv rest) (fun ρ' own' => Ex x ms ρ' own' Post) Post))
    (fin : ∀ ρ own, Inv [] ρ own → Ex x ms ρ own Post) : Ex x (.for tg it b :: ms) ρ own Post := by
  refine Ex_cons fun st hs A s X R S => ksFor_k fT hs fun te ie body r pos hs => emp_k (and_t hs).1 ?_
  refine wpAny_For ?_ (folded_plain (and_t (and_t (and_t (and_t hs).2).2).2).1)
  refine hit ie te (and_t (and_t hs).2).1 (and_t (and_t (and_t hs).2).2).1 A X s _ R S.v fun I Z s1 e1 hI0 hIX hIw hIl hIc IT z0 => ?_
  have h0I : x.s₀.heap.get? I = none := St.fresh0 S ok.c.w hI0
  have live : ∃ o, s1.heap.get? I = some o := IT.alive 0 _ z0
  refine codeAny_mono (R := fun r s' => match r with | .ok f => Nxt x ms Post X own s f s' | .error _ => False) ?_ (fun r s' hr => by cases r with | ok f => exact hr | error e => exact hr.elim)
  -- I is put aside for good
  have drop : ∀ {s' : Shared} {ρ' own' X'}, x.St X' ρ' own' s' → X' I → (∀ o, s'.heap.get? I = some o → ¬ isRec o) → ¬ x.Wr own' I → ∀ {h' : Heap} {tk : Nat}, (∀ b o, b ≠ I → s'.heap.get? b = some o → h'.get? b = some o) → x.St (fun b => X' b ∧ b ≠ I) ρ' own' { s' with heap := h', toks := tk } :=
    fun S' hI hnr hw h' tk kk => St.turnI ok S' hI hnr hIw h0I hw hIc kk _ (fun _ q => q.1) (fun _ q ne => ⟨q, ne⟩) fun q => absurd rfl q.2
  refine codeAny_forLoop_any (R := fun r s' => match r with | .ok f => Nxt x ms Post X own s f s' | .error _ => False) (ForI x X own s1 I ds Z Inv) (fun n s2 ⟨i, ρ2, own2, X2, hn, hi', S2, hI2, z2, inv2, k⟩ => ?_) ds.length
    ⟨0, ρ, own, _, rfl, Nat.zero_le _, St.withI S hI0 e1 live ok, .inr rfl, z0, h0, fun b o _ _ q => q, fun b o _ q => q, fun b o _ q => q, fun b q _ => .inl q⟩
  have hwr2 : ¬ x.Wr own2 I := fun q => live.elim fun o e => hIX (Mine.St.wrX S (k.k3 I o e q))
  refine (Nat.lt_or_ge i ds.length).elim (fun hlt => ?_) fun hge => ?_
  · rw [List.drop_eq_getElem_cons hlt] at inv2
    refine wpAny_mono (IT.item i _ s2 (fun v s3 => wpAny x.c.M A (assign te x.env v) (fun _ s4 => wpAny x.c.M A (execs body x.env) (fun f s₃ => LoopC (fun f => Nxt x ms Post X own s f s₃) (∃ m, m < n ∧ ForI x X own s1 I ds Z Inv m s₃) f) noE s4) noE s3) z2 (List.getElem?_eq_getElem hlt) fun v h' tk kk rv z3 => ?_)
      (fun r s3 ⟨v, hr, h4⟩ => ?_) fun _ _ e => e.elim
    rotate_left
    · rw [hr]
      exact wpAny_mono h4 (fun _ s4 h5 => wpAny_mono h5 (fun _ s5 h6 => wpAny_mono h6 (fun f s6 h7 => h7) fun _ _ e => e.elim) fun _ _ e => e.elim) fun _ _ e => e.elim
    · have S3 : x.St X2 ρ2 own2 { s2 with heap := h', toks := tk } := St.turnI ok S2 hI2 (IT.nr _ _ z2) hIw h0I hwr2 hIc kk X2 (fun _ q => q) (fun _ q _ => q) (fun _ => IT.alive _ _ z3)
      have r3 : x.c.Rep X2 h' v ds[i] := rv X2 (fun b o q y => k.k2 b o q y) fun b q y => (S2.v.x.lt b y).elim (fun z => (ok.c.w.alive _ _ S2.v.wd (ok.c.w.xcwd _ z)).elim fun o e => by rw [q] at e; cases e) fun ⟨o, z⟩ => by rw [q] at z; cases z
      obtain ⟨ρ3, hb3, hno, hbody⟩ := turn _ _ _ _ inv2
      refine bind_tg ok R (and_t (and_t hs).2).1 hb3 S3 r3 hno fun s4 S4 a4 => wpAny_mono (hbody body (and_t (and_t (and_t (and_t hs).2).2).2).2 A s4 X2 R S4) (fun fl s5 ⟨o, ρ5, own5, X5, hP, hO, S5, a5⟩ => ?_) fun _ _ e => e.elim
      have a35 : Stp x X2 own2 { s2 with heap := h', toks := tk } X5 own5 s5 := a4.trans S3 a5
      have I5 : X5 I := a35.xm I hI2 hwr2
      have K5 := ForK.step S e1 k kk a35 hwr2 (IT.alive _ _ z3)
      have hwr5 : ¬ x.Wr own5 I := fun y => (IT.alive _ _ z3).elim fun o' e' => hwr2 (a35.ww I o' e' y)
      have z5 : Z (i + 1) s5.heap := IT.frame _ _ _ z3 fun b o ⟨o', q'⟩ y e => a35.keep b o (fun z => y.elim (fun y => hwr2 (y ▸ z)) fun y => y (.inl (Mine.St.wrX S (k.k3 b o' q' z)))) e
      have S5' := drop S5 I5 (IT.nr _ _ z5) hwr5 (h' := s5.heap) (tk := s5.toks) fun _ _ _ e => e
      have go : Inv (ds.drop (i + 1)) ρ5 own5 → ∃ m, m < n ∧ ForI x X own s1 I ds Z Inv m s5 := fun hP => ⟨ds.length - (i + 1), by omega, i + 1, ρ5, own5, X5, rfl, hlt, S5, I5, z5, hP, K5⟩
      exact LoopP.out (C := LoopC (fun f => Nxt x ms Post X own s f s5) _) hP hO go go
        (fun hP => .inl ⟨rfl, ρ5, own5, _, S5', K5.back S e1 hI0 hIX, hP⟩) fun v d hP hO => .inr ⟨nofun, .ret d, ρ5, own5, _, hP, hO, S5', K5.back S e1 hI0 hIX⟩
  · have hi2 : i = ds.length := Nat.le_antisymm hi' hge
    rw [hi2, List.drop_length] at inv2
    refine wpAny_mono (IT.done s2 (fun s3 => Nxt x ms Post X own s .next s3) (hi2 ▸ z2) fun h' tk kk => .inl ⟨rfl, ρ2, own2, _, drop S2 hI2 (IT.nr _ _ z2) hwr2 kk, ForK.back S e1 hI0 hIX ⟨fun b o n ne q => kk b o ne (k.k1 b o n ne q), k.k2, k.k3, k.k4⟩, fin _ _ inv2⟩) (fun r s3 ⟨hr, h4⟩ => ?_) fun _ _ e => e.elim
    rw [hr]
    exact wpAny_execs_nil h4
end
end NC
end Mine
namespace Mine
noncomputable section NC
section
variable {c : Cx} {env : Env} {names : List Str} {kd : Str → Option NameKind} {ρ : Rho}
theorem name_builtin (hw : CxW c) {A : Around} {X : Addr → Prop} {s : Shared} {x : Str} {p : Pos} {v : Value} {Q : Value → Shared → Prop} (V : Vs c env names kd X ρ s) (hg : glob kd x = true) (hx : x ∈ usedB) (hb : bootBuiltins x = some v) (hn : x ≠ "__name__") (h : Q v s) :
    wpAny c.M A (eval (.Name x p) env) Q noE s :=
  Calls.Name_function_global V.fk (V.kd x (eq_of_beq (and_t hg).1)) (Calls.loadGlobal_builtin (V.gl ▸ hw.glob _ V.wd) (hw.nog x hx) (V.bi ▸ hw.blt _ V.wd) ((hw.bnames x hn).trans hb) h) (okN_d (and_t hg).2)
/-- calls of a built-in type by its name, one argument or two -/
theorem call_type (hw : CxW c) {A : Around} {X : Addr → Prop} {s : Shared} {x : Str} {p pos : Pos} {T : String} {e : Expr} {es : List Expr} {ds : List AV} {Q : Value → Shared → Prop} (R : Room A c.n) (V : Vs c env names kd X ρ s) (hg : glob kd x = true) (hx : x ∈ usedB) (hb : bootBuiltins x = some (.type T)) (hn : x ≠ "__name__")
    (he : EvsOk c env names kd ρ (e :: es) ds) (h : ∀ vs s', c.Ext s s' → c.Reps X s'.heap vs ds → wpAny c.M A (call (.type T) vs) Q noE s') : wpAny c.M A (eval (.Call (.Name x p) (e :: es) [] pos) env) Q noE s := by
  have hp := he.plain
  exact wpAny_Call_NameR (name_builtin hw V hg hx hb hn (PyProof.Rows.callWith_type1 (evs_ok he pos A X s _ R V fun vs s' e1 r => h _ _ e1 r) (starEach_plain (hp e List.mem_cons_self)) (plain_any fun e he => hp e (List.mem_cons_of_mem _ he))))
theorem call_type1 (hw : CxW c) {A : Around} {X : Addr → Prop} {s : Shared} {x : Str} {p pos : Pos} {T : String} {e : Expr} {d : AV} {Q : Value → Shared → Prop} (R : Room A c.n) (V : Vs c env names kd X ρ s) (hg : glob kd x = true) (hx : x ∈ usedB) (hb : bootBuiltins x = some (.type T)) (hn : x ≠ "__name__")
    (he : EvOk c env names kd ρ e d) (hp : plainE e = true) (h : ∀ v s', c.Ext s s' → c.Rep X s'.heap v d → wpAny c.M A (call (.type T) [v]) Q noE s') : wpAny c.M A (eval (.Call (.Name x p) [e] [] pos) env) Q noE s :=
  call_type hw R V hg hx hb hn (es := []) (ds := [d]) ⟨he, hp, trivial⟩ fun vs s' e1 r => Reps.one_k r fun v r => h v s' e1 r
theorem call_type2 (hw : CxW c) {A : Around} {X : Addr → Prop} {s : Shared} {x : Str} {p pos : Pos} {T : String} {e e' : Expr} {d d' : AV} {Q : Value → Shared → Prop} (R : Room A c.n) (V : Vs c env names kd X ρ s) (hg : glob kd x = true) (hx : x ∈ usedB) (hb : bootBuiltins x = some (.type T)) (hn : x ≠ "__name__")
    (he : EvOk c env names kd ρ e d) (hp : plainE e = true) (he' : EvOk c env names kd ρ e' d') (hp' : plainE e' = true) (h : ∀ v v' s', c.Ext s s' → c.Rep X s'.heap v d → c.Rep X s'.heap v' d' → wpAny c.M A (call (.type T) [v, v']) Q noE s') :
    wpAny c.M A (eval (.Call (.Name x p) [e, e'] [] pos) env) Q noE s :=
  call_type hw R V hg hx hb hn (es := [e']) (ds := [d, d']) ⟨he, hp, he', hp', trivial⟩ fun vs s' e1 r => Reps.two_k r fun v v' r r' => h v v' s' e1 r r'
theorem letGo_any {tgt : Expr} {r : Addr} {v : Value} {A : Around} {s : Shared} {o : Obj} {T : String} {Q : Unit → Shared → Prop} (ho : s.heap.get? r = some o) (hc : o.cls = .type T)
    (hT : ["enumerate", "zip", "dict_itemiterator", "dict_reverseitemiterator", "odict_iterator", "itertools.zip_longest", "itertools.pairwise"].contains T = false) (h : Q () s) : wpAny c.M A (letOwnedTupleGo tgt (.ref r) v) Q noE s := by
  have p : wpAny c.M A (pure ()) Q noE s := wpAny_pure h
  have core : wpAny c.M A (letOwnedTupleGo (.Tuple [] 0 default) (.ref r) v) Q noE s := by
    cases v <;> first | exact p | skip
    refine wpAny_bind (wpAny_load ho ?_)
    rw [hc]
    cases o.data <;> first | exact p | skip
    show wpAny c.M A (if (["enumerate", "zip", "dict_itemiterator", "dict_reverseitemiterator", "odict_iterator", "itertools.zip_longest", "itertools.pairwise"].contains T && _) = true then _ else pure ()) Q noE s
    rw [if_neg (fun q => absurd (hT.symm.trans (and_t q).1) fT)]
    exact p
  cases tgt <;> first | exact p | exact core
theorem itr_of_walks {A : Around} {tgt : Expr} {I : Addr} {fp : List Addr} {hb : Heap} {X1 : Addr → Prop} {ds : List AV} {n : Nat} {P : Nat → Value → Prop} {S : Nat → Heap → Prop} {T : String} (Wk : Walks c.P c.w A I fp [I] n P S) (hn : n = ds.length)
    (hfp : ∀ b ∈ fp, b ≠ I → ¬ X1 b ∧ ∃ o, hb.get? b = some o) (hI : ∃ o, hb.get? I = some o) (hXI : X1 I) (hal : ∀ i h, S i h → ∃ o, h.get? I = some o ∧ o.cls = .type T ∧ ¬ isRec o)
    (hT : ["enumerate", "zip", "dict_itemiterator", "dict_reverseitemiterator", "odict_iterator", "itertools.zip_longest", "itertools.pairwise"].contains T = false)
    (hr : ∀ i v d h (X2 : Addr → Prop), P i v → ds[i]? = some d → (∀ b o, ¬ X1 b → hb.get? b = some o → h.get? b = some o) → (∀ b o, hb.get? b = some o → X2 b → X1 b) → c.Rep X2 h v d) :
    Itr c A tgt I hb X1 ds (fun i h => S i h ∧ ∀ b o, ¬ X1 b → hb.get? b = some o → h.get? b = some o) where
  frame := fun i h h' ⟨z, k⟩ hk => ⟨Wk.frame i h h' z fun b hb' o e => by
      by_cases q : b = I
      · exact hk b o (q ▸ hI) (.inl q) e
      · exact hk b o (hfp b hb' q).2 (.inr (hfp b hb' q).1) e, fun b o nb e => hk b o ⟨o, e⟩ (.inr nb) (k b o nb e)⟩
  item := fun i d s Q ⟨z, k⟩ hd hq => by
    have hi : i < n := by rw [hn]; exact (List.getElem?_eq_some_iff.mp hd).1
    refine Wk.item i s _ _ hi z fun v h' tk hv z' kk => ⟨v, rfl, ?_⟩
    obtain ⟨o, ho, hc, _⟩ := hal _ _ z'
    have k' : ∀ b o, ¬ X1 b → hb.get? b = some o → h'.get? b = some o := fun b o nb e => kk b o (by intro q; simp at q; exact nb (q ▸ hXI)) (k b o nb e)
    refine letGo_any ho hc hT (hq v h' tk (fun b o ne e => kk b o (by simpa using ne) e) (fun X2 h2 _ => hr i v d h' X2 hv hd k' h2) ⟨z', k'⟩)
  done := fun s Q ⟨z, k⟩ hq => by
    rw [← hn] at z
    refine Wk.done s _ _ z fun h' tk kk => ⟨rfl, hq h' tk fun b o ne e => kk b o (by simpa using ne) e⟩
  alive := fun i h ⟨z, _⟩ => let ⟨o, e, _⟩ := hal i h z; ⟨o, e⟩
  nr := fun i h ⟨z, _⟩ o e => by
    obtain ⟨o', e', _, n⟩ := hal i h z
    rw [e] at e'; cases e'
    exact n
  self := fun _ i s Q E z q => Wk.self i s Q E z.1 q
/-- a fresh object is set beside what is there: an iterator -/
theorem it_new (hw : CxW c) {A : Around} {X : Addr → Prop} {s s1 : Shared} {tgt : Expr} {ds : List AV} {ob : Obj} {Q : Value → Shared → Prop} (V : Vs c env names kd X ρ s) (e1 : c.Ext s s1) (nf : ob.isFreed = false)
    (h : ∀ I S s', c.Ext s s' → s.heap.get? I = none → ¬ X I → ¬ c.wd I → I ≠ env.locals → (∀ x, env.cells.lookup x ≠ some I) → Itr c A tgt I s'.heap (fun b => X b ∨ b = I) ds S → S 0 s'.heap → Q (.ref I) s')
    (k : (∀ b o, s1.heap.get? b = some o → (s1.heap.push ob).get? b = some o) → (s1.heap.push ob).get? s1.heap.objs.size = some ob → (∀ {a}, (∃ o, s1.heap.get? a = some o) → a ≠ s1.heap.objs.size) → (∀ {v d}, c.Rep X s1.heap v d → c.Rep (fun b => X b ∨ b = s1.heap.objs.size) (s1.heap.push ob) v d) →
      ∃ S, Itr c A tgt s1.heap.objs.size (s1.heap.push ob) (fun b => X b ∨ b = s1.heap.objs.size) ds S ∧ S 0 (s1.heap.push ob)) : Q (.ref s1.heap.objs.size) { s1 with heap := s1.heap.push ob } := by
  have V1 := V.ext e1
  have hn := fresh_none s1
  have ne : ∀ {a}, (∃ o, s1.heap.get? a = some o) → a ≠ s1.heap.objs.size := fun ⟨o, z⟩ q => by rw [q, hn] at z; cases z
  have kp : ∀ b o, s1.heap.get? b = some o → (s1.heap.push ob).get? b = some o := fun b o q => Heap.get?_push_of_some _ q
  have hwI : ¬ c.wd s1.heap.objs.size := fun q => (hw.alive _ _ V1.wd q).elim fun o z => by rw [hn] at z; cases z
  have hs : s.heap.get? s1.heap.objs.size = none := by
    cases q : s.heap.get? s1.heap.objs.size with
    | none => rfl
    | some o => exact absurd ((e1.keep _ o (fun y => hwI (hw.xcwd _ y)) q).symm.trans hn) nofun
  obtain ⟨S, IT, z⟩ := k kp (Heap.get?_push_size _ nf) ne fun r => r.mono (fun b o _ q => kp b o q) fun b o q z => q.elim id fun q => absurd q (ne ⟨o, z⟩)
  exact h _ S _ (e1.trans (Ext.push hw s1 ob)) hs (fresh_not hw V1.wd V1.x) hwI (fun q => ne V1.al.1 q.symm) (fun y q => ne (V1.al.2 y _ q) rfl) IT z
/-- the items of a list, one by one, in whatever order -/
theorem itr_list {A : Around} {tgt : Expr} {I a : Addr} {hb : Heap} {X1 : Addr → Prop} {ds ds' : List AV} {us : List Value} {n : Nat} {P : Nat → Value → Prop} {S : Nat → Heap → Prop} {T : String} (Wk : Walks c.P c.w A I [I, a] [I] n P S) (hal : ∀ i h, S i h → ∃ o, h.get? I = some o ∧ o.cls = .type T ∧ ¬ isRec o)
    (hI : ∃ o, hb.get? I = some o) (nx : ¬ X1 a) (ha : ∃ o, hb.get? a = some o) (hXI : X1 I) (rs : c.Reps X1 hb us ds') (hl : n = ds.length) (hv : ∀ i v d, P i v → ds[i]? = some d → ∃ j : Nat, us[j]? = some v ∧ ds'[j]? = some d)
    (hT : ["enumerate", "zip", "dict_itemiterator", "dict_reverseitemiterator", "odict_iterator", "itertools.zip_longest", "itertools.pairwise"].contains T = false) : ∃ S', Itr c A tgt I hb X1 ds S' ∧ (S 0 hb → S' 0 hb) := by
  refine ⟨_, itr_of_walks Wk hl (fun b hb ne => ?_) hI hXI hal hT (fun i v d h' X2 hp hd k kx2 => ?_), fun z => ⟨z, fun _ _ _ q => q⟩⟩
  · refine (List.mem_cons.mp hb).elim (fun q => absurd q ne) fun q => ?_
    rw [List.mem_singleton.mp q]
    exact ⟨nx, ha⟩
  · obtain ⟨j, hv', hd'⟩ := hv i v d hp hd
    obtain ⟨v', hv2, r⟩ := rs.get hd'
    rw [hv'] at hv2
    exact Option.some.inj hv2 ▸ r.mono k fun b o q z => kx2 b o z q
theorem it_list (hw : CxW c) {e tgt : Expr} {ds : List AV} (he : EvOk c env names kd ρ e (.lst ds)) : ItOk c env names kd ρ e tgt ds := by
  intro A X s Q R V h
  refine he A X s _ R V fun v s1 e1 r1 => Rep.lst_k r1 fun a vs nx hl rs => wpAny_pyIter_list hl (it_new hw V e1 rfl h fun kp hg ne rp => ?_)
  have hl2 := IsList.keep1 hl fun o q => kp a o q
  obtain ⟨S', IT, z⟩ := itr_list (tgt := tgt) (T := "list_iterator") (Walks.list R.hd s1.heap.objs.size a (ne (IsList.some hl)) vs.toArray) (fun i h' ⟨⟨o, q, q2, q3⟩, _⟩ => ⟨o, q, q2, fun ⟨vs, y, t, z, z2⟩ => by rw [q3] at z; cases z; cases z2⟩) ⟨_, hg⟩ (fun q => q.elim nx (ne (IsList.some hl))) (IsList.some hl2) (.inr rfl)
    (Reps.run (M := fun vs ds => c.Reps _ _ vs ds) .nil (fun a _ r => .cons (rp a) r) rs) (List.size_toArray.trans rs.length) (fun i v d hv hd => ⟨i, (List.getElem?_toArray ..).symm.trans hv, hd⟩) (by decide)
  exact ⟨S', IT, z ⟨⟨_, hg, rfl, rfl⟩, hl2⟩⟩
end
end NC
end Mine
namespace Mine
noncomputable section NC
section
variable {c : Cx} {env : Env} {names : List Str} {kd : Str → Option NameKind} {ρ : Rho}
noncomputable def rangeL (a b : Int) : List AV := (List.range (b - a).toNat).map fun i => AV.int (a + (i : Nat))
theorem it_range (hw : CxW c) {A : Around} {X : Addr → Prop} {s s1 : Shared} {tgt : Expr} {a b : Int} {r : Addr} {t u v : Tok} {Q : Value → Shared → Prop} (R : Room A c.n) (V : Vs c env names kd X ρ s) (e1 : c.Ext s s1) (hr : IsRange s1.heap r a b 1 t u v)
    (ha : -(2 ^ 62) ≤ a) (ha' : a < 2 ^ 62) (hb : -(2 ^ 62) ≤ b) (hb' : b < 2 ^ 62)
    (h : ∀ I S s', c.Ext s s' → s.heap.get? I = none → ¬ X I → ¬ c.wd I → I ≠ env.locals → (∀ x, env.cells.lookup x ≠ some I) → Itr c A tgt I s'.heap (fun b => X b ∨ b = I) (rangeL a b) S → S 0 s'.heap → Q (.ref I) s') :
    wpAny c.M A (pyIter (.ref r)) Q noE s1 := by
  refine wpAny_pyIter_range hr (small_one ha ha' hb hb') ?_
  have hsz : Builtin.Range.rangeSize a b 1 = (((b - a).toNat : Nat) : Int) := by rw [rangeSize_one]; split <;> omega
  rw [hsz]
  refine it_new hw V e1 rfl h fun kp hg ne rp => ⟨_, itr_of_walks (T := "range_iterator") (n := (b - a).toNat) (Walks.range R.hd s1.heap.objs.size a 1 (b - a).toNat) (by rw [rangeL, List.length_map, List.length_range]) (fun b hb ne => absurd (List.mem_singleton.mp hb) ne) ⟨_, hg⟩ (.inr rfl)
    (fun i h' z => ⟨_, z, rfl, fun ⟨vs, y, t, z, z2⟩ => by cases z; cases z2⟩) (by decide) (fun i v d h' X2 hv hd k kx2 => ?_), ?_, fun _ _ _ q => q⟩
  · obtain ⟨t, rfl⟩ := hv
    unfold rangeL at hd
    rw [List.getElem?_map] at hd
    obtain ⟨j, hj, rfl⟩ := Option.map_eq_some_iff.mp hd
    obtain ⟨h1, h2⟩ := List.getElem?_eq_some_iff.mp hj
    rw [← h2, List.getElem_range, Int.mul_one]
    exact .int _ _
  · show IsRangeIter _ s1.heap.objs.size _ _ _
    unfold IsRangeIter
    rw [hg]
    simp
theorem it_rng (hw : CxW c) {e tgt : Expr} {p pos : Pos} {n : Int} (hg : glob kd (Str.ofString "range") = true) (he : EvOk c env names kd ρ e (.int n)) (hp : plainE e = true) (h1 : -(2 ^ 62) ≤ n) (h2 : n < 2 ^ 62) :
    ItOk c env names kd ρ (.Call (.Name (Str.ofString "range") p) [e] [] pos) tgt (rangeL 0 n) := fun A X s Q R V h =>
  call_type1 hw R V hg (by simp [usedB]) boot_range (by decide +kernel) he hp fun v s1 e1 r1 => Rep.int_k r1 fun t => call_range_1 (it_range hw R V (e1.trans ((Ext.push hw s1 _).tk _)) (IsRange.new ..) (by decide) (by decide) h1 h2 h)
theorem it_rng2 (hw : CxW c) {e e' tgt : Expr} {p pos : Pos} {n m : Int} (hg : glob kd (Str.ofString "range") = true) (he : EvOk c env names kd ρ e (.int n)) (hp : plainE e = true) (he' : EvOk c env names kd ρ e' (.int m)) (hp' : plainE e' = true)
    (h1 : -(2 ^ 62) ≤ n) (h2 : n < 2 ^ 62) (h3 : -(2 ^ 62) ≤ m) (h4 : m < 2 ^ 62) : ItOk c env names kd ρ (.Call (.Name (Str.ofString "range") p) [e, e'] [] pos) tgt (rangeL n m) := fun A X s Q R V h =>
  call_type2 hw R V hg (by simp [usedB]) boot_range (by decide +kernel) he hp he' hp' fun v v' s1 e1 r1 r2 => Rep.int_k r1 fun t => Rep.int_k r2 fun t' => call_range_2 (it_range hw R V (e1.trans ((Ext.push hw s1 _).tk _)) (IsRange.new ..) h1 h2 h3 h4 h)
end
end NC
end Mine
namespace Mine
noncomputable section NC
section
variable {c : Cx} {env : Env} {names : List Str} {kd : Str → Option NameKind} {ρ : Rho}
theorem it_rev (hw : CxW c) {e tgt : Expr} {p pos : Pos} {ds : List AV} (hg : glob kd (Str.ofString "reversed") = true) (he : EvOk c env names kd ρ e (.lst ds)) (hp : plainE e = true) :
    ItOk c env names kd ρ (.Call (.Name (Str.ofString "reversed") p) [e] [] pos) tgt ds.reverse := by
  intro A X s Q R V h
  refine call_type1 hw R V hg (by simp [usedB]) boot_reversed (by decide +kernel) he hp fun v s1 e1 r1 => Rep.lst_k r1 fun a vs nx hl rs => call_reversed_list hl ?_
  rw [List.size_toArray]
  have e2 := e1.trans (Ext.push hw s1 (revObj a ((vs.length : Int) - 1)))
  have hI : (s1.heap.push (revObj a ((vs.length : Int) - 1))).IsRevIter s1.heap.objs.size a ((vs.toArray.size : Int) - 1 - ((0 : Nat) : Int)) := ⟨_, Heap.get?_push_size _ rfl, rfl, by rw [List.size_toArray]; simp [revObj]⟩
  refine wpAny_pyIter_revIter hI (it_new hw V e1 rfl h fun kp hg ne rp => ?_)
  have hl2 := IsList.keep1 hl fun o q => kp a o q
  obtain ⟨S', IT, z⟩ := itr_list (tgt := tgt) (ds := ds.reverse) (T := "list_reverseiterator") (Walks.listRev R.hd s1.heap.objs.size a (ne (IsList.some hl)) vs.toArray) (fun i h' ⟨_, ⟨o, q, q2, q3⟩, _⟩ => ⟨o, q, q2, fun ⟨vs, y, t, z, z2⟩ => by rw [q3] at z; cases z; cases z2⟩) ⟨_, hg⟩ (fun q => q.elim nx (ne (IsList.some hl))) (IsList.some hl2) (.inr rfl)
    (Reps.run (M := fun vs ds => c.Reps _ _ vs ds) .nil (fun a _ r => .cons (rp a) r) rs) (by rw [List.size_toArray, List.length_reverse]; exact rs.length) (fun i v d hv hd => ⟨ds.length - 1 - i, by
      have hlen := rs.length
      rw [← hlen]
      exact (List.getElem?_toArray ..).symm.trans (by rw [← List.size_toArray]; exact hv), by
      rw [← List.getElem?_reverse (by have := (List.getElem?_eq_some_iff.mp hd).1; rw [List.length_reverse] at this; exact this)]; exact hd⟩) (by decide)
  exact ⟨S', IT, z ⟨Nat.zero_le _, hI, hl2⟩⟩
end
section
variable {x : Sx} {X X' X'' : Addr → Prop} {ρ ρ' : Rho} {own own' own'' : OwnO} {s s' s'' : Shared} {Post : PostT} {ms : List MS}
theorem ndx_of (ok : SxOk x) {i j : Nat} {y : Str} (h1 : x.names[i]? = some y) (h2 : x.names[j]? = some y) : i = j :=
  List.getElem?_inj (List.getElem?_eq_some_iff.mp h1).1 ok.nd |>.mp (h1.trans h2.symm)
/-- the owned object comes to rest: an expression from now on -/
theorem St.frz (ok : SxOk x) {i : Nat} {a : Addr} {l : AV} (S : x.St X ρ (some (i, a, l)) s) (ha : ¬ x.X0 a) : x.St (fun b => X b ∧ b ≠ a) (ρ.set i (some l)) none s := by
  obtain ⟨y, o⟩ := S.own i a l rfl
  have hxa : ¬ x.c.xc a := fun q => o.nwd (ok.c.w.xcwd a q)
  refine ⟨⟨S.v.fk, S.v.gl, S.v.bi, S.v.kd, S.v.wd, ⟨fun b hb => ⟨S.v.x.xc b hb, fun q => hxa (q ▸ hb)⟩, fun b hb => S.v.x.lt b hb.1⟩, S.v.lc, S.v.al, fun j z d hn hr => ?_⟩, S.e, S.xo0, fun b hb => ⟨S.up b hb, fun q => ha (q ▸ hb)⟩, S.kde,
    ⟨S.loc.1, ⟨S.loc.2.1, fun q => o.sep.1 q.symm⟩, S.loc.2.2⟩, S.ns, fun z hz => ?_, S.apart, S.x0, fun _ _ _ q => nomatch q⟩
  · refine (Decidable.em (j = i)).elim (fun hji => ?_) fun hji => ?_
    · rw [hji] at hn hr
      have hlen : i < ρ.length := List.length_set ▸ (List.getElem?_eq_some_iff.mp hr).1
      rw [List.getElem?_set_self hlen] at hr
      rw [o.nm] at hn
      exact Option.some.inj hn ▸ Option.some.inj (Option.some.inj hr) ▸ ⟨_, o.ld, o.own.rep (fun q => q.2 rfl) fun _ _ q _ => q.1⟩
    · rw [List.getElem?_set_ne (Ne.symm hji)] at hr
      obtain ⟨u, l', r'⟩ := S.v.vars j z d hn hr
      exact ⟨u, l', r'.mono (fun _ _ _ e => e) fun _ _ q _ => q.1⟩
  · obtain ⟨b, g1, g2, g3⟩ := S.cel z hz
    exact ⟨b, g1, ⟨g2, fun q => o.sep.2 z (q ▸ g1)⟩, g3⟩
/-- whoever may write without an owned object may write with one -/
theorem wr_none {x : Sx} {o : Nat × Addr × AV} {b : Addr} (q : x.Wr none b) : x.Wr (some o) b := q.imp_right fun q => q.imp_right fun q => q.imp_right fun ⟨_, _, q⟩ => nomatch q
theorem Ex_frz (ok : SxOk x) {i : Nat} {a : Addr} {l : AV} (hxo : ¬ x.xo a) (h : Ex x ms (ρ.set i (some l)) none Post) : Ex x ms ρ (some (i, a, l)) Post := by
  intro ss hs A s X R S
  have ha : ¬ x.X0 a := fun q => (S.own i a l rfl).elim fun _ o => (S.x0 a q).elim (fun z => o.nwd (ok.c.w.xcwd a z)) fun ⟨_, z⟩ => o.new.elim (fun h5 => absurd (h5.symm.trans z) nofun) hxo
  refine wpAny_mono (h ss hs A s _ R (St.frz ok S ha)) (fun fl s1 ⟨o, ρ1, own1, X1, hP, hO, S1, a1⟩ => ⟨o, ρ1, own1, X1, hP, hO, S1, ?_⟩) fun _ _ e => e
  exact ⟨fun b o' n e => a1.keep b o' (fun q => n (wr_none q)) e, fun b o' e q => (a1.xx b o' e q).1, fun b o' e q => wr_none (a1.ww b o' e q), fun b q n => a1.xm b ⟨q, fun z => n (.inr (.inr (.inr ⟨i, l, z ▸ rfl⟩)))⟩ fun q => n (wr_none q)⟩
/-- the owned object is changed -/
theorem St.ownUpd (ok : SxOk x) {i : Nat} {a : Addr} {l l' : AV} (S : x.St X ρ (some (i, a, l)) s) {h' : Heap} {tk : Nat} (k : ∀ b o, ¬ x.c.xc b → b ≠ a → s.heap.get? b = some o → h'.get? b = some o) (W' : x.c.W h') (al : ∀ b, (∃ o, s.heap.get? b = some o) → ∃ o, h'.get? b = some o) (hp : OwnAt x.c X h' a l') :
    x.St X ρ (some (i, a, l')) { s with heap := h', toks := tk } ∧ Stp x X (some (i, a, l)) s X (some (i, a, l')) { s with heap := h', toks := tk } := by
  obtain ⟨y, o⟩ := S.own i a l rfl
  have hxa : ¬ x.c.xc a := fun q => o.nwd (ok.c.w.xcwd a q)
  have kx : ∀ b o, ¬ X b → s.heap.get? b = some o → h'.get? b = some o := fun b o' n e => k b o' (fun q => n (S.v.x.xc b q)) (fun q => n (q ▸ o.x)) e
  have nl : x.env.locals ≠ a := fun q => o.sep.1 q.symm
  have nc : ∀ {y b}, x.env.cells.lookup y = some b → b ≠ a := fun hb z => o.sep.2 _ (z ▸ hb)
  have kl : ∀ {y v}, Ld x.env s.heap y v → Ld x.env h' y v := fun q => q.imp (fun ⟨hl, m', hm', hv⟩ => ⟨hl, m', Ns.keep1 hm' fun o e => k _ o S.v.lc.1 nl e, hv⟩) fun ⟨hl, b, hb, hv⟩ => ⟨hl, b, hb, IsCell.keep1 hv fun o e => k _ o (S.v.lc.2 _ _ hb) (nc hb) e⟩
  refine ⟨⟨⟨S.v.fk, S.v.gl, S.v.bi, S.v.kd, W', ⟨S.v.x.xc, fun b hb => (S.v.x.lt b hb).imp id (al b)⟩, S.v.lc, ⟨al _ S.v.al.1, fun z b hb => al b (S.v.al.2 z b hb)⟩, fun j z d hn hr' => (S.v.vars j z d hn hr').elim fun u ⟨q1, r'⟩ => ⟨u, kl q1, r'.mono kx fun _ _ q _ => q⟩⟩, ⟨S.e.same.elim fun g1 ⟨t1, e1⟩ => ⟨h', tk, by rw [e1]⟩, fun b o' nb e => k b o' (fun q => nb (.inl q)) (fun q => ?_) (S.e.keep b o' nb e), fun _ => W'⟩, S.xo0, S.up, S.kde, S.loc,
      S.ns.imp fun m hm => Ns.keep1 hm fun o e => k _ o S.v.lc.1 nl e, fun z hz => ?_, S.apart, S.x0, fun j b l2 hj => ?_⟩, ⟨fun b o n e => k b o (fun q => n (.inl q)) (fun q => n (.inr (.inr (.inr ⟨i, l, q ▸ rfl⟩)))) e, fun _ _ _ q => q, fun b o _ q => ?_, fun _ q _ => q⟩⟩
  · exact o.new.elim (fun h5 => by rw [q, h5] at e; cases e) fun h5 => nb (.inr (q ▸ h5))
  · obtain ⟨b, g1, g2, g3, g4, u, g5⟩ := S.cel z hz
    exact ⟨b, g1, g2, g3, g4, u, IsCell.keep1 g5 fun o e => k _ o (S.v.lc.2 _ _ g1) (nc g1) e⟩
  · cases hj
    exact ⟨y, o.nm, kl o.ld, o.x, o.nwd, o.new, o.sep, hp⟩
  · exact q.imp_right fun q => q.imp_right fun q => q.imp_right fun ⟨j, l2, q⟩ => by cases q; exact ⟨i, l, rfl⟩
/-- the same, where nothing but the object changes -/
theorem St.ownSet (ok : SxOk x) {i : Nat} {a : Addr} {l l' : AV} (S : x.St X ρ (some (i, a, l)) s) {h' : Heap} {tk : Nat} (k : ∀ b o, b ≠ a → s.heap.get? b = some o → h'.get? b = some o) (hp : OwnAt x.c X h' a l') :
    x.St X ρ (some (i, a, l')) { s with heap := h', toks := tk } ∧ Stp x X (some (i, a, l)) s X (some (i, a, l')) { s with heap := h', toks := tk } :=
  (S.own i a l rfl).elim fun y o => St.ownUpd ok S (fun b o _ n e => k b o n e) (ok.c.w.stable _ _ S.v.wd fun b o' wb e => k b o' (fun q => wb.elim (fun wb => o.nwd (q ▸ wb)) (o.own.notRec (q ▸ e))) e)
    (fun b ⟨o, e⟩ => (Decidable.em (b = a)).elim (fun q => q ▸ hp.alive) fun q => ⟨o, k b o q e⟩) hp
/-- a change of the frame's own object ends a statement -/
theorem nxt_own (ok : SxOk x) {i : Nat} {a : Addr} {l l' : AV} {s1 : Shared} (S : x.St X ρ (some (i, a, l)) s) (e : x.c.Ext s s1) {h' : Heap} {tk : Nat} (k : ∀ b o, b ≠ a → s1.heap.get? b = some o → h'.get? b = some o) (hp : OwnAt x.c X h' a l') (h : Ex x ms ρ (some (i, a, l')) Post) : Nxt x ms Post X (some (i, a, l)) s .next { s1 with heap := h', toks := tk } :=
  have hu := St.ownSet ok (St.extS ok S e) (tk := tk) k hp
  .inl ⟨rfl, ρ, _, X, hu.1, (Stp.ext ok.c.w e).trans S hu.2, h⟩
/-- x.append(e), x the frame's own list -/
theorem Ex_app (ok : SxOk x) {i : Nat} {a : Addr} {l : List AV} {e : ME} {d : AV} {C : Prop} (hm : mev x.c.F x.c.X ρ e = some (d, C)) (hC : C) (hl : l.length ≤ 2 ^ 20) (h : Ex x ms ρ (some (i, a, .lst (l ++ [d]))) Post) : Ex x (.app i e :: ms) ρ (some (i, a, .lst l)) Post := by
  refine Ex_cons fun st hs A s X R S => sMeth_k hs fun y p apos es cpos pos hn hok hpos hs => k1_k fT hs fun e0 hc => ?_
  have hst : starEach [e0] x.env = [(false, eval e0 x.env)] := starEach_plain (chk_plain hc)
  refine wpAny_Expr_any ?_ (by unfold interactive; rw [S.v.fk]; rfl) rfl
  refine wpAny_Call_append rfl (by rw [hst]; rfl) hpos (by rw [hst]; rfl) ?_
  refine hide fun G kG => ?_
  obtain ⟨y', o⟩ := S.own i a _ rfl
  have ld := o.ld
  rw [← Option.some.inj (hn.symm.trans o.nm)] at ld
  obtain ⟨vs, ⟨n, h7⟩, h8⟩ := o.own
  refine kG (name_Ld S.v.fk ld hok ⟨a, vs.toArray, rfl, ⟨_, n, h7, rfl, rfl, rfl⟩, (sound ok.c e e0 d C hc hm hC).1 A X s _ R S.v fun v s1 e1 r1 => ?_⟩)
  refine hide fun G kG => ?_
  obtain ⟨_, o1⟩ := (St.extS ok S e1).own i a _ rfl
  obtain ⟨vs1, g7, g8⟩ := o1.own
  have hlen := g8.length
  refine kG (wpAny_list_append_plain g7 (fun h' hp' hs' => ?_) (by rw [sizeLine_eq, List.size_toArray]; omega))
  have k : ∀ b o, b ≠ a → s1.heap.get? b = some o → h'.get? b = some o := fun b o n e => (hs'.2 b n).trans e
  exact nxt_own ok S e1 (l' := .lst (l ++ [d])) k ⟨vs1 ++ [v], List.push_toArray .. ▸ hp', (g8.append (.cons r1 .nil)).mono (fun b o n e => k b o (fun q => n (q ▸ o1.x)) e) fun _ _ q _ => q⟩ h
/-- a new object is stored under a name, and is the frame's own -/
theorem new_own (ok : SxOk x) {A : Around} {i : Nat} {y : Str} {ob : Obj} {d : AV} (hs : stName x.names x.kd i y = true) (hnf : ob.isFreed = false) (R : Room A x.c.n) (S : x.St X ρ none s) (hd : ∀ h : Heap, h.get? s.heap.objs.size = some ob → (s.heap.objs.size == sysModules) = false → (∀ b o, ¬ X b → s.heap.get? b = some o → h.get? b = some o) → OwnAt x.c (fun b => X b ∨ b = s.heap.objs.size) h s.heap.objs.size d)
    (h : Ex x ms (ρ.set i none) (some (i, s.heap.objs.size, d)) Post) : wpAny x.c.M A (storeName x.env y (.ref s.heap.objs.size)) (fun _ s' => Nxt x ms Post X none s .next s') noE { s with heap := s.heap.push ob } := by
  have hnk := stName_of hs
  have e1 : x.c.Ext s { s with heap := s.heap.push ob } := Ext.push ok.c.w s _
  have hnI := fresh_none s
  have ne : ∀ {a}, (∃ o, s.heap.get? a = some o) → a ≠ s.heap.objs.size := fun ⟨o, z⟩ q => by rw [q, hnI] at z; cases z
  have hg0 : (s.heap.push ob).get? s.heap.objs.size = some ob := Heap.get?_push_size _ hnf
  have S1 : x.St (fun b => X b ∨ b = s.heap.objs.size) ρ none _ := St.withI S hnI e1 ⟨_, hg0⟩ ok
  have hwI : ¬ x.c.wd s.heap.objs.size := fun q => ne (ok.c.w.alive _ _ S.v.wd q) rfl
  have hsys : (s.heap.objs.size == sysModules) = false := Bool.eq_false_iff.mpr fun q => hwI (beq_iff_eq.mp q ▸ ok.c.w.sysm)
  have hI : s.heap.objs.size ≠ x.env.locals ∧ ∀ z, x.env.cells.lookup z ≠ some s.heap.objs.size := ⟨(ne S.v.al.1).symm, fun z q => ne (S.v.al.2 _ _ q) rfl⟩
  refine St.store S1 hnk.2 fun h' tk tgt hwr hx hwd h0 Z => ?_
  have nt : s.heap.objs.size ≠ tgt := fun q => Z.tg.elim (fun z => hI.1 (q.trans z)) fun ⟨y, z⟩ => hI.2 y (q ▸ z)
  -- the name forgets what it held; then it holds the object
  have S2 : x.St (fun b => X b ∨ b = s.heap.objs.size) (ρ.set i none) none { ({ s with heap := s.heap.push ob } : Shared) with heap := h', toks := tk } :=
    St.stored ok.c.w S1 hnk.1 ok.nd hx hwd h0 Z (fun _ q => nomatch q) (fun _ _ _ q => nomatch q)
  have S3 : x.St (fun b => X b ∨ b = s.heap.objs.size) (ρ.set i none) (some (i, s.heap.objs.size, d)) { ({ s with heap := s.heap.push ob } : Shared) with heap := h', toks := tk } :=
    ⟨S2.v, S2.e, S2.xo0, S2.up, S2.kde, S2.loc, S2.ns, S2.cel, S2.apart, S2.x0, fun j b l q => by cases q; exact ⟨_, hnk.1, Z.ld, .inr rfl, hwI, .inl (St.fresh0 S ok.c.w hnI), hI, hd h' (Z.keep _ _ nt hg0) hsys fun b o nb e => Z.keep b o (fun q => (q ▸ hx).elim nb fun z => nt (z.symm.trans q)) (Heap.get?_push_of_some _ e)⟩⟩
  refine .inl ⟨rfl, _, _, _, S3, ⟨fun b o n e => Z.keep b o (fun q => n (q ▸ hwr)) (Heap.get?_push_of_some _ e), fun b o e q => q.elim id fun q => absurd q (ne ⟨o, e⟩), fun b o e q => ?_, fun b q _ => .inl q⟩, h⟩
  exact q.imp_right fun q => q.imp_right fun q => q.imp_right fun ⟨_, _, q⟩ => by cases q; exact absurd rfl (ne ⟨o, e⟩)
/-- x = [], a list of the frame's own -/
theorem Ex_new (ok : SxOk x) {i : Nat} (h : ∀ a, Ex x ms (ρ.set i none) (some (i, a, .lst [])) Post) : Ex x (.new i :: ms) ρ none Post :=
  Ex_cons fun st hs A s X R S => sSet_k hs fun y p e pos hs => kList_k fT (and_t hs).2 fun l lp h2 => emp_k h2 (wpAny_Assign_Name (wpAny_List (wpAny_items_nil ⟨by rw [sizeLine_eq]; exact Nat.zero_le _, new_own ok (and_t hs).1 rfl R S (d := .lst []) (fun h' e _ _ => ⟨[], ⟨_, e⟩, .nil⟩) (h _)⟩)))
/-- x = {}, a dict of the frame's own -/
theorem Ex_newD (ok : SxOk x) {i : Nat} {b : Bool} (h : ∀ a, Ex x ms (ρ.set i none) (some (i, a, bif b then .dS [] else .dI [])) Post) : Ex x (.newD i b :: ms) ρ none Post := by
  refine Ex_cons fun st hs A s X R S => sSet_k hs fun y p e pos hs => kDict_k fT (and_t hs).2 fun l m lp h2 => emp_k (and_t h2).1 (emp_k (and_t h2).2 (wpAny_Assign_Name (wpAny_Dict_empty (new_own ok (and_t hs).1 rfl R S (d := bif b then .dS [] else .dI []) (fun h' eo hy _ => ?_) (h _)))))
  cases b
  · exact ⟨hy, [], ⟨_, _, _, eo, ⟨rfl, rfl, rfl⟩, rfl, fun _ q => by simp at q, .nil, .nil⟩, rfl, .nil⟩
  · exact ⟨hy, [], ⟨_, _, _, eo, ⟨rfl, rfl, rfl⟩, rfl, fun _ q => by simp at q, .nil, .nil⟩, rfl, .nil⟩
end
end NC
end Mine
namespace Mine
noncomputable section NC
theorem bindL_other {k : Str → Option NameKind} {y : Str} : ∀ {binds : List (Str × Value)} {m : Str → Option Value}, (∀ p ∈ binds, p.1 ≠ y) → bindL k binds m y = m y
  | [], _, _ => rfl
  | (n, v) :: r, m, h => by
    unfold bindL
    rw [bindL_other fun p hp => h p (List.mem_cons_of_mem _ hp)]
    split
    · exact if_neg (Ne.symm (h (n, v) List.mem_cons_self))
    · rfl
theorem bindC_other {k : Str → Option NameKind} {y : Str} : ∀ {binds : List (Str × Value)} {m : Str → Option Value}, (∀ p ∈ binds, p.1 ≠ y) → bindC k binds m y = m y
  | [], _, _ => rfl
  | (n, v) :: r, m, h => by
    unfold bindC
    rw [bindC_other fun p hp => h p (List.mem_cons_of_mem _ hp)]
    split
    · rfl
    · exact if_neg (Ne.symm (h (n, v) List.mem_cons_self))
theorem bindL_at {k : Str → Option NameKind} {y : Str} {v : Value} (hk : k y = some .local) : ∀ {ps : List Str} {vs : List Value} {m : Str → Option Value} {i : Nat}, ps.Nodup → ps[i]? = some y → vs[i]? = some v → bindL k (ps.zip vs) m y = some v
  | [], _, _, _, _, h, _ => by simp at h
  | _ :: _, [], _, _, _, _, h => by simp at h
  | p :: ps, u :: vs, m, 0, nd, h1, h2 => by
    simp only [List.getElem?_cons_zero, Option.some.injEq] at h1 h2
    subst h1; subst h2
    rw [List.zip_cons_cons]
    unfold bindL
    rw [bindL_other (fun q hq e => (List.nodup_cons.mp nd).1 (by rw [← e]; exact (List.of_mem_zip hq).1)), if_pos hk]
    simp
  | p :: ps, u :: vs, m, i + 1, nd, h1, h2 => by
    simp only [List.getElem?_cons_succ] at h1 h2
    rw [List.zip_cons_cons]
    unfold bindL
    exact bindL_at hk (List.nodup_cons.mp nd).2 h1 h2
theorem bindC_at {k : Str → Option NameKind} {y : Str} {v : Value} (hk : k y = some .cell) : ∀ {ps : List Str} {vs : List Value} {m : Str → Option Value} {i : Nat}, ps.Nodup → ps[i]? = some y → vs[i]? = some v → bindC k (ps.zip vs) m y = some v
  | [], _, _, _, _, h, _ => by simp at h
  | _ :: _, [], _, _, _, _, h => by simp at h
  | p :: ps, u :: vs, m, 0, nd, h1, h2 => by
    simp only [List.getElem?_cons_zero, Option.some.injEq] at h1 h2
    subst h1; subst h2
    rw [List.zip_cons_cons]
    unfold bindC
    rw [bindC_other (fun q hq e => (List.nodup_cons.mp nd).1 (by rw [← e]; exact (List.of_mem_zip hq).1)), if_neg (by rw [hk]; simp)]
    simp
  | p :: ps, u :: vs, m, i + 1, nd, h1, h2 => by
    simp only [List.getElem?_cons_succ] at h1 h2
    rw [List.zip_cons_cons]
    unfold bindC
    exact bindC_at hk (List.nodup_cons.mp nd).2 h1 h2
/-- a def of the top, as the world's old part holds it -/
structure DefOf (c : Cx) (name : Str) (f : Addr) (params : Arguments) (body : List Stmt) (scope : Scope) : Prop where
  glob : c.mg name = some (.ref f)
  obj : ∀ h, c.W h → ∃ o pm code doc, h.get? f = some o ∧ o.data = .func (docDef name params body scope pm code doc) ∧ h.CodeRec code name
noncomputable def kdOf (sc : Scope) : Str → Option NameKind := fun x => sc.names.lookup x
theorem cells_lookup {n : Nat} {sc : Scope} {y : Str} (h : sc.names.lookup y = some .cell) : ((cellsFrom n sc.names []).lookup y).isSome = true := cellsFrom_some _ _ _ (.inl h)
set_option maxHeartbeats 2000000 in
/-- a def answers what its body is shown to return -/
theorem FnOk_ofC {c : Cx} (hw : CxW c) {n k : Nat} {ds : List AV} {d : AV} {name : Str} {f : Addr} {params : Arguments} {body : List Stmt} {scope : Scope} {ps rest : List Str} (ys : Nat → List Nat → Stmt → Option (List Expr)) (zs : Nat → Expr → Option (List Expr × List Str)) {ms : List MS}
    {F X : Nat → List AV → AP} {xs : Nat → Expr → Option (List Expr × List Str)} (hk : c.gs[k]? = some name) (D : DefOf c name f params body scope)
    (hbind : ∀ pm code doc (vs : List Value), vs.length = ps.length → bindArgs (docDef name params body scope pm code doc) ⟨vs, []⟩ = pure (ps.zip vs))
    (hlen : ds.length = ps.length) (hps : (ps.all fun y => scope.names.lookup y == some .local || scope.names.lookup y == some .cell) = true) (nd : ps.Nodup)
    (hchk : chkSs (ps ++ rest) (kdOf scope) c.gs xs ys zs ms body = true)
    (hex : ∀ env s₀ X0, ((c.W s₀.heap ∧ ∃ o pm doc, s₀.heap.get? f = some o ∧ o.data = .func (docDef name params body scope pm env.code doc)) ∧ env.qual = name ++ (".<locals>." : Str)) → Ex ⟨{ c with n := n, F := F, X := X, xs := xs }, env, ps ++ rest, kdOf scope, s₀, X0, fun _ => False, ys, zs⟩ ms (ds.map some ++ rest.map fun _ => none) none (fun o _ _ => o = .ret d))
    (hco : scope.isCoroutine = false := by rfl) (hgen : scope.isGenerator = false := by rfl) (hkd : scope.kind = .function := by rfl) : FnOk c (n + 1) k ds d := by
  refine ⟨name, f, hk, D.glob, fun h W => let ⟨o, pm, code, doc, h1, h2, _⟩ := D.obj h W; ⟨o, _, h1, h2⟩, fun A X0 s vs Q R W xo r hq => ?_⟩
  obtain ⟨o, pm, code, doc, ho, hd, hcr⟩ := D.obj _ W
  have hvl := r.length
  have hv : vs.length = ps.length := by omega
  have hkind : ∀ p ∈ ps.zip vs, scope.names.lookup p.1 = some .local ∨ (scope.names.lookup p.1 = some .cell ∧ ((cellsFrom (s.heap.objs.size + 1) scope.names []).lookup p.1).isSome = true) := fun p hp => by
    have := List.all_eq_true.mp hps p.1 (List.of_mem_zip hp).1
    rcases Bool.or_eq_true_iff.mp this with q | q
    · exact .inl (by simpa using q)
    · exact .inr ⟨by simpa using q, cells_lookup (by simpa using q)⟩
  refine wpAny_call (codeAny_call_cells (by have := R.dp; omega) ho hd (hw.nolim _ W) hcr rfl (hbind pm code doc vs hv) rfl hkind (fun s₁ C => ?_) hco hgen hkd)
  generalize hfd : docDef name params body scope pm code doc = fd at C ⊢
  have hsc : fd.scope = scope := by rw [← hfd]; rfl
  have hgl : fd.globals = mainGlobals := by rw [← hfd]; rfl
  have hbi : fd.builtins = builtinsNs := by rw [← hfd]; rfl
  generalize henv : callEnvC fd s.heap.objs.size f = env at C ⊢
  have e1 : env.scope = scope := by rw [← henv, ← hsc]; rfl
  have e2 : env.globals = mainGlobals := by rw [← henv, ← hgl]; rfl
  have e3 : env.builtins = builtinsNs := by rw [← henv, ← hbi]; rfl
  have e4 : env.locals = s.heap.objs.size := by rw [← henv]; rfl
  have e5 : env.cells = cellsFrom (s.heap.objs.size + 1) scope.names [] := by rw [← henv, ← hsc]; rfl
  have ek : ∀ y, env.kindOf y = kdOf scope y := fun y => by unfold Env.kindOf kdOf; rw [e1]
  have none0 : ∀ a, s.heap.objs.size ≤ a → s.heap.get? a = none := fun a h => Heap.get?_none_of_le h
  have nwd : ∀ a, s.heap.objs.size ≤ a → ¬ c.wd a := fun a h q => by obtain ⟨o, z⟩ := hw.alive _ _ W q; rw [none0 a h] at z; cases z
  have W1 : c.W s₁.heap := hw.stable _ _ W fun b o _ e => C.toInCall.keep b o e
  have ext : c.Ext s s₁ := by
    obtain ⟨h, tk, e⟩ := C.toInCall.same
    exact ⟨⟨h, tk, e⟩, fun b o _ e => C.toInCall.keep b o e, fun _ => W1⟩
  have cellAt : ∀ y a, env.cells.lookup y = some a → s.heap.objs.size ≤ a ∧ ∃ v, s₁.heap.IsCell a v := fun y a h =>
    ⟨Nat.le_of_lt (e4 ▸ C.above y a (mem_of_lookup h)), _, C.cell y a h⟩
  let X' : Addr → Prop := fun b => X0 b ∨ b = env.locals ∨ ∃ y, env.cells.lookup y = some b
  have kx : ∀ b o, X' b → s.heap.get? b = some o → X0 b := fun b o q e => by
    rcases q with q | rfl | ⟨y, q⟩
    · exact q
    · rw [none0 _ (by rw [e4]; exact Nat.le_refl _)] at e; cases e
    · rw [none0 _ (cellAt y b q).1] at e; cases e
  have nsA : ∃ o, s₁.heap.get? env.locals = some o := by obtain ⟨o, _, _, q, _⟩ := C.toInCall.ns; exact ⟨o, q⟩
  have ceA : ∀ y a, env.cells.lookup y = some a → ∃ o, s₁.heap.get? a = some o := fun y a h => by obtain ⟨_, v, o, q, _⟩ := cellAt y a h; exact ⟨o, q⟩
  have St0 : Mine.St { c with n := n, F := F, X := X, xs := xs } env (ps ++ rest) (kdOf scope) (fun _ => False) s X0 X' (ds.map some ++ rest.map fun _ => none) none s₁ := by
    refine ⟨⟨by rw [e1]; exact hkd, e2, e3, fun y h => (ek y).trans h, W1, ⟨fun b hb => .inl (xo.xc b hb), fun b hb => ?_⟩, ⟨fun q => nwd _ (by rw [e4]; exact Nat.le_refl _) (hw.xcwd _ q), fun y a h q => nwd _ (cellAt y a h).1 (hw.xcwd _ q)⟩, ⟨nsA, ceA⟩, fun i y d' hn hr => ?_⟩, ext.weaken fun _ h => .inl h, fun _ h => h.elim, fun b hb => .inl hb, ek,
      ⟨none0 _ (by rw [e4]; exact Nat.le_refl _), .inr (.inl rfl), nwd _ (by rw [e4]; exact Nat.le_refl _)⟩, ⟨_, C.toInCall.ns⟩, fun y hy => ?_, fun y z a hyz h1 h2 => ?_, fun b hb => xo.lt b hb, fun _ _ _ q => by cases q⟩
    · rcases hb with hb | rfl | ⟨y, hb⟩
      · rcases xo.lt b hb with q | ⟨o, q⟩
        · exact .inl q
        · exact .inr ⟨o, C.toInCall.keep b o q⟩
      · exact .inr nsA
      · exact .inr (ceA y b hb)
    · have hi : i < ds.length := by
        rcases Nat.lt_or_ge i ds.length with h | h
        · exact h
        · rw [List.getElem?_append_right (by simpa using h)] at hr
          rw [List.getElem?_map] at hr
          obtain ⟨_, _, q⟩ := Option.map_eq_some_iff.mp hr
          cases q
      rw [List.getElem?_append_left (by simpa using hi), List.getElem?_map] at hr
      obtain ⟨d'', hd', q⟩ := Option.map_eq_some_iff.mp hr
      cases q
      have hn' : ps[i]? = some y := by rw [List.getElem?_append_left (by omega)] at hn; exact hn
      obtain ⟨v, hv', rv⟩ := r.get hd'
      refine ⟨v, ?_, rv.mono (fun b o nb e => C.toInCall.keep b o e) kx⟩
      have hky := List.all_eq_true.mp hps y (List.mem_of_getElem? hn')
      rcases Bool.or_eq_true_iff.mp hky with q | q
      · have q' : scope.names.lookup y = some .local := by simpa using q
        refine .inl ⟨(ek y).trans q', _, C.toInCall.ns, bindL_at ((ek y).trans q') nd hn' hv'⟩
      · have q' : scope.names.lookup y = some .cell := by simpa using q
        obtain ⟨a, ha⟩ := Option.isSome_iff_exists.mp (cells_lookup (n := s.heap.objs.size + 1) q')
        rw [← e5] at ha
        refine .inr ⟨.inl ((ek y).trans q'), a, ha, ?_⟩
        have := C.cell y a ha
        rwa [bindC_at ((ek y).trans q') nd hn' hv'] at this
    · obtain ⟨a, ha⟩ := Option.isSome_iff_exists.mp (cells_lookup (n := s.heap.objs.size + 1) hy)
      rw [← e5] at ha
      exact ⟨a, ha, .inr (.inr ⟨y, ha⟩), nwd _ (cellAt y a ha).1, none0 _ (cellAt y a ha).1, (cellAt y a ha).2⟩
    · exact hyz (name_of_addr C.apart (mem_of_lookup h1) (mem_of_lookup h2))
  have hcode : ∃ o pm doc, s.heap.get? f = some o ∧ o.data = .func (docDef name params body scope pm env.code doc) := ⟨o, pm, doc, ho, by rw [← henv, show (callEnvC fd s.heap.objs.size f).code = fd.code from rfl, ← hfd]; exact hd⟩
  refine wpAny_mono (hex env s X0 ⟨⟨W, hcode⟩, by rw [← henv, show (callEnvC fd s.heap.objs.size f).qual = fd.qualname ++ (".<locals>." : Str) from rfl, ← hfd]; rfl⟩ body hchk (A.deeper env) s₁ X' (R.deeper env) St0) (fun fl s' h1 => ?_) fun _ _ e => e.elim
  obtain ⟨o', ρ', own', X1, rfl, hO, S', _⟩ := h1
  cases fl <;> first | exact hO.elim | exact hq _ s' (S'.e.weaken fun _ h => h.elim id False.elim) hO
/-- the same, where the frame's own code is not asked for -/
theorem FnOk_of {c : Cx} (hw : CxW c) {n k : Nat} {ds : List AV} {d : AV} {name : Str} {f : Addr} {params : Arguments} {body : List Stmt} {scope : Scope} {ps rest : List Str} (ys : Nat → List Nat → Stmt → Option (List Expr)) (zs : Nat → Expr → Option (List Expr × List Str)) {ms : List MS}
    {F X : Nat → List AV → AP} {xs : Nat → Expr → Option (List Expr × List Str)} (hk : c.gs[k]? = some name) (D : DefOf c name f params body scope)
    (hbind : ∀ pm code doc (vs : List Value), vs.length = ps.length → bindArgs (docDef name params body scope pm code doc) ⟨vs, []⟩ = pure (ps.zip vs))
    (hlen : ds.length = ps.length) (hps : (ps.all fun y => scope.names.lookup y == some .local || scope.names.lookup y == some .cell) = true) (nd : ps.Nodup)
    (hchk : chkSs (ps ++ rest) (kdOf scope) c.gs xs ys zs ms body = true)
    (hex : ∀ env s₀ X0, Ex ⟨{ c with n := n, F := F, X := X, xs := xs }, env, ps ++ rest, kdOf scope, s₀, X0, fun _ => False, ys, zs⟩ ms (ds.map some ++ rest.map fun _ => none) none (fun o _ _ => o = .ret d))
    (hco : scope.isCoroutine = false := by rfl) (hgen : scope.isGenerator = false := by rfl) (hkd : scope.kind = .function := by rfl) : FnOk c (n + 1) k ds d :=
  FnOk_ofC hw ys zs hk D hbind hlen hps nd hchk (fun env s₀ X0 _ => hex env s₀ X0) hco hgen hkd
end NC
end Mine
set_option maxRecDepth 100000
namespace Mine
noncomputable section NC
section
variable {c : Cx} {env : Env} {names : List Str} {kd : Str → Option NameKind} {ρ : Rho}
theorem call_blt (hw : CxW c) {A : Around} {X : Addr → Prop} {s : Shared} {x : Str} {p pos : Pos} {id : String} {es : List Expr} {ds : List AV} {Q : Value → Shared → Prop} (R : Room A c.n) (V : Vs c env names kd X ρ s) (hg : glob kd x = true) (hx : x ∈ usedB) (hb : bootBuiltins x = some (.builtin id)) (hn : x ≠ "__name__")
    (hne : es ≠ []) (he : EvsOk c env names kd ρ es ds) (h : ∀ vs s', c.Ext s s' → c.Reps X s'.heap vs ds → wpAny c.M A (call (.builtin id) vs) Q noE s') : wpAny c.M A (eval (.Call (.Name x p) es [] pos) env) Q noE s := by
  refine wpAny_Call_NameR (name_builtin hw V hg hx hb hn ?_)
  have hp := he.plain
  cases es with
  | nil => exact absurd rfl hne
  | cons e rest =>
    refine PyProof.Rows.callWith_builtin1 ?_ (starEach_plain (hp e List.mem_cons_self)) (plain_any fun e he => hp e (List.mem_cons_of_mem _ he))
    exact evs_ok he pos A X s _ R V h
/-- a call of a built-in function of the list, by its name -/
theorem blt_ok (hw : CxW c) {x : String} {id : String} {p pos : Pos} {es : List Expr} {ds : List AV} {d : AV} (hg : glob kd (Str.ofString x) = true) (hx : usedB.contains (Str.ofString x) = true) (hb : bootBuiltins (Str.ofString x) = some (.builtin id)) (hn : Str.ofString x ≠ "__name__") (hne : es ≠ []) (he : EvsOk c env names kd ρ es ds)
    (h : ∀ A X s s1 vs (Q : Value → Shared → Prop), Room A c.n → Vs c env names kd X ρ s1 → c.Ext s s1 → c.Reps X s1.heap vs ds → (∀ v s', c.Ext s s' → c.Rep X s'.heap v d → Q v s') → wpAny c.M A (call (.builtin id) vs) Q noE s1) : EvOk c env names kd ρ (.Call (.Name (Str.ofString x) p) es [] pos) d := fun A X s Q R V hq =>
  call_blt hw R V hg (List.contains_iff_mem.mp hx) hb hn hne he fun vs s1 e1 r1 => h A X s s1 vs Q R (V.ext e1) e1 r1 hq
theorem ev_len_str (hw : CxW c) {p pos : Pos} {e : Expr} {y : Str} (hg : glob kd (Str.ofString "len") = true) (he : EvsOk c env names kd ρ [e] [.str y]) (hl : y.length < 2 ^ 63) :
    EvOk c env names kd ρ (.Call (.Name (Str.ofString "len") p) [e] [] pos) (.int y.length) :=
  blt_ok hw hg (by decide +kernel) boot_len (by decide +kernel) nofun he fun A X s s1 vs Q R V e1 r1 h => Reps.one_k r1 fun v r => Rep.str_k r fun t => P.len_str (by omega) (h _ _ (e1.tk _) (.int _ _))
theorem ev_len_lst (hw : CxW c) {p pos : Pos} {e : Expr} {l : List AV} (hg : glob kd (Str.ofString "len") = true) (he : EvsOk c env names kd ρ [e] [.lst l]) (hl : l.length < 2 ^ 63) :
    EvOk c env names kd ρ (.Call (.Name (Str.ofString "len") p) [e] [] pos) (.int l.length) :=
  blt_ok hw hg (by decide +kernel) boot_len (by decide +kernel) nofun he fun A X s s1 vs Q R V e1 r1 h => Reps.one_k r1 fun v r => Rep.lst_k r fun a vs nx hl' rs => call_len_list hl' (by rw [List.size_toArray, rs.length]; omega) (by rw [List.size_toArray, rs.length]; exact h _ _ (e1.tk _) (.int _ _))
theorem ev_abs (hw : CxW c) {p pos : Pos} {e : Expr} {i : Int} (hg : glob kd (Str.ofString "abs") = true) (he : EvsOk c env names kd ρ [e] [.int i]) :
    EvOk c env names kd ρ (.Call (.Name (Str.ofString "abs") p) [e] [] pos) (.int i.natAbs) :=
  have e : (if i < 0 then -i else i) = (i.natAbs : Int) := by split <;> omega
  blt_ok hw hg (by decide +kernel) boot_abs (by decide +kernel) nofun he fun A X s s1 vs Q R V e1 r1 h => Reps.one_k r1 fun v r => Rep.int_k r fun t => call_abs_int fun u tk => by rw [e]; exact h _ _ (e1.tk _) (.int _ _)
theorem ev_str_int (hw : CxW c) {p pos : Pos} {e : Expr} {i : Int} (hg : glob kd (Str.ofString "str") = true) (he : EvsOk c env names kd ρ [e] [.int i]) (hi : i.natAbs.log2 < 1920) :
    EvOk c env names kd ρ (.Call (.Name (Str.ofString "str") p) [e] [] pos) (.str (Str.ofString (toString i))) := fun A X s Q R V h =>
  call_type1 hw R V hg (List.contains_iff_mem.mp (by decide +kernel)) PyProof.Rows.boot_str (by decide +kernel) he.1 he.2.1 fun v s1 e1 r1 => Rep.int_k r1 fun t => P.str_of_int hi (h _ _ (e1.tk _) (.str _ _))
theorem ev_divmod (hw : CxW c) {p pos : Pos} {e f : Expr} {i j : Int} (hg : glob kd (Str.ofString "divmod") = true) (he : EvsOk c env names kd ρ [e, f] [.int i, .int j]) (h0 : 0 < j) (h1 : j < 2 ^ 64) :
    EvOk c env names kd ρ (.Call (.Name (Str.ofString "divmod") p) [e, f] [] pos) (.tup [.int (i / j), .int (i % j)]) :=
  blt_ok hw hg (by decide +kernel) boot_divmod (by decide +kernel) nofun he fun A X s s1 vs Q R V e1 r1 h => Reps.two_k r1 fun v u r r' => Rep.int_k r fun t => Rep.int_k r' fun t' => divmod_int (Int.ne_of_gt h0) (by
    rw [Int.fdiv_eq_ediv_of_nonneg _ (Int.le_of_lt h0), Int.fmod_eq_emod_of_nonneg _ (Int.le_of_lt h0)]
    exact h _ _ ((e1.trans (Ext.push hw s1 _)).tk _) (.tup (fresh_not hw V.wd V.x) ⟨_, Heap.get?_push_size _ rfl⟩ (.cons (.int _ _) (.cons (.int _ _) .nil)))) (.inl (div_ok h0 h1))
theorem ev_sum (hw : CxW c) {p pos : Pos} {e : Expr} {l : List Int} (hg : glob kd (Str.ofString "sum") = true) (he : EvsOk c env names kd ρ [e] [.lst (l.map .int)]) (hf : PySem.SumFits l) :
    EvOk c env names kd ρ (.Call (.Name (Str.ofString "sum") p) [e] [] pos) (.int l.sum) := by
  refine blt_ok hw hg (by decide +kernel) boot_sum (by decide +kernel) nofun he fun A X s s1 vs Q R V e1 r1 h => Reps.one_k r1 fun v r => Rep.lst_k r fun a vs nx hl rs => ?_
  have hi := rs.ints
  refine hide fun G kG => ?_
  obtain ⟨xs, hxs⟩ := hi.allInts.items
  have hn : numsOf vs = xs.toList.map (·.1) := by
    have : numsOf vs.toArray.toList = numsOf vs := rfl
    rw [← this, hxs, nums_intItems]
  rw [hi.numsOf] at hn
  rw [hxs] at hl
  refine kG (sum_intList R.hd hl (fun j hj => ?_) fun h' tk t' hk => ?_)
  · rw [numAt_eq, preSum_eq, ← hn]; exact hf j (by rw [hn, List.length_map]; exact hj)
  · rw [preSum_eq, List.take_of_length_le (by rw [List.length_map]; exact Nat.le_refl _), ← hn]
    exact h _ _ (e1.trans (Ext.of_keeps hw hk)) (.int _ _)
theorem ev_bits {y : Str} {q p pos : Pos} {i : Int} (he : EvsOk c env names kd ρ [.Name y q] [.int i]) (hl : (p.endLine == pos.line) = true) :
    EvOk c env names kd ρ (.Call (.Attribute (.Name y q) (Str.ofString "bit_length") p) [] [] pos) (.int (Builtin.Int.intBits i)) := fun A X s Q R V h =>
  wpAny_Call_method (T := "int") rfl rfl hl F.plainAttrs_int F.slot_int_bit_length F.type_int_bit_length (he.1 A X s _ R V fun v s1 e1 r1 => Rep.int_k r1 fun t => ⟨typeIs_int _ _ _, nofun, callWith_method0 (call_int_bit_length (h _ _ (e1.tk _) (.int _ _)))⟩)
/-- the text of a slice -/
noncomputable def slS (x : Str) (l u : Option Int) : Str := if (Builtin.Str.strSliceIndices l u 1 x.length).length == x.length then x else ⟨((Builtin.Str.strSliceIndices l u 1 x.length).filterMap (x.cps[·]?)).toArray⟩
theorem slice_post {x : Str} {t : Tok} {l u : Option (Int × Tok)} {Q : Value → Shared → Prop} {s : Shared} (hz : (slS x (l.map (·.1)) (u.map (·.1))).length ≤ sizeLine) (h : ∀ t' tk, Q (.str (slS x (l.map (·.1)) (u.map (·.1))) t') { s with toks := tk }) : (sliceMade x t l u none).post Q s := by
  unfold sliceMade
  have e : slicePicked x l u none = Builtin.Str.strSliceIndices (l.map (·.1)) (u.map (·.1)) 1 x.length := rfl
  rw [e]
  by_cases hc : (Builtin.Str.strSliceIndices (l.map (·.1)) (u.map (·.1)) 1 x.length).length == x.length
  · rw [if_pos (by simpa using hc)]
    have := h t s.toks
    unfold slS at this
    rw [if_pos hc] at this
    exact this
  · rw [if_neg (by simpa using hc)]
    have := fun tk => h s.toks tk
    unfold slS at this hz
    rw [if_neg hc] at this hz
    exact ⟨hz, this _⟩
theorem lt_name {y : Str} {q : Pos} : ∀ o r, letTemporaryGo (.Name y q) o r = pure () := fun _ _ => rfl
theorem ev_slice_to (hw : CxW c) {y : Str} {q : Pos} {u : Expr} {p pos : Pos} {x : Str} {i : Int} (he : EvsOk c env names kd ρ [.Name y q, u] [.str x, .int i]) (hz : (slS x none (some i)).length ≤ sizeLine) :
    EvOk c env names kd ρ (.Subscript (.Name y q) (.Slice none (some u) none p) pos) (.str (slS x none (some i))) := fun A X s Q R V h =>
  wpAny_Subscript_str_slice (he.1 A X s _ R V fun v s1 e1 r1 => wpAny_pure (he.2.2.1 A X s1 _ R (V.ext e1) fun v2 s2 e2 r2 => Rep.str_k r1 fun t => Rep.int_k r2 fun t' =>
    ⟨_, _, none, some (_, _), rfl, rfl, rfl, slice_post hz fun t' tk => h _ _ (((e1.trans e2).trans (Ext.push hw s2 _)).tk _) (.str _ _)⟩)) lt_name
theorem ev_slice_from (hw : CxW c) {y : Str} {q : Pos} {u : Expr} {p pos : Pos} {x : Str} {i : Int} (he : EvsOk c env names kd ρ [.Name y q, u] [.str x, .int i]) (hz : (slS x (some i) none).length ≤ sizeLine) :
    EvOk c env names kd ρ (.Subscript (.Name y q) (.Slice (some u) none none p) pos) (.str (slS x (some i) none)) := fun A X s Q R V h =>
  wpAny_Subscript_str_slice (he.1 A X s _ R V fun v s1 e1 r1 => he.2.2.1 A X s1 _ R (V.ext e1) fun v2 s2 e2 r2 => wpAny_pure (Rep.str_k r1 fun t => Rep.int_k r2 fun t' =>
    ⟨_, _, some (_, _), none, rfl, rfl, rfl, slice_post hz fun t' tk => h _ _ (((e1.trans e2).trans (Ext.push hw s2 _)).tk _) (.str _ _)⟩)) lt_name
theorem sliceApplied_to3 {P : Program} {w : World} {A : Around} {E : Value → Shared → Prop} {s : Shared} {sl : Addr} {n : Nat} {u : Tok} {Q : Int × Int × Nat → Shared → Prop} (hs : s.heap.IsSliceOf sl .none (.int 3 u) .none) (ha : 3 ≤ n) (h : Q (0, 1, 3) s) :
    wpAny (model P w) A (Builtin.Slice.sliceApplied (.ref sl) (pure (n : Int))) Q E s := by
  obtain ⟨os, hos, hcs, hds⟩ := id hs
  unfold Builtin.Slice.sliceApplied Builtin.Slice.sliceFields
  refine wpAny_bind (wpAny_bind (wpAny_field hos hds (x := .none) rfl (wpAny_bind (wpAny_field hos hds (x := .int 3 u) rfl (wpAny_bind (wpAny_field hos hds (x := .none) rfl (wpAny_pure ?_)))))))
  refine wpAny_bind (slicePart_none ?_)
  show wpAny _ _ (if ((1 : Int) == 0) = true then _ else _) _ _ s
  rw [if_neg (by decide)]
  refine wpAny_bind (slicePart_none (wpAny_bind (slicePart_int (wpAny_bind (wpAny_pure ?_)))))
  show wpAny _ _ (match Builtin.Slice.sliceAdjust none (some (3 : Int)) 1 (n : Int) with | (lo, hi) => pure (lo, (1 : Int), Builtin.Slice.slicePlaces lo hi 1)) _ _ s
  have : Builtin.Slice.sliceAdjust none (some (3 : Int)) 1 (n : Int) = (0, 3) := by
    unfold Builtin.Slice.sliceAdjust
    have h1 : ¬ ((1 : Int) < 0) := by omega
    have h2 : ¬ ((3 : Int) < 0) := by omega
    simp only [h1, h2, if_false]
    congr 1
    omega
  rw [this]
  exact wpAny_pure h
theorem getItem_tuple_to3 {P : Program} {w : World} {A : Around} {E : Value → Shared → Prop} {s : Shared} {t sl : Addr} {a b d e : Value} {r : List Value} {u : Tok} {Q : Value → Shared → Prop} (ht : s.heap.IsTuple t (a :: b :: d :: e :: r).toArray) (hs : s.heap.IsSliceOf sl .none (.int 3 u) .none)
    (h : Q (.ref s.heap.objs.size) { s with heap := s.heap.push { cls := .type "tuple", data := .seq [a, b, d].toArray } }) : wpAny (model P w) A (getItem (.ref t) (.ref sl)) Q E s := by
  obtain ⟨os, hos, hcs, hds⟩ := id hs
  have hTs : s.TypeIs (.ref sl) "slice" := ⟨os, hos, hcs⟩
  unfold getItem
  try with_reducible refine wpAny_holding ?_
  first | refine wpAny_bind (wpAny_pure ?_) | skip
  refine wpAny_bind (wpAny_sequenceKey ht.typeIs (by decide) ?_)
  refine wpAny_bind (wpAny_callSpecial?_slot (name := Str.ofString "__getitem__") ht.typeIs PyProof.Rows.slot_tuple_getitem
    (wpAny_call_entry PyProof.Rows.slot_tuple_getitem ht.typeIs PyProof.Rows.entry_tuple_getitem ?_ (PyProof.Rows.args_tuple_getitem _ _)))
  show wpAny _ _ (Builtin.Tuple.tupleItemsOf (.ref t) >>= _) _ _ s
  refine wpAny_bind (tupleItemsOf_ ht ?_)
  refine wpAny_bind (wpAny_typeOf hTs ?_)
  rw [if_pos (by decide)]
  refine wpAny_bind (sliceApplied_to3 hs (by simp) ?_)
  have hno : ¬ (((0 : Int) == 0 && (1 : Int) == 1 && 3 == (a :: b :: d :: e :: r).toArray.size) = true) := by simp
  show wpAny _ _ (if ((0 : Int) == 0 && (1 : Int) == 1 && 3 == (a :: b :: d :: e :: r).toArray.size) = true then _ else _) _ _ s
  rw [if_neg hno]
  have : ((List.range 3).filterMap fun (k : Nat) => (a :: b :: d :: e :: r).toArray[((0 : Int) + (k : Int) * 1).toNat]?).toArray = [a, b, d].toArray := by
    simp [List.range_succ]
  rw [this]
  first
    | exact wpAny_bind (m := Builtin.Tuple.tupleExact _) (wpAny_newObj_type (wpAny_pure ⟨_, rfl, wpAny_pure h⟩) (by show _ ≤ sizeLine; rw [sizeLine_eq]; simp))
    | exact wpAny_bind (m := Builtin.Tuple.tupleExact _) (wpAny_newObj_type (wpAny_bind (wpAny_pure (wpAny_pure ⟨_, rfl, wpAny_pure h⟩))) (by show _ ≤ sizeLine; rw [sizeLine_eq]; simp))
    | exact wpAny_bind (wpAny_bind (m := Builtin.Tuple.tupleExact _) (wpAny_newObj_type (wpAny_pure (wpAny_pure ⟨_, rfl, wpAny_pure h⟩)) (by show _ ≤ sizeLine; rw [sizeLine_eq]; simp)))
    | exact wpAny_bind (wpAny_bind (m := Builtin.Tuple.tupleExact _) (wpAny_newObj_type (wpAny_pure ⟨_, rfl, wpAny_pure h⟩) (by show _ ≤ sizeLine; rw [sizeLine_eq]; simp)))
theorem ev_tup3 (hw : CxW c) {y : Str} {q0 p q pos : Pos} {k : Nat} {a b d f : AV} {r : List AV} (he : EvsOk c env names kd ρ [.Name y q0] [.tup (a :: b :: d :: f :: r)]) :
    EvOk c env names kd ρ (.Subscript (.Name y q0) (.Slice none (some (.Constant (.int 3) k q)) none p) pos) (.tup [a, b, d]) := by
  intro A X s Q R V h
  refine wpAny_Subscript_Slice (T := "tuple") F.slot_tuple_getitem.lookup ?_ lt_name
  refine he.1 A X s _ R V fun v s1 e1 r1 => ?_
  refine wpAny_Slice ?_
  rw [evalPart_none, evalPart_some]
  refine wpAny_pure (wpAny_Constant_int ?_)
  refine wpAny_pure ?_
  refine Rep.tup_k r1 fun t vs nx ht rs => ?_
  revert ht
  refine Reps.cons_k rs fun va vs ra rs => Reps.cons_k rs fun vb vs rb rs => Reps.cons_k rs fun vd vs rd rs => Reps.cons_k rs fun vf vs rf rs => fun ht => ?_
  have e3 := (e1.tk (s1.toks + 1)).trans (Ext.push hw _ { cls := .type "slice", data := .fields #[.none, .int 3 s1.toks, .none] })
  have V3 := V.ext e3
  have kk : ∀ b o, s1.heap.get? b = some o → (s1.heap.push { cls := .type "slice", data := .fields #[.none, .int 3 s1.toks, .none] }).get? b = some o := fun b o e => Heap.get?_push_of_some _ e
  refine ⟨(ht.keep1 fun o e => kk _ o e).is.typeIs, getItem_tuple_to3 (ht.keep1 fun o e => kk _ o e).is (u := s1.toks) ⟨_, Heap.get?_push_size _ rfl, rfl, rfl⟩ ?_⟩
  exact h _ _ (e3.trans (Ext.push hw _ _)) (.tup (fresh_not hw V3.wd V3.x) ⟨_, Heap.get?_push_size _ rfl⟩ (Reps.mono (fun b o _ e => Heap.get?_push_of_some _ (kk b o e)) (fun _ _ q _ => q) (.cons ra (.cons rb (.cons rd .nil)))))
end
end NC
end Mine
namespace Mine
noncomputable section NC
noncomputable def storeL {K : Type} [DecidableEq K] (l : List (K × Int)) (k : K) (v : Int) : List (K × Int) :=
  if l.any (fun p => p.1 = k) then l.map (fun p => if p.1 = k then (p.1, v) else p) else l ++ [(k, v)]
noncomputable def getL {K : Type} [DecidableEq K] (l : List (K × Int)) (k : K) : Option Int := (l.find? fun p => p.1 = k).map (·.2)
noncomputable def ownGet (D k : AV) : Option AV := @AV.casesOn (fun _ => Option AV) D none (fun _ => none) (fun _ => none) (fun _ => none) (fun _ => none) (fun l => oInt k fun k => if 0 ≤ k ∧ k < 2 ^ 62 then l[k.toNat]? else none) (fun l => oInt k fun k => (getL l k).map .int) (fun l => oStr k fun k => (getL l k).map .int) (fun _ => none) fun _ => none
noncomputable def ownSet (D k v : AV) : Option AV := @AV.casesOn (fun _ => Option AV) D none (fun _ => none) (fun _ => none) (fun _ => none) (fun _ => none) (fun l => oInt k fun k => if 0 ≤ k ∧ k < 2 ^ 62 ∧ k < l.length then some (.lst (l.set k.toNat v)) else none)
  (fun l => oInt k fun k => oInt v fun v => if l.length ≤ 1000 then some (.dI (storeL l k v)) else none) (fun l => oStr k fun k => oInt v fun v => if l.length ≤ 1000 then some (.dS (storeL l k v)) else none) (fun _ => none) fun _ => none
noncomputable def ownIn (D k : AV) : Option Bool := @AV.casesOn (fun _ => Option Bool) D none (fun _ => none) (fun _ => none) (fun _ => none) (fun _ => none) (fun _ => none) (fun l => oInt k fun k => some (getL l k).isSome) (fun l => oStr k fun k => some (getL l k).isSome) (fun _ => none) fun _ => none
section
variable {P : Program} {w : World} {CC : Addr} {X : Addr → Prop} {h : Heap} {K : Type} [DecidableEq K]
theorem Reps.set {vs : List Value} {ds : List AV} {i : Nat} {v : Value} {d : AV} (r : Reps P w CC X h vs ds) (q : Rep P w CC X h v d) : Reps P w CC X h (vs.set i v) (ds.set i d) :=
  Reps.run (M := fun vs ds => ∀ i, Reps P w CC X h (vs.set i v) (ds.set i d)) (fun _ => .nil) (fun {u us e es} a r ih i => @Nat.casesOn (fun i => Reps P w CC X h ((u :: us).set i v) ((e :: es).set i d)) i (.cons q r) fun i => .cons a (ih i)) r i
theorem valueAt_rep {kv : List (K × Value)} {l : List (K × Int)} {k : K} (m : kv.map (·.1) = l.map (·.1)) (r : Reps P w CC X h (kv.map (·.2)) (l.map fun p => AV.int p.2)) :
    (getL l k = none ∧ valueAt kv k = none) ∨ ∃ n v, getL l k = some n ∧ valueAt kv k = some v ∧ Rep P w CC X h v (.int n) :=
  dict_run (M := fun kv l => (getL l k = none ∧ valueAt kv k = none) ∨ ∃ n v, getL l k = some n ∧ valueAt kv k = some v ∧ Rep P w CC X h v (.int n)) (.inl ⟨rfl, rfl⟩) (fun {k' v t kv i l} a _ ih => by
    by_cases e : k' = k
    · exact .inr ⟨i, v, by simp [getL, e], by simp [valueAt, e], a⟩
    · have e1 : getL ((k', i) :: l) k = getL l k := by simp [getL, e]
      have e2 : valueAt ((k', v) :: kv) k = valueAt kv k := by simp [valueAt, e]
      rw [e1, e2]
      exact ih) m r
theorem any_keys {kv : List (K × Value)} {l : List (K × Int)} {k : K} (m : kv.map (·.1) = l.map (·.1)) : kv.any (fun p => p.1 = k) = l.any (fun p => p.1 = k) := by
  have : (kv.map (·.1)).any (fun q => decide (q = k)) = (l.map (·.1)).any (fun q => decide (q = k)) := congrArg (List.any · fun q => decide (q = k)) m
  rw [List.any_map, List.any_map] at this
  exact this
theorem map_keys {kv : List (K × Value)} {l : List (K × Int)} {k : K} {v : Value} {n : Int} (m : kv.map (·.1) = l.map (·.1)) (r : Reps P w CC X h (kv.map (·.2)) (l.map fun p => AV.int p.2)) (q : Rep P w CC X h v (.int n)) :
    (kv.map fun p => if p.1 = k then (p.1, v) else p).map (·.1) = (l.map fun p => if p.1 = k then (p.1, n) else p).map (·.1) ∧
    Reps P w CC X h ((kv.map fun p => if p.1 = k then (p.1, v) else p).map (·.2)) ((l.map fun p => if p.1 = k then (p.1, n) else p).map fun p => AV.int p.2) :=
  dict_run (M := fun kv l => (kv.map fun p => if p.1 = k then (p.1, v) else p).map (·.1) = (l.map fun p => if p.1 = k then (p.1, n) else p).map (·.1) ∧
    Reps P w CC X h ((kv.map fun p => if p.1 = k then (p.1, v) else p).map (·.2)) ((l.map fun p => if p.1 = k then (p.1, n) else p).map fun p => AV.int p.2)) ⟨rfl, .nil⟩ (fun {k' v t kv i l} a _ ih => by
    by_cases e : k' = k
    · simp only [List.map_cons, if_pos e]; exact ⟨congrArg (k' :: ·) ih.1, .cons q ih.2⟩
    · simp only [List.map_cons, if_neg e]; exact ⟨congrArg (k' :: ·) ih.1, .cons a ih.2⟩) m r
theorem stored_rep {kv : List (K × Value)} {l : List (K × Int)} {k : K} {v : Value} {n : Int} (m : kv.map (·.1) = l.map (·.1)) (r : Reps P w CC X h (kv.map (·.2)) (l.map fun p => AV.int p.2)) (q : Rep P w CC X h v (.int n)) :
    (stored kv k v).map (·.1) = (storeL l k n).map (·.1) ∧ Reps P w CC X h ((stored kv k v).map (·.2)) ((storeL l k n).map fun p => AV.int p.2) := by
  unfold stored storeL
  rw [any_keys m]
  split
  · exact map_keys m r q
  · rw [List.map_append, List.map_append, List.map_append, List.map_append, m]
    exact ⟨rfl, r.append (.cons q .nil)⟩
end
theorem dec_int (c : Cx) : ∀ (X : Addr → Prop) (h : Heap) (k : Int) (v : Value), c.Rep X h v (.int k) → (intKind c.P c.w).is k v = true := fun X h k v e => Rep.int_k e fun t => by simp [intKind, Value.isInt]
theorem dec_str (c : Cx) : ∀ (X : Addr → Prop) (h : Heap) (k : Str) (v : Value), c.Rep X h v (.str k) → (PySem.strKind c.P c.w).is k v = true := fun X h k v e => Rep.str_k e fun t => by simp [PySem.strKind, Value.isStrOf]
section
variable {c : Cx} {X : Addr → Prop} {s : Shared} {a : Addr} {D kd V : AV} {A : Around}
section
variable {K : Type} [DecidableEq K] {knd : KeyKind c.P c.w K} {key : Value} {kv : List (K × Value)} {l : List (K × Int)} {k : K}
theorem dict_get {n : Int} {Q : Value → Shared → Prop} (hk : knd.is k key = true) (d : s.heap.DictOf knd a kv) (m : kv.map (·.1) = l.map (·.1)) (r : c.Reps X s.heap (kv.map (·.2)) (l.map fun p => AV.int p.2)) (e : getL l k = some n) (h : ∀ v tk, c.Rep X s.heap v (.int n) → Q v { s with toks := tk }) : wpAny c.M A (getItem (.ref a) key) Q noE s :=
  (valueAt_rep (k := k) m r).elim (fun z => absurd (z.1.symm.trans e) nofun) fun ⟨n', v, h1, h2, h3⟩ => wpAny_getItem_of (knd := knd) hk d.mapOf h2 (h _ _ (Option.some.inj (h1.symm.trans e) ▸ h3))
theorem dict_set {val : Value} {n : Int} {Q : Unit → Shared → Prop} (hX : X a) (hl0 : l.length ≤ 1000) (hk : knd.is k key = true) (d : s.heap.DictOf knd a kv) (m : kv.map (·.1) = l.map (·.1)) (r : c.Reps X s.heap (kv.map (·.2)) (l.map fun p => AV.int p.2)) (r0 : c.Rep X s.heap val (.int n))
    (h : ∀ h' tk, (∀ b o, b ≠ a → s.heap.get? b = some o → h'.get? b = some o) → (∃ kv', h'.DictOf knd a kv' ∧ kv'.map (·.1) = (storeL l k n).map (·.1) ∧ c.Reps X h' (kv'.map (·.2)) ((storeL l k n).map fun p => AV.int p.2)) → Q () { s with heap := h', toks := tk }) : wpAny c.M A (setItem (.ref a) key val) Q noE s := by
  have hl : kv.length ≤ 1000 := by have := congrArg List.length m; rw [List.length_map, List.length_map] at this; omega
  refine wpAny_setItem_pairs (knd := knd) (k := k) hk d (fun h' d' hs => ?_) (by rw [sizeLine_eq]; omega)
  have kk : ∀ b o, b ≠ a → s.heap.get? b = some o → h'.get? b = some o := fun b o nb e => (hs.2 b nb).trans e
  have := stored_rep (k := k) m r r0
  exact h h' _ kk ⟨_, d', this.1, this.2.mono (fun b o n e => kk b o (fun z => n (z ▸ hX)) e) fun _ _ q _ => q⟩
theorem dict_in {Q : Value → Shared → Prop} (ns : (a == sysModules) = false) (hk : knd.is k key = true) (d : s.heap.DictOf knd a kv) (m : kv.map (·.1) = l.map (·.1)) (r : c.Reps X s.heap (kv.map (·.2)) (l.map fun p => AV.int p.2)) (h : ∀ tk, Q (.bool (getL l k).isSome) { s with toks := tk }) : wpAny c.M A (compareOp .In key (.ref a)) Q noE s := by
  refine wpAny_in_of (knd := knd) (k := k) hk ns d.mapOf ?_
  have e : (valueAt kv k).isSome = (getL l k).isSome := (valueAt_rep (k := k) m r).elim (fun z => by rw [z.1, z.2]; rfl) fun ⟨n, v, h1, h2, h3⟩ => by rw [h1, h2]; rfl
  rw [e]
  exact h _
end
theorem ite_k {α : Type} {p : Prop} {i : Decidable p} {o : Option α} {r : α} {M : Prop} (h : @ite _ p i o none = some r) (k : p → o = some r → M) : M := by
  by_cases q : p
  · rw [if_pos q] at h; exact k q h
  · rw [if_neg q] at h; exact absurd h oN
theorem own_get {key : Value} {Q : Value → Shared → Prop} (o : OwnAt c X s.heap a D) (k : c.Rep X s.heap key kd) (e : ownGet D kd = some V) (h : ∀ v tk, c.Rep X s.heap v V → Q v { s with toks := tk }) : wpAny c.M A (getItem (.ref a) key) Q noE s := by
  refine hide fun G kG => ?_
  cases D <;> first | exact o.elim | skip
  · obtain ⟨vs, p, r⟩ := o
    refine oInt_k (M := fun kd => c.Rep X s.heap key kd → G) e (fun i e k => ?_) k
    refine ite_k e fun q e => ?_
    obtain ⟨v, hv, rv⟩ := r.get e
    exact kG (Rep.int_k k fun t => wpAny_getItem_list p.isList q.1 (by omega) (by rw [List.getElem?_toArray]; exact hv) (h _ s.toks rv))
  · obtain ⟨n, kv, d, m, r⟩ := o
    refine oInt_k (M := fun kd => c.Rep X s.heap key kd → G) e (fun i e k => ?_) k
    obtain ⟨n, e1, e2⟩ := Option.map_eq_some_iff.mp e
    exact kG (dict_get (dec_int c _ _ _ _ k) d m r e1 fun v tk r => h v tk (e2 ▸ r))
  · obtain ⟨n, kv, d, m, r⟩ := o
    refine oStr_k (M := fun kd => c.Rep X s.heap key kd → G) e (fun i e k => ?_) k
    obtain ⟨n, e1, e2⟩ := Option.map_eq_some_iff.mp e
    exact kG (dict_get (dec_str c _ _ _ _ k) d m r e1 fun v tk r => h v tk (e2 ▸ r))
theorem own_set {key val : Value} {vd : AV} {Q : Unit → Shared → Prop} (hX : X a) (o : OwnAt c X s.heap a D) (k : c.Rep X s.heap key kd) (r0 : c.Rep X s.heap val vd) (e : ownSet D kd vd = some V)
    (h : ∀ h' tk, (∀ b o, b ≠ a → s.heap.get? b = some o → h'.get? b = some o) → OwnAt c X h' a V → Q () { s with heap := h', toks := tk }) : wpAny c.M A (setItem (.ref a) key val) Q noE s := by
  refine hide fun G kG => ?_
  cases D <;> first | exact o.elim | skip
  · obtain ⟨vs, ⟨n, p⟩, r⟩ := o
    refine oInt_k (M := fun kd => c.Rep X s.heap key kd → G) e (fun i e k => ?_) k
    refine ite_k e fun q e => ?_
    have hlen := r.length
    refine kG (Rep.int_k k fun t => ki_setAt p q.1 (by omega) (by rw [List.size_toArray]; omega) ?_)
    have hs := Heap.SameBut.update s.heap a (Obj.mapSeq (·.setIfInBounds i.toNat val))
    have kk : ∀ b o, b ≠ a → s.heap.get? b = some o → (s.heap.update a (Obj.mapSeq (·.setIfInBounds i.toNat val))).get? b = some o := fun b o nb e => (hs.2 b nb).trans e
    refine h _ s.toks kk (Option.some.inj e ▸ ⟨vs.set i.toNat val, ?_, (Reps.set r r0).mono (fun b o n e => kk b o (fun z => n (z ▸ hX)) e) fun _ _ q _ => q⟩)
    have p2 : (s.heap.update a (Obj.mapSeq (·.setIfInBounds i.toNat val))).PlainList a (vs.toArray.setIfInBounds i.toNat val) := ⟨_, Heap.get?_update_self _ p rfl⟩
    have e1 : vs.toArray.setIfInBounds i.toNat val = (vs.set i.toNat val).toArray := List.setIfInBounds_toArray ..
    rw [e1] at p2
    exact p2
  · obtain ⟨n, kv, d, m, r⟩ := o
    refine oInt_k (M := fun kd => c.Rep X s.heap key kd → G) e (fun i e k => ?_) k
    refine oInt_k (M := fun vd => c.Rep X s.heap val vd → G) e (fun j e r0 => ?_) r0
    exact ite_k e fun q e => kG (dict_set hX q (dec_int c _ _ _ _ k) d m r r0 fun h' tk kk z => h h' tk kk (Option.some.inj e ▸ ⟨n, z⟩))
  · obtain ⟨n, kv, d, m, r⟩ := o
    refine oStr_k (M := fun kd => c.Rep X s.heap key kd → G) e (fun i e k => ?_) k
    refine oInt_k (M := fun vd => c.Rep X s.heap val vd → G) e (fun j e r0 => ?_) r0
    exact ite_k e fun q e => kG (dict_set hX q (dec_str c _ _ _ _ k) d m r r0 fun h' tk kk z => h h' tk kk (Option.some.inj e ▸ ⟨n, z⟩))
theorem own_in {key : Value} {b : Bool} {Q : Value → Shared → Prop} (o : OwnAt c X s.heap a D) (k : c.Rep X s.heap key kd) (e : ownIn D kd = some b) (h : ∀ tk, Q (.bool b) { s with toks := tk }) : wpAny c.M A (compareOp .In key (.ref a)) Q noE s := by
  refine hide fun G kG => ?_
  cases D <;> first | exact o.elim | exact absurd e oN | skip
  · obtain ⟨n, kv, d, m, r⟩ := o
    exact oInt_k (M := fun kd => c.Rep X s.heap key kd → G) e (fun i e k => kG (dict_in n (dec_int c _ _ _ _ k) d m r fun tk => Option.some.inj e ▸ h tk)) k
  · obtain ⟨n, kv, d, m, r⟩ := o
    exact oStr_k (M := fun kd => c.Rep X s.heap key kd → G) e (fun i e k => kG (dict_in n (dec_str c _ _ _ _ k) d m r fun tk => Option.some.inj e ▸ h tk)) k
end
section
variable {x : Sx} {X X' X'' : Addr → Prop} {ρ ρ' : Rho} {own own' own'' : OwnO} {s s' s'' : Shared} {Post : PostT} {ms : List MS}
theorem sub_hold {k : Expr} (hp : plainE k = true) : ∀ ov iv new, augStore k ov iv new = (do holding [new, ov, iv] (setItem ov iv new); release [new, ov, iv] []; pure .next) := by
  intro _ _ _; cases k <;> first | rfl | cases hp
/-- the frame's own object is looked up by its name -/
theorem own_name {o : Nat × Addr × AV} (S : x.St X ρ (some o) s) {y : Str} {i : Nat} {a : Addr} {D : AV} {p : Pos} {A : Around} {Q : Value → Shared → Prop} (ho : o = (i, a, D)) (hn : x.names[i]? = some y) (hok : okN y = true) (h : Q (.ref a) s) : wpAny x.c.M A (eval (.Name y p) x.env) Q noE s :=
  (S.own i a D (congrArg some ho)).elim fun y' o => name_Ld S.v.fk (Option.some.inj (o.nm.symm.trans hn) ▸ o.ld) hok h
/-- x[k] = v, x the frame's own object -/
theorem Ex_dset (ok : SxOk x) {i : Nat} {a : Addr} {D V kd vd : AV} {k e : ME} {C1 C2 : Prop} (hk : mev x.c.F x.c.X ρ k = some (kd, C1)) (hC1 : C1) (hm : mev x.c.F x.c.X ρ e = some (vd, C2)) (hC2 : C2) (hs : ownSet D kd vd = some V)
    (h : Ex x ms ρ (some (i, a, V)) Post) : Ex x (.dset i k e :: ms) ρ (some (i, a, D)) Post := by
  refine Ex_cons fun st hst A s X R S => ksAssign_k fT hst fun ts e0 pos hst => k1_k fT hst fun t hst => kSubscript_k fT hst fun o k0 spos hst => kName_k fT hst fun y p hst => ?_
  have h2 := and_t (and_t hst).2
  have h3 := and_t (and_t h2.2).2
  refine wpAny_Assign_Subscript ((sound ok.c e e0 vd C2 h3.2 hm hC2).1 A X s _ R S.v fun v s1 e1 r1 => ?_) (swaps_not (and_t h2.2).1)
  have S1 := St.extS ok S e1
  refine own_name S1 rfl (eq_of_beq (and_t hst).1) h2.1 ((sound ok.c k k0 kd C1 h3.1 hk hC1).1 A X s1 _ R S1.v fun kv s2 e2 r2 => ?_)
  refine ((St.extS ok S1 e2).own i a _ rfl).elim fun _ g => own_set g.x g.own r2 (Rep.ext S1.v.x.xc e2 r1) hs fun h' tk kk o' => nxt_own ok S (e1.trans e2) kk o' h
/-- x[k] op= v -/
theorem Ex_daug (ok : SxOk x) {i : Nat} {a : Addr} {D V kd : AV} {k e : ME} {op : Operator} {C1 C2 : Prop} {j j' j'' : Int} (hk : mev x.c.F x.c.X ρ k = some (kd, C1)) (hC1 : C1) (hg : ownGet D kd = some (.int j)) (hm : mev x.c.F x.c.X ρ e = some (.int j', C2)) (hC2 : C2)
    (hop : (op = .Add ∧ j'' = j + j') ∨ (op = .Sub ∧ j'' = j - j')) (hs : ownSet D kd (.int j'') = some V)
    (h : Ex x ms ρ (some (i, a, V)) Post) : Ex x (.daug i k op e :: ms) ρ (some (i, a, D)) Post := by
  refine Ex_cons fun st hst A s X R S => ksAugAssign_k fT hst fun t o' e0 pos hst => kSubscript_k fT hst fun o k0 spos hst => kName_k fT hst fun y p hst => ?_
  have h2 := and_t (and_t hst).2
  have h3 := and_t (and_t h2.2).2
  refine deq_k h3.1 ?_
  refine wpAny_AugAssign_Subscript_any (own_name S rfl (eq_of_beq (and_t hst).1) h2.1 ((sound ok.c k k0 kd C1 (and_t h3.2).1 hk hC1).1 A X s _ R S.v fun kv s1 e1 r1 => ?_)) (sub_hold (and_t h2.2).1)
  refine ((St.extS ok S e1).own i a _ rfl).elim fun _ g => own_get g.own r1 hg fun v tk rv => ?_
  have e2 : x.c.Ext s { s1 with toks := tk } := e1.tk tk
  have S2 := St.extS ok S e2
  refine (sound ok.c e e0 (.int j') C2 (and_t h3.2).2 hm hC2).1 A X _ _ R S2.v fun v2 s3 e3 r3 => Rep.int_k rv fun t1 => Rep.int_k r3 fun t2 => ?_
  have e13 : x.c.Ext s { s3 with toks := s3.toks + 1 } := (e2.trans e3).tk _
  have fin : ∀ (tk : Tok), wpAny x.c.M A (setItem (.ref a) kv (.int j'' tk)) (fun _ => Nxt x ms Post X (some (i, a, D)) s .next) noE { s3 with toks := s3.toks + 1 } := fun tk =>
    ((St.extS ok S e13).own i a _ rfl).elim fun _ g => own_set g.x g.own (Rep.ext (s := { s1 with toks := _ }) (s' := s3) S2.v.x.xc e3 r1) (.int j'' tk) hs fun h' tk kk o' => nxt_own ok S e13 kk o' h
  rcases hop with ⟨rfl, rfl⟩ | ⟨rfl, rfl⟩
  · exact PyProof.Rows.iadd_int (fin _)
  · exact PyProof.Rows.isub_int (fin _)
/-- if k in x: p else: q, x the frame's own dict -/
theorem Ex_ifin (ok : SxOk x) {i : Nat} {a : Addr} {D kd : AV} {k : ME} {p q : List MS} {b : Bool} {C1 : Prop} (hk : mev x.c.F x.c.X ρ k = some (kd, C1)) (hC1 : C1) (hi : ownIn D kd = some b)
    (hp : b = true → Ex x p ρ (some (i, a, D)) (Seq x ms Post)) (hq : b = false → Ex x q ρ (some (i, a, D)) (Seq x ms Post)) : Ex x (.ifin k i p q :: ms) ρ (some (i, a, D)) Post := by
  refine Ex_cons fun st hst A s X R S => ksIf_k fT hst fun t l r pos hst => kCompare_k fT hst fun k0 os rs cp hst => k1_k fT hst fun d hst => kName_k fT hst fun y p0 hst => deq_k (and_t hst).1 ?_
  have h2 := and_t (and_t hst).2
  have h3 := and_t (and_t h2.2).2
  refine wpAny_If (wpAny_isTrue_Compare1 ((sound ok.c k k0 kd C1 h3.1 hk hC1).1 A X s _ R S.v fun kv s1 e1 r1 => ?_) rfl)
  have S1 := St.extS ok S e1
  refine own_name S1 rfl (eq_of_beq h2.1) (and_t h2.2).1 ((S1.own i a _ rfl).elim fun _ g => own_in g.own r1 hi fun tk => wpAny_truthy_bool ?_)
  have e2 : x.c.Ext s { s1 with toks := tk } := e1.tk tk
  have S2 := St.extS ok S e2
  have a1 := Stp.ext (X := X) (own := some (i, a, D)) ok.c.w e2
  cases b with
  | true => exact wpAny_mono (hp rfl _ (and_t h3.2).1 A _ X R S2) (fun fl s2 h2 => Nxt.of_seq (ExQ.trans S a1 h2)) fun _ _ e => e
  | false => exact wpAny_mono (hq rfl _ (and_t h3.2).2 A _ X R S2) (fun fl s2 h2 => Nxt.of_seq (ExQ.trans S a1 h2)) fun _ _ e => e
/-- what is behind an outer step -/
theorem nxt_after (S : x.St X ρ own s) (ok : SxOk x) (e : x.c.Ext s s') {fl : Flow} (h : Nxt x ms Post X own s' fl s'') : Nxt x ms Post X own s fl s'' :=
  h.imp (fun ⟨h1, ρ', own', X', S', a', hE⟩ => ⟨h1, ρ', own', X', S', (Stp.ext ok.c.w e).trans S a', hE⟩) fun h => ⟨h.1, ExQ.trans S (Stp.ext ok.c.w e) h.2⟩
/-- x = [a, b, ..], a list of the frame's own -/
theorem Ex_newL (ok : SxOk x) {i : Nat} {l : List ME} {ds : List AV} {C : Prop} (hm : mevL x.c.F x.c.X ρ l = some (ds, C)) (hC : C) (hl : ds.length ≤ 1000) (h : ∀ a, Ex x ms (ρ.set i none) (some (i, a, .lst ds)) Post) : Ex x (.newL i l :: ms) ρ none Post := by
  refine Ex_cons fun st hs A s X R S => sSet_k hs fun y p e pos hs => kList_k fT (and_t hs).2 fun es lp hs2 => ?_
  refine wpAny_Assign_Name (wpAny_List (evs_ok (soundL (env := x.env) ok.c l es ds C hs2 hm hC).1 _ A X s _ R S.v fun vs s1 e1 r1 => ⟨by rw [sizeLine_eq]; have := r1.length; omega, ?_⟩))
  exact wpAny_mono (new_own ok (and_t hs).1 rfl R (St.extS ok S e1) (d := .lst ds) (fun h' e _ k => ⟨vs, ⟨_, e⟩, r1.mono k fun b o q z => q.elim id fun q => by rw [q, fresh_none] at z; cases z⟩) (h _)) (fun _ s' hx => nxt_after S ok e1 hx) fun _ _ e => e
end
end NC
end Mine
namespace Mine
noncomputable section NC
open PySem.Builtin.Str in
section
noncomputable def digL (n : Int) : List Nat := (Nat.toDigits 10 n.natAbs).map Char.toNat
noncomputable def signL (n : Int) : List Nat := if n < 0 then [45] else []
/-- a number, zeros before it, so wide -/
noncomputable def fieldL (W : Nat) (n : Int) : List Nat := signL n ++ List.replicate (W - ((signL n).length + (digL n).length)) 48 ++ digL n
theorem digL_of {n : Int} {d : List Nat} (h : d = (Str.ofString (toString ((n.natAbs : Nat) : Int))).cps.toList) : d = digL n := h.trans (KIN.signs_num _)
theorem digL_ne (n : Int) : digL n ≠ [] := by
  unfold digL
  simp [Nat.toDigits_ne_nil]
theorem digL_digit {n : Int} {c : Nat} (h : c ∈ digL n) : 48 ≤ c ∧ c ≤ 57 := by
  unfold digL at h
  obtain ⟨ch, h1, rfl⟩ := List.mem_map.mp h
  have := Nat.isDigit_of_mem_toDigits (by decide) (by decide) h1
  unfold Char.isDigit at this
  simp only [Bool.and_eq_true, decide_eq_true_eq, ge_iff_le] at this
  exact ⟨UInt32.le_iff_toNat_le.mp this.1, UInt32.le_iff_toNat_le.mp this.2⟩
theorem int_txt (c : Builtin.Str.Percent) (h4 : c.alt = false) (h7 : c.prec = none) (h8 : c.type = 100) (n : Int) (d : List Nat) : Builtin.Str.percentInt c (decide (n < 0)) d = signL n ++ d := by
  unfold Builtin.Str.percentInt signL
  by_cases hn : n < 0 <;> simp [h4, h7, h8, hn]
noncomputable abbrev pc (W : Nat) : Percent := { zero := true, width := some W, type := 100 }
theorem pc_of {c : Percent} {W : Nat} (h1 : c.ljust = false) (h2 : c.sign = false) (h3 : c.blank = false) (h4 : c.alt = false) (h5 : c.zero = true) (h6 : c.width = some W) (h7 : c.prec = none) (h8 : c.type = 100) : c = pc W := by
  obtain ⟨_, _, _, _, _, _, _, _⟩ := c
  cases h1; cases h2; cases h3; cases h4; cases h5; cases h6; cases h7; cases h8; rfl
theorem field_pc (W : Nat) (n : Int) : (percentField (pc W) true (signL n ++ digL n) = none ∧ signL n ++ digL n = fieldL W n) ∨ percentField (pc W) true (signL n ++ digL n) = some (fieldL W n) := by
  by_cases hw : W ≤ (signL n ++ digL n).length
  · refine .inl ⟨?_, ?_⟩
    · show (if (decide (W ≤ (signL n ++ digL n).length) && true && true && true) = true then none else _) = none
      rw [decide_eq_true hw]; rfl
    · unfold fieldL
      rw [List.length_append] at hw
      rw [Nat.sub_eq_zero_of_le hw, List.replicate_zero, List.append_nil]
  · refine .inr (Eq.trans (show percentField (pc W) true (signL n ++ digL n) = (if (decide (W ≤ (signL n ++ digL n).length) && true && true && true) = true then none else _) from rfl) ?_)
    rw [decide_eq_false hw]
    by_cases hn : n < 0
    · have e : signL n = [45] := if_pos hn
      unfold fieldL
      rw [e]
      exact congrArg some (show [45] ++ [] ++ List.replicate (W - (1 + 0 + (digL n).length)) 48 ++ digL n = _ from rfl)
    · have e : signL n = [] := if_neg hn
      unfold fieldL
      rw [e]
      have hne := digL_ne n
      have hdg := fun c => @digL_digit n c
      revert hne hdg
      cases digL n with
      | nil => exact fun h => absurd rfl h
      | cons a r =>
        intro _ hdg
        have ha := hdg a List.mem_cons_self
        rw [List.nil_append]
        have ns : (match a :: r with | 45 :: r => ([45], r) | 43 :: r => ([43], r) | _ => (([] : List Nat), a :: r)) = ([], a :: r) := by
          split <;> first | (rename_i q; injection q with q1 q2; omega) | rfl
        exact congrArg (fun q : List Nat × List Nat => some (q.1 ++ [] ++ List.replicate (W - (q.1.length + 0 + q.2.length)) 48 ++ q.2)) ns
end
section
open PySem.Builtin.Str
variable {M : Model} {A : Around} {E : Value → Shared → Prop} {s : Shared} {l : List Nat} {p : List Value} {r : List Nat}
  {f : Nat → List Value × Writer × List Nat → Sem (ForInStep (List Value × Writer × List Nat))} {Q : List Value × Writer × List Nat → Shared → Prop}
  {w : Writer} {T x y : PySem.Str} {N K : Nat} {o : Option Value}
theorem after_any (g : KPc.Good w T N) (hy : x.length ≤ K) (ho : KPc.Obj o x) (h : ∀ w', KPc.Good w' (T ++ x) (N + K) → wpAny M A (forIn l (p, w', r) f) Q E s) : wpAny M A (forIn l (p, w.add x o, r) f) Q E s :=
  h _ (KPc.good_mono (KPc.good_add g ho) (Nat.add_le_add_left hy _))
theorem digL_len {n : Int} (h : n.natAbs < 10 ^ 10) : (digL n).length ≤ 10 := by
  have e := (Nat.length_repr_le_iff (n := n.natAbs) (by decide : 0 < 10)).mpr h
  rw [← String.length_toList, Nat.toList_repr] at e
  unfold digL; rw [List.length_map]; exact e
theorem fieldL_len {W : Nat} {n : Int} (h : n.natAbs < 10 ^ 10) : (fieldL W n).length ≤ W + 11 := by
  have := digL_len h
  unfold fieldL signL
  split <;> simp <;> omega
theorem after_field {c : Percent} {W : Nat} (h1 : c.ljust = false) (h2 : c.sign = false) (h3 : c.blank = false) (h4 : c.alt = false) (h5 : c.zero = true) (h6 : c.width = some W) (h7 : c.prec = none) (h8 : c.type = 100) {n : Int} {d : List Nat} (hd : d = (Str.ofString (toString ((n.natAbs : Nat) : Int))).cps.toList)
    (hn : n.natAbs < 10 ^ 10) (g : KPc.Good w T N) {Q' : ForInStep (List Value × Writer × List Nat) → Shared → Prop}
    (h : ∀ w', KPc.Good w' (T ++ ⟨(fieldL W n).toArray⟩) (N + (W + 11)) → Q' (.yield (p, w', r)) s) :
    wpAny M A (match percentField c true (percentInt c (decide (n < 0)) d) with
      | none => (pure (.yield (p, w.add ⟨(percentInt c (decide (n < 0)) d).toArray⟩ (if r.isEmpty = true then none else none), r)) : Sem _)
      | some laid => pure (.yield (p, w.add ⟨laid.toArray⟩ none, r))) Q' E s := by
  have hL : (⟨(fieldL W n).toArray⟩ : Str).length ≤ W + 11 := fieldL_len hn
  rw [pc_of h1 h2 h3 h4 h5 h6 h7 h8, int_txt (pc W) rfl rfl rfl, digL_of hd]
  rcases field_pc W n with ⟨e, e2⟩ | e
  · rw [e, e2]
    exact wpAny_pure (h _ (KPc.good_mono (KPc.good_add g (KPc.obj_none (ite_self _))) (Nat.add_le_add_left hL _)))
  · rw [e]
    exact wpAny_pure (h _ (KPc.good_mono (KPc.good_add g (KPc.obj_none rfl)) (Nat.add_le_add_left hL _)))
end
section
theorem hide_f {M : Model} {A : Around} {E : Value → Shared → Prop} {s : Shared} {l : List Nat} {st : List Value × Writer × List Nat} {Q : List Value × Writer × List Nat → Shared → Prop} {f : Nat → List Value × Writer × List Nat → Sem (ForInStep (List Value × Writer × List Nat))}
    (h : ∀ g : Nat → List Value × Writer × List Nat → Sem (ForInStep (List Value × Writer × List Nat)), (∀ x y, g x y = f x y) → wpAny M A (forIn l st g) Q E s) : wpAny M A (forIn l st f) Q E s := h f fun _ _ => rfl
end
noncomputable def fmtS : Str := Str.ofString "%s, %02d %s %04d %02d:%02d:%02d %s"
theorem fmtS_eq : fmtS = ⟨#[37, 115, 44, 32, 37, 48, 50, 100, 32, 37, 115, 32, 37, 48, 52, 100, 32, 37, 48, 50, 100, 58, 37, 48, 50, 100, 58, 37, 48, 50, 100, 32, 37, 115]⟩ := by decide +kernel
noncomputable def fmtT (d m z : Str) (dd y n5 n6 n7 : Int) : Str := d ++ Str.ofString ", " ++ ⟨(fieldL 2 dd).toArray⟩ ++ Str.ofString " " ++ m ++ Str.ofString " " ++ ⟨(fieldL 4 y).toArray⟩ ++ Str.ofString " " ++ ⟨(fieldL 2 n5).toArray⟩ ++ Str.ofString ":" ++ ⟨(fieldL 2 n6).toArray⟩ ++ Str.ofString ":" ++ ⟨(fieldL 2 n7).toArray⟩ ++ Str.ofString " " ++ z
set_option maxHeartbeats 8000000 in
theorem fmt_meets (b : Addr) (d m z : Str) (dd y n5 n6 n7 : Int) (t t1 t2 t3 t4 t5 t6 t7 t8 : Tok) (hd : d.length ≤ 1000000) (hm : m.length ≤ 1000000) (hz : z.length ≤ 1000000) (h2 : dd.natAbs < 10 ^ 10) (h4 : y.natAbs < 10 ^ 10) (h5 : n5.natAbs < 10 ^ 10) (h6 : n6.natAbs < 10 ^ 10) (h7 : n7.natAbs < 10 ^ 10) :
    Meets (Builtin.«str.__mod__» ⟨[.str ⟨#[37, 115, 44, 32, 37, 48, 50, 100, 32, 37, 115, 32, 37, 48, 52, 100, 32, 37, 48, 50, 100, 58, 37, 48, 50, 100, 58, 37, 48, 50, 100, 32, 37, 115]⟩ t, .ref b], []⟩) (fun _ R s => IsTup s.heap b #[.str d t1, .int dd t2, .str m t3, .int y t4, .int n5 t5, .int n6 t6, .int n7 t7, .str z t8] ∧ ∀ t' k, R (.ok (.ret (.str (fmtT d m z dd y n5 n6 n7) t'))) { s with toks := k }) := by
    apply KPt.meets_tup
    intro prog w0 A s Q E kptH hfin
    obtain ⟨kptO, kptG, kptC, kptN, kptD⟩ := kptH
    rw [KPt.entry_is_r]
    unfold Builtin.Str.percentFormat
    refine wpAny_bind (wpAny_isInstance (T := "tuple") ⟨kptO, kptG, kptC⟩ KPt.sub_tt ?_)
    refine wpAny_bind (KPt.asStr_ref kptG kptD ?_)
    refine wpAny_bind (KPt.fills_ref ⟨kptO, kptG, kptC⟩ ?_)
    intro _
    kpc_if
    refine wpAny_bind (wpAny_seqItems kptG kptD ?_)
    refine wpAny_bind (wpAny_pure ?_)
    refine wpAny_bind ?_
    rw [KPc.range_list]
    refine KPc.start ?_
    intro _ _
    refine hide_f fun g hg => ?_
    -- one piece each
    have tS : ∀ {Q' : List Value × Builtin.Str.Writer × List Nat → Shared → Prop} {s1 : Shared} {x : Nat} {l : List Nat} {v : Str} {tk : Tok} {more : List Value} {wr : Builtin.Str.Writer} {r' : List Nat} {T : Str} {N : Nat}, v.length ≤ 1000000 → KPc.Good wr T N → N ≤ 16777216 →
        (∀ w', KPc.Good w' (T ++ v) (N + 1000000) → wpAny (model prog w0) A (forIn l (more, w', r') g) Q' E s1) → wpAny (model prog w0) A (forIn (x :: l) (Value.str v tk :: more, wr, 37 :: 115 :: r') g) Q' E s1 := by
      intro Q' s1 x l v tk more wr r' T N hv hg0 hN h
      refine KPc.turn ?_; rw [hg]; refine wpAny_ite (KPc.ite_no (KPc.short_good hg0 hN) ?_); (repeat kpc_if)
      refine wpAny_bind ?_; refine wpAny_holding ?_; (repeat kpc_if); kpt_conv; refine wpAny_pure ?_; refine wpAny_pure ?_
      refine KPc.after_str hg0 hv ?_ h
      split
      · exact KPc.obj_some rfl
      · exact KPc.obj_none rfl
    have tD : ∀ {Q' : List Value × Builtin.Str.Writer × List Nat → Shared → Prop} {s1 : Shared} {x : Nat} {l : List Nat} {n : Int} {tk : Tok} {more : List Value} {wr : Builtin.Str.Writer} {r' : List Nat} {T : Str} {N : Nat}, n.natAbs < 10 ^ 10 → KPc.Good wr T N → N ≤ 16777216 →
        (∀ w', KPc.Good w' (T ++ ⟨(fieldL 2 n).toArray⟩) (N + 13) → wpAny (model prog w0) A (forIn l (more, w', r') g) Q' E { s1 with toks := s1.toks + 1 + 1 }) → wpAny (model prog w0) A (forIn (x :: l) (Value.int n tk :: more, wr, 37 :: 48 :: 50 :: 100 :: r') g) Q' E s1 := by
      intro Q' s1 x l n tk more wr r' T N hv hg0 hN h
      refine KPc.turn ?_; rw [hg]; refine wpAny_ite (KPc.ite_no (KPc.short_good hg0 hN) ?_); (repeat kpc_if)
      refine wpAny_bind ?_; refine wpAny_holding ?_; (repeat kpc_if); kpt_conv; refine wpAny_pure ?_
      exact after_field (W := 2) (n := n) rfl rfl rfl rfl rfl rfl rfl rfl rfl hv hg0 h
    have tB : ∀ {Q' : List Value × Builtin.Str.Writer × List Nat → Shared → Prop} {s1 : Shared} {x : Nat} {l : List Nat} {more : List Value} {wr : Builtin.Str.Writer} {r' : List Nat} {T : Str} {N : Nat}, KPc.Good wr T N → N ≤ 16777216 → (∀ w', KPc.Good w' (T ++ Str.ofString " ") (N + 1) → wpAny (model prog w0) A (forIn l (more, w', 37 :: r') g) Q' E s1) →
        wpAny (model prog w0) A (forIn (x :: l) (more, wr, 32 :: 37 :: r') g) Q' E s1 := by
      intro Q' s1 x l more wr r' T N hg0 hN h
      refine KPc.turn ?_; rw [hg]; refine wpAny_ite (KPc.ite_no (KPc.short_good hg0 hN) ?_); (repeat kpc_if)
      refine wpAny_pure ?_
      exact KPc.after_add (y := Str.ofString " ") hg0 (by decide +kernel) (KPc.obj_none (if_neg (by decide +kernel))) h
    have tC : ∀ {Q' : List Value × Builtin.Str.Writer × List Nat → Shared → Prop} {s1 : Shared} {x : Nat} {l : List Nat} {more : List Value} {wr : Builtin.Str.Writer} {r' : List Nat} {T : Str} {N : Nat}, KPc.Good wr T N → N ≤ 16777216 → (∀ w', KPc.Good w' (T ++ Str.ofString ":") (N + 1) → wpAny (model prog w0) A (forIn l (more, w', 37 :: r') g) Q' E s1) →
        wpAny (model prog w0) A (forIn (x :: l) (more, wr, 58 :: 37 :: r') g) Q' E s1 := by
      intro Q' s1 x l more wr r' T N hg0 hN h
      refine KPc.turn ?_; rw [hg]; refine wpAny_ite (KPc.ite_no (KPc.short_good hg0 hN) ?_); (repeat kpc_if)
      refine wpAny_pure ?_
      exact KPc.after_add (y := Str.ofString ":") hg0 (by decide +kernel) (KPc.obj_none (if_neg (by decide +kernel))) h
    have tK : ∀ {Q' : List Value × Builtin.Str.Writer × List Nat → Shared → Prop} {s1 : Shared} {x : Nat} {l : List Nat} {more : List Value} {wr : Builtin.Str.Writer} {r' : List Nat} {T : Str} {N : Nat}, KPc.Good wr T N → N ≤ 16777216 → (∀ w', KPc.Good w' (T ++ Str.ofString ", ") (N + 2) → wpAny (model prog w0) A (forIn l (more, w', 37 :: r') g) Q' E s1) →
        wpAny (model prog w0) A (forIn (x :: l) (more, wr, 44 :: 32 :: 37 :: r') g) Q' E s1 := by
      intro Q' s1 x l more wr r' T N hg0 hN h
      refine KPc.turn ?_; rw [hg]; refine wpAny_ite (KPc.ite_no (KPc.short_good hg0 hN) ?_); (repeat kpc_if)
      refine wpAny_pure ?_
      exact KPc.after_add (y := Str.ofString ", ") hg0 (by decide +kernel) (KPc.obj_none (if_neg (by decide +kernel))) h
    refine tS hd ‹_› (by decide) fun _ g1 => ?_
    rw [KPc.empty_app] at g1
    refine tK g1 (by decide) fun _ g1 => tD h2 g1 (by decide) fun _ g1 => tB g1 (by decide) fun _ g1 => tS hm g1 (by decide) fun _ g1 => tB g1 (by decide) fun _ g1 => ?_
    refine KPc.turn ?_; rw [hg]; kpc_check; (repeat kpc_if)
    refine wpAny_bind ?_; refine wpAny_holding ?_; (repeat kpc_if); kpt_conv; refine wpAny_pure ?_
    refine after_field (W := 4) (n := y) rfl rfl rfl rfl rfl rfl rfl rfl rfl h4 (by kpc_g) fun _ g1 => ?_
    show wpAny _ _ (forIn _ _ g) _ _ _
    refine tB g1 (by decide) fun _ g1 => tD h5 g1 (by decide) fun _ g1 => tC g1 (by decide) fun _ g1 => tD h6 g1 (by decide) fun _ g1 => tC g1 (by decide) fun _ g1 => tD h7 g1 (by decide) fun _ g1 => tB g1 (by decide) fun _ g1 => tS hz g1 (by decide) fun _ _ => ?_
    refine KPc.turn ?_; rw [hg]; kpc_check; (repeat kpc_if)
    kpc_close
end NC
end Mine
namespace Mine
noncomputable section NC
section
variable {x : Sx} {X X' X'' : Addr → Prop} {ρ ρ' : Rho} {own own' own'' : OwnO} {s s' s'' : Shared} {Post : PostT} {ms : List MS}
/-- x.reverse(), x the frame's own list -/
theorem Ex_rvs (ok : SxOk x) {i : Nat} {a : Addr} {l : List AV} (hl : l.length ≤ 2 ^ 20) (h : Ex x ms ρ (some (i, a, .lst l.reverse)) Post) : Ex x (.rvs i :: ms) ρ (some (i, a, .lst l)) Post := by
  refine Ex_cons fun st hs A s X R S => sMeth_k hs fun y p apos es cpos pos hn hok hpos hs => emp_k hs ?_
  refine wpAny_Expr_any ?_ (by unfold interactive; rw [S.v.fk]; rfl) rfl
  refine wpAny_Call_method (T := "list") rfl rfl hpos F.plainAttrs_list F.slot_list_reverse F.type_list_reverse (own_name S rfl hn hok ?_)
  refine hide fun G kG => ?_
  obtain ⟨_, o⟩ := S.own i a _ rfl
  obtain ⟨vs, ⟨n, h7⟩, h8⟩ := o.own
  have hlen := h8.length
  refine kG ⟨⟨_, h7, rfl⟩, fun b q => Value.ref.inj q ▸ ⟨_, h7, rfl⟩, PyProof.Rows.callWith_method0 (call_meets F.slot_list_reverse ⟨_, h7, rfl⟩ F.entry_list_reverse (F.args_list_reverse_1 _) (AutoListH.list_reverse_list_0 a vs.toArray n (by rw [sizeLine_eq, List.size_toArray]; omega)) ⟨h7, ?_⟩)⟩
  have hs := Heap.SameBut.update s.heap a (Obj.mapSeq fun x => x.reverse)
  have kk : ∀ b o, b ≠ a → s.heap.get? b = some o → (s.heap.update a (Obj.mapSeq fun x => x.reverse)).get? b = some o := fun b o nb e => (hs.2 b nb).trans e
  have p2 : (s.heap.update a (Obj.mapSeq fun x => x.reverse)).PlainList a vs.toArray.reverse := ⟨_, Heap.get?_update_self _ h7 rfl⟩
  rw [show vs.toArray.reverse = vs.reverse.toArray from List.reverse_toArray] at p2
  exact nxt_own ok S (.refl s) (l' := .lst l.reverse) kk ⟨vs.reverse, p2, h8.reverse.mono (fun b o' n e => kk b o' (fun q => n (q ▸ o.x)) e) fun _ _ q _ => q⟩ h
theorem foldl_one {v : Value} : ∀ (n : Nat) (acc : Array Value), List.foldl (fun x1 x2 => x1 ++ x2) acc (List.replicate n [v].toArray) = acc ++ (List.replicate n v).toArray
  | 0, acc => by simp
  | n + 1, acc => by
    rw [List.replicate_succ, List.foldl_cons, foldl_one n]
    apply Array.toList_inj.mp
    simp [List.replicate_succ]
theorem rep_list {P : Program} {w : World} {A : Around} {E : Value → Shared → Prop} {s : Shared} {a : Addr} {v : Value} {m : Int} {tk : Tok} {Q : Value → Shared → Prop} (hI : s.heap.get? a = some { cls := .type "list", data := .seq [v].toArray }) (h0 : 0 ≤ m) (hl : m ≤ 1000)
    (h : Q (.ref s.heap.objs.size) { s with heap := s.heap.push { cls := .type "list", data := .seq (List.replicate m.toNat v).toArray } }) : wpAny (model P w) A (binaryOp .Mult (.ref a) (.int m tk)) Q E s := by
  refine wpAny_binaryOp_repeat_ref (T := "list") (U := "int") (by decide) ⟨_, hI, rfl⟩ (fun s' => typeIs_int s' m tk) noFill_list_mul F.fills_int_mul F.slot_int_rmul repeat_list F.slot_int_index.lookup
    (call_meets F.slot_int_rmul (typeIs_int s m tk) F.entry_int_rmul (F.args_int_rmul_2 _ _) (int___rmul___int_list m tk a [v].toArray 0)
      ⟨hI, rfl, ⟨_, hI, rfl⟩, call_meets F.slot_list_mul ⟨_, hI, rfl⟩ F.entry_list_mul (F.args_list_mul_2 _ _)
        (AutoListH.list___mul___list_int_3 a [v].toArray 0 m tk (by simp [Builtin.List.listFitsIndex]; omega) (by have e2 : [v].toArray.size = 1 := rfl; rw [e2]; omega) (by simp [Builtin.List.listTooLong, sizeLine]; omega))
        ⟨hI, ?_⟩⟩)
  have e : (if [v].toArray.isEmpty = true then 0 else m.toNat) = m.toNat := by simp
  rw [e, foldl_one]
  simpa using h
theorem Reps.rep {c : Cx} {X : Addr → Prop} {h : Heap} {j : Int} {v : Value} (r : ∀ h, c.Rep X h v (.int j)) (n : Nat) : c.Reps X h (List.replicate n v) (List.replicate n (.int j)) :=
  @Nat.rec (fun n => c.Reps X h (List.replicate n v) (List.replicate n (.int j))) .nil (fun _ ih => .cons (r h) ih) n
/-- [k] * n -/
theorem rep_go {c : Cx} {env : Env} {names : List Str} {kd : Str → Option NameKind} {ρ : Rho} (hw : CxW c) {e re : Expr} {lpos pos : Pos} {j m : Int} (he : EvsOk c env names kd ρ [e] [.int j]) (hr : EvOk c env names kd ρ re (.int m)) (h0 : 0 ≤ m) (hl : m ≤ 1000) {A : Around} {X : Addr → Prop} {s : Shared} {Q : Value → Shared → Prop} (R : Room A c.n) (V : Vs c env names kd X ρ s)
    (h : ∀ (s3 : Shared) (v : Value), c.Ext s s3 → (∀ X h, c.Rep X h v (.int j)) → Q (.ref s3.heap.objs.size) { s3 with heap := s3.heap.push { cls := .type "list", data := .seq (List.replicate m.toNat v).toArray } }) : wpAny c.M A (eval (.BinOp (.List [e] lpos) .Mult re pos) env) Q noE s := by
  refine wpAny_BinOp (wpAny_List (evs_ok he _ A X s _ R V fun vs s1 e1 r1 => Reps.one_k r1 fun v0 r1 => Rep.int_k r1 fun t => ⟨by rw [sizeLine_eq]; exact Nat.le_of_ble_eq_true rfl, ?_⟩))
  have e2 := e1.trans (Ext.push hw s1 { cls := .type "list", data := .seq [Value.int j t].toArray })
  refine hr A X _ _ R (V.ext e2) fun v s3 e3 r3 => Rep.int_k r3 fun tk => ?_
  have nwd : ¬ c.wd s1.heap.objs.size := fun q => (hw.alive _ _ (e1.wd V.wd) q).elim fun o z => by rw [fresh_none s1] at z; cases z
  have hI : s3.heap.get? s1.heap.objs.size = some { cls := .type "list", data := .seq [Value.int j t].toArray } := e3.keep _ _ (fun q => nwd (hw.xcwd _ q)) (Heap.get?_push_size _ rfl)
  exact rep_list hI h0 hl (h s3 _ (e2.trans e3) fun _ _ => .int _ _)
/-- x = [k] * n -/
theorem Ex_newR (ok : SxOk x) {i : Nat} {k n : ME} {j m : Int} {C1 C2 : Prop} (hm : mev x.c.F x.c.X ρ k = some (.int j, C1)) (hC : C1) (hn : mev x.c.F x.c.X ρ n = some (.int m, C2)) (hC2 : C2) (h0 : 0 ≤ m) (hl : m ≤ 1000)
    (h : ∀ a, Ex x ms (ρ.set i none) (some (i, a, .lst (List.replicate m.toNat (.int j)))) Post) : Ex x (.newR i k n :: ms) ρ none Post :=
  Ex_cons fun st hs A s X R S => sSet_k hs fun y p e pos hs => kBinOp_k fT (and_t hs).2 fun l o re bp h2 => deq_k (and_t h2).1 (kList_k fT (and_t (and_t h2).2).1 fun es lp h3 => k1_k fT h3 fun e0 h3 => wpAny_Assign_Name
    (rep_go ok.c.w ⟨(sound ok.c (env := x.env) k e0 _ C1 h3 hm hC).1, chk_plain h3, trivial⟩ (sound ok.c n re _ C2 (and_t (and_t h2).2).2 hn hC2).1 h0 hl R S.v fun s3 v e13 rv =>
      wpAny_mono (new_own ok (and_t hs).1 rfl R (St.extS ok S e13) (d := .lst (List.replicate m.toNat (.int j))) (fun h' e _ kx => ⟨List.replicate m.toNat v, ⟨_, e⟩, Reps.rep (rv _) _⟩) (h _)) (fun _ s' hx => nxt_after S ok e13 hx) fun _ _ e => e))
end
end NC
end Mine
namespace Mine
noncomputable section NC
/-- d is a dict of K's kind that bears l -/
noncomputable def DictRep (c : Cx) {K : Type} [DecidableEq K] (knd : KeyKind c.P c.w K) (D : AV) (l : List (K × Int)) : Prop :=
  ∀ (X : Addr → Prop) (h : Heap) (v : Value), c.Rep X h v D → ∃ d kv, v = .ref d ∧ ¬ X d ∧ (d == sysModules) = false ∧ h.DictOf knd d kv ∧ kv.map (·.1) = l.map (·.1) ∧ c.Reps X h (kv.map (·.2)) (l.map fun p => AV.int p.2)
theorem dictRep_I (c : Cx) (l : List (Int × Int)) : DictRep c (intKind c.P c.w) (.dI l) l := fun X h v r => Rep.dI_k r fun a kv nx ns d m r => ⟨_, _, rfl, nx, ns, d, m, r⟩
theorem dictRep_S (c : Cx) (l : List (Str × Int)) : DictRep c (PySem.strKind c.P c.w) (.dS l) l := fun X h v r => Rep.dS_k r fun a kv nx ns d m r => ⟨_, _, rfl, nx, ns, d, m, r⟩
section
variable {c : Cx} {env : Env} {names : List Str} {kd : Str → Option NameKind} {ρ : Rho} {K : Type} [DecidableEq K] {knd : KeyKind c.P c.w K}
theorem keys_len {K : Type} {kv : List (K × Value)} {l : List (K × Int)} (m : kv.map (·.1) = l.map (·.1)) : kv.length = l.length := by
  have := congrArg List.length m
  rwa [List.length_map, List.length_map] at this
theorem it_values (hw : CxW c) {y : Str} {q : Pos} {tgt : Expr} {p pos : Pos} {D : AV} {l : List (K × Int)} (hD : DictRep c knd D l) (he : EvOk c env names kd ρ (.Name y q) D) (hl : (p.endLine == pos.line) = true) :
    ItOk c env names kd ρ (.Call (.Attribute (.Name y q) (Str.ofString "values") p) [] [] pos) tgt (l.map fun p => AV.int p.2) := by
  intro A X s Q R V h
  refine wpAny_Call_method (T := "dict") rfl rfl hl F.plainAttrs_dict F.slot_dict_values F.type_dict_values (he A X s _ R V fun v s1 e1 r1 => ?_)
  refine hide fun G kG => ?_
  obtain ⟨d, kv, ev, nx, ns, dd, m, rs⟩ := hD _ _ _ r1
  have e2 : c.Ext s1 { s1 with heap := s1.heap.push { cls := .type "dict_values", data := .fields #[.ref d] } } := Ext.push hw s1 _
  obtain ⟨ep, da⟩ := (DictOf.keep1 dd fun o e => Heap.get?_push_of_some { cls := .type "dict_values", data := .fields #[.ref d] } e).dictAt
  refine kG (ev ▸ ⟨dd.typeIs, fun b q => Value.ref.inj q ▸ ?_, PyProof.Rows.callWith_method0 (call_meetsIn F.slot_dict_values dd.typeIs F.entry_dict_values (F.args_dict_values_1 _) (meets_dict_values knd d ns) ⟨⟨kv, dd⟩, ?_⟩)⟩)
  · obtain ⟨o, es, ep, q1, q2, _⟩ := dd; exact ⟨o, q1, q2.2.1⟩
  refine wpAny_pyIter_values (ep := ep) ⟨_, Heap.get?_push_size _ rfl, rfl, rfl⟩ da ?_
  refine it_new hw V (e1.trans e2) rfl h fun kp hg ne rp => ?_
  have dal : ∃ o, (s1.heap.push { cls := .type "dict_values", data := .fields #[.ref d] }).get? d = some o := let ⟨o, _, q, _⟩ := da; ⟨o, q⟩
  obtain ⟨S', IT, z⟩ := itr_list (c := c) (tgt := tgt) (ds := l.map fun p => AV.int p.2) (us := kv.map (·.2)) (T := "dict_valueiterator") (Walks.dictValues (knd := knd) R.hd _ d (ne dal) kv ep) (fun i h' ⟨⟨o, q, q2, q3⟩, _⟩ => ⟨o, q, q2, fun ⟨vs, y, t, z, z2⟩ => by rw [q3] at z; cases z; cases z2⟩) ⟨_, hg⟩ (fun q => q.elim nx (ne dal)) (dal.imp fun o e => kp _ o e) (.inr rfl)
    (Reps.run (M := fun vs ds => c.Reps _ _ vs ds) .nil (fun a _ r => .cons (rp a) r) (Reps.ext V.x.xc e2 rs)) (by rw [List.length_map]; exact keys_len m) (fun i v d hv hd => ⟨i, hv.elim fun kk hk => by rw [List.getElem?_map, hk]; rfl, hd⟩) (by decide)
  exact ⟨S', IT, z ⟨⟨_, hg, rfl, rfl⟩, da.push _⟩⟩
/-- where an items iterator stands -/
structure ItmS (c : Cx) {K : Type} [DecidableEq K] (knd : KeyKind c.P c.w K) (I d : Addr) (kv : List (K × Value)) (ep : Nat) (X1 : Addr → Prop) (hb : Heap) (i : Nat) (h' : Heap) : Prop where
  it : ∃ ok ov, IsItemIter h' I d i kv.length ep ok ov
  at' : h'.DictAt knd d kv ep
  keep : ∀ b o, ¬ X1 b → hb.get? b = some o → h'.get? b = some o
theorem itr_items (enc : K → AV) (henc : ∀ X h k v, knd.is k v = true → c.Rep X h v (enc k)) {A : Around} {I d : Addr} {kv : List (K × Value)} {l : List (K × Int)} {ep : Nat} {X1 : Addr → Prop} {hb : Heap} {elts : List Expr} {tk : Nat} {tpos : Pos} (hd : A.handled = none) (m : kv.map (·.1) = l.map (·.1)) (rs : c.Reps X1 hb (kv.map (·.2)) (l.map fun p => AV.int p.2)) (dx : ¬ X1 d) (da : ∃ o, hb.get? d = some o) (Ia : ∃ o, hb.get? I = some o) (ne : d ≠ I) (IX : X1 I) :
    Itr c A (.Tuple elts tk tpos) I hb X1 (l.map fun p => .tup [enc p.1, .int p.2]) (ItmS c knd I d kv ep X1 hb) := by
  have hlen := keys_len m
  refine ⟨fun i h1 h2 z k => ⟨z.it.imp fun ok h => h.imp fun ov z1 => k I _ Ia (.inl rfl) z1, z.at'.at' fun o e => k d o da (.inr dx) e, fun b o nb e => k b o ⟨o, e⟩ (.inr nb) (z.keep b o nb e)⟩, fun i d' s4 Q' z hd' hq => ?_, fun s4 Q' z hq => ?_, fun i h1 z => z.it.elim fun _ h => h.elim fun _ z1 => ⟨_, z1⟩, fun i h1 z o e ⟨vs, y, t, z0, z2⟩ => ?_, fun ⟨_, _, q⟩ => nomatch q⟩
  · refine hide fun G kG => ?_
    obtain ⟨ok, ov, z1⟩ := z.it
    rw [List.getElem?_map] at hd'
    obtain ⟨⟨k2, n⟩, hl2, ed⟩ := Option.map_eq_some_iff.mp hd'
    have e1 : (kv.map (·.1))[i]? = some k2 := by rw [m, List.getElem?_map, hl2]; rfl
    rw [List.getElem?_map] at e1
    obtain ⟨⟨kk, v⟩, hkv, ek⟩ := Option.map_eq_some_iff.mp e1
    have ek : kk = k2 := ek
    rw [ek] at hkv
    obtain ⟨v', hv', rv⟩ := rs.get (i := i) (d := .int n) (by rw [List.getElem?_map, hl2]; rfl)
    rw [List.getElem?_map, hkv] at hv'
    have hvv : v = v' := Option.some.inj hv'
    refine kG (wpAny_pyNext_items_item z1 z.at' hkv fun key h' hkey hit' htup hsz hkeep => ⟨_, rfl, wpAny_letOwnedTupleGo_items hit' fun h'' hit'' hs'' => ?_⟩)
    have hnt : s4.heap.objs.size ≠ I := fun q => by have := fresh_none s4; rw [q, z1] at this; cases this
    have kk2 : ∀ b o, b ≠ I → s4.heap.get? b = some o → h''.get? b = some o := fun b o nb e => (hs''.2 b nb).trans (hkeep b o nb e)
    refine hq _ h'' _ kk2 (fun X2 _ hx2 => ed ▸ ?_) ⟨⟨_, _, hit''⟩, z.at'.at' fun o e => kk2 d o ne e, fun b o nb e => kk2 b o (fun q => nb (q ▸ IX)) (z.keep b o nb e)⟩
    exact .tup (vs := [key, v]) (hx2 _ (fresh_none s4)) ⟨_, (hs''.2 _ hnt).trans htup⟩ (.cons (henc _ _ _ _ hkey) (.cons (hvv ▸ Rep.int_k rv fun t => .int _ _) .nil))
  · exact z.it.elim fun _ h => h.elim fun _ z1 => wpAny_pyNext_items_end hd z1 z.at' (by rw [List.length_map]; exact List.getElem?_eq_none (Nat.le_of_eq hlen)) fun h' hx => ⟨rfl, hq h' _ fun b o nb e => hx b o nb e⟩
  · obtain ⟨ok, ov, z1⟩ := z.it
    have z1' : h1.get? I = _ := z1
    rw [e] at z1'; cases z1'; cases z0; cases z2
theorem it_items (hw : CxW c) {y : Str} {q : Pos} {p pos tpos : Pos} {elts : List Expr} {tk : Nat} {D : AV} {l : List (K × Int)} (enc : K → AV) (henc : ∀ X h k v, knd.is k v = true → c.Rep X h v (enc k)) (hD : DictRep c knd D l) (he : EvOk c env names kd ρ (.Name y q) D)
    (hl : (p.endLine == pos.line) = true) : ItOk c env names kd ρ (.Call (.Attribute (.Name y q) (Str.ofString "items") p) [] [] pos) (.Tuple elts tk tpos) (l.map fun p => .tup [enc p.1, .int p.2]) := by
  intro A X s Q R V h
  refine wpAny_Call_method (T := "dict") rfl rfl hl F.plainAttrs_dict F.slot_dict_items F.type_dict_items (he A X s _ R V fun v s1 e1 r1 => ?_)
  refine hide fun G kG => ?_
  obtain ⟨d, kv, ev, nx, ns, dd, m, rs⟩ := hD _ _ _ r1
  have e2 : c.Ext s1 { s1 with heap := s1.heap.push { cls := .type "dict_items", data := .fields #[.ref d] } } := Ext.push hw s1 _
  obtain ⟨ep, da⟩ := (DictOf.keep1 dd fun o e => Heap.get?_push_of_some { cls := .type "dict_items", data := .fields #[.ref d] } e).dictAt
  refine kG (ev ▸ ⟨dd.typeIs, fun b q => Value.ref.inj q ▸ ?_, PyProof.Rows.callWith_method0 (call_meetsIn F.slot_dict_items dd.typeIs F.entry_dict_items (F.args_dict_items_1 _) (meets_dict_items knd d ns) ⟨⟨kv, dd⟩, ?_⟩)⟩)
  · obtain ⟨o, es, ep, q1, q2, _⟩ := dd; exact ⟨o, q1, q2.2.1⟩
  refine wpAny_pyIter_items (ep := ep) ⟨_, Heap.get?_push_size _ rfl, rfl, rfl⟩ da ?_
  refine it_new hw V (e1.trans e2) rfl h fun kp hg ne rp => ?_
  have dal : ∃ o, (s1.heap.push { cls := .type "dict_items", data := .fields #[.ref d] }).get? d = some o := let ⟨o, _, q, _⟩ := da; ⟨o, q⟩
  exact ⟨_, itr_items enc henc R.hd m (Reps.run (M := fun vs ds => c.Reps _ _ vs ds) .nil (fun a _ r => .cons (rp a) r) (Reps.ext V.x.xc e2 rs)) (fun q => q.elim nx (ne dal)) (dal.imp fun o e => kp _ o e) ⟨_, hg⟩ (ne dal) (.inr rfl), ⟨⟨_, _, hg⟩, da.push _, fun _ _ _ q => q⟩⟩
end
theorem enc_int (c : Cx) : ∀ (X : Addr → Prop) (h : Heap) (k : Int) (v : Value), (intKind c.P c.w).is k v = true → c.Rep X h v (.int k) := fun X h k v e => by
  obtain ⟨t, rfl⟩ := Value.isInt_shape e
  exact .int _ _
theorem enc_str (c : Cx) : ∀ (X : Addr → Prop) (h : Heap) (k : Str) (v : Value), (PySem.strKind c.P c.w).is k v = true → c.Rep X h v (.str k) := fun X h k v e => by
  obtain ⟨t, rfl⟩ := Value.isStrOf_shape e
  exact .str _ _
end NC
end Mine
namespace Mine
noncomputable section NC
section
variable {c : Cx} {env : Env} {names : List Str} {kd : Str → Option NameKind} {ρ : Rho}
theorem sub_any_slice {slice : Expr} {o v : Value} (hs : plainE slice = true) : subscripted slice false o v = operate [o, v] (getItem o v) := by
  cases slice <;> first | rfl | cases hs
theorem ev_fmt {k : Nat} {p pos : Pos} {e : Expr} {d m z : Str} {dd y n5 n6 n7 : Int} (he : EvsOk c env names kd ρ [e] [.tup [.str d, .int dd, .str m, .int y, .int n5, .int n6, .int n7, .str z]])
    (hC : d.length ≤ 1000000 ∧ m.length ≤ 1000000 ∧ z.length ≤ 1000000 ∧ dd.natAbs < 10 ^ 10 ∧ y.natAbs < 10 ^ 10 ∧ n5.natAbs < 10 ^ 10 ∧ n6.natAbs < 10 ^ 10 ∧ n7.natAbs < 10 ^ 10) :
    EvOk c env names kd ρ (.BinOp (.Constant (.str fmtS) k p) .Mod e pos) (.str (fmtT d m z dd y n5 n6 n7)) := by
  intro A X s Q R V h
  refine wpAny_BinOp (wpAny_Constant_str ?_)
  have e0 : c.Ext s { s with toks := s.toks + 1 } := Ext.tok s _
  refine he.1 A X _ _ R (V.ext e0) fun v s1 e1 r1 => Rep.tup_k r1 fun a vs nx ht rs => ?_
  revert ht
  refine Reps.cons_k rs fun v1 vs r1 rs => Rep.str_k r1 fun t1 => Reps.cons_k rs fun v2 vs r2 rs => Rep.int_k r2 fun t2 => Reps.cons_k rs fun v3 vs r3 rs => Rep.str_k r3 fun t3 => Reps.cons_k rs fun v4 vs r4 rs => Rep.int_k r4 fun t4 => Reps.cons_k rs fun v5 vs r5 rs => Rep.int_k r5 fun t5 => Reps.cons_k rs fun v6 vs r6 rs => Rep.int_k r6 fun t6 => Reps.two_k rs fun v7 v8 r7 r8 => Rep.int_k r7 fun t7 => Rep.str_k r8 fun t8 => fun ht => ?_
  rw [fmtS_eq]
  exact KPt.bin_left (T := "str") (U := "tuple") (op := .Mod) (by decide) (typeIs_str _ _ _) ht.is.typeIs F.fills_str_mod KPt.fills_tuple F.slot_str_mod
    (call_meets F.slot_str_mod (typeIs_str _ _ _) F.entry_str_mod (F.args_str_mod_2 _ _) (fmt_meets _ d m z dd y n5 n6 n7 _ _ _ _ _ _ _ _ _ hC.1 hC.2.1 hC.2.2.1 hC.2.2.2.1 hC.2.2.2.2.1 hC.2.2.2.2.2.1 hC.2.2.2.2.2.2.1 hC.2.2.2.2.2.2.2) ⟨ht.is, fun t' k => ⟨(fun e => nomatch e), h _ _ ((e0.trans e1).tk _) (.str _ _)⟩⟩)
theorem ev_tupadd (hw : CxW c) {l r : Expr} {pos : Pos} {a b : AV} {as bs : List AV} (he : EvsOk c env names kd ρ [l, r] [.tup (a :: as), .tup (b :: bs)]) (hl : as.length + bs.length ≤ 1000) :
    EvOk c env names kd ρ (.BinOp l .Add r pos) (.tup (a :: as ++ b :: bs)) := by
  intro A X s Q R V h
  refine wpAny_BinOp (he.1 A X s _ R V fun v1 s1 e1 r1 => he.2.2.1 A X s1 _ R (V.ext e1) fun v2 s2 e2 r2 => ?_)
  have e12 := e1.trans e2
  have V2 := V.ext e12
  refine Rep.tup_k (Rep.ext V.x.xc e2 r1) fun t1 vs nx ht rs => Rep.tup_k r2 fun t2 vs2 ny ht2 rs2 => ?_
  refine hide fun G kG => ?_
  obtain ⟨n, ht⟩ := ht
  obtain ⟨n2, ht2⟩ := ht2
  have hl1 := rs.length
  have hl2 := rs2.length
  have hne : ∀ {vs : List Value} {ds : List AV} {d : AV}, c.Reps X s2.heap vs (d :: ds) → ¬ vs.toArray.isEmpty = true := fun r => Reps.cons_k r fun _ _ _ _ => fT
  refine kG (P.add_tuple ht ht2 (hne rs) (hne rs2) ?_ (by rw [sizeLine_eq, List.size_toArray, List.size_toArray]; simp only [List.length_cons] at hl1 hl2; omega))
  exact h _ _ (e12.trans (Ext.push hw s2 _)) (.tup (fresh_not hw V2.wd V2.x) (vs := _ ++ _) ⟨_, (Heap.get?_push_size _ rfl).trans (by rw [List.append_toArray])⟩ ((rs.append rs2).mono (fun b o _ e => Heap.get?_push_of_some _ e) fun _ _ q _ => q))
theorem ev_isi (hw : CxW c) {e : Expr} {p q pos : Pos} {i : Int} (hg : glob kd (Str.ofString "isinstance") = true) (hg2 : glob kd (Str.ofString "tuple") = true) (he : EvsOk c env names kd ρ [e] [.int i]) :
    EvOk c env names kd ρ (.Call (.Name (Str.ofString "isinstance") p) [e, .Name (Str.ofString "tuple") q] [] pos) (.bool false) := by
  intro A X s Q R V h
  refine wpAny_Call_NameR (name_builtin hw V hg (by simp [usedB]) boot_isinstance (by decide +kernel) ?_)
  refine PyProof.Rows.callWith_builtin1 ?_ (starEach_plain he.2.1) rfl
  refine wpAny_items_cons (he.1 A X s _ R V fun v s1 e1 r1 => ?_) (starEach_plain he.2.1)
  refine wpAny_items_cons (name_builtin hw (V.ext e1) hg2 (by simp [usedB]) PyProof.Rows.boot_tuple (by decide +kernel) ?_) rfl
  exact wpAny_items_nil (Rep.int_k r1 fun t => IsiPair.int_tuple (h _ _ (e1.tk _) (.bool _)))
theorem fresh_sys (hw : CxW c) {X : Addr → Prop} {s : Shared} (V : Vs c env names kd X ρ s) : (s.heap.objs.size == sysModules) = false := Bool.eq_false_iff.mpr fun q => (hw.alive _ _ V.wd hw.sysm).elim fun o z => by rw [← beq_iff_eq.mp q, fresh_none] at z; cases z
theorem ev_empty (hw : CxW c) {pos : Pos} (b : Bool) : EvOk c env names kd ρ (.Dict [] [] pos) (bif b then .dS [] else .dI []) := by
  intro A X s Q R V h
  refine wpAny_Dict_empty (h _ _ (Ext.push hw s _) ?_)
  have nx := fresh_not hw V.wd V.x
  cases b
  · exact .dI nx (fresh_sys hw V) (kv := []) ⟨_, _, _, Heap.get?_push_size _ rfl, ⟨rfl, rfl, rfl⟩, rfl, fun _ q => by simp at q, .nil, .nil⟩ rfl .nil
  · exact .dS nx (fresh_sys hw V) (kv := []) ⟨_, _, _, Heap.get?_push_size _ rfl, ⟨rfl, rfl, rfl⟩, rfl, fun _ q => by simp at q, .nil, .nil⟩ rfl .nil
theorem disp_done (hw : CxW c) {X : Addr → Prop} {s s1 : Shared} {h' : Heap} {tk : Nat} (V : Vs c env names kd X ρ s) (e1 : c.Ext { s with heap := s.heap.push { cls := .type "dict", data := .dict #[] } } s1) (hs : Heap.SameBut s.heap.objs.size s1.heap h') :
    c.Ext s { s1 with heap := h', toks := tk } ∧ (∀ b o, ¬ X b → s.heap.get? b = some o → h'.get? b = some o) := by
  have hn := fresh_none s
  have e0 : c.Ext s { s with heap := s.heap.push { cls := .type "dict", data := .dict #[] } } := Ext.push hw s _
  have e01 := e0.trans e1
  have nwd : ¬ c.wd s.heap.objs.size := fun q => by obtain ⟨o, z⟩ := hw.alive _ _ V.wd q; rw [hn] at z; cases z
  have k : ∀ b o, ¬ c.xc b → s.heap.get? b = some o → h'.get? b = some o := fun b o nb e => by
    have ne : b ≠ s.heap.objs.size := fun q => by rw [q, hn] at e; cases e
    exact (hs.2 b ne).trans (e01.keep b o nb e)
  refine ⟨⟨?_, k, fun W => hw.stable _ _ (e01.wd W) fun b o wb e => (hs.2 b (fun q => wb.elim (fun wb => nwd (q ▸ wb)) (fun r => by
    have e2 := e1.keep _ _ (fun z => nwd (hw.xcwd _ z)) (Heap.get?_push_size (o := { cls := .type "dict", data := .dict #[] }) s.heap rfl)
    rw [q, e2] at e; cases e
    obtain ⟨vs, y, t, z, _⟩ := r; cases z))).trans e⟩, fun b o nb e => k b o (fun q => nb (V.x.xc b q)) e⟩
  obtain ⟨h1, t1, q⟩ := e01.same
  exact ⟨h', tk, by rw [q]⟩
theorem ev_disp1 (hw : CxW c) {K : Type} [DecidableEq K] {knd : KeyKind c.P c.w K} {enc : K → AV} (hdec : ∀ X h k v, c.Rep X h v (enc k) → knd.is k v = true) {D : AV} {k : K} {i : Int}
    (hD : ∀ (X : Addr → Prop) (h : Heap) (d : Addr) (kv : List (K × Value)), ¬ X d → (d == sysModules) = false → h.DictOf knd d kv → kv.map (·.1) = [k] → c.Reps X h (kv.map (·.2)) [.int i] → c.Rep X h (.ref d) D)
    {ke ve : Expr} {pos : Pos} (he : EvsOk c env names kd ρ [ke, ve] [enc k, .int i]) : EvOk c env names kd ρ (.Dict [some ke] [ve] pos) D := by
  intro A X s Q R V h
  refine wpAny_Dict_walk (knd := knd) rfl rfl (by simp) (by simp) ?_
  have e0 : c.Ext s { s with heap := s.heap.push { cls := .type "dict", data := .dict #[] } } := Ext.push hw s _
  have hn := fresh_none s
  have nwd : ¬ c.wd s.heap.objs.size := fun q => by obtain ⟨o, z⟩ := hw.alive _ _ V.wd q; rw [hn] at z; cases z
  refine pairTrees_cons_walk (he.1 A X _ _ R (V.ext e0) fun kv s1 e1 r1 => he.2.2.1 A X s1 _ R ((V.ext e0).ext e1) fun vv s2 e2 r2 => pairTrees_nil_walk ?_)
  have e12 := e1.trans e2
  refine ⟨[(k, vv)], ⟨hdec _ _ _ _ r1, rfl, trivial⟩, DictOf.keep1 (Heap.DictOf.new s.heap) fun o e => e12.keep _ o (fun q => nwd (hw.xcwd _ q)) e, fun h' hd hs => ?_⟩
  have := disp_done hw (tk := s2.toks + 1) V e12 hs
  have hm : merged ([] : List (K × Value)) [(k, vv)] = [(k, vv)] := by simp [merged, stored]
  rw [hm] at hd
  exact h _ _ this.1 (hD _ _ _ _ (fresh_not hw V.wd V.x) (fresh_sys hw V) hd rfl (.cons (Rep.int_k r2 fun t => .int _ _) .nil))
theorem ev_disp2 (hw : CxW c) {k k' i i' : Int} (hne : k ≠ k') {ke ve ke' ve' : Expr} {pos : Pos} (he : EvsOk c env names kd ρ [ke, ve, ke', ve'] [.int k, .int i, .int k', .int i']) : EvOk c env names kd ρ (.Dict [some ke, some ke'] [ve, ve'] pos) (.dI [(k, i), (k', i')]) := by
  intro A X s Q R V h
  refine wpAny_Dict_walk (knd := intKind c.P c.w) rfl rfl (by simp) (by simp) ?_
  have e0 : c.Ext s { s with heap := s.heap.push { cls := .type "dict", data := .dict #[] } } := Ext.push hw s _
  have hn := fresh_none s
  have nwd : ¬ c.wd s.heap.objs.size := fun q => by obtain ⟨o, z⟩ := hw.alive _ _ V.wd q; rw [hn] at z; cases z
  have V0 := V.ext e0
  refine pairTrees_cons_walk (he.1 A X _ _ R V0 fun kv s1 e1 r1 => he.2.2.1 A X s1 _ R (V0.ext e1) fun vv s2 e2 r2 => ?_)
  have V2 := (V0.ext e1).ext e2
  refine pairTrees_cons_walk (he.2.2.2.2.1 A X s2 _ R V2 fun kv' s3 e3 r3 => he.2.2.2.2.2.2.1 A X s3 _ R (V2.ext e3) fun vv' s4 e4 r4 => pairTrees_nil_walk ?_)
  have e14 := ((e1.trans e2).trans e3).trans e4
  have hk := dec_int c _ _ _ _ r1
  have hk' := dec_int c _ _ _ _ r3
  refine ⟨[(k, vv), (k', vv')], ⟨hk, rfl, hk', rfl, trivial⟩, DictOf.keep1 (Heap.DictOf.new s.heap) fun o e => e14.keep _ o (fun q => nwd (hw.xcwd _ q)) e, fun h' hd hs => ?_⟩
  have := disp_done hw (tk := s4.toks + 2) V e14 hs
  have hm : merged ([] : List (Int × Value)) [(k, vv), (k', vv')] = [(k, vv), (k', vv')] := by simp [merged, stored, hne]
  rw [hm] at hd
  exact h _ _ this.1 (.dI (fresh_not hw V.wd V.x) (fresh_sys hw V) hd rfl (.cons (Rep.int_k r2 fun t => .int _ _) (.cons (Rep.int_k r4 fun t => .int _ _) .nil)))
theorem ev_dget {K : Type} [DecidableEq K] {knd : KeyKind c.P c.w K} {enc : K → AV} (hdec : ∀ X h k v, c.Rep X h v (enc k) → knd.is k v = true) {D : AV} {l : List (K × Int)} (hD : DictRep c knd D l) {e ke : Expr} {pos : Pos} {k : K} {n : Int}
    (he : EvsOk c env names kd ρ [e, ke] [D, enc k]) (hg : getL l k = some n) : EvOk c env names kd ρ (.Subscript e ke pos) (.int n) := by
  intro A X s Q R V h
  refine Subscript_ (he.1 A X s _ R V fun v1 s1 e1 r1 => he.2.2.1 A X s1 _ R (V.ext e1) fun v2 s2 e2 r2 => ?_)
  refine hide fun G kG => ?_
  obtain ⟨d, kv, ev, nx, ns, dd, m, rs⟩ := hD _ _ _ (Rep.ext V.x.xc e2 r1)
  exact kG (ev ▸ tail_any dd.typeIs F.slot_dict_getitem.lookup (dict_get (hdec _ _ _ _ r2) dd m rs hg fun v tk r => h _ _ ((e1.trans e2).tk _) r) (sub_any_slice he.2.2.2.1))
end
end NC
end Mine
namespace Mine
noncomputable section NC
theorem bif_k {α : Type} {b : Bool} {o : Option α} {r : α} {M : Prop} (h : (bif b then o else none) = some r) (k : b = true → o = some r → M) : M := by
  cases b with
  | false => exact absurd h oN
  | true => exact k rfl h
@[elab_as_elim] theorem two_k {A B : Type} {a x : A} {b y : B} {M : A → B → Prop} (h : some (a, b) = some (x, y)) (k : M a b) : M x y := by
  cases h; exact k
@[elab_as_elim] theorem isn_k {α : Type} {o : Option α} {M : Option α → Prop} (h : o.isNone = true) (k : M none) : M o := by
  cases o with
  | none => exact k
  | some a => exact absurd h fT
/-- one row of a table of functions -/
@[elab_as_elim] theorem row_k {α : Type} {k i : Nat} {x y : Option α} {r : α} {M : Nat → Prop} (h : (bif k == i then x else y) = some r) (k1 : x = some r → M i) (k2 : y = some r → M k) : M k := by
  cases hk : k == i with
  | true => rw [hk] at h; exact Eq.mpr (congrArg M (eq_of_beq hk)) (k1 h)
  | false => rw [hk] at h; exact k2 h
theorem ob_k {A B : Type} {o : Option A} {g : A → Option B} {r : B} {M : Prop} (h : o.elim none g = some r) (k : ∀ q, o = some q → g q = some r → M) : M := by
  cases o with
  | none => exact absurd h oN
  | some q => exact k q rfl h
noncomputable abbrev ShR := Option (List Expr × List Str)
/-- a call of a global by its name, of one thing or two -/
noncomputable def call1 (s : String) (e : Expr) : ShR := kCall none e fun g es ks _ => kName none g fun n _ => k1 none es fun a => bif ks.isEmpty && n == Str.ofString s then some ([a], [n]) else none
noncomputable def call2 (s : String) (e : Expr) : ShR := kCall none e fun g es ks _ => kName none g fun n _ => k2 none es fun a b => bif ks.isEmpty && n == Str.ofString s then some ([a, b], [n]) else none
/-- x.m() -/
noncomputable def meth0 (s : String) (e : Expr) : ShR := kCall none e fun g es ks pos => kAttribute none g fun o n p => kName none o fun y q => bif es.isEmpty && (ks.isEmpty && (n == Str.ofString s && p.endLine == pos.line)) then some ([.Name y q], []) else none
section
variable {s : String} {e : Expr} {es : List Expr} {gn : List Str} {M : Expr → List Expr → List Str → Prop}
@[elab_as_elim] theorem call1_k (h : call1 s e = some (es, gn)) (k : ∀ p a pos, M (.Call (.Name (Str.ofString s) p) [a] [] pos) [a] [Str.ofString s]) : M e es gn :=
  kCall_k oN h fun g es0 ks pos h => kName_k (M := fun g => M (.Call g es0 ks pos) es gn) oN h fun n p h => k1_k (M := fun l => M (.Call (.Name n p) l ks pos) es gn) oN h fun a h => bif_k h fun hb h => emp_k (M := fun ks => M (.Call (.Name n p) [a] ks pos) es gn) (and_t hb).1
    (two_k (M := fun es gn => M (.Call (.Name n p) [a] [] pos) es gn) h (beq_k (M := fun n => M (.Call (.Name n p) [a] [] pos) [a] [n]) (and_t hb).2 (k p a pos)))
@[elab_as_elim] theorem call2_k (h : call2 s e = some (es, gn)) (k : ∀ p a b pos, M (.Call (.Name (Str.ofString s) p) [a, b] [] pos) [a, b] [Str.ofString s]) : M e es gn :=
  kCall_k oN h fun g es0 ks pos h => kName_k (M := fun g => M (.Call g es0 ks pos) es gn) oN h fun n p h => k2_k (M := fun l => M (.Call (.Name n p) l ks pos) es gn) oN h fun a b h => bif_k h fun hb h => emp_k (M := fun ks => M (.Call (.Name n p) [a, b] ks pos) es gn) (and_t hb).1
    (two_k (M := fun es gn => M (.Call (.Name n p) [a, b] [] pos) es gn) h (beq_k (M := fun n => M (.Call (.Name n p) [a, b] [] pos) [a, b] [n]) (and_t hb).2 (k p a b pos)))
@[elab_as_elim] theorem meth0_k (h : meth0 s e = some (es, gn)) (k : ∀ y q p pos, (p.endLine == pos.line) = true → M (.Call (.Attribute (.Name y q) (Str.ofString s) p) [] [] pos) [.Name y q] []) : M e es gn :=
  kCall_k oN h fun g es0 ks pos h => kAttribute_k (M := fun g => M (.Call g es0 ks pos) es gn) oN h fun o n p h => kName_k (M := fun o => M (.Call (.Attribute o n p) es0 ks pos) es gn) oN h fun y q h => bif_k h fun hb h =>
    have h2 := and_t (and_t hb).2
    two_k (M := fun es gn => M (.Call (.Attribute (.Name y q) n p) es0 ks pos) es gn) h (emp_k (M := fun es0 => M (.Call (.Attribute (.Name y q) n p) es0 ks pos) [.Name y q] []) (and_t hb).1 (emp_k (M := fun ks => M (.Call (.Attribute (.Name y q) n p) [] ks pos) [.Name y q] []) h2.1
      (beq_k (M := fun n => M (.Call (.Attribute (.Name y q) n p) [] [] pos) [.Name y q] []) (and_t h2.2).1 (k y q p pos (and_t h2.2).2))))
end
/-- a word of one's own: its shape, and what it gives -/
structure Wd where
  sh : Expr → ShR
  val : List AV → AP
noncomputable def WdOk (c : Cx) (w : Wd) : Prop := ∀ {env : Env} {names : List Str} {kd : Str → Option NameKind} {ρ : Rho} {e : Expr} {es : List Expr} {gn : List Str} {ds : List AV} {d : AV} {C : Prop},
  w.sh e = some (es, gn) → w.val ds = some (d, C) → (∀ x ∈ gn, glob kd x = true) → C → EvsOk c env names kd ρ es ds → EvOk c env names kd ρ e d
noncomputable def AllW (c : Cx) (l : List Wd) : Prop := @List.rec Wd (fun _ => Prop) True (fun w _ r => WdOk c w ∧ r) l
noncomputable def xsT (l : List Wd) (k : Nat) (e : Expr) : ShR := l[k]?.elim none fun w => w.sh e
noncomputable def XT (l : List Wd) (k : Nat) (ds : List AV) : AP := l[k]?.elim none fun w => w.val ds
theorem AllW.get {c : Cx} : ∀ {l : List Wd} {k : Nat} {w : Wd}, AllW c l → l[k]? = some w → WdOk c w
  | [], _, _ => fun _ h => absurd h nofun
  | w :: l, 0, _ => fun H h => Option.some.inj h ▸ H.1
  | w :: l, k + 1, _ => fun H h => AllW.get (l := l) H.2 h
theorem AllW.append {c : Cx} {m : List Wd} (Hm : AllW c m) : ∀ {l : List Wd}, AllW c l → AllW c (l ++ m)
  | [] => fun _ => Hm
  | _ :: _ => fun H => ⟨H.1, AllW.append Hm H.2⟩
theorem xT_ok {c : Cx} {l : List Wd} (H : AllW c l) {env : Env} {names : List Str} {kd : Str → Option NameKind} {ρ : Rho} {k : Nat} {e : Expr} {es : List Expr} {gn : List Str} (h : xsT l k e = some (es, gn)) {ds : List AV} {d : AV} {C : Prop} (hg : ∀ x ∈ gn, glob kd x = true) (hX : XT l k ds = some (d, C)) (hC : C) (he : EvsOk c env names kd ρ es ds) : EvOk c env names kd ρ e d := by
  unfold xsT at h
  unfold XT at hX
  rcases hw : l[k]? with _ | w
  · rw [hw] at h; exact absurd h oN
  · rw [hw] at h hX; exact H.get hw h hX hg hC he
section
variable {c : Cx} {env : Env} {names : List Str} {kd : Str → Option NameKind} {ρ : Rho}
theorem ev_divl (hw : CxW c) {p : Pos} (hg : glob kd (Str.ofString "_DIV_LIMIT") = true) : EvOk c env names kd ρ (.Name (Str.ofString "_DIV_LIMIT") p) (.int 4000) := fun A X s Q R V h =>
  hw.divl.elim fun t e => Calls.Name_function_global V.fk (V.kd _ (eq_of_beq (and_t hg).1)) (Calls.loadGlobal_global (V.gl ▸ hw.glob _ V.wd) e (h _ _ (.refl s) (.int _ _))) (okN_d (and_t hg).2)
theorem isSome_getD {o : Option Int} (h : o.isSome = true) : o = some (o.getD 0) := by
  cases o with
  | none => cases h
  | some a => rfl
end
noncomputable def w0 : Wd := ⟨call1 "len", fun ds => k1 none ds fun d => oor (oStr d fun y => some (.int y.length, y.length < 2 ^ 63)) (oLst d fun l => some (.int l.length, l.length < 2 ^ 63))⟩
noncomputable def w1 : Wd := ⟨call1 "abs", fun ds => k1 none ds fun d => oInt d fun i => some (.int i.natAbs, True)⟩
noncomputable def w2 : Wd := ⟨call1 "str", fun ds => k1 none ds fun d => oInt d fun i => some (.str (Str.ofString (toString i)), i.natAbs.log2 < 1920)⟩
noncomputable def w3 : Wd := ⟨call2 "divmod", fun ds => k2 none ds fun a b => ii a b fun i j => some (.tup [.int (i / j), .int (i % j)], 0 < j ∧ j < 2 ^ 64)⟩
noncomputable def w4 : Wd := ⟨call1 "sum", fun ds => k1 none ds fun d => oLst d fun l => some (.int (l.map getI).sum, l = (l.map getI).map .int ∧ PySem.SumFits (l.map getI))⟩
noncomputable def w5 : Wd := ⟨meth0 "bit_length", fun ds => k1 none ds fun d => oInt d fun i => some (.int (Builtin.Int.intBits i), True)⟩
noncomputable def w6 : Wd := ⟨fun e => kBinOp none e fun l o r _ => kConstant none l fun c _ _ => kcstr none c fun f => bif decide (Operator.Mod = o) && f == fmtS then some ([r], []) else none,
  fun ds => k1 none ds fun t => oTup t fun l => kc none l fun a l => oStr a fun d => kc none l fun a l => oInt a fun dd => kc none l fun a l => oStr a fun m => kc none l fun a l => oInt a fun y => kc none l fun a l => oInt a fun n5 => kc none l fun a l => oInt a fun n6 => k2 none l fun a b => oInt a fun n7 => oStr b fun z =>
    some (.str (fmtT d m z dd y n5 n6 n7), d.length ≤ 1000000 ∧ m.length ≤ 1000000 ∧ z.length ≤ 1000000 ∧ dd.natAbs < 10 ^ 10 ∧ y.natAbs < 10 ^ 10 ∧ n5.natAbs < 10 ^ 10 ∧ n6.natAbs < 10 ^ 10 ∧ n7.natAbs < 10 ^ 10)⟩
noncomputable def w7 : Wd := ⟨fun e => kBinOp none e fun l o r _ => bif decide (Operator.Add = o) then some ([l, r], []) else none,
  fun ds => k2 none ds fun x y => oTup x fun l => kc none l fun a as => oTup y fun m => kc none m fun b bs => some (.tup (a :: as ++ b :: bs), as.length + bs.length ≤ 1000)⟩
noncomputable def wn : Wd := ⟨fun _ => none, fun _ => none⟩
noncomputable def w9 : Wd := ⟨fun e => kSubscript none e fun o u _ => kName none o fun y q => kSlice none u fun a b d _ => b.elim none fun b => kConstant none b fun c _ _ => kcint none c fun j => bif a.isNone && (d.isNone && j == 3) then some ([.Name y q], []) else none,
  fun ds => k1 none ds fun t => oTup t fun l => kc none l fun a l => kc none l fun b l => kc none l fun d l => kc none l fun f r => some (.tup [a, b, d], True)⟩
noncomputable def w10 : Wd := ⟨fun e => kSubscript none e fun o u _ => kName none o fun y q => kSlice none u fun a b d _ => b.elim none fun b => bif a.isNone && d.isNone then some ([.Name y q, b], []) else none,
  fun ds => k2 none ds fun x i => oStr x fun x => oInt i fun i => some (.str (slS x none (some i)), (slS x none (some i)).length ≤ sizeLine)⟩
noncomputable def w11 : Wd := ⟨fun e => kSubscript none e fun o u _ => kName none o fun y q => kSlice none u fun a b d _ => a.elim none fun a => bif b.isNone && d.isNone then some ([.Name y q, a], []) else none,
  fun ds => k2 none ds fun x i => oStr x fun x => oInt i fun i => some (.str (slS x (some i) none), (slS x (some i) none).length ≤ sizeLine)⟩
noncomputable def w13 : Wd := ⟨fun e => kCall none e fun g es ks _ => kName none g fun n _ => k2 none es fun a t => kName none t fun y _ => bif ks.isEmpty && (n == Str.ofString "isinstance" && y == Str.ofString "tuple") then some ([a], [n, y]) else none, fun ds => k1 none ds fun d => oInt d fun _ => some (.bool false, True)⟩
noncomputable def w14 : Wd := ⟨fun e => kDict none e fun ks vs _ => k1 none ks fun k => k.elim none fun k => k1 none vs fun v => some ([k, v], []),
  fun ds => k2 none ds fun k v => oor (oInt k fun k => oInt v fun v => some (.dI [(k, v)], True)) (oStr k fun k => oInt v fun v => some (.dS [(k, v)], True))⟩
noncomputable def w15 : Wd := ⟨fun e => kDict none e fun ks vs _ => k2 none ks fun k k' => k.elim none fun k => k'.elim none fun k' => k2 none vs fun v v' => some ([k, v, k', v'], []),
  fun ds => kc none ds fun k ds => oInt k fun k => kc none ds fun i ds => oInt i fun i => k2 none ds fun k' i' => oInt k' fun k' => oInt i' fun i' => some (.dI [(k, i), (k', i')], k ≠ k')⟩
noncomputable def wE (d : AV) : Wd := ⟨fun e => kDict none e fun ks vs _ => bif ks.isEmpty && vs.isEmpty then some ([], []) else none, fun ds => bif ds.isEmpty then some (d, True) else none⟩
noncomputable def w18 : Wd := ⟨fun e => kSubscript none e fun a k _ => some ([a, k], []),
  fun ds => k2 none ds fun x k => oor (oDI x fun l => oInt k fun k => some (.int ((getL l k).getD 0), (getL l k).isSome = true)) (oDS x fun l => oStr k fun k => some (.int ((getL l k).getD 0), (getL l k).isSome = true))⟩
noncomputable def w19 : Wd := ⟨fun e => kName none e fun x _ => bif x == Str.ofString "_DIV_LIMIT" then some ([], [x]) else none, fun ds => bif ds.isEmpty then some (.int 4000, True) else none⟩
noncomputable def wsW : List Wd := [w0, w1, w2, w3, w4, w5, w6, w7, wn, w9, w10, w11, wn, w13, w14, w15, wE (.dI []), wE (.dS []), w18, w19]
/-- the words of one's own: their shape -/
noncomputable def xsW (k : Nat) (e : Expr) : ShR := xsT wsW k e
/-- what they give -/
noncomputable def XW (k : Nat) (l : List AV) : AP := XT wsW k l
section
variable {c : Cx}
theorem ok_wn : WdOk c wn := fun h => absurd h oN
theorem ok_w0 (hw : CxW c) : WdOk c w0 := fun h hX => call1_k h fun p a pos => k1_k oN hX fun d hX => oor_k hX (fun hX => oStr_k hX fun y hX => some_k hX fun hg hC he => ev_len_str hw (hg _ (.head _)) he hC) fun hX => oLst_k hX fun y hX => some_k hX fun hg hC he => ev_len_lst hw (hg _ (.head _)) he hC
theorem ok_w1 (hw : CxW c) : WdOk c w1 := fun h hX => call1_k h fun p a pos => k1_k oN hX fun d hX => oInt_k hX fun y hX => some_k hX fun hg hC he => ev_abs hw (hg _ (.head _)) he
theorem ok_w2 (hw : CxW c) : WdOk c w2 := fun h hX => call1_k h fun p a pos => k1_k oN hX fun d hX => oInt_k hX fun y hX => some_k hX fun hg hC he => ev_str_int hw (hg _ (.head _)) he hC
theorem ok_w3 (hw : CxW c) : WdOk c w3 := fun h hX => call2_k h fun p a b pos => k2_k oN hX fun d d' hX => ii_k hX fun i j hX => some_k hX fun hg hC he => ev_divmod hw (hg _ (.head _)) he hC.1 hC.2
theorem ok_w4 (hw : CxW c) : WdOk c w4 := fun h hX => call1_k h fun p a pos => k1_k oN hX fun d hX => oLst_k hX fun y hX => some_k hX fun hg hC he => ev_sum hw (hg _ (.head _)) (hC.1 ▸ he) hC.2
theorem ok_w5 : WdOk c w5 := fun h hX => meth0_k h fun y q p pos hl => k1_k oN hX fun d hX => oInt_k hX fun i hX => some_k hX fun hg hC he => ev_bits he hl
theorem ok_w6 : WdOk c w6 := fun h hX => kBinOp_k oN h fun l o r pos h => kConstant_k oN h fun c0 k p h => kcstr_k oN h fun f h => bif_k h fun hb h => deq_k (and_t hb).1 (beq_k (and_t hb).2 (two_k h (k1_k oN hX fun t hX => oTup_k hX fun l hX => kc_k oN hX fun a l hX => oStr_k hX fun d hX => kc_k oN hX fun a l hX => oInt_k hX fun dd hX => kc_k oN hX fun a l hX => oStr_k hX fun m hX =>
  kc_k oN hX fun a l hX => oInt_k hX fun y hX => kc_k oN hX fun a l hX => oInt_k hX fun n5 hX => kc_k oN hX fun a l hX => oInt_k hX fun n6 hX => k2_k oN hX fun a b hX => oInt_k hX fun n7 hX => oStr_k hX fun z hX => some_k hX fun hg hC he => ev_fmt he hC)))
theorem ok_w7 (hw : CxW c) : WdOk c w7 := fun h hX => kBinOp_k oN h fun l o r pos h => bif_k h fun hb h => deq_k hb (two_k h (k2_k oN hX fun x y hX => oTup_k hX fun l hX => kc_k oN hX fun a as hX => oTup_k hX fun m hX => kc_k oN hX fun b bs hX => some_k hX fun hg hC he => ev_tupadd hw he hC))
theorem ok_w9 (hw : CxW c) : WdOk c w9 := fun h hX => kSubscript_k oN h fun o u pos h => kName_k oN h fun y q h => kSlice_k oN h fun a b d p h => ko_k oN h fun b h => kConstant_k oN h fun c0 k p h => kcint_k oN h fun j h => bif_k h fun hb h => isn_k (and_t hb).1 (isn_k (and_t (and_t hb).2).1 (beq_k (and_t (and_t hb).2).2 (two_k h
  (k1_k oN hX fun t hX => oTup_k hX fun l hX => kc_k oN hX fun a l hX => kc_k oN hX fun b l hX => kc_k oN hX fun d l hX => kc_k oN hX fun f r hX => some_k hX fun hg hC he => ev_tup3 hw he))))
theorem ok_w10 (hw : CxW c) : WdOk c w10 := fun h hX => kSubscript_k oN h fun o u pos h => kName_k oN h fun y q h => kSlice_k oN h fun a b d p h => ko_k oN h fun b h => bif_k h fun hb h => isn_k (and_t hb).1 (isn_k (and_t hb).2 (two_k h (k2_k oN hX fun x i hX => oStr_k hX fun x hX => oInt_k hX fun i hX => some_k hX fun hg hC he => ev_slice_to hw he hC)))
theorem ok_w11 (hw : CxW c) : WdOk c w11 := fun h hX => kSubscript_k oN h fun o u pos h => kName_k oN h fun y q h => kSlice_k oN h fun a b d p h => ko_k oN h fun b h => bif_k h fun hb h => isn_k (and_t hb).1 (isn_k (and_t hb).2 (two_k h (k2_k oN hX fun x i hX => oStr_k hX fun x hX => oInt_k hX fun i hX => some_k hX fun hg hC he => ev_slice_from hw he hC)))
theorem ok_w13 (hw : CxW c) : WdOk c w13 := fun h hX => kCall_k oN h fun g es ks pos h => kName_k oN h fun n p h => k2_k oN h fun a t h => kName_k oN h fun y q h => bif_k h fun hb h => emp_k (and_t hb).1 (two_k h (beq_k (and_t (and_t hb).2).1 (beq_k (and_t (and_t hb).2).2 (k1_k oN hX fun d hX => oInt_k hX fun i hX => some_k hX fun hg hC he => ev_isi hw (hg _ (.head _)) (hg _ (.tail _ (.head _))) he))))
theorem ok_w14 (hw : CxW c) : WdOk c w14 := fun h hX => kDict_k oN h fun ks vs pos h => k1_k oN h fun k h => ko_k oN h fun k h => k1_k oN h fun v h => two_k h (k2_k oN hX fun k v hX => oor_k hX
  (fun hX => oInt_k hX fun k hX => oInt_k hX fun v hX => some_k hX fun hg hC he => ev_disp1 (knd := intKind c.P c.w) (enc := .int) hw (dec_int c) (k := _) (i := _) (fun X h d kv nx ns dd m r => .dI (l := [(_, _)]) nx ns dd m r) he)
  (fun hX => oStr_k hX fun k hX => oInt_k hX fun v hX => some_k hX fun hg hC he => ev_disp1 (knd := PySem.strKind c.P c.w) (enc := .str) hw (dec_str c) (k := _) (i := _) (fun X h d kv nx ns dd m r => .dS (l := [(_, _)]) nx ns dd m r) he))
theorem ok_w15 (hw : CxW c) : WdOk c w15 := fun h hX => kDict_k oN h fun ks vs pos h => k2_k oN h fun k k' h => ko_k oN h fun k h => ko_k oN h fun k' h => k2_k oN h fun v v' h => two_k h (kc_k oN hX fun k ds hX => oInt_k hX fun k hX => kc_k oN hX fun i ds hX => oInt_k hX fun i hX => k2_k oN hX fun k' i' hX => oInt_k hX fun k' hX => oInt_k hX fun i' hX => some_k hX fun hg hC he => ev_disp2 hw hC he)
theorem ok_wE (hw : CxW c) (b : Bool) : WdOk c (wE (bif b then .dS [] else .dI [])) := fun h hX => kDict_k oN h fun ks vs pos h => bif_k h fun hb h => emp_k (and_t hb).1 (emp_k (and_t hb).2 (two_k h (bif_k hX fun hb hX => emp_k hb (some_k hX fun hg hC he => ev_empty hw b))))
theorem ok_w18 (hw : CxW c) : WdOk c w18 := fun h hX => kSubscript_k oN h fun a k pos h => two_k h (k2_k oN hX fun x k hX => oor_k hX
  (fun hX => oDI_k hX fun l hX => oInt_k hX fun k hX => some_k hX fun hg hC he => ev_dget (knd := intKind c.P c.w) (enc := .int) (dec_int c) (dictRep_I c _) he (isSome_getD hC))
  (fun hX => oDS_k hX fun l hX => oStr_k hX fun k hX => some_k hX fun hg hC he => ev_dget (knd := PySem.strKind c.P c.w) (enc := .str) (dec_str c) (dictRep_S c _) he (isSome_getD hC)))
theorem ok_w19 (hw : CxW c) : WdOk c w19 := fun h hX => kName_k oN h fun x p h => bif_k h fun hb h => two_k h (bif_k hX fun hd hX => emp_k hd (some_k hX (beq_k hb fun hg hC he => ev_divl hw (hg _ (.head _)))))
theorem all_wsW (hw : CxW c) : AllW c wsW := ⟨ok_w0 hw, ok_w1 hw, ok_w2 hw, ok_w3 hw, ok_w4 hw, ok_w5, ok_w6, ok_w7 hw, ok_wn, ok_w9 hw, ok_w10 hw, ok_w11 hw, ok_wn, ok_w13 hw, ok_w14 hw, ok_w15 hw, ok_wE hw false, ok_wE hw true, ok_w18 hw, ok_w19 hw, trivial⟩
theorem xW_ok (hw : CxW c) {env : Env} {names : List Str} {kd : Str → Option NameKind} {ρ : Rho} {k : Nat} {e : Expr} {es : List Expr} {gn : List Str} (h : xsW k e = some (es, gn)) {ds : List AV} {d : AV} {C : Prop} (hg : ∀ x ∈ gn, glob kd x = true) (hX : XW k ds = some (d, C)) (hC : C) (he : EvsOk c env names kd ρ es ds) : EvOk c env names kd ρ e d := xT_ok (all_wsW hw) h hg hX hC he
end
/-- loops over what a word gives -/
noncomputable def zsW (k : Nat) (e : Expr) : ShR := bif k == 0 then meth0 "items" e else bif k == 1 then meth0 "values" e else none
section
variable {x : Sx} {ρ : Rho}
theorem hit_val (ok : SxOk x) {e : ME} {ds : List AV} {C : Prop} (hm : mev x.c.F x.c.X ρ e = some (.lst ds, C)) (hC : C) : ∀ ie te, chkI x.names x.kd x.c.gs x.c.xs x.zs (.val e) ie = true → ItOk x.c x.env x.names x.kd ρ ie te ds :=
  fun ie te h => it_list ok.c.w (sound ok.c e ie _ C h hm hC).1
theorem hit_rng (ok : SxOk x) {e : ME} {n : Int} {C : Prop} (hm : mev x.c.F x.c.X ρ e = some (.int n, C)) (hC : C) (h1 : -(2 ^ 62) ≤ n) (h2 : n < 2 ^ 62) : ∀ ie te, chkI x.names x.kd x.c.gs x.c.xs x.zs (.rng e) ie = true → ItOk x.c x.env x.names x.kd ρ ie te (rangeL 0 n) :=
  fun ie te h => gCall_k h fun p l pos hg h => k1_k fT h fun e0 h => it_rng ok.c.w hg (sound ok.c e e0 _ C h hm hC).1 (chk_plain h) h1 h2
theorem hit_rng2 (ok : SxOk x) {a b : ME} {n m : Int} {C D : Prop} (hm : mev x.c.F x.c.X ρ a = some (.int n, C)) (hC : C) (hm2 : mev x.c.F x.c.X ρ b = some (.int m, D)) (hD : D) (h1 : -(2 ^ 62) ≤ n) (h2 : n < 2 ^ 62) (h3 : -(2 ^ 62) ≤ m) (h4 : m < 2 ^ 62) :
    ∀ ie te, chkI x.names x.kd x.c.gs x.c.xs x.zs (.rng2 a b) ie = true → ItOk x.c x.env x.names x.kd ρ ie te (rangeL n m) :=
  fun ie te h => gCall_k h fun p l pos hg h => k2_k fT h fun e0 e1 h => it_rng2 ok.c.w hg (sound ok.c a e0 _ C (and_t h).1 hm hC).1 (chk_plain (and_t h).1) (sound ok.c b e1 _ D (and_t h).2 hm2 hD).1 (chk_plain (and_t h).2) h1 h2 h3 h4
theorem hit_rev (ok : SxOk x) {e : ME} {ds : List AV} {C : Prop} (hm : mev x.c.F x.c.X ρ e = some (.lst ds, C)) (hC : C) : ∀ ie te, chkI x.names x.kd x.c.gs x.c.xs x.zs (.rev e) ie = true → ItOk x.c x.env x.names x.kd ρ ie te ds.reverse :=
  fun ie te h => gCall_k h fun p l pos hg h => k1_k fT h fun e0 h => it_rev ok.c.w hg (sound ok.c e e0 _ C h hm hC).1 (chk_plain h)
/-- a loop over x.m() -/
theorem hit_meth {names : List Str} {kd : Str → Option NameKind} {gs : List Str} {xs : Nat → Expr → Option (List Expr × List Str)} {zs : Nat → Expr → Option (List Expr × List Str)} {k : Nat} {s : String} {e : ME} {ie : Expr} {M : Expr → Prop} (hz : zs k ie = meth0 s ie) (h : chkI names kd gs xs zs (.ext k [e]) ie = true)
    (K : ∀ y q p pos, (p.endLine == pos.line) = true → chk names kd gs xs e (.Name y q) = true → M (.Call (.Attribute (.Name y q) (Str.ofString s) p) [] [] pos)) : M ie := by
  replace h : (zs k ie).elim false (fun q => plainE ie && (q.2.all (glob kd) && chkL names kd gs xs [e] q.1)) = true := h
  rw [hz] at h
  rcases hm : meth0 s ie with _ | ⟨es, gn⟩
  · rw [hm] at h; exact absurd h fT
  rw [hm] at h
  have h2 := (and_t (and_t h).2).2
  exact meth0_k (M := fun ie es gn => chkL names kd gs xs [e] es = true → M ie) hm (fun y q p pos hl h => K y q p pos hl (kc_k (M := fun es => ∀ a r, es = a :: r → chk names kd gs xs e a = true) fT h (fun a t h b r eq => (List.cons.inj eq).1 ▸ (and_t h).1) _ _ rfl)) h2
theorem hit_items (ok : SxOk x) (hz : x.zs = zsW) {i j : Nat} {e : ME} {K : Type} [DecidableEq K] {knd : KeyKind x.c.P x.c.w K} {D : AV} {l : List (K × Int)} {C : Prop} (enc : K → AV) (henc : ∀ X h k v, knd.is k v = true → x.c.Rep X h v (enc k)) (hD : DictRep x.c knd D l) (hm : mev x.c.F x.c.X ρ e = some (D, C)) (hC : C) :
    ∀ ie te, chkG x.names x.kd (.two i j) te = true → chkI x.names x.kd x.c.gs x.c.xs x.zs (.ext 0 [e]) ie = true → ItOk x.c x.env x.names x.kd ρ ie te (l.map fun p => .tup [enc p.1, .int p.2]) :=
  fun ie te hg h => kTuple_k fT hg fun ts k tp _ => hit_meth (M := fun ie => ItOk x.c x.env x.names x.kd ρ ie (.Tuple ts k tp) (l.map fun p => .tup [enc p.1, .int p.2])) (s := "items") (congrFun (congrFun hz 0) ie) h fun y q p pos h1 h2 => it_items ok.c.w enc henc hD (sound ok.c e _ D C h2 hm hC).1 h1
theorem hit_values (ok : SxOk x) (hz : x.zs = zsW) {e : ME} {K : Type} [DecidableEq K] {knd : KeyKind x.c.P x.c.w K} {D : AV} {l : List (K × Int)} {C : Prop} (hD : DictRep x.c knd D l) (hm : mev x.c.F x.c.X ρ e = some (D, C)) (hC : C) :
    ∀ ie te, chkI x.names x.kd x.c.gs x.c.xs x.zs (.ext 1 [e]) ie = true → ItOk x.c x.env x.names x.kd ρ ie te (l.map fun p => AV.int p.2) :=
  fun ie te h => hit_meth (M := fun ie => ItOk x.c x.env x.names x.kd ρ ie te (l.map fun p => AV.int p.2)) (s := "values") (congrFun (congrFun hz 1) ie) h fun y q p pos h1 h2 => it_values ok.c.w hD (sound ok.c e _ D C h2 hm hC).1 h1
end
end NC
end Mine
namespace Mine
noncomputable section NC
noncomputable def defAt (p : Program) (i : Nat) : Str × Arguments × List Stmt × Scope := match p.main.body[i]? with
  | some (.FunctionDef n a b _ _ _ sc _ _ _) => (n, a, b, sc)
  | _ => (Str.empty, ⟨[], [], none, [], [], none, []⟩, [], ⟨.function, [], false, false, []⟩)
noncomputable abbrev pw := PySem.Challenge.pw_xe0034_01
noncomputable def gsAll : List Str := ["_post_parse_validation", "_format_timetuple_and_zone", "int_divmod", "_div2n1n", "_int2digits", "_digits2int", "_divmod_pos", "add_func_stats", "add_callers", "count_calls", "_law_cells", "_law_rule", "_law_walk", "_law_walked", "_law_line", "law"].map Str.ofString
noncomputable def ys0 : Nat → List Nat → Stmt → Option (List Expr) := fun _ _ _ => none
noncomputable def ps_post_parse_validation : List Str := [(Str.ofString "parsed_email_header_tuples")]
noncomputable def ls_post_parse_validation : List Str := [(Str.ofString "accepted_values"), (Str.ofString "v")]
noncomputable def ms_post_parse_validation : List MS := [
  .new 1,
  .for (.one 2) (.val (.var 0)) [
    .ite (.cmp .In (.str (Str.ofString "[")) (.itemS (.var 2) (.int 1))) [
      .asg 2 (.tup [(.str (Str.ofString "")), (.str (Str.ofString ""))])] [],
    .app 1 (.var 2)],
  .ret (.var 1)]
noncomputable def ps_format_timetuple_and_zone : List Str := [(Str.ofString "timetuple"), (Str.ofString "zone")]
noncomputable def ls_format_timetuple_and_zone : List Str := []
noncomputable def ms_format_timetuple_and_zone : List MS := [
  .ret (.ext 6 [(.tup [(.itemS (.lst [(.str (Str.ofString "Mon")), (.str (Str.ofString "Tue")), (.str (Str.ofString "Wed")), (.str (Str.ofString "Thu")), (.str (Str.ofString "Fri")), (.str (Str.ofString "Sat")), (.str (Str.ofString "Sun"))]) (.item (.var 0) (.int 6))), (.item (.var 0) (.int 2)), (.itemS (.lst [(.str (Str.ofString "Jan")), (.str (Str.ofString "Feb")), (.str (Str.ofString "Mar")), (.str (Str.ofString "Apr")), (.str (Str.ofString "May")), (.str (Str.ofString "Jun")), (.str (Str.ofString "Jul")), (.str (Str.ofString "Aug")), (.str (Str.ofString "Sep")), (.str (Str.ofString "Oct")), (.str (Str.ofString "Nov")), (.str (Str.ofString "Dec"))]) (.bin .Sub (.item (.var 0) (.int 1)) (.int 1))), (.item (.var 0) (.int 0)), (.item (.var 0) (.int 3)), (.item (.var 0) (.int 4)), (.item (.var 0) (.int 5)), (.var 1)])])]
noncomputable def ps_div2n1n : List Str := [(Str.ofString "a"), (Str.ofString "b"), (Str.ofString "n")]
noncomputable def ls_div2n1n : List Str := [(Str.ofString "pad"), (Str.ofString "half_n"), (Str.ofString "mask"), (Str.ofString "b1"), (Str.ofString "b2"), (Str.ofString "q1"), (Str.ofString "r"), (Str.ofString "q2")]
noncomputable def ms_div2n1n : List MS := [
  .ite (.cmp .LtE (.bin .Sub (.ext 5 [(.var 0)]) (.var 2)) (.ext 19 [])) [
    .ret (.ext 3 [(.var 0), (.var 1)])] [],
  .any,
  .any,
  .any,
  .any,
  .any,
  .any,
  .any,
  .any,
  .any]
noncomputable def ps_divmod_pos : List Str := [(Str.ofString "a"), (Str.ofString "b")]
noncomputable def ls_divmod_pos : List Str := [(Str.ofString "n"), (Str.ofString "a_digits"), (Str.ofString "r"), (Str.ofString "q_digits"), (Str.ofString "a_digit"), (Str.ofString "q"), (Str.ofString "q_digit")]
noncomputable def ms_divmod_pos : List MS := [
  .asg 2 (.ext 5 [(.var 1)]),
  .asg 3 (.call 4 [(.var 0), (.var 2)]),
  .asg 4 (.int 0),
  .new 5,
  .for (.one 6) (.rev (.var 3)) [
    .upk [8, 4] (.call 3 [(.bin .Add (.bin .LShift (.var 4) (.var 2)) (.var 6)), (.var 1), (.var 2)]),
    .app 5 (.var 8)],
  .rvs 5,
  .asg 7 (.call 5 [(.var 5), (.var 2)]),
  .ret (.tup [(.var 7), (.var 4)])]
noncomputable def ps_int_divmod : List Str := [(Str.ofString "a"), (Str.ofString "b")]
noncomputable def ls_int_divmod : List Str := [(Str.ofString "q"), (Str.ofString "r")]
noncomputable def ms_int_divmod : List MS := [
  .ite (.cmp .Eq (.var 1) (.int 0)) [
    .any] [
    .ite (.cmp .Lt (.var 1) (.int 0)) [
      .any,
      .any] [
      .ite (.cmp .Lt (.var 0) (.int 0)) [
        .upk [2, 3] (.call 2 [(.inv (.var 0)), (.var 1)]),
        .ret (.tup [(.inv (.var 2)), (.bin .Add (.var 1) (.inv (.var 3)))])] [
        .ret (.call 6 [(.var 0), (.var 1)])]]]]
noncomputable def ps_add_func_stats : List Str := [(Str.ofString "target"), (Str.ofString "source")]
noncomputable def ls_add_func_stats : List Str := [(Str.ofString "cc"), (Str.ofString "nc"), (Str.ofString "tt"), (Str.ofString "ct"), (Str.ofString "callers"), (Str.ofString "t_cc"), (Str.ofString "t_nc"), (Str.ofString "t_tt"), (Str.ofString "t_ct"), (Str.ofString "t_callers")]
noncomputable def ms_add_func_stats : List MS := [
  .upk [2, 3, 4, 5, 6] (.var 1),
  .upk [7, 8, 9, 10, 11] (.var 0),
  .ret (.tup [(.bin .Add (.var 2) (.var 7)), (.bin .Add (.var 3) (.var 8)), (.bin .Add (.var 4) (.var 9)), (.bin .Add (.var 5) (.var 10)), (.call 8 [(.var 11), (.var 6)])])]
noncomputable def ps_add_callers : List Str := [(Str.ofString "target"), (Str.ofString "source")]
noncomputable def ls_add_callers : List Str := [(Str.ofString "new_callers"), (Str.ofString "func"), (Str.ofString "caller")]
noncomputable def ms_add_callers (KB : Bool) : List MS := [
  .newD 2 KB,
  .for (.two 3 4) (.ext 0 [(.var 0)]) [
    .dset 2 (.var 3) (.var 4)],
  .for (.two 3 4) (.ext 0 [(.var 1)]) [
    .ifin (.var 3) 2 [
      .ite (.ext 13 [(.var 4)]) [
        .any] [
        .daug 2 (.var 3) .Add (.var 4)]] [
      .dset 2 (.var 3) (.var 4)]],
  .ret (.var 2)]
noncomputable def ps_count_calls : List Str := [(Str.ofString "callers")]
noncomputable def ls_count_calls : List Str := [(Str.ofString "nc"), (Str.ofString "calls")]
noncomputable def ms_count_calls : List MS := [
  .asg 1 (.int 0),
  .for (.one 2) (.ext 1 [(.var 0)]) [
    .aug 1 .Add (.var 2)],
  .ret (.var 1)]
noncomputable def ps_law_cells : List Str := [(Str.ofString "script")]
noncomputable def ls_law_cells : List Str := [(Str.ofString "cells"), (Str.ofString "place")]
noncomputable def ms_law_cells : List MS := [
  .newL 1 [(.int 44), (.int 71), (.int 5), (.int 739290), (.int 499990)],
  .for (.one 2) (.rng (.ext 0 [(.var 0)])) [
    .daug 1 (.bin .Mod (.var 2) (.int 5)) .Add (.bin .Mod (.itemI (.var 0) (.var 2)) (.bin .Pow (.int 10) (.int 6)))],
  .ret (.var 1)]
noncomputable def ps_law_rule : List Str := [(Str.ofString "cells")]
noncomputable def ls_law_rule : List Str := [(Str.ofString "years"), (Str.ofString "rest"), (Str.ofString "leaps"), (Str.ofString "phase"), (Str.ofString "part"), (Str.ofString "whole")]
noncomputable def ms_law_rule : List MS := [
  .asg 1 (.bin .Add (.int 2) (.bin .Mod (.item (.var 0) (.int 0)) (.int 7))),
  .asg 2 (.bin .FloorDiv (.item (.var 0) (.int 0)) (.int 7)),
  .asg 3 (.bin .Mod (.var 2) (.bin .Add (.var 1) (.int 1))),
  .asg 4 (.bin .Mod (.bin .FloorDiv (.var 2) (.bin .Add (.var 1) (.int 1))) (.var 1)),
  .upk [5, 6] (.itemP (.lst [(.tup [(.int 1), (.int 1)]), (.tup [(.int 1), (.int 2)]), (.tup [(.int 2), (.int 3)]), (.tup [(.int 3), (.int 5)])]) (.bin .Mod (.item (.var 0) (.int 1)) (.int 4))),
  .ret (.tup [(.var 1), (.var 3), (.var 4), (.var 5), (.var 6), (.bin .Mod (.bin .FloorDiv (.item (.var 0) (.int 1)) (.int 4)) (.var 6)), (.bin .Mod (.bin .FloorDiv (.item (.var 0) (.int 1)) (.int 20)) (.int 7))])]
noncomputable def ps_law_walk : List Str := [(Str.ofString "rule"), (Str.ofString "day")]
noncomputable def ls_law_walk : List Str := [(Str.ofString "year"), (Str.ofString "left"), (Str.ofString "lead"), (Str.ofString "size"), (Str.ofString "month"), (Str.ofString "years"), (Str.ofString "leaps"), (Str.ofString "phase"), (Str.ofString "part"), (Str.ofString "whole"), (Str.ofString "begin"), (Str.ofString "shift")]
noncomputable def ms_law_walk : List MS := [
  .upk [7, 8, 9, 10, 11, 12, 13] (.var 0),
  .asg 2 (.bin .Mult (.bin .FloorDiv (.var 1) (.bin .Add (.bin .Mult (.int 365) (.var 7)) (.var 8))) (.var 7)),
  .asg 3 (.bin .Mod (.var 1) (.bin .Add (.bin .Mult (.int 365) (.var 7)) (.var 8))),
  .asg 4 (.var 9),
  .asg 5 (.ife (.cmp .GtE (.bin .Add (.var 4) (.var 8)) (.var 7)) (.int 366) (.int 365)),
  .whl (.cmp .GtE (.var 3) (.var 5)) [
    .aug 3 .Sub (.var 5),
    .aug 2 .Add (.int 1),
    .asg 4 (.bin .Mod (.bin .Add (.var 4) (.var 8)) (.var 7)),
    .asg 5 (.ife (.cmp .GtE (.bin .Add (.var 4) (.var 8)) (.var 7)) (.int 366) (.int 365))],
  .asg 6 (.int 1),
  .asg 4 (.var 12),
  .asg 5 (.ife (.cmp .GtE (.bin .Add (.var 4) (.var 10)) (.var 11)) (.int 31) (.int 30)),
  .whl (.cmp .GtE (.var 3) (.var 5)) [
    .aug 3 .Sub (.var 5),
    .aug 6 .Add (.int 1),
    .asg 4 (.bin .Mod (.bin .Add (.var 4) (.var 10)) (.var 11)),
    .asg 5 (.ife (.cmp .GtE (.bin .Add (.var 4) (.var 10)) (.var 11)) (.int 31) (.int 30))],
  .ret (.tup [(.var 2), (.var 6), (.bin .Add (.var 3) (.int 1))])]
noncomputable def ps_law_walked : List Str := [(Str.ofString "rule"), (Str.ofString "start")]
noncomputable def ls_law_walked : List Str := [(Str.ofString "first"), (Str.ofString "lead"), (Str.ofString "told"), (Str.ofString "year"), (Str.ofString "years"), (Str.ofString "leaps"), (Str.ofString "phase"), (Str.ofString "size")]
noncomputable def ms_law_walked : List MS := [
  .upk [6, 7, 8] (.ext 9 [(.var 0)]),
  .asg 2 (.bin .Mult (.bin .FloorDiv (.var 1) (.var 6)) (.bin .Add (.bin .Mult (.int 365) (.var 6)) (.var 7))),
  .asg 3 (.var 8),
  .new 4,
  .for (.one 5) (.rng2 (.bin .Mult (.bin .FloorDiv (.var 1) (.var 6)) (.var 6)) (.bin .Add (.var 1) (.var 6))) [
    .asg 9 (.ife (.cmp .GtE (.bin .Add (.var 3) (.var 7)) (.var 6)) (.int 366) (.int 365)),
    .ite (.cmp .GtE (.var 5) (.var 1)) [
      .app 4 (.tup [(.var 2), (.var 9)])] [],
    .aug 2 .Add (.var 9),
    .asg 3 (.bin .Mod (.bin .Add (.var 3) (.var 7)) (.var 6))],
  .ret (.var 4)]
noncomputable def ps_law_line : List Str := [(Str.ofString "date"), (Str.ofString "weekday")]
noncomputable def ls_law_line : List Str := [(Str.ofString "days"), (Str.ofString "months"), (Str.ofString "told"), (Str.ofString "figures"), (Str.ofString "year"), (Str.ofString "month"), (Str.ofString "day")]
noncomputable def ms_law_line : List MS := [
  .asg 2 (.lst [(.str (Str.ofString "Mon")), (.str (Str.ofString "Tue")), (.str (Str.ofString "Wed")), (.str (Str.ofString "Thu")), (.str (Str.ofString "Fri")), (.str (Str.ofString "Sat")), (.str (Str.ofString "Sun"))]),
  .asg 3 (.lst [(.str (Str.ofString "Jan")), (.str (Str.ofString "Feb")), (.str (Str.ofString "Mar")), (.str (Str.ofString "Apr")), (.str (Str.ofString "May")), (.str (Str.ofString "Jun")), (.str (Str.ofString "Jul")), (.str (Str.ofString "Aug")), (.str (Str.ofString "Sep")), (.str (Str.ofString "Oct")), (.str (Str.ofString "Nov")), (.str (Str.ofString "Dec"))]),
  .upk [6, 7, 8] (.var 0),
  .asg 4 (.ext 2 [(.ext 1 [(.var 6)])]),
  .whl (.cmp .Lt (.ext 0 [(.var 4)]) (.ife (.cmp .Lt (.var 6) (.int 0)) (.int 3) (.int 4))) [
    .asg 4 (.bin .Add (.str (Str.ofString "0")) (.var 4))],
  .ite (.cmp .Lt (.var 6) (.int 0)) [
    .asg 4 (.bin .Add (.str (Str.ofString "-")) (.var 4))] [],
  .asg 5 (.ife (.cmp .Gt (.var 8) (.int 9)) (.ext 2 [(.var 8)]) (.bin .Add (.str (Str.ofString "0")) (.ext 2 [(.var 8)]))),
  .ret (.bin .Add (.bin .Add (.bin .Add (.bin .Add (.bin .Add (.bin .Add (.bin .Add (.itemS (.var 2) (.var 1)) (.str (Str.ofString ", "))) (.var 5)) (.str (Str.ofString " "))) (.itemS (.var 3) (.bin .Sub (.var 7) (.int 1)))) (.str (Str.ofString " "))) (.var 4)) (.str (Str.ofString " 12:00:00 -0000")))]
theorem chk_post_parse_validation : chkSs (ps_post_parse_validation ++ ls_post_parse_validation) (kdOf (defAt pw 1).2.2.2) gsAll xsW ys0 zsW ms_post_parse_validation (defAt pw 1).2.2.1 = true := by decide +kernel
theorem chk_format_timetuple_and_zone : chkSs (ps_format_timetuple_and_zone ++ ls_format_timetuple_and_zone) (kdOf (defAt pw 2).2.2.2) gsAll xsW ys0 zsW ms_format_timetuple_and_zone (defAt pw 2).2.2.1 = true := by decide +kernel
theorem chk_div2n1n : chkSs (ps_div2n1n ++ ls_div2n1n) (kdOf (defAt pw 5).2.2.2) gsAll xsW ys0 zsW ms_div2n1n (defAt pw 5).2.2.1 = true := by decide +kernel
theorem chk_divmod_pos : chkSs (ps_divmod_pos ++ ls_divmod_pos) (kdOf (defAt pw 9).2.2.2) gsAll xsW ys0 zsW ms_divmod_pos (defAt pw 9).2.2.1 = true := by decide +kernel
theorem chk_int_divmod : chkSs (ps_int_divmod ++ ls_int_divmod) (kdOf (defAt pw 10).2.2.2) gsAll xsW ys0 zsW ms_int_divmod (defAt pw 10).2.2.1 = true := by decide +kernel
theorem chk_add_func_stats : chkSs (ps_add_func_stats ++ ls_add_func_stats) (kdOf (defAt pw 13).2.2.2) gsAll xsW ys0 zsW ms_add_func_stats (defAt pw 13).2.2.1 = true := by decide +kernel
theorem chk_add_callers (b : Bool) : chkSs (ps_add_callers ++ ls_add_callers) (kdOf (defAt pw 14).2.2.2) gsAll xsW ys0 zsW (ms_add_callers b) (defAt pw 14).2.2.1 = true := by cases b <;> decide +kernel
theorem chk_count_calls : chkSs (ps_count_calls ++ ls_count_calls) (kdOf (defAt pw 15).2.2.2) gsAll xsW ys0 zsW ms_count_calls (defAt pw 15).2.2.1 = true := by decide +kernel
theorem chk_law_cells : chkSs (ps_law_cells ++ ls_law_cells) (kdOf (defAt pw 17).2.2.2) gsAll xsW ys0 zsW ms_law_cells (defAt pw 17).2.2.1 = true := by decide +kernel
theorem chk_law_rule : chkSs (ps_law_rule ++ ls_law_rule) (kdOf (defAt pw 18).2.2.2) gsAll xsW ys0 zsW ms_law_rule (defAt pw 18).2.2.1 = true := by decide +kernel
theorem chk_law_walk : chkSs (ps_law_walk ++ ls_law_walk) (kdOf (defAt pw 19).2.2.2) gsAll xsW ys0 zsW ms_law_walk (defAt pw 19).2.2.1 = true := by decide +kernel
theorem chk_law_walked : chkSs (ps_law_walked ++ ls_law_walked) (kdOf (defAt pw 20).2.2.2) gsAll xsW ys0 zsW ms_law_walked (defAt pw 20).2.2.1 = true := by decide +kernel
theorem chk_law_line : chkSs (ps_law_line ++ ls_law_line) (kdOf (defAt pw 21).2.2.2) gsAll xsW ys0 zsW ms_law_line (defAt pw 21).2.2.1 = true := by decide +kernel
end NC
end Mine
namespace Mine
noncomputable section NC
/-- the first day of the k-th, if one of w, spread evenly, is longer p times -/
noncomputable def G (base p w b k : Int) : Int := base * k + (p * k + b) / w
section
variable {base p w b : Int}
theorem lead_step (k : Int) : (p * (k + 1) + b) % w = ((p * k + b) % w + p) % w := by
  have : p * (k + 1) + b = (p * k + b) + p := by rw [Int.mul_add, Int.mul_one]; omega
  rw [this, Int.emod_add_emod]
theorem div_step (hw : 0 < w) (h0 : 0 ≤ p) (h1 : p ≤ w) (k : Int) : (p * (k + 1) + b) / w = (p * k + b) / w + (if w ≤ (p * k + b) % w + p then 1 else 0) := by
  have e : p * (k + 1) + b = ((p * k + b) % w + p) + w * ((p * k + b) / w) := by
    have := Int.emod_add_mul_ediv (p * k + b) w
    rw [Int.mul_add, Int.mul_one]; omega
  have r0 := Int.emod_nonneg (p * k + b) (by omega : w ≠ 0)
  have r1 := Int.emod_lt_of_pos (p * k + b) hw
  rw [e, Int.add_mul_ediv_left _ _ (by omega)]
  generalize (p * k + b) % w = r at *
  split
  · rename_i h
    have : (r + p) = (r + p - w) + w * 1 := by omega
    rw [this, Int.add_mul_ediv_left _ _ (by omega), Int.ediv_eq_zero_of_lt (by omega) (by omega)]
    omega
  · rename_i h
    rw [Int.ediv_eq_zero_of_lt (by omega) (by omega)]
    omega
theorem G_step (hw : 0 < w) (h0 : 0 ≤ p) (h1 : p ≤ w) (k : Int) : G base p w b (k + 1) = G base p w b k + (if w ≤ (p * k + b) % w + p then base + 1 else base) := by
  unfold G
  rw [div_step hw h0 h1, Int.mul_add, Int.mul_one]
  split <;> omega
theorem G_lt (hw : 0 < w) (h0 : 0 ≤ p) (h1 : p ≤ w) (hb : 0 < base) (k : Int) : G base p w b k < G base p w b (k + 1) := by
  rw [G_step hw h0 h1]; split <;> omega
theorem G_mono (hw : 0 < w) (h0 : 0 ≤ p) (h1 : p ≤ w) (hb : 0 < base) (k : Int) : ∀ n : Nat, G base p w b k ≤ G base p w b (k + n)
  | 0 => by simp
  | n + 1 => by
    have := G_mono hw h0 h1 hb k n
    have h2 := G_lt (b := b) hw h0 h1 hb (k + n)
    have e : k + ((n + 1 : Nat) : Int) = k + n + 1 := by omega
    rw [e]; omega
theorem G_uniq (hw : 0 < w) (h0 : 0 ≤ p) (h1 : p ≤ w) (hb : 0 < base) {k l d : Int} (k1 : G base p w b k ≤ d) (k2 : d < G base p w b (k + 1)) (l1 : G base p w b l ≤ d) (l2 : d < G base p w b (l + 1)) : k = l := by
  rcases Int.lt_trichotomy k l with h | h | h
  · have := G_mono (b := b) hw h0 h1 hb (k + 1) (l - (k + 1)).toNat
    rw [show k + 1 + (((l - (k + 1)).toNat : Nat) : Int) = l by omega] at this
    omega
  · exact h
  · have := G_mono (b := b) hw h0 h1 hb (l + 1) (k - (l + 1)).toNat
    rw [show l + 1 + (((k - (l + 1)).toNat : Nat) : Int) = k by omega] at this
    omega
/-- a whole cycle -/
theorem G_cycle (hw : 0 < w) (k q : Int) : G base p w b (k + q * w) = G base p w b k + q * (base * w + p) := by
  unfold G
  have e : p * (k + q * w) + b = (p * k + b) + w * (p * q) := by
    rw [Int.mul_add, ← Int.mul_assoc p q w, Int.mul_comm (p * q) w]; omega
  rw [e, Int.add_mul_ediv_left _ _ (by omega)]
  have e2 : base * (k + q * w) = base * k + q * (base * w) := by
    rw [Int.mul_add, ← Int.mul_assoc base q w, Int.mul_comm base q, Int.mul_assoc q base w]
  rw [e2, Int.mul_add q, Int.mul_comm p q]
  omega
theorem lead_cycle (q k : Int) : (p * (k + q * w) + b) % w = (p * k + b) % w := by
  have e : p * (k + q * w) + b = (p * k + b) + w * (p * q) := by
    rw [Int.mul_add, ← Int.mul_assoc p q w, Int.mul_comm (p * q) w]; omega
  rw [e, Int.add_mul_emod_self_left]
theorem G_zero (h0 : 0 ≤ b) (h1 : b < w) : G base p w b 0 = 0 := by
  unfold G; simp [Int.ediv_eq_zero_of_lt h0 h1]
/-- the one division that tells it -/
theorem G_div (hw : 0 < w) (hp : 0 ≤ p) (hb : 0 < base) {d : Int} : let c := base * w + p
    G base p w b ((w * d + w - 1 - b) / c) ≤ d ∧ d < G base p w b ((w * d + w - 1 - b) / c + 1) := by
  intro c
  have hc : 0 < c := by
    have := Int.mul_pos hb hw; show 0 < base * w + p; omega
  generalize hY : (w * d + w - 1 - b) / c = Y
  have y1 : c * Y ≤ w * d + w - 1 - b := by rw [← hY]; exact Int.mul_ediv_self_le (by omega)
  have y2 : w * d + w - 1 - b < c * Y + c := by rw [← hY]; exact Int.lt_mul_ediv_self_add hc
  have gY : ∀ k, w * G base p w b k = w * (base * k) + (p * k + b) - (p * k + b) % w := fun k => by
    unfold G
    rw [Int.mul_add]
    have := Int.mul_ediv_add_emod (p * k + b) w
    omega
  have cY : ∀ k, c * k = w * (base * k) + p * k := fun k => by
    show (base * w + p) * k = _
    rw [Int.add_mul, Int.mul_comm base w, Int.mul_assoc]
  constructor
  · -- w * G Y ≤ w d + (w - 1)
    have h := gY Y
    have r0 := Int.emod_nonneg (p * Y + b) (by omega : w ≠ 0)
    have h2 := cY Y
    have : w * G base p w b Y < w * (d + 1) := by rw [Int.mul_add, Int.mul_one]; omega
    have := Int.lt_of_mul_lt_mul_left this (by omega)
    omega
  · have h := gY (Y + 1)
    have r1 := Int.emod_lt_of_pos (p * (Y + 1) + b) hw
    have h2 := cY (Y + 1)
    have h3 : c * (Y + 1) = c * Y + c := by rw [Int.mul_add, Int.mul_one]
    have : w * d < w * G base p w b (Y + 1) := by omega
    exact Int.lt_of_mul_lt_mul_left this (by omega)
end
end NC
end Mine
namespace Mine
noncomputable section NC
structure Base where
  P : Program
  w : World
  CC : Addr
  W : Heap → Prop
  wd : Addr → Prop
  mg : Str → Option Value
  mb : Str → Option Value
  xc : Addr → Prop
noncomputable abbrev noF : Nat → List AV → AP := fun _ _ => none
noncomputable def Base.cx (b : Base) (n : Nat) (F X : Nat → List AV → AP) (xs : Nat → Expr → Option (List Expr × List Str)) : Cx := ⟨b.P, b.w, b.CC, b.W, b.wd, b.mg, b.mb, b.xc, gsAll, n, F, X, xs⟩
noncomputable abbrev Base.c0 (b : Base) : Cx := b.cx 0 noF noF fun _ _ => none
noncomputable abbrev dName (i : Nat) : Str := (defAt pw i).1
noncomputable abbrev dPar (i : Nat) : Arguments := (defAt pw i).2.1
noncomputable abbrev dBody (i : Nat) : List Stmt := (defAt pw i).2.2.1
noncomputable abbrev dSc (i : Nat) : Scope := (defAt pw i).2.2.2
/-- the world holds the row's defs -/
structure BOk (b : Base) : Prop where
  w : WOk b.W b.wd b.xc b.mg b.mb
  d : ∀ i ∈ [1, 2, 5, 7, 8, 9, 10, 13, 14, 15, 17, 18, 19, 20, 21], ∃ f, DefOf b.c0 (dName i) f (dPar i) (dBody i) (dSc i)
section
variable {b : Base}
theorem fn_cast {m n k : Nat} {F X : Nat → List AV → AP} {xs : Nat → Expr → Option (List Expr × List Str)} {ds : List AV} {d : AV} (h : FnOk b.c0 n k ds d) : FnOk (b.cx m F X xs) n k ds d := by
  obtain ⟨x, f, h1, h2, h3, h4⟩ := h
  exact ⟨x, f, h1, h2, h3, fun A X s vs Q R W xo r hq => h4 A X s vs Q R W ⟨xo.xc, xo.lt⟩ r hq⟩
theorem cxok (hb : BOk b) (n : Nat) (F : Nat → List AV → AP) (hF : ∀ k ds d C, F k ds = some (d, C) → C → FnOk b.c0 n k ds d) : CxOk (b.cx n F XW xsW) :=
  ⟨hb.w, fun k ds d C h hC => fn_cast (hF k ds d C h hC), fun k e es gn h env names kd ρ ds d C hg hX hC he _ => xW_ok hb.w h hg hX hC he⟩
theorem cxok0 (hb : BOk b) (n : Nat) : CxOk (b.cx n noF XW xsW) := cxok hb n noF fun _ _ _ _ h => by cases h
theorem bind1 {i : Nat} {p : Str} (h : ∀ pm code doc v, bindArgs (docDef (dName i) (dPar i) (dBody i) (dSc i) pm code doc) ⟨[v], []⟩ = pure [(p, v)]) : ∀ pm code doc (vs : List Value), vs.length = [p].length → bindArgs (docDef (dName i) (dPar i) (dBody i) (dSc i) pm code doc) ⟨vs, []⟩ = pure ([p].zip vs) := by
  intro pm code doc vs hl
  rcases vs with _ | ⟨v, _ | ⟨v', vs⟩⟩ <;> first | (simp at hl; done) | exact h _ _ _ _
theorem bind2 {i : Nat} {p q : Str} (h : ∀ pm code doc v u, bindArgs (docDef (dName i) (dPar i) (dBody i) (dSc i) pm code doc) ⟨[v, u], []⟩ = pure [(p, v), (q, u)]) : ∀ pm code doc (vs : List Value), vs.length = [p, q].length → bindArgs (docDef (dName i) (dPar i) (dBody i) (dSc i) pm code doc) ⟨vs, []⟩ = pure ([p, q].zip vs) := by
  intro pm code doc vs hl
  rcases vs with _ | ⟨v, _ | ⟨v', _ | ⟨v'', vs⟩⟩⟩ <;> first | (simp at hl; done) | exact h _ _ _ _ _
theorem bind3 {i : Nat} {p q r : Str} (h : ∀ pm code doc v u t, bindArgs (docDef (dName i) (dPar i) (dBody i) (dSc i) pm code doc) ⟨[v, u, t], []⟩ = pure [(p, v), (q, u), (r, t)]) : ∀ pm code doc (vs : List Value), vs.length = [p, q, r].length → bindArgs (docDef (dName i) (dPar i) (dBody i) (dSc i) pm code doc) ⟨vs, []⟩ = pure ([p, q, r].zip vs) := by
  intro pm code doc vs hl
  rcases vs with _ | ⟨v, _ | ⟨v', _ | ⟨v'', _ | ⟨v''', vs⟩⟩⟩⟩ <;> first | (simp at hl; done) | exact h _ _ _ _ _ _
theorem gs_11 : gsAll[11]? = some (dName 18) := by decide +kernel
theorem nd_18 : (ps_law_rule ++ ls_law_rule).Nodup := by decide +kernel
theorem fn_rule (hb : BOk b) (n : Nat) (c0 c1 c2 c3 c4 : Int) (h0 : 0 ≤ c0) (h1 : 0 ≤ c1) (h0' : c0 < 2 ^ 40) (h1' : c1 < 2 ^ 40) {part whole : Int}
    (hp : [(1, 1), (1, 2), (2, 3), (3, 5)][(c1 % 4).toNat]? = some (part, whole)) :
    FnOk b.c0 (n + 1) 11 [.lst [.int c0, .int c1, .int c2, .int c3, .int c4]]
      (.tup [.int (2 + c0 % 7), .int (c0 / 7 % (2 + c0 % 7 + 1)), .int (c0 / 7 / (2 + c0 % 7 + 1) % (2 + c0 % 7)), .int part, .int whole, .int (c1 / 4 % whole), .int (c1 / 20 % 7)]) := by
  obtain ⟨f, D⟩ := hb.d 18 (by simp)
  refine FnOk_of (ps := ps_law_rule) (rest := ls_law_rule) (ms := ms_law_rule) (F := noF) (X := XW) (xs := xsW) hb.w ys0 zsW gs_11 D (bind1 fun _ _ _ _ => by with_unfolding_all rfl) rfl (by decide +kernel) (by decide +kernel) chk_law_rule ?_
    (by decide +kernel) (by decide +kernel) (by decide +kernel)
  intro env s₀ X0
  have ok : SxOk ⟨b.cx n noF XW xsW, env, ps_law_rule ++ ls_law_rule, kdOf (dSc 18), s₀, X0, fun _ => False, ys0, zsW⟩ := ⟨cxok0 hb n, nd_18⟩
  have hpw : (c1 % 4 = 0 ∧ part = 1 ∧ whole = 1) ∨ (c1 % 4 = 1 ∧ part = 1 ∧ whole = 2) ∨ (c1 % 4 = 2 ∧ part = 2 ∧ whole = 3) ∨ (c1 % 4 = 3 ∧ part = 3 ∧ whole = 5) := by
    have : c1 % 4 = 0 ∨ c1 % 4 = 1 ∨ c1 % 4 = 2 ∨ c1 % 4 = 3 := by omega
    rcases this with q | q | q | q <;> rw [q] at hp <;> simp at hp <;> simp [q, ← hp.1, ← hp.2]
  unfold ms_law_rule
  refine Ex_asg ok rfl (by simp) (by simp) ?_
  refine Ex_asg ok rfl (by simp) (by simp) ?_
  refine Ex_asg ok rfl (by simp; omega) (by simp) ?_
  refine Ex_asg ok rfl (by simp; omega) (by simp) ?_
  have hw : 1 ≤ whole ∧ whole ≤ 5 := by omega
  have hq : [AV.tup [.int 1, .int 1], .tup [.int 1, .int 2], .tup [.int 2, .int 3], .tup [.int 3, .int 5]].getD (c1 % 4).toNat .none = .tup [.int part, .int whole] := by
    rcases hpw with ⟨q, rfl, rfl⟩ | ⟨q, rfl, rfl⟩ | ⟨q, rfl, rfl⟩ | ⟨q, rfl, rfl⟩ <;> rw [q] <;> rfl
  have hq2 : [AV.tup [.int 1, .int 1], .tup [.int 1, .int 2], .tup [.int 2, .int 3], .tup [.int 3, .int 5]][(c1 % 4).toNat]? = some (.tup [.int part, .int whole]) := by
    rcases hpw with ⟨q, rfl, rfl⟩ | ⟨q, rfl, rfl⟩ | ⟨q, rfl, rfl⟩ | ⟨q, rfl, rfl⟩ <;> rw [q] <;> rfl
  refine Ex_upk ok rfl ?_ rfl (by simp) ?_
  · rw [hq]
    simp [hq2, pI, getI]
    omega
  rw [hq]
  refine Ex_ret ok rfl ?_ ?_
  · simp [pI, getI]; omega
  · rfl
end
end NC
end Mine
namespace Mine
noncomputable section NC
section
variable {b : Base}
theorem gs_12 : gsAll[12]? = some (dName 19) := by decide +kernel
theorem nd_19 : (ps_law_walk ++ ls_law_walk).Nodup := by decide +kernel
theorem div_bd {a c N : Int} (hc : 0 < c) (h1 : -N ≤ a) (h2 : a ≤ N) (h0 : 0 ≤ N) : -N ≤ a / c ∧ a / c ≤ N := by
  have hN : N * 1 ≤ N * c := Int.mul_le_mul_of_nonneg_left (by omega) h0
  constructor
  · refine Int.le_ediv_of_mul_le hc ?_
    rw [Int.neg_mul]; omega
  · refine Int.ediv_le_of_le_mul hc ?_
    omega
theorem walk_head {w p ph cy day : Int} (hcy : 365 * w + p = cy) (hw : 0 < w) (h2 : 0 ≤ ph) (h3 : ph < w) : (p * (day / cy * w) + ph) % w = ph ∧ day % cy = day - G 365 p w ph (day / cy * w) := by
  constructor
  · have := lead_cycle (p := p) (b := ph) (w := w) (day / cy) 0
    simp only [Int.zero_add, Int.mul_zero] at this
    rw [this, Int.emod_eq_of_lt h2 h3]
  · have := G_cycle (base := 365) (p := p) (b := ph) (w := w) hw 0 (day / cy)
    rw [Int.zero_add, G_zero h2 h3, hcy, Int.zero_add] at this
    rw [this, Int.emod_def, Int.mul_comm]
set_option maxHeartbeats 2000000 in
theorem fn_walk (hb : BOk b) (n : Nat) {w p ph pt wh bg sh day Y m : Int} (hw : 0 < w) (hw' : w ≤ 100) (h0 : 0 ≤ p) (h1 : p ≤ w) (h2 : 0 ≤ ph) (h3 : ph < w) (hh : 0 < wh) (g0 : 0 ≤ pt) (g1 : pt ≤ wh) (g2 : 0 ≤ bg) (g3 : bg < wh)
    (hd : -10 ^ 9 ≤ day) (hd' : day ≤ 10 ^ 9) (y1 : G 365 p w ph Y ≤ day) (y2 : day < G 365 p w ph (Y + 1)) (m1 : G 30 pt wh bg m ≤ day - G 365 p w ph Y) (m2 : day - G 365 p w ph Y < G 30 pt wh bg (m + 1)) :
    FnOk b.c0 (n + 1) 12 [.tup [.int w, .int p, .int ph, .int pt, .int wh, .int bg, .int sh], .int day] (.tup [.int Y, .int (m + 1), .int (day - G 365 p w ph Y - G 30 pt wh bg m + 1)]) := by
  obtain ⟨f, D⟩ := hb.d 19 (by simp)
  refine FnOk_of (ps := ps_law_walk) (rest := ls_law_walk) (ms := ms_law_walk) (F := noF) (X := XW) (xs := xsW) hb.w ys0 zsW gs_12 D (bind2 fun _ _ _ _ _ => by with_unfolding_all rfl) rfl (by decide +kernel) (by decide +kernel) chk_law_walk ?_
    (by decide +kernel) (by decide +kernel) (by decide +kernel)
  intro env s₀ X0
  have ok : SxOk ⟨b.cx n noF XW xsW, env, ps_law_walk ++ ls_law_walk, kdOf (dSc 19), s₀, X0, fun _ => False, ys0, zsW⟩ := ⟨cxok0 hb n, nd_19⟩
  generalize hcy : 365 * w + p = cy
  have hc : 0 < cy := by omega
  have hcy' : cy < 2 ^ 40 := by omega
  unfold ms_law_walk
  refine Ex_upk ok rfl (by simp) rfl (by simp) ?_
  have hq := div_bd (N := 10 ^ 9) hc hd hd' (by omega)
  refine Ex_asg ok rfl (by rw [hcy]; simp; omega) (by simp) ?_
  refine Ex_asg ok rfl (by rw [hcy]; simp; omega) (by simp) ?_
  refine Ex_asg ok rfl (by simp) (by simp) ?_
  refine Ex_asg ok rfl (by simp [truthC]) (by simp) ?_
  rw [hcy]
  have wh0 := walk_head (day := day) hcy hw h2 h3
  -- the walk through the years
  refine Ex_whl ok (fun k ρ own => own = none ∧ ∃ y left : Int, ρ = [some (.tup [.int w, .int p, .int ph, .int pt, .int wh, .int bg, .int sh]), some (.int day), some (.int y), some (.int left), some (.int ((p * y + ph) % w)), some (.int (bif decide (w ≤ (p * y + ph) % w + p) then 366 else 365)), none, some (.int w), some (.int p), some (.int ph), some (.int pt), some (.int wh), some (.int bg), some (.int sh)]
      ∧ 0 ≤ left ∧ left = day - G 365 p w ph y ∧ k = left.toNat) (day % cy).toNat ⟨rfl, day / cy * w, day % cy, ?_, Int.emod_nonneg _ (by omega), wh0.2, rfl⟩ ?_
  · rw [wh0.1]; rfl
  rintro k ρ own ⟨rfl, y, left, rfl, l0, hl, rfl⟩
  have st := G_step (base := 365) (b := ph) hw h0 h1 y
  have hsz : ((bif decide (w ≤ (p * y + ph) % w + p) then (366 : Int) else 365) = if w ≤ (p * y + ph) % w + p then 365 + 1 else 365) := by
    by_cases q : w ≤ (p * y + ph) % w + p <;> simp [q]
  refine ⟨_, _, rfl, by simp, fun ht => ?_, fun hf => ?_⟩
  · rw [decide_eq_true_eq] at ht
    rw [hsz] at ht
    refine Ex_aug ok rfl rfl trivial rfl trivial (.inr rfl) ⟨_, rfl⟩ (by simp) ?_
    refine Ex_aug ok rfl rfl trivial rfl trivial (.inl rfl) ⟨_, rfl⟩ (by simp) ?_
    refine Ex_asg ok rfl (by simp; omega) (by simp) ?_
    refine Ex_asg ok rfl (by simp [truthC]) (by simp) ?_
    refine Ex_nil ⟨(left - (bif decide (w ≤ (p * y + ph) % w + p) then (366 : Int) else 365)).toNat, ?_, rfl, y + 1, _, ?_, ?_, ?_, rfl⟩
    · rw [hsz]; split <;> rename_i q <;> simp [q] at ht <;> omega
    · rw [lead_step y]; rfl
    · rw [hsz]; omega
    · rw [hsz, hl, st]; omega
  rw [decide_eq_false_iff_not, hsz] at hf
  have hy : y = Y := G_uniq (b := ph) hw h0 h1 (by decide) (d := day) (by omega) (by rw [st]; omega) y1 y2
  subst hy
  refine Ex_asg ok rfl (by simp) (by simp) ?_
  refine Ex_asg ok rfl (by simp) (by simp) ?_
  refine Ex_asg ok rfl (by simp [truthC]) (by simp) ?_
  have hl0 : left < 366 := by split at hf <;> omega
  generalize hlead : (p * y + ph) % w = lead
  -- the walk through the months
  refine Ex_whl ok (fun k ρ own => own = none ∧ ∃ j left2 : Int, ρ = [some (.tup [.int w, .int p, .int ph, .int pt, .int wh, .int bg, .int sh]), some (.int day), some (.int y), some (.int left2), some (.int ((pt * j + bg) % wh)), some (.int (bif decide (wh ≤ (pt * j + bg) % wh + pt) then 31 else 30)), some (.int (j + 1)), some (.int w), some (.int p), some (.int ph), some (.int pt), some (.int wh), some (.int bg), some (.int sh)]
      ∧ 0 ≤ left2 ∧ left2 = left - G 30 pt wh bg j ∧ k = left2.toNat) left.toNat ⟨rfl, 0, left, ?_, l0, by rw [G_zero g2 g3]; omega, rfl⟩ ?_
  · rw [show pt * 0 + bg = bg by omega, Int.emod_eq_of_lt g2 g3]; rfl
  rintro k ρ own ⟨rfl, j, left2, rfl, l1, hl2, rfl⟩
  have st2 := G_step (base := 30) (b := bg) hh g0 g1 j
  have hsz2 : ((bif decide (wh ≤ (pt * j + bg) % wh + pt) then (31 : Int) else 30) = if wh ≤ (pt * j + bg) % wh + pt then 30 + 1 else 30) := by
    by_cases q : wh ≤ (pt * j + bg) % wh + pt <;> simp [q]
  refine ⟨_, _, rfl, by simp, fun ht => ?_, fun hf2 => ?_⟩
  · rw [decide_eq_true_eq] at ht
    rw [hsz2] at ht
    refine Ex_aug ok rfl rfl trivial rfl trivial (.inr rfl) ⟨_, rfl⟩ (by simp) ?_
    refine Ex_aug ok rfl rfl trivial rfl trivial (.inl rfl) ⟨_, rfl⟩ (by simp) ?_
    refine Ex_asg ok rfl (by simp; omega) (by simp) ?_
    refine Ex_asg ok rfl (by simp [truthC]) (by simp) ?_
    refine Ex_nil ⟨(left2 - (bif decide (wh ≤ (pt * j + bg) % wh + pt) then (31 : Int) else 30)).toNat, ?_, rfl, j + 1, _, ?_, ?_, ?_, rfl⟩
    · rw [hsz2]; split <;> rename_i q <;> simp [q] at ht <;> omega
    · rw [lead_step j]; rfl
    · rw [hsz2]; omega
    · rw [hsz2, hl2, st2]; omega
  rw [decide_eq_false_iff_not, hsz2] at hf2
  have hj : j = m := G_uniq (b := bg) hh g0 g1 (by decide) (d := day - G 365 p w ph y) (by omega) (by rw [st2]; omega) m1 m2
  subst hj
  refine Ex_ret ok rfl (by simp) ?_
  rw [← hl, ← hl2]
end
end NC
end Mine
namespace Mine
noncomputable section NC
noncomputable def dN (k : Int) : Str := getS ([AV.str (Str.ofString "Mon"), .str (Str.ofString "Tue"), .str (Str.ofString "Wed"), .str (Str.ofString "Thu"), .str (Str.ofString "Fri"), .str (Str.ofString "Sat"), .str (Str.ofString "Sun")].getD k.toNat .none)
noncomputable def mN (k : Int) : Str := getS ([AV.str (Str.ofString "Jan"), .str (Str.ofString "Feb"), .str (Str.ofString "Mar"), .str (Str.ofString "Apr"), .str (Str.ofString "May"), .str (Str.ofString "Jun"), .str (Str.ofString "Jul"), .str (Str.ofString "Aug"), .str (Str.ofString "Sep"), .str (Str.ofString "Oct"), .str (Str.ofString "Nov"), .str (Str.ofString "Dec")].getD k.toNat .none)
noncomputable def isStr3 (d : AV) : Bool := @AV.casesOn (fun _ => Bool) d false (fun _ => false) (fun _ => false) (fun x => x.length == 3) (fun _ => false) (fun _ => false) (fun _ => false) (fun _ => false) (fun _ => false) fun _ => false
theorem names_ok {l : List AV} (h : l.all isStr3 = true) {k : Int} (h0 : 0 ≤ k) (h1 : k < l.length) : l[k.toNat]? = some (.str (getS (l.getD k.toNat .none))) ∧ (getS (l.getD k.toNat .none)).length = 3 := by
  have hk : k.toNat < l.length := by omega
  rw [List.getD_eq_getElem?_getD, List.getElem?_eq_getElem hk]
  have := List.all_eq_true.mp h _ (List.getElem_mem hk)
  revert this
  show isStr3 l[k.toNat] = true → some l[k.toNat] = some (.str (getS l[k.toNat])) ∧ (getS l[k.toNat]).length = 3
  cases l[k.toNat] with
  | str x => exact fun e => ⟨rfl, eq_of_beq e⟩
  | _ => exact fun e => absurd e fT
theorem dN_ok {k : Int} (h0 : 0 ≤ k) (h1 : k < 7) : [AV.str (Str.ofString "Mon"), .str (Str.ofString "Tue"), .str (Str.ofString "Wed"), .str (Str.ofString "Thu"), .str (Str.ofString "Fri"), .str (Str.ofString "Sat"), .str (Str.ofString "Sun")][k.toNat]? = some (.str (dN k)) ∧ (dN k).length = 3 := names_ok (by decide +kernel) h0 h1
theorem mN_ok {k : Int} (h0 : 0 ≤ k) (h1 : k < 12) : [AV.str (Str.ofString "Jan"), .str (Str.ofString "Feb"), .str (Str.ofString "Mar"), .str (Str.ofString "Apr"), .str (Str.ofString "May"), .str (Str.ofString "Jun"), .str (Str.ofString "Jul"), .str (Str.ofString "Aug"), .str (Str.ofString "Sep"), .str (Str.ofString "Oct"), .str (Str.ofString "Nov"), .str (Str.ofString "Dec")][k.toNat]? = some (.str (mN k)) ∧ (mN k).length = 3 := names_ok (by decide +kernel) h0 h1
section
variable {b : Base}
theorem gs_1 : gsAll[1]? = some (dName 2) := by decide +kernel
theorem nd_2 : (ps_format_timetuple_and_zone ++ ls_format_timetuple_and_zone).Nodup := by decide +kernel
theorem fn_fmt (hb : BOk b) (n : Nat) {y m d n5 n6 n7 wd : Int} {z : Str} (h0 : 0 ≤ wd) (h1 : wd < 7) (m0 : 1 ≤ m) (m1 : m ≤ 12) (hd : d.natAbs < 10 ^ 10) (hy : y.natAbs < 10 ^ 10) (h5 : n5.natAbs < 10 ^ 10) (h6 : n6.natAbs < 10 ^ 10) (h7 : n7.natAbs < 10 ^ 10) (hz : z.length ≤ 1000000) :
    FnOk b.c0 (n + 1) 1 [.tup [.int y, .int m, .int d, .int n5, .int n6, .int n7, .int wd], .str z] (.str (fmtT (dN wd) (mN (m - 1)) z d y n5 n6 n7)) := by
  obtain ⟨f, D⟩ := hb.d 2 (by simp)
  refine FnOk_of (ps := ps_format_timetuple_and_zone) (rest := ls_format_timetuple_and_zone) (ms := ms_format_timetuple_and_zone) (F := noF) (X := XW) (xs := xsW) hb.w ys0 zsW gs_1 D (bind2 fun _ _ _ _ _ => by with_unfolding_all rfl) rfl (by decide +kernel) (by decide +kernel) chk_format_timetuple_and_zone ?_
    (by decide +kernel) (by decide +kernel) (by decide +kernel)
  intro env s₀ X0
  have ok : SxOk ⟨b.cx n noF XW xsW, env, ps_format_timetuple_and_zone ++ ls_format_timetuple_and_zone, kdOf (dSc 2), s₀, X0, fun _ => False, ys0, zsW⟩ := ⟨cxok0 hb n, nd_2⟩
  have hdn := dN_ok h0 h1
  have hmn := mN_ok (k := m - 1) (by omega) (by omega)
  unfold ms_format_timetuple_and_zone
  refine Ex_ret ok rfl ?_ rfl
  have hz2 : (dN wd).length ≤ 1000000 ∧ (mN (m - 1)).length ≤ 1000000 := by omega
  repeat' apply And.intro
  all_goals first
    | trivial
    | exact hdn.1
    | exact hmn.1
    | exact hz2.1
    | exact hz2.2
    | assumption
    | (show (_ : Int) < _; omega)
    | (show (_ : Int) ≤ _; omega)
    | (simp; done)
    | (simp; omega)
theorem str_ext {x y : Str} (h : x.cps.toList = y.cps.toList) : x = y := by
  cases x; cases y
  congr 1
  exact Array.toList_inj.mp h
theorem toList_append (x y : Str) : (x ++ y).cps.toList = x.cps.toList ++ y.cps.toList := by
  rw [Str.cps_append, Array.toList_append]
theorem str_digits (n : Nat) : Str.ofString (toString ((n : Nat) : Int)) = ⟨(digL (n : Int)).toArray⟩ := by
  apply str_ext
  rw [KIN.signs_num]
  simp [digL]
theorem digL_natAbs (n : Int) : digL ((n.natAbs : Nat) : Int) = digL n := by unfold digL; rw [Int.natAbs_natCast]
theorem digL_len1 {n : Int} (h : n.natAbs < 10) : (digL n).length = 1 := by
  have e := (Nat.length_toDigits_le_iff (n := n.natAbs) (k := 1) (b := 10) (by decide) (by decide)).mpr (by simpa using h)
  have := Nat.length_toDigits_pos (b := 10) (n := n.natAbs)
  unfold digL; rw [List.length_map]; omega
theorem digL_len2 {n : Int} (h : 10 ≤ n.natAbs) : 2 ≤ (digL n).length := by
  rcases Nat.lt_or_ge (Nat.toDigits 10 n.natAbs).length 2 with q | q
  · have e := (Nat.length_toDigits_le_iff (n := n.natAbs) (k := 1) (b := 10) (by decide) (by decide)).mp (by omega)
    simp at e; omega
  · unfold digL; rw [List.length_map]; exact q
theorem zero_app (l : List Nat) : Str.ofString "0" ++ ⟨l.toArray⟩ = ⟨(48 :: l).toArray⟩ := by
  apply str_ext; rw [toList_append]
  have : (Str.ofString "0").cps.toList = [48] := by decide +kernel
  rw [this]; simp
theorem minus_app (l : List Nat) : Str.ofString "-" ++ ⟨l.toArray⟩ = ⟨(45 :: l).toArray⟩ := by
  apply str_ext; rw [toList_append]
  have : (Str.ofString "-").cps.toList = [45] := by decide +kernel
  rw [this]; simp
theorem len_mk (l : List Nat) : (⟨l.toArray⟩ : Str).length = l.length := by show l.toArray.size = _; simp
theorem tail_eq : Str.ofString " 12:00:00 -0000" = Str.ofString " " ++ ⟨(fieldL 2 12).toArray⟩ ++ Str.ofString ":" ++ ⟨(fieldL 2 0).toArray⟩ ++ Str.ofString ":" ++ ⟨(fieldL 2 0).toArray⟩ ++ Str.ofString " " ++ Str.ofString "-0000" := by decide +kernel
theorem len_app (x y : Str) : (x ++ y).length = x.length + y.length := by
  show (x ++ y).cps.size = x.cps.size + y.cps.size
  rw [Str.cps_append, Array.size_append]
theorem fig_eq {d : Int} (h0 : 1 ≤ d) (h1 : d ≤ 31) : (bif decide (9 < d) then Str.ofString (toString d) else Str.ofString "0" ++ Str.ofString (toString d)) = ⟨(fieldL 2 d).toArray⟩ := by
  obtain ⟨k, rfl⟩ : ∃ k : Nat, d = (k : Int) := ⟨d.toNat, by omega⟩
  rw [str_digits]
  have hs : signL (k : Int) = [] := by unfold signL; rw [if_neg (by omega)]
  by_cases q : (9 : Int) < k
  · have := digL_len2 (n := (k : Int)) (by omega)
    rw [decide_eq_true q]
    unfold fieldL
    rw [hs, List.length_nil, show 2 - (0 + (digL (k : Int)).length) = 0 by omega]
    rfl
  · have := digL_len1 (n := (k : Int)) (by omega)
    rw [decide_eq_false q]
    unfold fieldL
    rw [hs, List.length_nil, this, cond_false, zero_app]
    rfl
theorem gs_14 : gsAll[14]? = some (dName 21) := by decide +kernel
theorem nd_21 : (ps_law_line ++ ls_law_line).Nodup := by decide +kernel
set_option maxHeartbeats 2000000 in
theorem fn_line (hb : BOk b) (n : Nat) {y m d wd : Int} (h0 : 0 ≤ wd) (h1 : wd < 7) (m0 : 1 ≤ m) (m1 : m ≤ 12) (d0 : 1 ≤ d) (d1 : d ≤ 31) (hy : y.natAbs < 10 ^ 10) :
    FnOk b.c0 (n + 1) 14 [.tup [.int y, .int m, .int d], .int wd] (.str (fmtT (dN wd) (mN (m - 1)) (Str.ofString "-0000") d y 12 0 0)) := by
  obtain ⟨f, D⟩ := hb.d 21 (by simp)
  refine FnOk_of (ps := ps_law_line) (rest := ls_law_line) (ms := ms_law_line) (F := noF) (X := XW) (xs := xsW) hb.w ys0 zsW gs_14 D (bind2 fun _ _ _ _ _ => by with_unfolding_all rfl) rfl (by decide +kernel) (by decide +kernel) chk_law_line ?_
    (by decide +kernel) (by decide +kernel) (by decide +kernel)
  intro env s₀ X0
  have ok : SxOk ⟨b.cx n noF XW xsW, env, ps_law_line ++ ls_law_line, kdOf (dSc 21), s₀, X0, fun _ => False, ys0, zsW⟩ := ⟨cxok0 hb n, nd_21⟩
  have hdn := dN_ok h0 h1
  have hmn := mN_ok (k := m - 1) (by omega) (by omega)
  have hDL := digL_len (n := y) hy
  have hlog : ∀ k : Int, k.natAbs < 10 ^ 10 → k.natAbs.log2 < 1920 := fun k hk => by
    rcases Nat.eq_zero_or_pos k.natAbs with q | q
    · rw [q]; decide
    · rw [Nat.log2_lt (by omega)]
      exact Nat.lt_of_lt_of_le hk (by decide +kernel)
  unfold ms_law_line
  refine Ex_asg ok rfl (by simp) (by simp) ?_
  refine Ex_asg ok rfl (by simp) (by simp) ?_
  refine Ex_upk ok rfl (by simp) rfl (by simp) ?_
  refine Ex_asg ok rfl (by refine ⟨?_, hlog _ (by simpa using hy)⟩; simp) (by simp) ?_
  rw [str_digits, digL_natAbs]
  generalize hW : (bif decide (y < 0) then (3 : Int) else 4) = W
  have hW2 : W = 3 ∨ W = 4 := by rw [← hW]; cases decide (y < 0) <;> simp
  -- zeros before it
  refine Ex_whl ok (fun k ρ own => own = none ∧ ∃ j : Nat, ρ = [some (.tup [.int y, .int m, .int d]), some (.int wd), some (.lst [.str (Str.ofString "Mon"), .str (Str.ofString "Tue"), .str (Str.ofString "Wed"), .str (Str.ofString "Thu"), .str (Str.ofString "Fri"), .str (Str.ofString "Sat"), .str (Str.ofString "Sun")]),
      some (.lst [.str (Str.ofString "Jan"), .str (Str.ofString "Feb"), .str (Str.ofString "Mar"), .str (Str.ofString "Apr"), .str (Str.ofString "May"), .str (Str.ofString "Jun"), .str (Str.ofString "Jul"), .str (Str.ofString "Aug"), .str (Str.ofString "Sep"), .str (Str.ofString "Oct"), .str (Str.ofString "Nov"), .str (Str.ofString "Dec")]),
      some (.str ⟨(List.replicate j 48 ++ digL y).toArray⟩), none, some (.int y), some (.int m), some (.int d)] ∧ (j = 0 ∨ j + (digL y).length ≤ W.toNat) ∧ k = W.toNat - (j + (digL y).length)) _ ⟨rfl, 0, rfl, .inl rfl, rfl⟩ ?_
  rintro k ρ own ⟨rfl, j, rfl, hj, rfl⟩
  have hlen : (⟨(List.replicate j 48 ++ digL y).toArray⟩ : Str).length = j + (digL y).length := by rw [len_mk]; simp
  refine ⟨_, _, rfl, ?_, fun ht => ?_, fun hf => ?_⟩
  · rw [hlen]; simp [truthC]; omega
  · rw [hlen, hW, decide_eq_true_eq] at ht
    refine Ex_asg ok rfl (by simp only [and_true, true_and]; rw [hlen, sizeLine_eq]; have : (Str.ofString "0").length = 1 := by decide +kernel
                             omega) (by simp) ?_
    refine Ex_nil ⟨W.toNat - (j + 1 + (digL y).length), by omega, rfl, j + 1, ?_, .inr (by omega), rfl⟩
    rw [zero_app]; rfl
  rw [hlen, hW, decide_eq_false_iff_not] at hf
  have hjW : j = W.toNat - (digL y).length := by omega
  have hfig : ∀ told : Str, told = ⟨(fieldL 4 y).toArray⟩ → told.length ≤ 20 → Ex ⟨b.cx n noF XW xsW, env, ps_law_line ++ ls_law_line, kdOf (dSc 21), s₀, X0, fun _ => False, ys0, zsW⟩
      (ms_law_line.drop 6) [some (.tup [.int y, .int m, .int d]), some (.int wd), some (.lst [.str (Str.ofString "Mon"), .str (Str.ofString "Tue"), .str (Str.ofString "Wed"), .str (Str.ofString "Thu"), .str (Str.ofString "Fri"), .str (Str.ofString "Sat"), .str (Str.ofString "Sun")]),
      some (.lst [.str (Str.ofString "Jan"), .str (Str.ofString "Feb"), .str (Str.ofString "Mar"), .str (Str.ofString "Apr"), .str (Str.ofString "May"), .str (Str.ofString "Jun"), .str (Str.ofString "Jul"), .str (Str.ofString "Aug"), .str (Str.ofString "Sep"), .str (Str.ofString "Oct"), .str (Str.ofString "Nov"), .str (Str.ofString "Dec")]),
      some (.str told), none, some (.int y), some (.int m), some (.int d)] none (fun o _ _ => o = .ret (.str (fmtT (dN wd) (mN (m - 1)) (Str.ofString "-0000") d y 12 0 0))) := by
    intro told ht hl
    have hd10 : d.natAbs < 10 ^ 10 := by omega
    have hlf : (⟨(fieldL 2 d).toArray⟩ : Str).length ≤ 13 := by rw [len_mk]; exact fieldL_len hd10
    have hs0 : (Str.ofString "0").length = 1 := by decide +kernel
    have hs1 : (Str.ofString ", ").length = 2 := by decide +kernel
    have hs2 : (Str.ofString " ").length = 1 := by decide +kernel
    have hs3 : (Str.ofString " 12:00:00 -0000").length = 15 := by decide +kernel
    have hsd : (Str.ofString (toString d)).length ≤ 10 := by
      obtain ⟨k, rfl⟩ : ∃ k : Nat, d = (k : Int) := ⟨d.toNat, by omega⟩
      rw [str_digits, len_mk]; exact digL_len hd10
    show Ex _ [.asg 5 _, .ret _] _ _ _
    refine Ex_asg ok rfl ?_ (by simp) ?_
    · refine ⟨by simp, trivial, fun _ => ⟨by simp, hlog _ hd10⟩, fun _ => ⟨trivial, ⟨by simp, hlog _ hd10⟩, ?_⟩⟩
      rw [hs0, sizeLine_eq]; omega
    rw [show join2 (decide (9 < d)) (.str (Str.ofString (toString d))) (.str (Str.ofString "0" ++ Str.ofString (toString d))) = .str ⟨(fieldL 2 d).toArray⟩ from congrArg AV.str (fig_eq d0 d1)]
    refine Ex_ret ok rfl ?_ ?_
    · have e1 : (getS ([AV.str (Str.ofString "Mon"), .str (Str.ofString "Tue"), .str (Str.ofString "Wed"), .str (Str.ofString "Thu"), .str (Str.ofString "Fri"), .str (Str.ofString "Sat"), .str (Str.ofString "Sun")].getD wd.toNat .none)).length = 3 := hdn.2
      have e2 : (getS ([AV.str (Str.ofString "Jan"), .str (Str.ofString "Feb"), .str (Str.ofString "Mar"), .str (Str.ofString "Apr"), .str (Str.ofString "May"), .str (Str.ofString "Jun"), .str (Str.ofString "Jul"), .str (Str.ofString "Aug"), .str (Str.ofString "Sep"), .str (Str.ofString "Oct"), .str (Str.ofString "Nov"), .str (Str.ofString "Dec")].getD (m - 1).toNat .none)).length = 3 := hmn.2
      repeat' apply And.intro
      all_goals first
        | trivial
        | exact hdn.1
        | exact hmn.1
        | (show (_ : Int) < _; omega)
        | (show (_ : Int) ≤ _; omega)
        | (simp only [len_app, e1, e2, hs1, hs2, hs3, sizeLine_eq]; omega)
    · rw [ht, tail_eq]
      show Out.ret (.str (dN wd ++ _ ++ _ ++ _ ++ mN (m - 1) ++ _ ++ _ ++ _)) = _
      unfold fmtT
      simp only [Str.append_assoc]
  refine Ex_ite ok rfl (by simp) rfl trivial (fun hneg => ?_) (fun hpos => ?_)
  · rw [decide_eq_true_eq] at hneg
    have hW3 : W = 3 := by rw [← hW, decide_eq_true hneg]; rfl
    have hsm : (Str.ofString "-").length = 1 := by decide +kernel
    refine Ex_asg ok rfl (by refine ⟨trivial, trivial, ?_⟩; rw [hlen, hsm, sizeLine_eq]; omega) (by simp) ?_
    refine Ex_nil (hfig _ ?_ ?_)
    · rw [minus_app, hjW, hW3]
      unfold fieldL signL
      rw [if_pos hneg]
      simp [show (3 : Int).toNat = 3 from rfl, show 4 - (1 + (digL y).length) = 3 - (digL y).length by omega]
    · rw [minus_app, len_mk]; simp; omega
  · rw [decide_eq_false_iff_not] at hpos
    have hW4 : W = 4 := by rw [← hW, decide_eq_false hpos]; rfl
    refine Ex_nil (hfig _ ?_ ?_)
    · rw [hjW, hW4]
      unfold fieldL signL
      rw [if_neg hpos]
      simp [show (4 : Int).toNat = 4 from rfl]
    · rw [hlen]; omega
end
end NC
end Mine
namespace Mine
noncomputable section NC
section
variable {b : Base}
/-- ints from a on, n of them -/
noncomputable def upL : Int → Nat → List Int
  | _, 0 => []
  | a, n + 1 => a :: upL (a + 1) n
theorem upL_snoc : ∀ (n : Nat) (a : Int), upL a (n + 1) = upL a n ++ [a + n]
  | 0, a => by simp [upL]
  | n + 1, a => by
    rw [upL, upL_snoc n (a + 1)]
    have : a + 1 + (n : Int) = a + ((n + 1 : Nat) : Int) := by omega
    rw [this]; rfl
theorem upL_len : ∀ (n : Nat) (a : Int), (upL a n).length = n
  | 0, _ => rfl
  | n + 1, a => by rw [upL, List.length_cons, upL_len]
theorem rangeL_cons {a b : Int} (h : a < b) : rangeL a b = .int a :: rangeL (a + 1) b := by
  unfold rangeL
  obtain ⟨n, hn⟩ : ∃ n : Nat, (b - a).toNat = n + 1 := ⟨(b - a).toNat - 1, by omega⟩
  rw [hn, show (b - (a + 1)).toNat = n by omega, List.range_succ_eq_map]
  simp
  intro k hk
  omega
theorem rangeL_nil {a b : Int} (h : b ≤ a) : rangeL a b = [] := by
  unfold rangeL
  rw [show (b - a).toNat = 0 by omega]; rfl
noncomputable def sizeF (p w ph y : Int) : Int := bif decide (w ≤ (p * y + ph) % w + p) then 366 else 365
theorem sizeF_step {p w ph : Int} (hw : 0 < w) (h0 : 0 ≤ p) (h1 : p ≤ w) (y : Int) : G 365 p w ph (y + 1) = G 365 p w ph y + sizeF p w ph y := by
  rw [G_step hw h0 h1]; unfold sizeF
  by_cases q : w ≤ (p * y + ph) % w + p <;> simp [q]
theorem gs_13 : gsAll[13]? = some (dName 20) := by decide +kernel
theorem nd_20 : (ps_law_walked ++ ls_law_walked).Nodup := by decide +kernel
set_option maxHeartbeats 2000000 in
theorem fn_walked (hb : BOk b) (n : Nat) {w p ph pt wh bg sh st : Int} (hw : 0 < w) (hw' : w ≤ 100) (h0 : 0 ≤ p) (h1 : p ≤ w) (h2 : 0 ≤ ph) (h3 : ph < w) (hs : -1000 ≤ st) (hs' : st ≤ 1000) :
    FnOk b.c0 (n + 1) 13 [.tup [.int w, .int p, .int ph, .int pt, .int wh, .int bg, .int sh], .int st] (.lst ((upL st w.toNat).map fun y => .tup [.int (G 365 p w ph y), .int (sizeF p w ph y)])) := by
  obtain ⟨f, D⟩ := hb.d 20 (by simp)
  refine FnOk_of (ps := ps_law_walked) (rest := ls_law_walked) (ms := ms_law_walked) (F := noF) (X := XW) (xs := xsW) hb.w ys0 zsW gs_13 D (bind2 fun _ _ _ _ _ => by with_unfolding_all rfl) rfl (by decide +kernel) (by decide +kernel) chk_law_walked ?_
    (by decide +kernel) (by decide +kernel) (by decide +kernel)
  intro env s₀ X0
  have ok : SxOk ⟨b.cx n noF XW xsW, env, ps_law_walked ++ ls_law_walked, kdOf (dSc 20), s₀, X0, fun _ => False, ys0, zsW⟩ := ⟨cxok0 hb n, nd_20⟩
  have q1 := Int.mul_ediv_self_le (x := st) (k := w) (by omega)
  have q2 := Int.lt_mul_ediv_self_add (x := st) (k := w) hw
  rw [Int.mul_comm] at q1 q2
  have hq := div_bd (c := w) (N := 1000) hw hs hs' (by omega)
  have hz := walk_head (w := w) (p := p) (ph := ph) (cy := 365 * w + p) (day := (st / w) * (365 * w + p)) rfl hw h2 h3
  have hd0 : st / w * (365 * w + p) / (365 * w + p) = st / w := Int.mul_ediv_cancel _ (by omega)
  rw [hd0, Int.mul_emod_left] at hz
  unfold ms_law_walked
  refine Ex_upk ok rfl (by simp) rfl (by simp) ?_
  refine Ex_asg ok rfl (by simp; omega) (by simp) ?_
  refine Ex_asg ok rfl (by simp) (by simp) ?_
  refine Ex_new ok fun a => ?_
  refine Ex_for ok (fun ie te _ hi => hit_rng2 ok rfl (by simp; omega) rfl (by simp) (by omega) (by omega) (by omega) (by omega) ie te hi)
    (fun rest ρ own => ∃ (y : Int) (o1 o2 : Option AV), rest = rangeL y (st + w) ∧ st / w * w ≤ y ∧ y ≤ st + w ∧ own = some (4, a, .lst ((upL st (y - st).toNat).map fun y => .tup [.int (G 365 p w ph y), .int (sizeF p w ph y)])) ∧
      ρ = [some (.tup [.int w, .int p, .int ph, .int pt, .int wh, .int bg, .int sh]), some (.int st), some (.int (G 365 p w ph y)), some (.int ((p * y + ph) % w)), none, o1, some (.int w), some (.int p), some (.int ph), o2]) ?_ ?_ ?_
  · refine ⟨st / w * w, none, none, rfl, Int.le_refl _, by omega, ?_, ?_⟩
    · rw [show (st / w * w - st).toNat = 0 by omega]; rfl
    · rw [hz.1, show G 365 p w ph (st / w * w) = st / w * (365 * w + p) by omega]; rfl
  · rintro d rest ρ own ⟨y, o1, o2, hr, hy1, hy2, rfl, rfl⟩
    rcases (by omega : y < st + w ∨ st + w ≤ y) with hlt | hge
    case inr => rw [rangeL_nil hge] at hr; cases hr
    rw [rangeL_cons hlt] at hr
    injection hr with r1 r2
    subst r1; subst r2
    refine ⟨_, rfl, by simp [Tg.names], ?_⟩
    refine Ex_asg ok rfl (by simp [truthC]) (by simp) ?_
    have key : ∀ l, Ex ⟨b.cx n noF XW xsW, env, ps_law_walked ++ ls_law_walked, kdOf (dSc 20), s₀, X0, fun _ => False, ys0, zsW⟩ [.aug 2 .Add (.var 9), .asg 3 (.bin .Mod (.bin .Add (.var 3) (.var 7)) (.var 6))]
        [some (.tup [.int w, .int p, .int ph, .int pt, .int wh, .int bg, .int sh]), some (.int st), some (.int (G 365 p w ph y)), some (.int ((p * y + ph) % w)), none, some (.int y), some (.int w), some (.int p), some (.int ph), some (.int (sizeF p w ph y))] (some (4, a, .lst l))
        (fun o ρ' own' => o = .next ∧ own' = some (4, a, .lst l) ∧ ρ' = [some (.tup [.int w, .int p, .int ph, .int pt, .int wh, .int bg, .int sh]), some (.int st), some (.int (G 365 p w ph (y + 1))), some (.int ((p * (y + 1) + ph) % w)), none, some (.int y), some (.int w), some (.int p), some (.int ph), some (.int (sizeF p w ph y))]) := fun l => by
      refine Ex_aug ok rfl rfl trivial rfl trivial (.inl rfl) ⟨_, rfl⟩ (by simp) ?_
      refine Ex_asg ok rfl (by simp; omega) (by simp) ?_
      refine Ex_nil ⟨rfl, rfl, ?_⟩
      rw [lead_step y, sizeF_step hw h0 h1]; rfl
    refine Ex_ite ok rfl (by simp) rfl trivial (fun ht => ?_) (fun hf => ?_)
    · rw [decide_eq_true_eq] at ht
      refine Ex_app ok rfl (by simp) (by rw [List.length_map, upL_len]; omega) ?_
      refine Ex_nil ((key _).mono ?_)
      rintro o ρ' own' ⟨rfl, rfl, rfl⟩
      refine ⟨y + 1, _, _, rfl, by omega, by omega, ?_, rfl⟩
      rw [show (y + 1 - st).toNat = (y - st).toNat + 1 by omega, upL_snoc, List.map_append]
      rw [show st + (((y - st).toNat : Nat) : Int) = y by omega]
      rfl
    · rw [decide_eq_false_iff_not] at hf
      refine Ex_nil ((key _).mono ?_)
      rintro o ρ' own' ⟨rfl, rfl, rfl⟩
      refine ⟨y + 1, _, _, rfl, by omega, by omega, ?_, rfl⟩
      rw [show (y + 1 - st).toNat = 0 by omega, show (y - st).toNat = 0 by omega]
  · rintro ρ own ⟨y, o1, o2, hr, hy1, hy2, rfl, rfl⟩
    rcases (by omega : y < st + w ∨ st + w ≤ y) with hlt | hge
    · rw [rangeL_cons hlt] at hr; cases hr
    · refine Ex_frz ok id ?_
      refine Ex_ret ok rfl (by simp) ?_
      rw [show (y - st).toNat = w.toNat by omega]
theorem ownGet_lst (l : List AV) (k : Int) : ownGet (.lst l) (.int k) = if 0 ≤ k ∧ k < 2 ^ 62 then l[k.toNat]? else none := rfl
theorem ownSet_lst (l : List AV) (k : Int) (v : AV) : ownSet (.lst l) (.int k) v = if 0 ≤ k ∧ k < 2 ^ 62 ∧ k < l.length then some (.lst (l.set k.toNat v)) else none := by
  cases v <;> rfl
theorem gs_10 : gsAll[10]? = some (dName 17) := by decide +kernel
theorem nd_17 : (ps_law_cells ++ ls_law_cells).Nodup := by decide +kernel
/-- the cells, k places of the script later -/
noncomputable def cellsAt (l : List Int) : Nat → List Int
  | 0 => [44, 71, 5, 739290, 499990]
  | k + 1 => (cellsAt l k).set (k % 5) ((cellsAt l k).getD (k % 5) 0 + l.getD k 0 % 1000000)
theorem cellsAt_len (l : List Int) : ∀ k, (cellsAt l k).length = 5
  | 0 => rfl
  | k + 1 => by rw [cellsAt, List.length_set, cellsAt_len l k]
theorem cellsAt_bd (l : List Int) : ∀ k i, 0 ≤ (cellsAt l k).getD i 0 ∧ (cellsAt l k).getD i 0 ≤ 1000000 * (k + 1)
  | 0, i => by
    rcases i with _ | _ | _ | _ | _ | i <;> simp [cellsAt]
  | k + 1, i => by
    have ih := cellsAt_bd l k
    have hl := cellsAt_len l k
    have hm := Int.emod_nonneg (l.getD k 0) (b := 1000000) (by decide)
    have hm2 := Int.emod_lt_of_pos (l.getD k 0) (b := 1000000) (by decide)
    have hk : k % 5 < 5 := Nat.mod_lt _ (by decide)
    have i1 := ih (k % 5)
    have i2 := ih i
    rw [cellsAt]
    simp only [List.getD_eq_getElem?_getD] at *
    by_cases q : k % 5 = i
    · subst q
      rw [List.getElem?_set_self (by omega)]
      simp only [Option.getD_some]
      omega
    · rw [List.getElem?_set_ne q]
      omega
theorem five_of {l : List Int} (h : l.length = 5) : l = [l.getD 0 0, l.getD 1 0, l.getD 2 0, l.getD 3 0, l.getD 4 0] := by
  rcases l with _ | ⟨a, _ | ⟨b, _ | ⟨c, _ | ⟨d, _ | ⟨e, _ | ⟨f, l⟩⟩⟩⟩⟩⟩ <;> simp at h <;> rfl
set_option maxHeartbeats 2000000 in
theorem fn_cells (hb : BOk b) (n : Nat) (l : List Int) (hl : l.length ≤ 63) : FnOk b.c0 (n + 1) 10 [.lst (l.map .int)] (.lst ((cellsAt l l.length).map .int)) := by
  obtain ⟨f, D⟩ := hb.d 17 (by simp)
  refine FnOk_of (ps := ps_law_cells) (rest := ls_law_cells) (ms := ms_law_cells) (F := noF) (X := XW) (xs := xsW) hb.w ys0 zsW gs_10 D (bind1 fun _ _ _ _ => by with_unfolding_all rfl) rfl (by decide +kernel) (by decide +kernel) chk_law_cells ?_
    (by decide +kernel) (by decide +kernel) (by decide +kernel)
  intro env s₀ X0
  have ok : SxOk ⟨b.cx n noF XW xsW, env, ps_law_cells ++ ls_law_cells, kdOf (dSc 17), s₀, X0, fun _ => False, ys0, zsW⟩ := ⟨cxok0 hb n, nd_17⟩
  unfold ms_law_cells
  refine Ex_newL ok rfl (by simp) (by simp) fun a => ?_
  refine Ex_for ok (fun ie te _ hi => hit_rng ok rfl (by simp; omega) (by omega) (by simp; omega) ie te hi)
    (fun rest ρ own => ∃ (k : Nat) (o : Option AV), k ≤ l.length ∧ rest = rangeL k l.length ∧ own = some (1, a, .lst ((cellsAt l k).map .int)) ∧ ρ = [some (.lst (l.map .int)), none, o]) ?_ ?_ ?_
  · exact ⟨0, none, by omega, by simp, rfl, rfl⟩
  · rintro d rest ρ own ⟨k, o, hk, hr, rfl, rfl⟩
    rcases (by omega : (k : Int) < l.length ∨ (l.length : Int) ≤ k) with hlt | hge
    case inr => rw [rangeL_nil hge] at hr; cases hr
    rw [rangeL_cons hlt] at hr
    injection hr with r1 r2
    subst r1; subst r2
    refine ⟨_, rfl, by simp [Tg.names], ?_⟩
    have hk5 : ((k : Int) % 5) = ((k % 5 : Nat) : Int) := by omega
    have hlen := cellsAt_len l k
    have hkm : k % 5 < 5 := Nat.mod_lt _ (by decide)
    have hlk : (l.map AV.int)[k]? = some (.int (l.getD k 0)) := by
      rw [List.getElem?_map, List.getD_eq_getElem?_getD, List.getElem?_eq_getElem (by omega)]; rfl
    have hgd : (l.map AV.int).getD ((k : Int)).toNat .none = .int (l.getD k 0) := by
      rw [Int.toNat_natCast, List.getD_eq_getElem?_getD, hlk]; rfl
    refine Ex_daug (j := (cellsAt l k).getD (k % 5) 0) (V := .lst ((cellsAt l (k + 1)).map .int)) ok rfl (by simp) ?_ rfl ?_ (.inl ⟨rfl, rfl⟩) ?_ ?_
    · show ownGet _ (.int ((k : Int) % 5)) = _
      rw [hk5]
      rw [ownGet_lst, if_pos (by omega), Int.toNat_natCast, List.getElem?_map, List.getD_eq_getElem?_getD, List.getElem?_eq_getElem (by omega)]; rfl
    · refine ⟨⟨trivial, trivial, by omega, by omega, ?_⟩, ⟨trivial, trivial, by decide, by decide +kernel⟩, by decide⟩
      rw [hgd, Int.toNat_natCast, hlk]; rfl
    · show ownSet _ (.int ((k : Int) % 5)) (.int (_ + getI ((l.map AV.int).getD ((k : Int)).toNat .none) % 10 ^ (6 : Int).toNat)) = _
      rw [hgd, hk5]
      rw [ownSet_lst, if_pos (by rw [List.length_map]; omega), Int.toNat_natCast, cellsAt, List.map_set]
      rfl
    · exact Ex_nil ⟨k + 1, _, by omega, rfl, rfl, rfl⟩
  · rintro ρ own ⟨k, o, hk, hr, rfl, rfl⟩
    rcases (by omega : (k : Int) < l.length ∨ (l.length : Int) ≤ k) with hlt | hge
    · rw [rangeL_cons hlt] at hr; cases hr
    · refine Ex_frz ok id ?_
      refine Ex_ret ok rfl (by simp) ?_
      rw [show k = l.length by omega]
end
end NC
end Mine
namespace Mine
noncomputable section NC
section
variable {b : Base}
theorem gs_0 : gsAll[0]? = some (dName 1) := by decide +kernel
theorem nd_1 : (ps_post_parse_validation ++ ls_post_parse_validation).Nodup := by decide +kernel
noncomputable def postF (p : Int × Str) : AV := bif Txt.contains p.2 (Str.ofString "[") then .tup [.str (Str.ofString ""), .str (Str.ofString "")] else .tup [.int p.1, .str p.2]
theorem fn_post (hb : BOk b) (n : Nat) (ps : List (Int × Str)) (hl : ps.length ≤ 1000) : FnOk b.c0 (n + 1) 0 [.lst (ps.map fun p => .tup [.int p.1, .str p.2])] (.lst (ps.map postF)) := by
  obtain ⟨f, D⟩ := hb.d 1 (by simp)
  refine FnOk_of (ps := ps_post_parse_validation) (rest := ls_post_parse_validation) (ms := ms_post_parse_validation) (F := noF) (X := XW) (xs := xsW) hb.w ys0 zsW gs_0 D (bind1 fun _ _ _ _ => by with_unfolding_all rfl) rfl (by decide +kernel) (by decide +kernel) chk_post_parse_validation ?_
    (by decide +kernel) (by decide +kernel) (by decide +kernel)
  intro env s₀ X0
  have ok : SxOk ⟨b.cx n noF XW xsW, env, ps_post_parse_validation ++ ls_post_parse_validation, kdOf (dSc 1), s₀, X0, fun _ => False, ys0, zsW⟩ := ⟨cxok0 hb n, nd_1⟩
  unfold ms_post_parse_validation
  refine Ex_new ok fun a => ?_
  refine Ex_for ok (fun ie te _ hi => hit_val ok rfl trivial ie te hi)
    (fun rest ρ own => ∃ (dn rs : List (Int × Str)) (o : Option AV), ps = dn ++ rs ∧ rest = rs.map (fun p => .tup [.int p.1, .str p.2]) ∧ own = some (1, a, .lst (dn.map postF)) ∧ ρ = [some (.lst (ps.map fun p => .tup [.int p.1, .str p.2])), none, o]) ?_ ?_ ?_
  · exact ⟨[], ps, none, rfl, rfl, rfl, rfl⟩
  · rintro d rest ρ own ⟨dn, rs, o, hp, hr, rfl, rfl⟩
    rcases rs with _ | ⟨⟨k, y⟩, rs⟩
    · cases hr
    rw [List.map_cons] at hr
    injection hr with r1 r2
    subst r1; subst r2
    have hdl : dn.length ≤ 1000 := by have := congrArg List.length hp; simp at this; omega
    refine ⟨_, rfl, by simp [Tg.names], ?_⟩
    have fin : ∀ v, v = postF (k, y) → Ex ⟨b.cx n noF XW xsW, env, ps_post_parse_validation ++ ls_post_parse_validation, kdOf (dSc 1), s₀, X0, fun _ => False, ys0, zsW⟩ [.app 1 (.var 2)]
        [some (.lst (ps.map fun p => .tup [.int p.1, .str p.2])), none, some v] (some (1, a, .lst (dn.map postF)))
        (fun o ρ' own' => o = .next ∧ own' = some (1, a, .lst ((dn ++ [(k, y)]).map postF)) ∧ ∃ o', ρ' = [some (.lst (ps.map fun p => .tup [.int p.1, .str p.2])), none, o']) := fun v hv => by
      refine Ex_app ok rfl trivial (by rw [List.length_map]; omega) ?_
      refine Ex_nil ⟨rfl, ?_, _, rfl⟩
      rw [List.map_append, hv, List.map_cons, List.map_nil]
    refine Ex_ite ok rfl (by simp [getS]) rfl trivial (fun ht => ?_) (fun hf => ?_)
    · refine Ex_asg ok rfl (by simp) (by simp) ?_
      refine Ex_nil ((fin _ ?_).mono fun o ρ' own' ⟨h1, h2, o', h3⟩ => by subst h1; exact ⟨dn ++ [(k, y)], rs, o', by rw [hp]; simp, rfl, h2, h3⟩)
      unfold postF
      rw [show Txt.contains y (Str.ofString "[") = true from ht]; rfl
    · refine Ex_nil ((fin _ ?_).mono fun o ρ' own' ⟨h1, h2, o', h3⟩ => by subst h1; exact ⟨dn ++ [(k, y)], rs, o', by rw [hp]; simp, rfl, h2, h3⟩)
      unfold postF
      rw [show Txt.contains y (Str.ofString "[") = false from hf]; rfl
  · rintro ρ own ⟨dn, rs, o, hp, hr, rfl, rfl⟩
    rcases rs with _ | ⟨q, rs⟩
    · refine Ex_frz ok id ?_
      refine Ex_ret ok rfl (by simp) ?_
      rw [hp, List.append_nil]
    · cases hr
theorem gs_9 : gsAll[9]? = some (dName 15) := by decide +kernel
theorem nd_15 : (ps_count_calls ++ ls_count_calls).Nodup := by decide +kernel
theorem fn_count (hb : BOk b) (n : Nat) (l : List (Str × Int)) : FnOk b.c0 (n + 1) 9 [.dS l] (.int (l.map (·.2)).sum) := by
  obtain ⟨f, D⟩ := hb.d 15 (by simp)
  refine FnOk_of (ps := ps_count_calls) (rest := ls_count_calls) (ms := ms_count_calls) (F := noF) (X := XW) (xs := xsW) hb.w ys0 zsW gs_9 D (bind1 fun _ _ _ _ => by with_unfolding_all rfl) rfl (by decide +kernel) (by decide +kernel) chk_count_calls ?_
    (by decide +kernel) (by decide +kernel) (by decide +kernel)
  intro env s₀ X0
  have ok : SxOk ⟨b.cx n noF XW xsW, env, ps_count_calls ++ ls_count_calls, kdOf (dSc 15), s₀, X0, fun _ => False, ys0, zsW⟩ := ⟨cxok0 hb n, nd_15⟩
  unfold ms_count_calls
  refine Ex_asg ok rfl trivial (by simp) ?_
  refine Ex_for ok (fun ie te _ hi => hit_values ok rfl (dictRep_S _ l) rfl trivial ie te hi)
    (fun rest ρ own => ∃ (dn rs : List (Str × Int)) (o : Option AV), l = dn ++ rs ∧ rest = rs.map (fun p => .int p.2) ∧ own = none ∧ ρ = [some (.dS l), some (.int (dn.map (·.2)).sum), o]) ?_ ?_ ?_
  · exact ⟨[], l, none, rfl, rfl, rfl, rfl⟩
  · rintro d rest ρ own ⟨dn, rs, o, hp, hr, rfl, rfl⟩
    rcases rs with _ | ⟨⟨k, y⟩, rs⟩
    · cases hr
    rw [List.map_cons] at hr
    injection hr with r1 r2
    subst r1; subst r2
    refine ⟨_, rfl, by simp, ?_⟩
    refine Ex_aug ok rfl rfl trivial rfl trivial (.inl rfl) ⟨_, rfl⟩ (by simp) ?_
    refine Ex_nil ⟨dn ++ [(k, y)], rs, some (.int y), by rw [hp]; simp, rfl, rfl, ?_⟩
    rw [List.map_append, List.sum_append]
    simp
  · rintro ρ own ⟨dn, rs, o, hp, hr, rfl, rfl⟩
    rcases rs with _ | ⟨q, rs⟩
    · refine Ex_ret ok rfl (by simp) ?_
      rw [hp, List.append_nil]
    · cases hr
theorem gs_3 : gsAll[3]? = some (dName 5) := by decide +kernel
theorem nd_5 : (ps_div2n1n ++ ls_div2n1n).Nodup := by decide +kernel
theorem fn_div2 (hb : BOk b) (n : Nat) {x y k : Int} (h1 : (Builtin.Int.intBits x : Int) - k ≤ 4000) (h2 : 0 < y) (h3 : y < 2 ^ 64) : FnOk b.c0 (n + 1) 3 [.int x, .int y, .int k] (.tup [.int (x / y), .int (x % y)]) := by
  obtain ⟨f, D⟩ := hb.d 5 (by simp)
  refine FnOk_of (ps := ps_div2n1n) (rest := ls_div2n1n) (ms := ms_div2n1n) (F := noF) (X := XW) (xs := xsW) hb.w ys0 zsW gs_3 D (bind3 fun _ _ _ _ _ _ => by with_unfolding_all rfl) rfl (by decide +kernel) (by decide +kernel) chk_div2n1n ?_
    (by decide +kernel) (by decide +kernel) (by decide +kernel)
  intro env s₀ X0
  have ok : SxOk ⟨b.cx n noF XW xsW, env, ps_div2n1n ++ ls_div2n1n, kdOf (dSc 5), s₀, X0, fun _ => False, ys0, zsW⟩ := ⟨cxok0 hb n, nd_5⟩
  unfold ms_div2n1n
  refine Ex_ite ok rfl (by simp) rfl trivial (fun ht => ?_) (fun hf => ?_)
  · refine Ex_ret ok rfl ?_ ?_
    · exact ⟨⟨trivial, trivial, trivial⟩, h2, h3⟩
    · rfl
  · rw [decide_eq_false_iff_not] at hf
    exact absurd h1 hf
end
end NC
end Mine
namespace Mine
noncomputable section NC
section
variable {K : Type} [DecidableEq K]
noncomputable def copyL (l : List (K × Int)) : List (K × Int) := l.foldl (fun acc p => storeL acc p.1 p.2) []
noncomputable def addL (t s : List (K × Int)) : List (K × Int) := s.foldl (fun acc p => storeL acc p.1 ((getL acc p.1).getD 0 + p.2)) t
theorem storeL_len (l : List (K × Int)) (k : K) (v : Int) : (storeL l k v).length ≤ l.length + 1 := by
  unfold storeL; split <;> simp
theorem copyL_snoc (l : List (K × Int)) (p : K × Int) : copyL (l ++ [p]) = storeL (copyL l) p.1 p.2 := by
  unfold copyL; rw [List.foldl_append]; rfl
theorem addL_snoc (t s : List (K × Int)) (p : K × Int) : addL t (s ++ [p]) = storeL (addL t s) p.1 ((getL (addL t s) p.1).getD 0 + p.2) := by
  unfold addL; rw [List.foldl_append]; rfl
theorem fold_len (f : List (K × Int) → K × Int → Int) : ∀ (s t : List (K × Int)), (s.foldl (fun acc p => storeL acc p.1 (f acc p)) t).length ≤ t.length + s.length
  | [], t => by simp
  | p :: s, t => by
    rw [List.foldl_cons, List.length_cons]
    have := fold_len f s (storeL t p.1 (f t p))
    have := storeL_len t p.1 (f t p)
    omega
theorem copyL_len (s : List (K × Int)) : (copyL s).length ≤ s.length := by
  have := fold_len (fun _ p => p.2) s []
  simpa [copyL] using this
theorem addL_len (t s : List (K × Int)) : (addL t s).length ≤ t.length + s.length := fold_len (fun acc p => (getL acc p.1).getD 0 + p.2) s t
end
section
variable {b : Base}
theorem gs_8 : gsAll[8]? = some (dName 14) := by decide +kernel
theorem nd_14 : (ps_add_callers ++ ls_add_callers).Nodup := by decide +kernel
theorem fn_callersK (hb : BOk b) (n : Nat) {K : Type} [DecidableEq K] (KB : Bool) {knd : KeyKind b.P b.w K} (enc : K → AV) (mk : List (K × Int) → AV) (henc : ∀ X h k v, knd.is k v = true → Mine.Rep b.P b.w b.CC X h v (enc k))
    (hD : ∀ l, DictRep (b.cx n noF XW xsW) knd (mk l) l) (h0 : (bif KB then AV.dS [] else .dI []) = mk []) (hset : ∀ l k v, ownSet (mk l) (enc k) (.int v) = if l.length ≤ 1000 then some (mk (storeL l k v)) else none)
    (hget : ∀ l k, ownGet (mk l) (enc k) = (getL l k).map .int) (hin : ∀ l k, ownIn (mk l) (enc k) = some (getL l k).isSome) (t s : List (K × Int)) (hl : t.length + s.length ≤ 900) : FnOk b.c0 (n + 1) 8 [mk t, mk s] (mk (addL (copyL t) s)) := by
  obtain ⟨f, D⟩ := hb.d 14 (by simp)
  refine FnOk_of (ps := ps_add_callers) (rest := ls_add_callers) (ms := ms_add_callers KB) (F := noF) (X := XW) (xs := xsW) hb.w ys0 zsW gs_8 D (bind2 fun _ _ _ _ _ => by with_unfolding_all rfl) rfl (by decide +kernel) (by decide +kernel) (chk_add_callers KB) ?_
    (by decide +kernel) (by decide +kernel) (by decide +kernel)
  intro env s₀ X0
  have ok : SxOk ⟨b.cx n noF XW xsW, env, ps_add_callers ++ ls_add_callers, kdOf (dSc 14), s₀, X0, fun _ => False, ys0, zsW⟩ := ⟨cxok0 hb n, nd_14⟩
  unfold ms_add_callers
  refine Ex_newD ok fun a => ?_
  rw [h0]
  have hlc := copyL_len t
  refine Ex_for ok (fun ie te hg hi => hit_items ok rfl (e := .var 0) (D := mk t) enc henc (hD t) rfl trivial ie te hg hi)
    (fun rest ρ own => ∃ (dn rs : List (K × Int)) (o1 o2 : Option AV), t = dn ++ rs ∧ rest = rs.map (fun p => .tup [enc p.1, .int p.2]) ∧ own = some (2, a, mk (copyL dn)) ∧ ρ = [some (mk t), some (mk s), none, o1, o2]) ?_ ?_ ?_
  · exact ⟨[], t, none, none, rfl, rfl, rfl, rfl⟩
  · rintro d rest ρ own ⟨dn, rs, o1, o2, hp, hr, rfl, rfl⟩
    rcases rs with _ | ⟨⟨k, y⟩, rs⟩
    · cases hr
    rw [List.map_cons] at hr
    injection hr with r1 r2
    subst r1; subst r2
    have hdl := congrArg List.length hp
    have hcl := copyL_len dn
    rw [List.length_append] at hdl
    refine ⟨_, rfl, by simp [Tg.names], ?_⟩
    refine Ex_dset (V := mk (copyL (dn ++ [(k, y)]))) ok rfl trivial rfl trivial ?_ ?_
    · show ownSet (mk (copyL dn)) (enc k) (.int y) = _
      rw [hset, if_pos (by omega), copyL_snoc]
    · exact Ex_nil ⟨dn ++ [(k, y)], rs, some (enc k), some (.int y), by rw [hp]; simp, rfl, rfl, rfl⟩
  rintro ρ own ⟨dn, rs, o1, o2, hp, hr, rfl, rfl⟩
  rcases rs with _ | ⟨q, rs⟩
  case cons => cases hr
  rw [List.append_nil] at hp
  subst hp
  refine Ex_for ok (fun ie te hg hi => hit_items ok rfl (e := .var 1) (D := mk s) enc henc (hD s) rfl trivial ie te hg hi)
    (fun rest ρ own => ∃ (dn rs : List (K × Int)) (o1 o2 : Option AV), s = dn ++ rs ∧ rest = rs.map (fun p => .tup [enc p.1, .int p.2]) ∧ own = some (2, a, mk (addL (copyL t) dn)) ∧ ρ = [some (mk t), some (mk s), none, o1, o2]) ?_ ?_ ?_
  · exact ⟨[], s, o1, o2, rfl, rfl, rfl, rfl⟩
  · rintro d rest ρ own ⟨dn, rs, o1, o2, hp, hr, rfl, rfl⟩
    rcases rs with _ | ⟨⟨k, y⟩, rs⟩
    · cases hr
    rw [List.map_cons] at hr
    injection hr with r1 r2
    subst r1; subst r2
    have hdl := congrArg List.length hp
    have hcl := addL_len (copyL t) dn
    rw [List.length_append] at hdl
    have fin : Ex ⟨b.cx n noF XW xsW, env, ps_add_callers ++ ls_add_callers, kdOf (dSc 14), s₀, X0, fun _ => False, ys0, zsW⟩ [] [some (mk t), some (mk s), none, some (enc k), some (.int y)] (some (2, a, mk (addL (copyL t) (dn ++ [(k, y)]))))
        (fun o ρ' own' => o = .next ∧ own' = some (2, a, mk (addL (copyL t) (dn ++ [(k, y)]))) ∧ ρ' = [some (mk t), some (mk s), none, some (enc k), some (.int y)]) := Ex_nil ⟨rfl, rfl, rfl⟩
    refine ⟨_, rfl, by simp [Tg.names], ?_⟩
    refine Ex_ifin ok rfl trivial (hin _ k) (fun hk => ?_) (fun hk => ?_)
    · refine Ex_ite ok rfl (by exact ⟨⟨trivial, trivial⟩, trivial⟩) rfl trivial (fun h => by cases h) (fun _ => ?_)
      have hj := isSome_getD hk
      refine Ex_daug (j := (getL (addL (copyL t) dn) k).getD 0) (V := mk (addL (copyL t) (dn ++ [(k, y)]))) ok rfl trivial ?_ rfl trivial (.inl ⟨rfl, rfl⟩) ?_ ?_
      · show ownGet (mk _) (enc k) = _
        rw [hget, hj]; rfl
      · show ownSet (mk _) (enc k) (.int _) = _
        rw [hset, if_pos (by omega), addL_snoc]
      · refine Ex_nil (Ex_nil (Ex_nil ⟨dn ++ [(k, y)], rs, some (enc k), some (.int y), by rw [hp]; simp, rfl, rfl, rfl⟩))
    · refine Ex_dset (V := mk (addL (copyL t) (dn ++ [(k, y)]))) ok rfl trivial rfl trivial ?_ ?_
      · show ownSet (mk _) (enc k) (.int y) = _
        have : getL (addL (copyL t) dn) k = none := by
          cases q : getL (addL (copyL t) dn) k with
          | none => rfl
          | some _ => rw [q] at hk; cases hk
        rw [hset, if_pos (by omega), addL_snoc, this]
        simp
      · refine Ex_nil (Ex_nil ⟨dn ++ [(k, y)], rs, some (enc k), some (.int y), by rw [hp]; simp, rfl, rfl, rfl⟩)
  · rintro ρ own ⟨dn, rs, o1, o2, hp, hr, rfl, rfl⟩
    rcases rs with _ | ⟨q, rs⟩
    · refine Ex_frz ok id ?_
      refine Ex_ret ok rfl trivial ?_
      rw [hp, List.append_nil]
    · cases hr
theorem fn_callersI (hb : BOk b) (n : Nat) (t s : List (Int × Int)) (hl : t.length + s.length ≤ 900) : FnOk b.c0 (n + 1) 8 [.dI t, .dI s] (.dI (addL (copyL t) s)) :=
  fn_callersK hb n false (knd := intKind b.P b.w) .int .dI (enc_int (b.cx n noF XW xsW)) (dictRep_I _) rfl (fun _ _ _ => rfl) (fun _ _ => rfl) (fun _ _ => rfl) t s hl
theorem fn_callersS (hb : BOk b) (n : Nat) (t s : List (Str × Int)) (hl : t.length + s.length ≤ 900) : FnOk b.c0 (n + 1) 8 [.dS t, .dS s] (.dS (addL (copyL t) s)) :=
  fn_callersK hb n true (knd := PySem.strKind b.P b.w) .str .dS (enc_str (b.cx n noF XW xsW)) (dictRep_S _) rfl (fun _ _ _ => rfl) (fun _ _ => rfl) (fun _ _ => rfl) t s hl
theorem gs_7 : gsAll[7]? = some (dName 13) := by decide +kernel
theorem nd_13 : (ps_add_func_stats ++ ls_add_func_stats).Nodup := by decide +kernel
noncomputable def F8 (k : Nat) (ds : List AV) : AP := bif k == 8 then (k2 none ds fun a b => oDI a fun t => oDI b fun s => some (.dI (addL (copyL t) s), t.length + s.length ≤ 900)) else none
theorem F8_ok (hb : BOk b) (n : Nat) : ∀ k ds d C, F8 k ds = some (d, C) → C → FnOk b.c0 (n + 1) k ds d := fun k ds d C h => row_k h (fun h => k2_k oN h fun a b h => oDI_k h fun t h => oDI_k h fun s h => some_k h fun hC => fn_callersI hb n t s hC) fun h => absurd h oN
theorem fn_addfs (hb : BOk b) (n : Nat) {a1 a2 a3 a4 c1 c2 c3 c4 : Int} {t s : List (Int × Int)} (hl : t.length + s.length ≤ 900) :
    FnOk b.c0 (n + 2) 7 [.tup [.int a1, .int a2, .int a3, .int a4, .dI t], .tup [.int c1, .int c2, .int c3, .int c4, .dI s]] (.tup [.int (c1 + a1), .int (c2 + a2), .int (c3 + a3), .int (c4 + a4), .dI (addL (copyL t) s)]) := by
  obtain ⟨f, D⟩ := hb.d 13 (by simp)
  refine FnOk_of (n := n + 1) (ps := ps_add_func_stats) (rest := ls_add_func_stats) (ms := ms_add_func_stats) (F := F8) (X := XW) (xs := xsW) hb.w ys0 zsW gs_7 D (bind2 fun _ _ _ _ _ => by with_unfolding_all rfl) rfl (by decide +kernel) (by decide +kernel) chk_add_func_stats ?_
    (by decide +kernel) (by decide +kernel) (by decide +kernel)
  intro env s₀ X0
  have ok : SxOk ⟨b.cx (n + 1) F8 XW xsW, env, ps_add_func_stats ++ ls_add_func_stats, kdOf (dSc 13), s₀, X0, fun _ => False, ys0, zsW⟩ := ⟨cxok hb (n + 1) F8 (F8_ok hb n), nd_13⟩
  unfold ms_add_func_stats
  refine Ex_upk (ds := [.int c1, .int c2, .int c3, .int c4, .dI s]) ok rfl trivial rfl (by simp) ?_
  refine Ex_upk (ds := [.int a1, .int a2, .int a3, .int a4, .dI t]) ok rfl trivial rfl (by simp) ?_
  show Ex _ _ [some (.tup [.int a1, .int a2, .int a3, .int a4, .dI t]), some (.tup [.int c1, .int c2, .int c3, .int c4, .dI s]), some (.int c1), some (.int c2), some (.int c3), some (.int c4), some (.dI s), some (.int a1), some (.int a2), some (.int a3), some (.int a4), some (.dI t)] none _
  refine Ex_ret ok rfl ?_ rfl
  simp
  exact hl
end
end NC
end Mine
namespace Mine
noncomputable section NC
/-- k digits of x, base 2 ^ N, the lowest first -/
noncomputable def digs (N : Nat) : Nat → Nat → List Int
  | 0, _ => []
  | k + 1, x => (x % 2 ^ N : Nat) :: digs N k (x / 2 ^ N)
theorem digs_len (N : Nat) : ∀ k x, (digs N k x).length = k
  | 0, _ => rfl
  | k + 1, x => by rw [digs, List.length_cons, digs_len]
theorem digs_add (N : Nat) : ∀ i j x, digs N (i + j) x = digs N i (x % 2 ^ (i * N)) ++ digs N j (x / 2 ^ (i * N))
  | 0, j, x => by simp [digs]
  | i + 1, j, x => by
    rw [show i + 1 + j = (i + j) + 1 by omega, digs, digs, List.cons_append, digs_add N i j]
    have e : 2 ^ ((i + 1) * N) = 2 ^ N * 2 ^ (i * N) := by rw [Nat.succ_mul, Nat.add_comm, Nat.pow_add]
    rw [e, Nat.mod_mul_right_div_self, Nat.div_div_eq_div_mul, Nat.mod_mul_right_mod]
theorem digs_small {N k x : Nat} (hx : x < 2 ^ N) (hk : k = 1) : digs N k x = [(x : Int)] := by
  subst hk
  rw [digs, digs, Nat.mod_eq_of_lt hx]
/-- the number that a list of digits is -/
noncomputable def valD (N : Nat) : List Int → Int
  | [] => 0
  | d :: r => d + 2 ^ N * valD N r
theorem valD_append (N : Nat) : ∀ (l m : List Int), valD N (l ++ m) = valD N l + 2 ^ (l.length * N) * valD N m
  | [], m => by simp [valD]
  | d :: l, m => by
    rw [List.cons_append, valD, valD, valD_append N l m, List.length_cons, Nat.succ_mul, Int.pow_add]
    rw [Int.mul_add, Int.mul_comm (2 ^ (l.length * N)) (2 ^ N), Int.mul_assoc]
    omega
theorem valD_digs (N : Nat) : ∀ k x, x < 2 ^ (k * N) → valD N (digs N k x) = x
  | 0, x, h => by
    rw [Nat.zero_mul] at h
    have : x = 0 := by simpa using h
    subst this; rfl
  | k + 1, x, h => by
    have hx : x / 2 ^ N < 2 ^ (k * N) := by
      rw [Nat.div_lt_iff_lt_mul (Nat.two_pow_pos N), ← Nat.pow_add]
      rwa [Nat.succ_mul] at h
    rw [digs, valD, valD_digs N k _ hx]
    have := Nat.mod_add_div x (2 ^ N)
    have e : ((2 ^ N : Nat) : Int) = (2 : Int) ^ N := by norm_cast
    rw [← e]
    exact_mod_cast this
theorem and_high (x k : Nat) : x &&& (x / 2 ^ k * 2 ^ k) = x / 2 ^ k * 2 ^ k := by
  apply Nat.eq_of_testBit_eq
  intro i
  rw [Nat.testBit_and, ← Nat.shiftLeft_eq, Nat.testBit_shiftLeft, ← Nat.shiftRight_eq_div_pow, Nat.testBit_shiftRight]
  by_cases h : i < k
  · simp [show ¬ k ≤ i by omega]
  · simp [show k ≤ i by omega, show k + (i - k) = i by omega]
theorem xor_low (x k : Nat) : PySem.Builtin.bitXor (x : Int) ((x / 2 ^ k * 2 ^ k : Nat) : Int) = ((x % 2 ^ k : Nat) : Int) := by
  rw [PyProof.Rows.bitXor_and]
  have e : PySem.Builtin.bitAnd (x : Int) ((x / 2 ^ k * 2 ^ k : Nat) : Int) = ((x &&& (x / 2 ^ k * 2 ^ k) : Nat) : Int) := rfl
  rw [e, and_high]
  have := Nat.div_add_mod x (2 ^ k)
  rw [Nat.mul_comm] at this
  omega
end NC
end Mine
namespace Mine
noncomputable section NC
noncomputable def nestAt (i j : Nat) : Str × Arguments × List Stmt × Scope × Pos := (dBody i)[j]?.elim (Str.empty, ⟨[], [], none, [], [], none, []⟩, [], ⟨.function, [], false, false, []⟩, ⟨0, 0, 0, 0⟩) fun st => (sFunctionDef st).elim (Str.empty, ⟨[], [], none, [], [], none, []⟩, [], ⟨.function, [], false, false, []⟩, ⟨0, 0, 0, 0⟩) fun q => (q.1, q.2.1, q.2.2.1, q.2.2.2.2.2.2.1, q.2.2.2.2.2.2.2.2.2)
noncomputable abbrev n1 := nestAt 7 1
noncomputable abbrev n2 := nestAt 8 0
/-- a call of inner -/
noncomputable def innC (st : Stmt) : Option (List Expr) := ksExpr none st fun e _ => kCall none e fun g es ks _ => kName none g fun n _ => bif ks.isEmpty && (n == Str.ofString "inner" && (!es.isEmpty && es.all plainE)) then some es else none
noncomputable def ysI (k : Nat) (_ : List Nat) (st : Stmt) : Option (List Expr) := bif k == 0 then innC st else bif k == 1 then ksReturn none st fun o _ => bif o.isNone then some [] else none else none
noncomputable def nm_inn1 : List Str := ["x", "L", "R", "mid", "shift", "upper", "lower", "a_digits", "n"].map Str.ofString
noncomputable def ms_inn1 : List MS := [
  .ite (.cmp .Eq (.bin .Add (.var 1) (.int 1)) (.var 2)) [
    .dset 7 (.var 1) (.var 0),
    .ext 1 [] []] [],
  .asg 3 (.bin .RShift (.bin .Add (.var 1) (.var 2)) (.int 1)),
  .asg 4 (.bin .Mult (.bin .Sub (.var 3) (.var 1)) (.var 8)),
  .asg 5 (.bin .RShift (.var 0) (.var 4)),
  .asg 6 (.bin .BitXor (.var 0) (.bin .LShift (.var 5) (.var 4))),
  .ext 0 [.var 6, .var 1, .var 3] [],
  .ext 0 [.var 5, .var 3, .var 2] []]
theorem chk_inn1 : chkSs nm_inn1 (kdOf n1.2.2.2.1) gsAll xsW ysI zsW ms_inn1 n1.2.2.1 = true := by decide +kernel
theorem nd_inn1 : nm_inn1.Nodup := by decide +kernel
/-- a closure's world: its cells, the function, its code -/
noncomputable def Base.clo (b : Base) (cells : List (Addr × Value)) (fi : Addr) (fo : Obj) (cc : Addr) (qual : Str) : Base :=
  { b with W := fun h => b.W h ∧ (∀ p ∈ cells, h.IsCell p.1 (some p.2)) ∧ h.get? fi = some fo ∧ h.CodeRec (.ref cc) qual, wd := fun a => b.wd a ∨ a ∈ cells.map (·.1) ∨ a = fi ∨ a = cc, xc := fun _ => False }
theorem clo_w {b : Base} (hw : WOk b.W b.wd b.xc b.mg b.mb) {cells : List (Addr × Value)} {fi : Addr} {fo : Obj} {cc : Addr} {qual : Str} :
    WOk (b.clo cells fi fo cc qual).W (b.clo cells fi fo cc qual).wd (b.clo cells fi fo cc qual).xc b.mg b.mb where
  stable := fun h h' ⟨w1, w2, w3, w4⟩ k => ⟨hw.stable h h' w1 fun b o q e => k b o (q.imp .inl id) e, fun p hp => IsCell.keep1 (w2 p hp) fun o e => k _ o (.inl (.inr (.inl (List.mem_map_of_mem hp)))) e, k _ _ (.inl (.inr (.inr (.inl rfl)))) w3, by
    obtain ⟨c, oc, vs, t, e1, e2, e3⟩ := w4
    cases e1
    exact ⟨_, oc, vs, t, rfl, k _ _ (.inl (.inr (.inr (.inr rfl)))) e2, e3⟩⟩
  alive := fun h a ⟨w1, w2, w3, w4⟩ q => by
    rcases q with q | q | rfl | rfl
    · exact hw.alive h a w1 q
    · obtain ⟨p, hp, rfl⟩ := List.mem_map.mp q
      obtain ⟨o, e, _⟩ := w2 p hp
      exact ⟨o, e⟩
    · exact ⟨_, w3⟩
    · obtain ⟨c, oc, vs, t, e1, e2, e3⟩ := w4
      cases e1
      exact ⟨_, e2⟩
  xcwd := fun _ q => q.elim
  glob := fun h w => hw.glob h w.1
  blt := fun h w => hw.blt h w.1
  nolim := fun h w => hw.nolim h w.1
  nodig := fun h w => hw.nodig h w.1
  bnames := hw.bnames
  nog := hw.nog
  sysm := .inl hw.sysm
  divl := hw.divl
section
variable {b : Base}
theorem cxok0' (hw : WOk b.W b.wd b.xc b.mg b.mb) (n : Nat) : CxOk (b.cx n noF XW xsW) :=
  ⟨hw, fun _ _ _ _ h => (by cases h), fun k e es gn h env names kd ρ ds d C hg hX hC he _ => xW_ok hw h hg hX hC he⟩
/-- inner writes the k digits of x from place L on -/
noncomputable def Inn1 (b : Base) (fi D : Addr) (N n L k x : Nat) : Prop :=
  ∀ (A : Around) (X : Addr → Prop) (s : Shared) (ds : List Int) (vs : List Value) (Q : Value → Shared → Prop), Room A n → b.W s.heap → XOk b.c0 X s → X D → ¬ b.wd D → OwnAt b.c0 X s.heap D (.lst (ds.map .int)) → ds.length ≤ 1000 → L + k ≤ ds.length →
    b.c0.Reps X s.heap vs [.int x, .int L, .int ((L + k : Nat) : Int)] →
    (∀ h' tk, (∀ c o, c ≠ D → s.heap.get? c = some o → h'.get? c = some o) → b.W h' → OwnAt b.c0 X h' D (.lst ((ds.take L ++ digs N k x ++ ds.drop (L + k)).map .int)) → Q .none { s with heap := h', toks := tk }) →
    wpAny b.c0.M A (call (.ref fi) vs) Q noE s
theorem clo_St {b : Base} (hw : WOk b.W b.wd b.xc b.mg b.mb) {n tk : Nat} {F X : Nat → List AV → AP} {xs : Nat → Expr → Option (List Expr × List Str)} {fd : FuncData} {fi : Addr} {sc : Scope} {cl : List (Str × Addr)} {nm ps : List Str} {s : Shared} {X0 xo : Addr → Prop} {vs : List Value} {ds : List AV} {ρ : Rho} {own : OwnO} {h₀ : Heap}
    (f1 : fd.scope = sc) (f2 : fd.globals = mainGlobals) (f3 : fd.builtins = builtinsNs) (f4 : fd.closure = cl) (f5 : sc.kind = .function)
    (W : b.W s.heap) (xk : XOk b.c0 X0 s) (hns : h₀.Ns s.heap.objs.size fun y => (ps.zip vs).reverse.lookup y) (hk : ∀ c o, s.heap.get? c = some o → h₀.get? c = some o)
    (hps : ∀ p ∈ ps, kdOf sc p = some .local) (nd : ps.Nodup) (hlen : vs.length = ps.length) (hr : b.c0.Reps X0 s.heap vs ds) (hpn : ∀ i y, nm[i]? = some y → i < ps.length → ps[i]? = some y) (hρ : ∀ i, i < ps.length → ρ[i]? = (ds[i]?).map some)
    (hnc : ∀ y, kdOf sc y ≠ some .cell) (hcl : ∀ y a, cl.lookup y = some a → ¬ b.xc a ∧ ∃ o, s.heap.get? a = some o) (hap : ∀ y z a, y ≠ z → cl.lookup y = some a → cl.lookup z ≠ some a)
    (hfree : ∀ i y d, nm[i]? = some y → ρ[i]? = some (some d) → ps.length ≤ i → kdOf sc y = some .free ∧ ∃ a v, cl.lookup y = some a ∧ s.heap.IsCell a (some v) ∧ b.c0.Rep X0 s.heap v d)
    (hxo : ∀ a, xo a → X0 a)
    (hown : ∀ i a d, own = some (i, a, d) → ∃ y ca, nm[i]? = some y ∧ kdOf sc y = some .free ∧ cl.lookup y = some ca ∧ s.heap.IsCell ca (some (.ref a)) ∧ X0 a ∧ ¬ b.wd a ∧ xo a ∧ (∀ z, cl.lookup z ≠ some a) ∧ OwnAt b.c0 X0 s.heap a d) :
    Mine.St (b.cx n F X xs) (callEnv fd s.heap.objs.size fi) nm (kdOf sc) xo s X0 (fun a => X0 a ∨ a = s.heap.objs.size) ρ own { s with heap := h₀, toks := tk } := by
  have hn := fresh_none s
  have nwd : ¬ b.wd s.heap.objs.size := fun q => by obtain ⟨o, z⟩ := hw.alive _ _ W q; rw [hn] at z; cases z
  have W1 : b.W h₀ := hw.stable _ _ W fun c o _ e => hk c o e
  have e0 : (callEnv fd s.heap.objs.size fi).locals = s.heap.objs.size := rfl
  have ec : (callEnv fd s.heap.objs.size fi).cells = cl := f4
  have ek : ∀ y, (callEnv fd s.heap.objs.size fi).kindOf y = kdOf sc y := fun y => by
    show List.lookup y fd.scope.names = _
    rw [f1]; rfl
  have kx : ∀ c o, (X0 c ∨ c = s.heap.objs.size) → s.heap.get? c = some o → X0 c := fun c o q e => by
    rcases q with q | rfl
    · exact q
    · rw [hn] at e; cases e
  have rp : ∀ {v d}, b.c0.Rep X0 s.heap v d → b.c0.Rep (fun a => X0 a ∨ a = s.heap.objs.size) h₀ v d := fun r => r.mono (fun c o _ e => hk c o e) kx
  have nx0 : ¬ X0 s.heap.objs.size := fun q => by
    rcases xk.lt _ q with z | ⟨o, z⟩
    · exact nwd (hw.xcwd _ z)
    · rw [hn] at z; cases z
  have nsA : ∃ o, h₀.get? s.heap.objs.size = some o := by obtain ⟨o, _, _, q, _⟩ := hns; exact ⟨o, q⟩
  have hlk : ∀ i y v, ps[i]? = some y → vs[i]? = some v → (ps.zip vs).reverse.lookup y = some v := fun i y v h1 h2 => by
    have key : ∀ (l : List (Str × Value)), (l.map (·.1)).Nodup → (y, v) ∈ l → l.lookup y = some v := fun l => by
      induction l with
      | nil => intro _ q; cases q
      | cons p r ih =>
        intro nd q
        rw [List.map_cons, List.nodup_cons] at nd
        rw [List.lookup_cons]
        rcases List.mem_cons.mp q with rfl | q
        · simp
        · have : (y == p.1) = false := by
            rw [beq_eq_false_iff_ne]
            rintro rfl
            exact nd.1 (List.mem_map.mpr ⟨_, q, rfl⟩)
          rw [this]
          exact ih nd.2 q
    refine key _ ?_ ?_
    · rw [List.map_reverse, List.map_fst_zip (by omega)]
      exact List.pairwise_reverse.mpr (nd.imp fun h => Ne.symm h)
    · rw [List.mem_reverse]
      have : (ps.zip vs)[i]? = some (y, v) := List.getElem?_zip_eq_some.mpr ⟨h1, h2⟩
      exact List.mem_of_getElem? (i := i) this
  refine ⟨⟨by show fd.scope.kind = _; rw [f1]; exact f5, f2, f3, fun y h => (ek y).trans h, W1, ⟨fun a ha => .inl (xk.xc a ha), fun a ha => ?_⟩, ⟨fun q => nwd (hw.xcwd _ q), fun y a ha => (hcl y a (ec ▸ ha)).1⟩, ⟨nsA, fun y a ha => ?_⟩, fun i y d hi hd => ?_⟩,
    ⟨⟨_, _, rfl⟩, fun c o _ e => hk c o e, fun _ => W1⟩, hxo, fun a h => .inl h, ek, ⟨hn, .inr rfl, nwd⟩, ⟨_, hns⟩, fun y hy => absurd hy (hnc y), fun y z a hyz h1 h2 => hap y z a hyz (ec ▸ h1) (ec ▸ h2), fun a h => xk.lt a h, fun i a d ho => ?_⟩
  · rcases ha with ha | rfl
    · rcases xk.lt a ha with q | ⟨o, q⟩
      · exact .inl q
      · exact .inr ⟨o, hk a o q⟩
    · exact .inr nsA
  · obtain ⟨o, q⟩ := (hcl y a (ec ▸ ha)).2
    exact ⟨o, hk a o q⟩
  · rcases Nat.lt_or_ge i ps.length with hlt | hge
    · have hp := hpn i y hi hlt
      rw [hρ i hlt] at hd
      obtain ⟨d', hd', q⟩ := Option.map_eq_some_iff.mp hd
      cases q
      obtain ⟨v, hv, rv⟩ := hr.get hd'
      exact ⟨v, .inl ⟨(ek y).trans (hps y (List.mem_of_getElem? hp)), _, hns, hlk i y v hp hv⟩, rp rv⟩
    · obtain ⟨k1, a, v, k2, k3, k4⟩ := hfree i y d hi hd hge
      exact ⟨v, .inr ⟨.inr ((ek y).trans k1), a, ec ▸ k2, IsCell.keep1 k3 fun o e => hk _ _ e⟩, rp k4⟩
  · obtain ⟨y, ca, k1, k2, k3, k4, k5, k6, k7, k8, k9⟩ := hown i a d ho
    have hal := k9.alive
    refine ⟨y, k1, .inr ⟨.inr ((ek y).trans k2), ca, ec ▸ k3, IsCell.keep1 k4 fun o e => hk _ _ e⟩, .inl k5, k6, .inr k7, ⟨fun q => ?_, fun z => ec ▸ k8 z⟩, k9.mono (fun o e => hk _ _ e) (fun c o _ e => hk c o e) kx⟩
    rw [e0] at q
    exact nx0 (q ▸ k5)
end
end NC
end Mine
namespace Mine
noncomputable section NC
section
variable {x : Sx} {ρ : Rho} {own : OwnO} {Post : PostT} {ms : List MS}
@[elab_as_elim] theorem innC_k {st : Stmt} {es : List Expr} {M : Stmt → List Expr → Prop} (h : innC st = some es) (k : ∀ p l cpos pos, l ≠ [] → M (.Expr (.Call (.Name (Str.ofString "inner") p) l [] cpos) pos) l) : M st es :=
  ksExpr_k (M := fun st => M st es) oN h fun e pos h => kCall_k (M := fun e => M (.Expr e pos) es) oN h fun g l ks cpos h => kName_k (M := fun g => M (.Expr (.Call g l ks cpos) pos) es) oN h fun n p h => bif_k h fun hb h => emp_k (M := fun ks => M (.Expr (.Call (.Name n p) l ks cpos) pos) es) (and_t hb).1
    (beq_k (M := fun n => M (.Expr (.Call (.Name n p) l [] cpos) pos) es) (and_t (and_t hb).2).1 (Option.some.inj h ▸ k p l cpos pos fun q => by rw [q] at hb; exact absurd (and_t (and_t (and_t hb).2).2).1 fT))
theorem Ex_ret0 (ok : SxOk x) (hy : x.ys = ysI) (h : Post (.ret .none) ρ own) : Ex x (.ext 1 [] [] :: ms) ρ own Post :=
  Ex_cons fun st hs A s X R S => ext_k hs fun es he _ => ksReturn_k oN (show ksReturn none st (fun o _ => bif o.isNone then some [] else none) = some es from (congrFun (congrFun (congrFun hy 1) []) st).symm.trans he) fun o pos h2 => bif_k h2 fun hb _ => isn_k hb
    (wpAny_Return_none (.inr ⟨nofun, .ret .none, ρ, own, X, h, .none, S, .refl⟩))
/-- inner(..), which writes to the frame's own list -/
theorem Ex_inn (ok : SxOk x) (hy : x.ys = ysI) {i : Nat} {fi D : Addr} {d d' : AV} {l : List ME} {ds : List AV} {C : Prop} (hm : mevL x.c.F x.c.X ρ l = some (ds, C)) (hC : C)
    (hl : ∀ X s, x.St X ρ (some (i, D, d)) s → Ld x.env s.heap (Str.ofString "inner") (.ref fi)) (hf : ∀ h, x.c.W h → ∃ o fd, h.get? fi = some o ∧ o.data = .func fd)
    (hcall : ∀ (A : Around) (X : Addr → Prop) (s : Shared) (vs : List Value) (Q : Value → Shared → Prop), Room A x.c.n → x.c.W s.heap → XOk x.c X s → X D → ¬ x.c.wd D → OwnAt x.c X s.heap D d → x.c.Reps X s.heap vs ds →
      (∀ h' tk, (∀ c o, ¬ x.c.xc c → c ≠ D → s.heap.get? c = some o → h'.get? c = some o) → x.c.W h' → OwnAt x.c X h' D d' → Q .none { s with heap := h', toks := tk }) → wpAny x.c.M A (call (.ref fi) vs) Q noE s)
    (h : Ex x ms ρ (some (i, D, d')) Post) : Ex x (.ext 0 l [] :: ms) ρ (some (i, D, d)) Post :=
  Ex_cons fun st hs A s X R S => ext_k hs fun es he hes => innC_k (show innC st = some es from (congrFun (congrFun (congrFun hy 0) []) st).symm.trans he) (fun p es cpos pos hne hes =>
    wpAny_Expr_any (call_name R S.v x.c.W (fun Q hq => name_Ld S.v.fk (hl X s S) (by decide +kernel) hq) hf hne (soundL (env := x.env) ok.c l es ds C hes hm hC).1 fun vs s₁ e₁ r₁ =>
      have S1 := St.extS ok S e₁
      (S1.own i D d rfl).elim fun y o => ⟨S1.v.wd, hcall A X s₁ vs _ R S1.v.wd S1.v.x o.x o.nwd o.own r₁ fun h' tk hk W' o' =>
        have hu := St.ownUpd ok S1 (tk := tk) hk W' (fun c ⟨o, ho⟩ => (Decidable.em (c = D)).elim (fun q => q ▸ o'.alive) fun q => (Classical.em (x.c.xc c)).elim (fun q2 => ok.c.w.alive _ _ W' (ok.c.w.xcwd _ q2)) fun q2 => ⟨o, hk c o q2 q ho⟩) o'
        .inl ⟨rfl, ρ, _, X, hu.1, (Stp.ext ok.c.w e₁).trans S hu.2, h⟩⟩) (by unfold interactive; rw [S.v.fk]; rfl) rfl) hes
end
end NC
end Mine
namespace Mine
noncomputable section NC
noncomputable abbrev fo1 (qual : Str) (cl : List (Str × Addr)) (doc pm : Value) (cc : Addr) (ctv : Value) : Obj := fnMade (Str.ofString "inner") qual n1.2.1 n1.2.2.1 n1.2.2.2.1 cl doc pm cc ctv
noncomputable abbrev cl1 (cA cI cN : Addr) : List (Str × Addr) := [(Str.ofString "n", cN), (Str.ofString "inner", cI), (Str.ofString "a_digits", cA)]
noncomputable abbrev Base.clo1 (b : Base) (D fi cA cI cN cc : Addr) (N : Int) (t : Tok) (qual : Str) (doc pm ctv : Value) : Base :=
  b.clo [(cA, .ref D), (cI, .ref fi), (cN, .int N t)] fi (fo1 qual (cl1 cA cI cN) doc pm cc ctv) cc qual
theorem bind_inn1 (qual : Str) (cl : List (Str × Addr)) (doc pm : Value) (cc : Addr) (ctv v u t : Value) : bindArgs (fnX (Str.ofString "inner") qual n1.2.1 n1.2.2.1 n1.2.2.2.1 cl .none .none doc pm none (.ref cc) ctv) ⟨[v, u, t], []⟩ = pure [(Str.ofString "x", v), (Str.ofString "L", u), (Str.ofString "R", t)] := by
  with_unfolding_all rfl
theorem sc1_nocell : ∀ x ∈ n1.2.2.2.1.names, x.2 ≠ .cell := by decide +kernel
theorem kd1 : kdOf n1.2.2.2.1 (Str.ofString "a_digits") = some .free ∧ kdOf n1.2.2.2.1 (Str.ofString "n") = some .free ∧ kdOf n1.2.2.2.1 (Str.ofString "inner") = some .free := by decide +kernel
theorem loc1 : n1.2.2.2.1.names.lookup (Str.ofString "x") = some .local ∧ n1.2.2.2.1.names.lookup (Str.ofString "L") = some .local ∧ n1.2.2.2.1.names.lookup (Str.ofString "R") = some .local := by decide +kernel
theorem co1 : n1.2.2.2.1.isCoroutine = false ∧ n1.2.2.2.1.isGenerator = false ∧ n1.2.2.2.1.kind = .function := by decide +kernel
theorem ps1_nd : ([Str.ofString "x", Str.ofString "L", Str.ofString "R"] : List Str).Nodup := by decide +kernel
theorem kd1_nc (y : Str) : kdOf n1.2.2.2.1 y ≠ some .cell := fun h => by
  have : ∀ (l : List (Str × NameKind)), (∀ x ∈ l, x.2 ≠ .cell) → l.lookup y ≠ some .cell := fun l => by
    induction l with
    | nil => intro _ q; cases q
    | cons p r ih =>
      intro hl q
      obtain ⟨a, k⟩ := p
      rw [List.lookup_cons] at q
      split at q
      · cases q; exact hl (a, .cell) List.mem_cons_self rfl
      · exact ih (fun x hx => hl x (List.mem_cons_of_mem _ hx)) q
  exact this _ sc1_nocell h
theorem ints_own {c : Cx} {X X' : Addr → Prop} {h : Heap} {a : Addr} {l : List Int} (o : OwnAt c X h a (.lst (l.map .int))) : OwnAt c X' h a (.lst (l.map .int)) := by
  obtain ⟨vs, p, r⟩ := o
  exact ⟨vs, p, Reps.of_ints r.ints⟩
section
variable {b : Base}
set_option maxHeartbeats 4000000 in
theorem inn1_abs {B : Base} (hwB : WOk B.W B.wd B.xc B.mg B.mb) (hxc : ∀ a, ¬ B.xc a) {D fi cA cI cN cc : Addr} {N : Nat} {t : Tok} {qual : Str} {doc pm ctv : Value}
    (hB : ∀ h, B.W h → h.IsCell cA (some (.ref D)) ∧ h.IsCell cI (some (.ref fi)) ∧ h.IsCell cN (some (.int (N : Int) t)) ∧ h.get? fi = some (fo1 qual (cl1 cA cI cN) doc pm cc ctv) ∧ h.CodeRec (.ref cc) qual) (d1 : cA ≠ cI) (d2 : cA ≠ cN) (d3 : cI ≠ cN) (e1 : D ≠ cA) (e2 : D ≠ cI) (e3 : D ≠ cN) :
    ∀ m k, k ≤ m → 0 < k → k * N ≤ 60 → ∀ L x, x < 2 ^ (k * N) → Inn1 B fi D N k L k x := by
  intro m
  induction m with
  | zero => intro k h1 h2; omega
  | succ m ih =>
    intro k hkm hk0 hkN L x hx A X s ds vs Q R W xk hXD hwD hO hdl hLk hr hq
    obtain ⟨k', rfl⟩ : ∃ k', k = k' + 1 := ⟨k - 1, by omega⟩
    have W0 := W
    obtain ⟨cA', cI', cN', w3, w4⟩ := hB _ W
    have hlk1 : (cl1 cA cI cN).lookup (Str.ofString "a_digits") = some cA := rfl
    have hlk2 : (cl1 cA cI cN).lookup (Str.ofString "inner") = some cI := rfl
    have hlk3 : (cl1 cA cI cN).lookup (Str.ofString "n") = some cN := rfl
    have hmem : ∀ y a, (cl1 cA cI cN).lookup y = some a → (y = Str.ofString "n" ∧ a = cN) ∨ (y = Str.ofString "inner" ∧ a = cI) ∨ (y = Str.ofString "a_digits" ∧ a = cA) := fun y a h => by
      have := mem_of_lookup h
      simpa using this
    have hvl := hr.length
    rcases vs with _ | ⟨v1, _ | ⟨v2, _ | ⟨v3, _ | ⟨v4, vs⟩⟩⟩⟩ <;> first | (simp at hvl; done) | skip
    refine wpAny_call (codeAny_call_def (fd := fnX (Str.ofString "inner") qual n1.2.1 n1.2.2.1 n1.2.2.2.1 (cl1 cA cI cN) .none .none doc pm none (.ref cc) ctv) (body := n1.2.2.1) (by have := R.dp; omega) w3 rfl (hwB.nolim _ W0) w4 rfl
      (BindsTo.of_eq (bind_inn1 ..)) sc1_nocell (fun p hp => ?_) (fun h₀ hns hk => ?_) co1.1 co1.2.1 co1.2.2)
    · simp only [List.mem_cons, List.not_mem_nil, or_false] at hp
      rcases hp with rfl | rfl | rfl
      · exact loc1.1
      · exact loc1.2.1
      · exact loc1.2.2
    generalize hfd : fnX (Str.ofString "inner") qual n1.2.1 n1.2.2.1 n1.2.2.2.1 (cl1 cA cI cN) .none .none doc pm none (.ref cc) ctv = fd
    have f1 : fd.scope = n1.2.2.2.1 := by rw [← hfd]
    have f2 : fd.globals = mainGlobals := by rw [← hfd]
    have f3 : fd.builtins = builtinsNs := by rw [← hfd]
    have f4 : fd.closure = cl1 cA cI cN := by rw [← hfd]
    have S0 := clo_St (n := k') (tk := s.toks + 3) (F := noF) (X := XW) (xs := xsW) (nm := nm_inn1) (ps := [Str.ofString "x", Str.ofString "L", Str.ofString "R"]) (xo := fun a => a = D) (vs := [v1, v2, v3])
      (ρ := [some (.int x), some (.int L), some (.int ((L + (k' + 1) : Nat) : Int)), none, none, none, none, none, some (.int N)]) (own := some (7, D, .lst (ds.map .int))) (fi := fi) hwB f1 f2 f3 f4 co1.2.2 W0 xk hns hk ?_ ps1_nd rfl hr ?_ ?_ kd1_nc ?_ ?_ ?_ ?_ ?_
    rotate_left
    · intro p hp
      simp only [List.mem_cons, List.not_mem_nil, or_false] at hp
      rcases hp with rfl | rfl | rfl
      · exact loc1.1
      · exact loc1.2.1
      · exact loc1.2.2
    · intro i y hi hlt
      rcases i with _ | _ | _ | i <;> first | exact hi | (simp at hlt; omega)
    · intro i hlt
      rcases i with _ | _ | _ | i <;> first | rfl | (simp at hlt; omega)
    · intro y a h
      refine ⟨hxc a, ?_⟩
      rcases hmem y a h with ⟨rfl, rfl⟩ | ⟨rfl, rfl⟩ | ⟨rfl, rfl⟩
      · obtain ⟨o, q, _⟩ := cN'; exact ⟨o, q⟩
      · obtain ⟨o, q, _⟩ := cI'; exact ⟨o, q⟩
      · obtain ⟨o, q, _⟩ := cA'; exact ⟨o, q⟩
    · intro y z a hyz h1 h2
      rcases hmem y a h1 with ⟨rfl, rfl⟩ | ⟨rfl, rfl⟩ | ⟨rfl, rfl⟩ <;> rcases hmem z _ h2 with ⟨rfl, q⟩ | ⟨rfl, q⟩ | ⟨rfl, q⟩ <;> first | exact hyz rfl | (exact absurd q (by first | assumption | (apply Ne.symm; assumption)))
    · intro i y d hi hd hge
      rcases i with _ | _ | _ | _ | _ | _ | _ | _ | _ | i <;> first | (simp at hge; done) | (cases hd; done) | skip
      · cases hd
        cases hi
        exact ⟨kd1.2.1, cN, _, hlk3, cN', .int _ _⟩
    · rintro a rfl; exact hXD
    · intro i a d h
      cases h
      refine ⟨_, cA, rfl, kd1.1, hlk1, cA', hXD, hwD, rfl, fun z q => ?_, hO⟩
      rcases hmem z _ q with ⟨_, q2⟩ | ⟨_, q2⟩ | ⟨_, q2⟩
      · exact e3 q2
      · exact e2 q2
      · exact e1 q2
    have hN1 : 2 ^ ((k' + 1) * N) ≤ 2 ^ 60 := Nat.pow_le_pow_right (by decide) hkN
    -- the body
    have hex : ∀ ok : SxOk ⟨B.cx k' noF XW xsW, callEnv fd s.heap.objs.size fi, nm_inn1, kdOf n1.2.2.2.1, s, X, fun a => a = D, ysI, zsW⟩,
        Ex ⟨B.cx k' noF XW xsW, callEnv fd s.heap.objs.size fi, nm_inn1, kdOf n1.2.2.2.1, s, X, fun a => a = D, ysI, zsW⟩ ms_inn1
        [some (.int x), some (.int L), some (.int ((L + (k' + 1) : Nat) : Int)), none, none, none, none, none, some (.int N)] (some (7, D, .lst (ds.map .int)))
        (fun o _ own => (o = .next ∨ o = .ret .none) ∧ own = some (7, D, .lst ((ds.take L ++ digs N (k' + 1) x ++ ds.drop (L + (k' + 1))).map .int))) := fun ok => by
      unfold ms_inn1
      refine Ex_ite ok rfl (by simp) rfl trivial (fun ht => ?_) (fun hf => ?_)
      · rw [decide_eq_true_eq] at ht
        have hk1 : k' = 0 := by omega
        subst hk1
        refine Ex_dset (V := .lst ((ds.take L ++ digs N 1 x ++ ds.drop (L + 1)).map .int)) ok rfl trivial rfl trivial ?_ ?_
        · show ownSet _ (.int (L : Int)) (.int (x : Int)) = _
          rw [ownSet_lst, if_pos (by rw [List.length_map]; omega), Int.toNat_natCast, digs_small (by simpa using hx) rfl, List.set_eq_take_append_cons_drop, if_pos (by rw [List.length_map]; omega)]
          simp
        · exact Ex_ret0 ok rfl ⟨.inr rfl, rfl⟩
      · rw [decide_eq_false_iff_not] at hf
        refine Ex_nil ?_
        obtain ⟨i, j, hij, hi0, hj0, hid⟩ : ∃ i j : Nat, i + j = k' + 1 ∧ 0 < i ∧ 0 < j ∧ (L + (L + (k' + 1))) / 2 = L + i := ⟨(k' + 1) / 2, k' + 1 - (k' + 1) / 2, by omega, by omega, by omega, by omega⟩
        have hiN : i * N ≤ 60 := Nat.le_trans (Nat.mul_le_mul_right N (by omega)) hkN
        have hjN : j * N ≤ 60 := Nat.le_trans (Nat.mul_le_mul_right N (by omega)) hkN
        have hup : x / 2 ^ (i * N) < 2 ^ (j * N) := by
          rw [Nat.div_lt_iff_lt_mul (Nat.two_pow_pos _), ← Nat.pow_add, ← Nat.add_mul, Nat.add_comm j i, hij]; exact hx
        have hlo : x % 2 ^ (i * N) < 2 ^ (i * N) := Nat.mod_lt _ (Nat.two_pow_pos _)
        have hx60 : x < 2 ^ 60 := Nat.lt_of_lt_of_le hx hN1
        have hup60 : x / 2 ^ (i * N) ≤ x := Nat.div_le_self _ _
        refine Ex_asg ok rfl (by simp) (by simp) ?_
        rw [show ((L : Int) + ((L + (k' + 1) : Nat) : Int)) / 2 ^ (Int.toNat 1) = ((L + i : Nat) : Int) by
          have : (2 : Int) ^ (Int.toNat 1) = 2 := rfl
          rw [this]; omega]
        refine Ex_asg ok rfl (by simp; omega) (by simp) ?_
        rw [show (((L + i : Nat) : Int) - (L : Int)) * (N : Int) = ((i * N : Nat) : Int) by
          rw [show ((L + i : Nat) : Int) - (L : Int) = (i : Int) by omega]; simp]
        refine Ex_asg ok rfl ⟨trivial, trivial, by omega⟩ (by simp) ?_
        rw [show (x : Int) / 2 ^ (((i * N : Nat) : Int)).toNat = ((x / 2 ^ (i * N) : Nat) : Int) by rw [Int.toNat_natCast]; norm_cast]
        have hu3 : ((x / 2 ^ (i * N) : Nat) : Int).natAbs < 2 ^ 64 := by rw [Int.natAbs_natCast]; omega
        refine Ex_asg ok rfl ⟨trivial, ⟨trivial, trivial, by omega, by omega, hu3⟩, trivial⟩ (by simp) ?_
        rw [show Builtin.bitXor (x : Int) (((x / 2 ^ (i * N) : Nat) : Int) * 2 ^ (((i * N : Nat) : Int)).toNat) = ((x % 2 ^ (i * N) : Nat) : Int) by
          rw [Int.toNat_natCast, ← xor_low]; congr 1]
        have hld : ∀ (d : AV) (ρ : Rho) X2 s2, Mine.St (B.cx k' noF XW xsW) (callEnv fd s.heap.objs.size fi) nm_inn1 (kdOf n1.2.2.2.1) (fun a => a = D) s X X2 ρ (some (7, D, d)) s2 → Ld (callEnv fd s.heap.objs.size fi) s2.heap (Str.ofString "inner") (.ref fi) := fun d ρ X2 s2 S2 =>
          .inr ⟨.inr ((S2.kde _).trans kd1.2.2), cI, by show List.lookup _ fd.closure = _; rw [f4]; exact hlk2, (hB _ S2.v.wd).2.1⟩
        refine Ex_inn (fi := fi) (d' := .lst ((ds.take L ++ digs N i (x % 2 ^ (i * N)) ++ ds.drop (L + i)).map .int)) ok rfl rfl (by simp) (hld _ _) (fun h W => ⟨_, _, (hB h W).2.2.2.1, rfl⟩) (fun A2 X2 s2 vs2 Q2 R2 W2 xk2 hX2 hwd2 o2 r2 hq2 =>
          ih i (by omega) hi0 hiN L _ hlo A2 X2 s2 ds vs2 Q2 (R2.le (by show i ≤ k'; omega)) W2 ⟨xk2.xc, xk2.lt⟩ hX2 hwd2 o2 hdl (by omega) r2 (fun h' tk hk' W' o' => hq2 h' tk (fun c o _ n e => hk' c o n e) W' o')) ?_
        have hl2 : (ds.take L ++ digs N i (x % 2 ^ (i * N)) ++ ds.drop (L + i)).length = ds.length := by
          simp [digs_len]; omega
        refine Ex_inn (fi := fi) (d' := .lst (((ds.take L ++ digs N i (x % 2 ^ (i * N)) ++ ds.drop (L + i)).take (L + i) ++ digs N j (x / 2 ^ (i * N)) ++ (ds.take L ++ digs N i (x % 2 ^ (i * N)) ++ ds.drop (L + i)).drop (L + i + j)).map .int)) ok rfl rfl (by simp) (hld _ _) (fun h W => ⟨_, _, (hB h W).2.2.2.1, rfl⟩) (fun A2 X2 s2 vs2 Q2 R2 W2 xk2 hX2 hwd2 o2 r2 hq2 =>
          ih j (by omega) hj0 hjN (L + i) _ hup A2 X2 s2 (ds.take L ++ digs N i (x % 2 ^ (i * N)) ++ ds.drop (L + i)) vs2 Q2 (R2.le (by show j ≤ k'; omega)) W2 ⟨xk2.xc, xk2.lt⟩ hX2 hwd2 o2 (by omega) (by omega) (by rw [Nat.add_assoc, hij]; exact r2)
            (fun h' tk hk' W' o' => hq2 h' tk (fun c o _ n e => hk' c o n e) W' o')) ?_
        refine Ex_nil ⟨.inl rfl, ?_⟩
        have hA : (ds.take L ++ digs N i (x % 2 ^ (i * N))).length = L + i := by simp [digs_len]; omega
        have hB : (ds.take L ++ digs N i (x % 2 ^ (i * N)) ++ ds.drop (L + i)).take (L + i) = ds.take L ++ digs N i (x % 2 ^ (i * N)) := by
          rw [← hA, List.take_left]
        have hC : (ds.take L ++ digs N i (x % 2 ^ (i * N)) ++ ds.drop (L + i)).drop (L + i + j) = ds.drop (L + (k' + 1)) := by
          rw [← List.drop_drop, show List.drop (L + i) (ds.take L ++ digs N i (x % 2 ^ (i * N)) ++ ds.drop (L + i)) = ds.drop (L + i) by rw [← hA, List.drop_left], List.drop_drop, Nat.add_assoc, hij]
        rw [hB, hC, ← hij, digs_add]
        simp
    have ok : SxOk ⟨B.cx k' noF XW xsW, callEnv fd s.heap.objs.size fi, nm_inn1, kdOf n1.2.2.2.1, s, X, fun a => a = D, ysI, zsW⟩ := ⟨cxok0' hwB k', nd_inn1⟩
    refine wpAny_mono (hex ok n1.2.2.1 chk_inn1 (A.deeper _) _ _ (R.deeper _) S0) (fun fl s' h1 => ?_) fun _ _ e => e.elim
    obtain ⟨o, ρ', own', X1, ⟨ho, rfl⟩, hO', S', _⟩ := h1
    have fin : Q .none s' := by
      obtain ⟨h', tk, e⟩ := S'.e.same
      subst e
      obtain ⟨_, _, _, _, _, _, _, o'⟩ := S'.own 7 D _ rfl
      refine hq h' tk (fun c o n e => S'.e.keep c o (fun q => ?_) e) S'.v.wd (ints_own o')
      exact q.elim (hxc c) n
    rcases ho with rfl | rfl
    · cases fl <;> first | exact hO'.elim | exact fin
    · cases fl <;> first | exact hO'.elim | (cases hO'; exact fin)
theorem inn1_all (hw : WOk b.W b.wd b.xc b.mg b.mb) {D fi cA cI cN cc : Addr} {N : Nat} {t : Tok} {qual : Str} {doc pm ctv : Value} (d1 : cA ≠ cI) (d2 : cA ≠ cN) (d3 : cI ≠ cN) (e1 : D ≠ cA) (e2 : D ≠ cI) (e3 : D ≠ cN) :
    ∀ m k, k ≤ m → 0 < k → k * N ≤ 60 → ∀ L x, x < 2 ^ (k * N) → Inn1 (b.clo1 D fi cA cI cN cc (N : Int) t qual doc pm ctv) fi D N k L k x :=
  inn1_abs (clo_w hw) (fun _ q => q) (fun h W => ⟨W.2.1 (cA, .ref D) (.head _), W.2.1 (cI, .ref fi) (.tail _ (.head _)), W.2.1 (cN, .int (N : Int) t) (.tail _ (.tail _ (.head _))), W.2.2.1, W.2.2.2⟩) d1 d2 d3 e1 e2 e3
end
end NC
end Mine
namespace Mine
noncomputable section NC
/-- how the world holds the code table of a def with a nested def in it -/
structure NestW (b : Base) (i : Nat) (P : Addr) (pos : Pos) (qual : Str) : Prop where
  xc : b.xc P
  hd : ∀ h f o pm code doc, b.W h → b.mg (dName i) = some (.ref f) → h.get? f = some o → o.data = .func (docDef (dName i) (dPar i) (dBody i) (dSc i) pm code doc) → ∃ c, code = .ref c ∧ CodeHd h c P ∧ ¬ b.xc c
  tab : ∀ h, b.W h → ∃ ps, h.get? P = some (tabObj ps) ∧ TriplesOk ps.toList ∧ (codeAmong pos ps.toList = none ∨ ∃ c', codeAmong pos ps.toList = some (.ref c') ∧ h.CodeRec (.ref c') qual ∧ ¬ b.xc c')
  grow : ∀ h h' c' ps, b.W h → h.get? P = some (tabObj ps) → codeAmong pos ps.toList = none → Heap.ExtBut P h h' → h'.CodeRec (.ref c') qual → ¬ b.xc c' → h'.get? P = some (tabObj (ps ++ #[rawInt pos.line, rawInt pos.col, .ref c'])) → b.W h'
  blt : ∀ h, b.W h → h.BuiltinsAt b.mg P
  ne : mainGlobals ≠ P
section
variable {x : Sx} {ρ : Rho} {own : OwnO} {Post : PostT} {ms : List MS}
/-- Ex, from states in which more is known -/
noncomputable def ExF (x : Sx) (Fc : Heap → Prop) (ms : List MS) (ρ : Rho) (own : OwnO) (Post : PostT) : Prop :=
  ∀ ss, x.chkSs ms ss = true → ∀ (A : Around) (s : Shared) (X : Addr → Prop), Room A x.c.n → x.St X ρ own s → Fc s.heap → wpAny x.c.M A (execs ss x.env) (ExQ x Post X own s) noE s
theorem ExF.of {Fc : Heap → Prop} (h : Ex x ms ρ own Post) : ExF x Fc ms ρ own Post := fun ss hs A s X R S _ => h ss hs A s X R S
theorem ExF.more {Fc Fc' : Heap → Prop} (k : ∀ X s, x.St X ρ own s → Fc s.heap → Fc' s.heap) (h : ExF x Fc' ms ρ own Post) : ExF x Fc ms ρ own Post := fun ss hs A s X R S hF => h ss hs A s X R S (k X s S hF)
theorem ExF_cons {Fc : Heap → Prop} {m : MS} (h : ∀ st, x.chkS m st = true → ∀ (A : Around) (s : Shared) (X : Addr → Prop), Room A x.c.n → x.St X ρ own s → Fc s.heap → wpAny x.c.M A (exec st x.env) (Nxt x ms Post X own s) noE s) : ExF x Fc (m :: ms) ρ own Post := fun ss hs A s X R S hF =>
  chkSs_k hs fun st ss h1 h2 => wpAny_execs_cons (wpAny_mono (h st h1 A s X R S hF) (fun fl s1 => Nxt.go h2 R S) fun _ _ e => e)
theorem ExF_ite (ok : SxOk x) {Fc : Heap → Prop} (hFc : ∀ s s', x.c.Ext s s' → Fc s.heap → Fc s'.heap) {t : ME} {a b : List MS} {z : AV} {bb : Bool} {C : Prop} (hm : mev x.c.F x.c.X ρ t = some (z, C)) (hC : C) (hz : truthOf z = some bb) (hz' : truthC z)
    (ha : bb = true → ExF x Fc a ρ own (Seq x ms Post)) (hb : bb = false → Ex x b ρ own (Seq x ms Post)) : ExF x Fc (.ite t a b :: ms) ρ own Post := by
  refine ExF_cons fun st hs A s X R S hF => ksIf_k fT hs fun e0 l0 r0 pos hs => ?_
  refine wpAny_If ((sound ok.c t _ z C (and_t hs).1 hm hC).2 bb hz hz' A X s _ R S.v fun s1 e1 => ?_)
  have S1 := St.extS ok S e1
  have a1 := Stp.ext (X := X) (own := own) ok.c.w e1
  cases bb with
  | true => exact wpAny_mono (ha rfl _ (and_t (and_t hs).2).1 A s1 X R S1 (hFc _ _ e1 hF)) (fun fl s2 h2 => Nxt.of_seq (ExQ.trans S a1 h2)) fun _ _ e => e
  | false => exact wpAny_mono (hb rfl _ (and_t (and_t hs).2).2 A s1 X R S1) (fun fl s2 h2 => Nxt.of_seq (ExQ.trans S a1 h2)) fun _ _ e => e
/-- inner(.., len(x)): the frame's own list is looked at, then written to -/
theorem ExF_inn (ok : SxOk x) {Fc : Heap → Prop} (hFc : ∀ s s', x.c.Ext s s' → Fc s.heap → Fc s'.heap) (hy : ∀ is st es, x.ys 0 is st = some es → ysI 0 is st = some es) {i : Nat} {fi D : Addr} {d d' : AV} {l : List ME} {ns : List Int} {C : Prop} (hxo : ¬ x.xo D) (hm : mevL x.c.F x.c.X (ρ.set i (some d)) l = some (ns.map .int, C)) (hC : C)
    (hl : ∀ X s, x.St X ρ (some (i, D, d)) s → Fc s.heap → Ld x.env s.heap (Str.ofString "inner") (.ref fi)) (hf : ∀ h, Fc h → ∃ o fd, h.get? fi = some o ∧ o.data = .func fd)
    (hcall : ∀ (A : Around) (X : Addr → Prop) (s : Shared) (vs : List Value) (Q : Value → Shared → Prop), Room A x.c.n → x.c.W s.heap → Fc s.heap → XOk x.c X s → X D → ¬ x.c.wd D → OwnAt x.c X s.heap D d → x.c.Reps X s.heap vs (ns.map .int) →
      (∀ h' tk, (∀ c o, ¬ x.c.xc c → c ≠ D → s.heap.get? c = some o → h'.get? c = some o) → x.c.W h' → OwnAt x.c X h' D d' → Q .none { s with heap := h', toks := tk }) → wpAny x.c.M A (call (.ref fi) vs) Q noE s)
    (h : Ex x ms ρ (some (i, D, d')) Post) : ExF x Fc (.ext 0 l [] :: ms) ρ (some (i, D, d)) Post := by
  refine ExF_cons fun st hs A s X R S hF => ext_k hs fun es he hes => innC_k (hy _ _ _ he) (fun p es cpos pos hne hes => ?_) hes
  have ha : ¬ x.X0 D := fun q => (S.own i D d rfl).elim fun _ o => (S.x0 D q).elim (fun z => o.nwd (ok.c.w.xcwd D z)) fun ⟨_, z⟩ => o.new.elim (fun h5 => absurd (h5.symm.trans z) nofun) hxo
  exact wpAny_Expr_any (call_name R (St.frz ok S ha).v Fc (fun Q hq => name_Ld S.v.fk (hl X s S hF) (by decide +kernel) hq) hf hne (soundL (env := x.env) ok.c l es _ C hes hm hC).1 fun vs s₁ e₁ r₁ =>
      have S1 := St.extS ok S e₁
      (S1.own i D d rfl).elim fun y o => ⟨hFc _ _ e₁ hF, hcall A X s₁ vs _ R S1.v.wd (hFc _ _ e₁ hF) S1.v.x o.x o.nwd o.own (Reps.of_ints r₁.ints) fun h' tk hk W' o' =>
        have hu := St.ownUpd ok S1 (tk := tk) hk W' (fun c ⟨o, ho⟩ => (Decidable.em (c = D)).elim (fun q => q ▸ o'.alive) fun q => (Classical.em (x.c.xc c)).elim (fun q2 => ok.c.w.alive _ _ W' (ok.c.w.xcwd _ q2)) fun q2 => ⟨o, hk c o q2 q ho⟩) o'
        .inl ⟨rfl, ρ, _, X, hu.1, (Stp.ext ok.c.w e₁).trans S hu.2, h⟩⟩) (by unfold interactive; rw [S.v.fk]; rfl) rfl
end
end NC
end Mine
namespace Mine
noncomputable section NC
/-- what a closure finds -/
noncomputable def CloF (cells : List (Addr × Value)) (fi : Addr) (fo : Obj) (cc : Addr) (qual : Str) (h : Heap) : Prop := (∀ p ∈ cells, h.IsCell p.1 (some p.2)) ∧ h.get? fi = some fo ∧ h.CodeRec (.ref cc) qual
theorem CodeHd.keep1 {h h' : Heap} {c P : Addr} (x : CodeHd h c P) (k : ∀ o, h.get? c = some o → h'.get? c = some o) : CodeHd h' c P :=
  x.imp fun o h => h.imp fun vs h => h.imp fun _ h => h.imp fun _ h => h.imp fun _ h => h.imp fun _ h => h.imp fun _ h => h.imp fun _ h => h.imp fun _ h => ⟨k _ h.1, h.2⟩
theorem CodeRec.keep1 {h h' : Heap} {c : Addr} {q : Str} (x : h.CodeRec (.ref c) q) (k : ∀ o, h.get? c = some o → h'.get? c = some o) : h'.CodeRec (.ref c) q := by
  obtain ⟨c', o, vs, t, e, g, r⟩ := x
  cases e
  exact ⟨_, o, vs, t, rfl, k _ g, r⟩
section
variable {b : Base}
set_option maxHeartbeats 2000000 in
theorem Ex_def (hw : WOk b.W b.wd b.xc b.mg b.mb) {n i : Nat} {F XX : Nat → List AV → AP} {xs : Nat → Expr → Option (List Expr × List Str)} {env : Env} {names : List Str} {kd : Str → Option NameKind} {s₀ : Shared} {X0 : Addr → Prop} {ys : Nat → List Nat → Stmt → Option (List Expr)} {zs : Nat → Expr → Option (List Expr × List Str)} {ms : List MS} {ρ : Rho} {own : OwnO} {Post : PostT}
    {P : Addr} {np : Arguments} {nb : List Stmt} {nsc : Scope} {npos : Pos} {qual : Str} {iN : Nat} (N : NestW b i P npos qual) (ok : SxOk ⟨b.cx n F XX xs, env, names, kd, s₀, X0, fun _ => False, ys, zs⟩)
    (hy : ∀ is st es, ys 2 is st = some es → st = .FunctionDef (Str.ofString "inner") np nb [] none [] nsc none (Str.ofString "inner") npos) (hd0 : np.defaults = []) (hk0 : np.kw_defaults = []) (ha : annTrees np none env = [])
    (hq : ∀ X s, Mine.St (b.cx n F XX xs) env names kd (fun _ => False) s₀ X0 X ρ own s → qualnameIn env (Str.ofString "inner") (Str.ofString "inner") = qual) (hcode : ∃ c, env.code = .ref c ∧ CodeHd s₀.heap c P ∧ ¬ b.xc c)
    (hiN : names[iN]? = some (Str.ofString "inner")) (hkI : kd (Str.ofString "inner") = some .cell) (hoi : ∀ j a l, own = some (j, a, l) → j ≠ iN)
    {clo : List (Str × Addr)} (hclo : ∀ X s, Mine.St (b.cx n F XX xs) env names kd (fun _ => False) s₀ X0 X ρ own s → closureFor nsc env = pure clo)
    (h : ∀ fi cc doc ctv pm, ExF ⟨b.cx n F XX xs, env, names, kd, s₀, X0, fun _ => False, ys, zs⟩ (fun h => ¬ b.wd fi ∧ ¬ b.xc cc ∧ (∃ ci, env.cells.lookup (Str.ofString "inner") = some ci ∧ h.IsCell ci (some (.ref fi))) ∧ h.get? fi = some (fnMade (Str.ofString "inner") qual np nb nsc clo doc pm cc ctv) ∧ h.CodeRec (.ref cc) qual) ms (ρ.set iN none) own Post) :
    Ex ⟨b.cx n F XX xs, env, names, kd, s₀, X0, fun _ => False, ys, zs⟩ (.ext 2 [] [] :: ms) ρ own Post := by
  intro ss hs A s X R S
  refine chkSs_k hs fun st ss hst hss => ext_k hst fun es he _ => ?_
  rw [hy _ _ _ he]
  refine wpAny_execs_cons (nestDef_K hd0 hk0 ha ?_)
  rw [hq X s S]
  refine hide fun G kG => ?_
  obtain ⟨c, hc1, hc2, hc3⟩ := hcode
  have C : CodeHd s.heap c P := Mine.CodeHd.keep1 hc2 fun o e => S.e.keep c o (fun q => q.elim hc3 id) e
  obtain ⟨ps, hP, ht, hcase⟩ := N.tab _ S.v.wd
  have fin : ∀ (cc : Addr) (doc ctv : Value) (h' : Heap) (tk : Nat), (∀ a o, ¬ b.xc a → s.heap.get? a = some o → h'.get? a = some o) → b.W h' → h'.CodeRec (.ref cc) qual → ¬ b.xc cc → ¬ X h'.objs.size → ¬ b.wd h'.objs.size →
      wpAny (b.cx n F XX xs).M A (storeName env (Str.ofString "inner") (.ref h'.objs.size)) (fun _ s'' => wpAny (b.cx n F XX xs).M A (execs ss env) (ExQ ⟨b.cx n F XX xs, env, names, kd, s₀, X0, fun _ => False, ys, zs⟩ Post X own s) noE s'') noE
        { s with heap := h'.push (fnMade (Str.ofString "inner") qual np nb nsc clo doc ((b.mg "__name__").getD .none) cc ctv), toks := tk } := fun cc doc ctv h' tk hk W' hcr hnc hnX hnw => by
    generalize hfo : fnMade (Str.ofString "inner") qual np nb nsc clo doc ((b.mg "__name__").getD .none) cc ctv = fo
    have hnf : fo.isFreed = false := by rw [← hfo]; rfl
    have e1 : (b.cx n F XX xs).Ext s { s with heap := h'.push fo, toks := tk } := ⟨⟨_, _, rfl⟩, fun a o na e => Heap.get?_push_of_some _ (hk a o na e), fun _ => hw.stable _ _ W' fun a o _ e => Heap.get?_push_of_some _ e⟩
    have S1 := St.extS ok S e1
    refine St.store S1 (.inr hkI) fun h2 tk2 tgt hwr hx hwd h0 Z => ?_
    have S2 := St.stored hw S1 (d := none) (tk := tk2) hiN ok.nd hx hwd h0 Z (fun _ q => by cases q) hoi
    have hwt : Sx.Wr ⟨b.cx n F XX xs, env, names, kd, s₀, X0, fun _ => False, ys, zs⟩ own tgt := by
      rcases hwr with q | q | q | ⟨_, _, q⟩
      · exact .inl q
      · exact .inr (.inl q)
      · exact .inr (.inr (.inl q))
      · cases q
    have a2 : Stp ⟨b.cx n F XX xs, env, names, kd, s₀, X0, fun _ => False, ys, zs⟩ X own s X own { ({ s with heap := h'.push fo, toks := tk } : Shared) with heap := h2, toks := tk2 } :=
      ⟨fun a o na e => Z.keep a o (fun q => na (q ▸ hwt)) (e1.keep a o (fun y => na (.inl y)) e), fun _ _ _ q => q, fun _ _ _ q => q, fun _ q _ => q⟩
    refine wpAny_mono (h h'.objs.size cc doc ctv ((b.mg "__name__").getD .none) ss hss A _ X R S2 ⟨hnw, hnc, ?_, ?_, ?_⟩) (fun fl s3 h3 => ExQ.trans S a2 h3) fun _ _ e => e
    · rcases Z.ld with ⟨hl, _⟩ | ⟨_, ci, h3, h4⟩
      · have q := ((S.kde _).symm.trans hl).symm.trans hkI
        cases q
      · exact ⟨ci, h3, h4⟩
    · rw [hfo]
      exact Z.keep _ _ (fun q => hnX (q ▸ hx)) (Heap.get?_push_size _ hnf)
    · obtain ⟨c2, o2, vs2, t2, q1, q2, q3, q4⟩ := hcr
      cases q1
      refine ⟨_, o2, vs2, t2, rfl, Z.keep _ _ (fun q => ?_) (Heap.get?_push_of_some _ q2), q3, q4⟩
      exact Z.nr o2 (q ▸ Heap.get?_push_of_some _ q2) ⟨vs2, qual, t2, q3, q4⟩
  have big : ∀ h' : Heap, s.heap.objs.size ≤ h'.objs.size → ¬ X h'.objs.size ∧ ¬ b.wd h'.objs.size := fun h' hs => by
    have nw : ¬ b.wd h'.objs.size := fun q => by
      obtain ⟨o, z⟩ := hw.alive _ _ S.v.wd q
      exact absurd (Heap.lt_size z) (Nat.not_lt.mpr hs)
    refine ⟨fun q => ?_, nw⟩
    rcases S.v.x.lt _ q with z | ⟨o, z⟩
    · exact nw (hw.xcwd _ z)
    · exact absurd (Heap.lt_size z) (Nat.not_lt.mpr hs)
  rcases hcase with hnf | ⟨c', hf, hcr, hnc⟩
  · refine kG (makeFunction_K (mg := b.mg) (hclo X s S) S.v.gl (hw.glob _ S.v.wd) hc1 C hP ht hnf N.ne (N.blt _ S.v.wd) fun c' ctv doc h' tk hx hge hlt hrec htb => ?_)
    have hb2 := big h' (by omega)
    have hnc : ¬ b.xc c' := fun q => by
      obtain ⟨o, z⟩ := hw.alive _ _ S.v.wd (hw.xcwd _ q)
      exact absurd (Heap.lt_size z) (Nat.not_lt.mpr hge)
    exact fin c' doc ctv h' tk (fun a o na e => hx a o (fun q => na (q ▸ N.xc)) e) (N.grow _ _ _ _ S.v.wd hP hnf hx hrec hnc htb) hrec hnc hb2.1 hb2.2
  · refine kG (makeFunction_hit (mg := b.mg) (hclo X s S) S.v.gl (hw.glob _ S.v.wd) hc1 C hP ht hf (N.blt _ S.v.wd) fun ctv doc h' tk hk hsz => ?_)
    have hb2 := big h' hsz
    exact fin c' doc ctv h' tk (fun a o _ e => hk a o e) (hw.stable _ _ S.v.wd fun a o _ e => hk a o e) (CodeRec.keep1 hcr fun o e => hk _ _ e) hnc hb2.1 hb2.2
end
end NC
end Mine
namespace Mine
noncomputable section NC
noncomputable def sAt (i j : Nat) : Stmt := ((dBody i)[j]?).getD (.Pass ⟨0, 0, 0, 0⟩)
noncomputable def ysD (nst : Stmt) : Nat → List Nat → Stmt → Option (List Expr) := fun k is st => bif k == 2 then isSt nst st else ysI k is st
theorem ysD_2 {nst : Stmt} {is : List Nat} {st : Stmt} {es : List Expr} (h : ysD nst 2 is st = some es) : st = nst := isSt_t h
theorem ysD_0 {nst : Stmt} {is : List Nat} {st : Stmt} {es : List Expr} (h : ysD nst 0 is st = some es) : ysI 0 is st = some es := h
noncomputable def ps_i2d : List Str := ["a", "n"].map Str.ofString
noncomputable def ls_i2d : List Str := ["a_digits", "inner"].map Str.ofString
noncomputable def ms_i2d : List MS := [
  .newR 2 (.int 0) (.bin .FloorDiv (.bin .Sub (.bin .Add (.ext 5 [.var 0]) (.var 1)) (.int 1)) (.var 1)),
  .ext 2 [] [],
  .ite (.var 0) [.ext 0 [.var 0, .int 0, .ext 0 [.var 2]] []] [],
  .ret (.var 2)]
theorem body7 : dBody 7 = [sAt 7 0, sAt 7 1, sAt 7 2, sAt 7 3] := by with_unfolding_all rfl
theorem nst7 : sAt 7 1 = .FunctionDef (Str.ofString "inner") n1.2.1 n1.2.2.1 [] none [] n1.2.2.2.1 none (Str.ofString "inner") n1.2.2.2.2 := by with_unfolding_all rfl
theorem chk_i2d : chkSs (ps_i2d ++ ls_i2d) (kdOf (dSc 7)) gsAll xsW (ysD (sAt 7 1)) zsW ms_i2d (dBody 7) = true := by
  rw [body7]
  unfold ms_i2d
  exact chkSs_mk (by decide +kernel) (chkSs_mk (ext_mk (isSt_self _)) (chkSs_mk (by decide +kernel) (chkSs_mk (by decide +kernel) rfl)))
theorem gs_4 : gsAll[4]? = some (dName 7) := by decide +kernel
theorem nd_7 : (ps_i2d ++ ls_i2d).Nodup := by decide +kernel
theorem kd7 : kdOf (dSc 7) (Str.ofString "a_digits") = some .cell ∧ kdOf (dSc 7) (Str.ofString "n") = some .cell ∧ kdOf (dSc 7) (Str.ofString "inner") = some .cell := by decide +kernel
theorem clos1 {env : Env} {cA cI cN : Addr} (h1 : env.cells.lookup (Str.ofString "a_digits") = some cA) (h2 : env.cells.lookup (Str.ofString "inner") = some cI) (h3 : env.cells.lookup (Str.ofString "n") = some cN) : closureFor n1.2.2.2.1 env = pure (cl1 cA cI cN) := by
  have hn : n1.2.2.2.1.names = [(Str.ofString "x", .local), (Str.ofString "L", .local), (Str.ofString "R", .local), (Str.ofString "mid", .local), (Str.ofString "shift", .local), (Str.ofString "upper", .local), (Str.ofString "lower", .local), (Str.ofString "a_digits", .free), (Str.ofString "inner", .free), (Str.ofString "n", .free)] := by decide +kernel
  unfold closureFor
  rw [hn]
  simp [cellOf, h1, h2, h3]
end NC
end Mine
namespace Mine
noncomputable section NC
noncomputable def qual7 : Str := dName 7 ++ (".<locals>." : Str) ++ Str.ofString "inner"
section
variable {b : Base}
set_option maxHeartbeats 4000000 in
theorem fn_i2d (hb : BOk b) {P : Addr} (NW : NestW b 7 P n1.2.2.2.2 qual7) (n : Nat) {a w m : Nat} (hw0 : 0 < w) (hm : m = (Builtin.Int.intBits (a : Int) + w - 1) / w) (hmw : m * w ≤ 60) (hw60 : w ≤ 60) (hmn : m ≤ n) (ha : a < 2 ^ (m * w)) :
    FnOk b.c0 (n + 1) 4 [.int a, .int w] (.lst ((digs w m a).map .int)) := by
  obtain ⟨f, D⟩ := hb.d 7 (by simp)
  refine FnOk_ofC (ps := ps_i2d) (rest := ls_i2d) (ms := ms_i2d) (F := noF) (X := XW) (xs := xsW) hb.w (ysD (sAt 7 1)) zsW gs_4 D (bind2 fun _ _ _ _ _ => by with_unfolding_all rfl) rfl (by decide +kernel) (by decide +kernel) chk_i2d ?_
    (by decide +kernel) (by decide +kernel) (by decide +kernel)
  rintro env s₀ X0 ⟨⟨W0, o, pm, doc, ho, hd⟩, hqual⟩
  have ok : SxOk ⟨b.cx n noF XW xsW, env, ps_i2d ++ ls_i2d, kdOf (dSc 7), s₀, X0, fun _ => False, ysD (sAt 7 1), zsW⟩ := ⟨cxok0 hb n, nd_7⟩
  have hbits : (0 : Int) ≤ Builtin.Int.intBits (a : Int) := by omega
  have hmI : ((Builtin.Int.intBits (a : Int) : Int) + w - 1) / w = (m : Int) := by
    rw [hm]
    have : ((Builtin.Int.intBits (a : Int) : Nat) : Int) + (w : Int) - 1 = ((Builtin.Int.intBits (a : Int) + w - 1 : Nat) : Int) := by omega
    rw [this]; norm_cast
  unfold ms_i2d
  refine Ex_newR ok rfl trivial rfl (by simp; omega) (by rw [hmI]; omega) (by rw [hmI]; have := Nat.le_mul_of_pos_right m hw0; omega) fun Dl => ?_
  rw [hmI, Int.toNat_natCast]
  -- the def
  obtain ⟨cO, hc1, hc2, hc3⟩ := NW.hd _ f o pm env.code doc W0 D.glob ho hd
  generalize hcA : (env.cells.lookup (Str.ofString "a_digits")).getD 0 = cA
  generalize hcI : (env.cells.lookup (Str.ofString "inner")).getD 0 = cI
  generalize hcN : (env.cells.lookup (Str.ofString "n")).getD 0 = cN
  have hcel : ∀ (X : Addr → Prop) (s : Shared) (ρ : Rho) (own : OwnO), Mine.St (b.cx n noF XW xsW) env (ps_i2d ++ ls_i2d) (kdOf (dSc 7)) (fun _ => False) s₀ X0 X ρ own s →
      (env.cells.lookup (Str.ofString "a_digits") = some cA ∧ ¬ b.wd cA) ∧ (env.cells.lookup (Str.ofString "inner") = some cI ∧ ¬ b.wd cI) ∧ (env.cells.lookup (Str.ofString "n") = some cN ∧ ¬ b.wd cN) ∧ cA ≠ cI ∧ cA ≠ cN ∧ cI ≠ cN := fun X s ρ own S => by
    obtain ⟨a1, h1, _, w1, _⟩ := S.cel _ kd7.1
    obtain ⟨a2, h2, _, w2, _⟩ := S.cel _ kd7.2.2
    obtain ⟨a3, h3, _, w3, _⟩ := S.cel _ kd7.2.1
    rw [h1] at hcA; rw [h2] at hcI; rw [h3] at hcN
    simp only [Option.getD_some] at hcA hcI hcN
    subst hcA; subst hcI; subst hcN
    refine ⟨⟨h1, w1⟩, ⟨h2, w2⟩, ⟨h3, w3⟩, fun q => ?_, fun q => ?_, fun q => ?_⟩
    · exact S.apart _ _ a1 (by decide +kernel) h1 (q ▸ h2)
    · exact S.apart _ _ a1 (by decide +kernel) h1 (q ▸ h3)
    · exact S.apart _ _ a2 (by decide +kernel) h2 (q ▸ h3)
  refine Ex_def hb.w NW ok (fun is st es h => (ysD_2 h).trans nst7) rfl rfl rfl (fun X s S => ?_) ⟨cO, hc1, hc2, hc3⟩ (iN := 3) rfl kd7.2.2 (by rintro j a l ⟨⟩; decide) (clo := cl1 cA cI cN) (fun X s S => ?_) fun fi cc doc ctv pm => ?_
  · unfold qualnameIn
    rw [show env.kindOf (Str.ofString "inner") = some .cell from (S.kde _).trans kd7.2.2]
    rw [hqual]; rfl
  · have := hcel X s _ _ S
    exact clos1 this.1.1 this.2.1.1 this.2.2.1.1
  -- what is known from here on
  refine ExF.more (Fc' := fun h => ¬ b.wd fi ∧ ¬ b.xc cc ∧ (¬ b.wd cA ∧ ¬ b.wd cI ∧ ¬ b.wd cN) ∧ (env.cells.lookup (Str.ofString "a_digits") = some cA ∧ env.cells.lookup (Str.ofString "inner") = some cI) ∧ (cA ≠ cI ∧ cA ≠ cN ∧ cI ≠ cN) ∧ (Dl ≠ cA ∧ Dl ≠ cI ∧ Dl ≠ cN) ∧
    ∃ t, CloF [(cA, .ref Dl), (cI, .ref fi), (cN, .int (w : Int) t)] fi (fo1 qual7 (cl1 cA cI cN) doc pm cc ctv) cc qual7 h) (fun X s S hF => ?_) ?_
  · obtain ⟨f1, f2, ⟨ci, f3, f4⟩, f5, f6⟩ := hF
    have hc := hcel X s _ _ S
    obtain ⟨y, o1, o2, o3, o4, o5, o6, o7⟩ := S.own 2 Dl _ rfl
    cases o1
    obtain ⟨vn, ln, rn⟩ := S.v.vars 1 _ (.int w) rfl rfl
    have lA : s.heap.IsCell cA (some (.ref Dl)) := by
      rcases o2 with ⟨hl, _⟩ | ⟨_, c2, h3, h4⟩
      · have q := ((S.kde _).symm.trans hl).symm.trans kd7.1
        cases q
      · have q := h3.symm.trans hc.1.1
        cases q; exact h4
    have lN : s.heap.IsCell cN (some vn) := by
      rcases ln with ⟨hl, _⟩ | ⟨_, c2, h3, h4⟩
      · have q := ((S.kde _).symm.trans hl).symm.trans kd7.2.1
        cases q
      · have q := h3.symm.trans hc.2.2.1.1
        cases q; exact h4
    have q := f3.symm.trans hc.2.1.1
    cases q
    cases rn with | int _ t0 =>
    refine ⟨f1, f2, ⟨hc.1.2, hc.2.1.2, hc.2.2.1.2⟩, ⟨hc.1.1, hc.2.1.1⟩, hc.2.2.2, ⟨?_, ?_, ?_⟩, t0, ?_, f5, f6⟩
    · rintro rfl; exact o6.2 _ hc.1.1
    · rintro rfl; exact o6.2 _ hc.2.1.1
    · rintro rfl; exact o6.2 _ hc.2.2.1.1
    · intro p hp
      simp only [List.mem_cons, List.not_mem_nil, or_false] at hp
      rcases hp with rfl | rfl | rfl
      · exact lA
      · exact f4
      · exact lN
  have hm60 : m ≤ 60 := Nat.le_trans (Nat.le_mul_of_pos_right m hw0) hmw
  have nxc : ∀ {z : Addr}, ¬ b.wd z → ¬ b.xc z := fun h q => h (hb.w.xcwd _ q)
  have hFc : ∀ s s' : Shared, (b.cx n noF XW xsW).Ext s s' → (¬ b.wd fi ∧ ¬ b.xc cc ∧ (¬ b.wd cA ∧ ¬ b.wd cI ∧ ¬ b.wd cN) ∧ (env.cells.lookup (Str.ofString "a_digits") = some cA ∧ env.cells.lookup (Str.ofString "inner") = some cI) ∧ (cA ≠ cI ∧ cA ≠ cN ∧ cI ≠ cN) ∧ (Dl ≠ cA ∧ Dl ≠ cI ∧ Dl ≠ cN) ∧
      ∃ t, CloF [(cA, .ref Dl), (cI, .ref fi), (cN, .int (w : Int) t)] fi (fo1 qual7 (cl1 cA cI cN) doc pm cc ctv) cc qual7 s.heap) → (¬ b.wd fi ∧ ¬ b.xc cc ∧ (¬ b.wd cA ∧ ¬ b.wd cI ∧ ¬ b.wd cN) ∧ (env.cells.lookup (Str.ofString "a_digits") = some cA ∧ env.cells.lookup (Str.ofString "inner") = some cI) ∧ (cA ≠ cI ∧ cA ≠ cN ∧ cI ≠ cN) ∧ (Dl ≠ cA ∧ Dl ≠ cI ∧ Dl ≠ cN) ∧
      ∃ t, CloF [(cA, .ref Dl), (cI, .ref fi), (cN, .int (w : Int) t)] fi (fo1 qual7 (cl1 cA cI cN) doc pm cc ctv) cc qual7 s'.heap) := fun s s' e ⟨g1, g2, g3, g4, g5, g6, t, g7, g8, g9⟩ => by
    refine ⟨g1, g2, g3, g4, g5, g6, t, fun p hp => IsCell.keep1 (g7 p hp) fun o q => e.keep _ o ?_ q, e.keep _ _ (nxc g1) g8, CodeRec.keep1 g9 fun o q => e.keep _ o g2 q⟩
    simp only [List.mem_cons, List.not_mem_nil, or_false] at hp
    rcases hp with rfl | rfl | rfl
    · exact nxc g3.1
    · exact nxc g3.2.1
    · exact nxc g3.2.2
  refine ExF_ite ok hFc rfl trivial rfl trivial (fun ht => ?_) (fun hf => ?_)
  · have ha0 : 0 < a := by
      rcases Nat.eq_zero_or_pos a with q | q
      · rw [q] at ht; cases ht
      · exact q
    have hm0 : 0 < m := by
      rcases Nat.eq_zero_or_pos m with q | q
      · rw [q, Nat.zero_mul] at ha; omega
      · exact q
    refine ExF_inn (fi := fi) (d' := .lst ((digs w m a).map .int)) (ns := [(a : Int), 0, ((List.replicate m (AV.int 0)).length : Int)]) ok hFc (fun is st es h => ysD_0 (nst := sAt 7 1) h) id rfl (by rw [List.length_replicate]; refine ⟨trivial, trivial, ⟨⟨trivial, trivial⟩, ?_⟩, trivial⟩; omega) (fun X s S hF => ?_) (fun h hF => ?_) (fun A X s vs Q R W hF xk hXD hwD hO hr hq => ?_) ?_
    · obtain ⟨g1, g2, g3, g4, g5, g6, t, g7, g8, g9⟩ := hF
      exact .inr ⟨.inl ((S.kde _).trans kd7.2.2), cI, g4.2, g7 (cI, .ref fi) (by simp)⟩
    · obtain ⟨g1, g2, g3, g4, g5, g6, t, g7, g8, g9⟩ := hF
      exact ⟨_, _, g8, rfl⟩
    · obtain ⟨g1, g2, g3, g4, g5, g6, t, g7, g8, g9⟩ := hF
      have hI := inn1_all (b := b) (D := Dl) (fi := fi) (cc := cc) (t := t) (qual := qual7) (doc := doc) (pm := pm) (ctv := ctv) hb.w g5.1 g5.2.1 g5.2.2 g6.1 g6.2.1 g6.2.2 m m (Nat.le_refl _) hm0 hmw 0 a ha
      rw [← List.map_replicate] at hO
      obtain ⟨vl, pl, rl⟩ := id hO
      have nDf : Dl ≠ fi := fun q => by
        obtain ⟨_, z⟩ := pl
        rw [q, g8] at z
        injection z with z
        have z2 := congrArg Obj.data z
        cases z2
      have nDc : Dl ≠ cc := fun q => by
        obtain ⟨c2, o2, vs2, t2, q1, q2, q3, q4⟩ := g9
        cases q1
        exact hO.notRec (q ▸ q2) ⟨vs2, qual7, t2, q3, q4⟩
      refine hI A X s (List.replicate m 0) vs Q (R.le hmn) ⟨W, g7, g8, g9⟩ ⟨fun _ q => q.elim, fun z hz => ?_⟩ hXD ?_ hO (by rw [List.length_replicate]; omega) (by rw [List.length_replicate]; omega) ?_ fun h' tk hk W' o' => ?_
      · rcases xk.lt z hz with q | q
        · exact .inr (hb.w.alive _ _ W (hb.w.xcwd _ q))
        · exact .inr q
      · rintro (q | q | q | q)
        · exact hwD q
        · simp only [List.map_cons, List.map_nil, List.mem_cons, List.not_mem_nil, or_false] at q
          rcases q with q | q | q
          · exact g6.1 q
          · exact g6.2.1 q
          · exact g6.2.2 q
        · exact nDf q
        · exact nDc q
      · rw [List.length_replicate] at hr
        rw [Nat.zero_add]
        exact hr
      · refine hq h' tk (fun z o _ n e => hk z o n e) W'.1 ?_
        rw [Nat.zero_add, List.take_zero, List.nil_append, List.drop_of_length_le (by rw [List.length_replicate]; exact Nat.le_refl _), List.append_nil] at o'
        exact o'
    · exact Ex_nil (Ex_frz ok id (Ex_ret ok rfl trivial rfl))
  · have ha0 : a = 0 := by
      rcases Nat.eq_zero_or_pos a with q | q
      · exact q
      · have : ((a : Int) != 0) = true := by simp; omega
        rw [this] at hf; cases hf
    refine Ex_nil (Ex_frz ok id (Ex_ret ok rfl trivial ?_))
    subst ha0
    have hz : m = 0 := by
      rw [hm, show Builtin.Int.intBits ((0 : Nat) : Int) = 0 by decide +kernel, Nat.zero_add]
      exact Nat.div_eq_of_lt (by omega)
    rw [hz]; rfl
end
end NC
end Mine
namespace Mine
noncomputable section NC
/-- return (inner(a, b) << c) + inner(d, e) -/
noncomputable def retJ (st : Stmt) : Option (List Expr) := ksReturn none st fun o _ => o.elim none fun e => kBinOp none e fun l o2 r _ => kBinOp none l fun c1 o1 sh _ => (call2 "inner" c1).elim none fun q1 => (call2 "inner" r).elim none fun q2 => bif decide (Operator.Add = o2) && decide (Operator.LShift = o1) then some (q1.1 ++ sh :: q2.1) else none
noncomputable def ysJ (k : Nat) (_ : List Nat) (st : Stmt) : Option (List Expr) := bif k == 4 then retJ st else none
noncomputable def nm_inn2 : List Str := ["L", "R", "mid", "shift", "digits", "n"].map Str.ofString
noncomputable def ms_inn2 : List MS := [
  .ite (.cmp .Eq (.bin .Add (.var 0) (.int 1)) (.var 1)) [.ret (.itemI (.var 4) (.var 0))] [],
  .asg 2 (.bin .RShift (.bin .Add (.var 0) (.var 1)) (.int 1)),
  .asg 3 (.bin .Mult (.bin .Sub (.var 2) (.var 0)) (.var 5)),
  .ext 4 [.var 2, .var 1, .var 3, .var 0, .var 2] []]
theorem chk_inn2 : chkSs nm_inn2 (kdOf n2.2.2.2.1) gsAll xsW ysJ zsW ms_inn2 n2.2.2.1 = true := by decide +kernel
theorem nd_inn2 : nm_inn2.Nodup := by decide +kernel
theorem valD_split (N : Nat) (ds : List Int) (L i j : Nat) (h : L + i + j ≤ ds.length) : valD N ((ds.drop L).take (i + j)) = valD N ((ds.drop L).take i) + 2 ^ (i * N) * valD N ((ds.drop (L + i)).take j) := by
  rw [List.take_add, valD_append, List.drop_drop, List.length_take, List.length_drop, Nat.min_eq_left (by omega)]
theorem valD_bd (N : Nat) : ∀ (l : List Int), (∀ d ∈ l, 0 ≤ d ∧ d < 2 ^ N) → 0 ≤ valD N l ∧ valD N l < 2 ^ (l.length * N)
  | [], _ => by simp [valD]
  | d :: r, h => by
    have ih := valD_bd N r fun d hd => h d (List.mem_cons_of_mem _ hd)
    have hd := h d List.mem_cons_self
    have hp : (0 : Int) < 2 ^ N := Int.pow_pos (by decide)
    have m1 : 0 ≤ 2 ^ N * valD N r := Int.mul_nonneg (Int.le_of_lt hp) ih.1
    have m2 : 2 ^ N * (valD N r + 1) ≤ 2 ^ N * 2 ^ (r.length * N) := Int.mul_le_mul_of_nonneg_left (by omega) (Int.le_of_lt hp)
    rw [valD, List.length_cons, Nat.succ_mul, Int.pow_add, Int.mul_comm (2 ^ (r.length * N))]
    rw [Int.mul_add, Int.mul_one] at m2
    omega
end NC
end Mine
namespace Mine
noncomputable section NC
section
variable {x : Sx} {ρ : Rho} {own : OwnO} {Post : PostT} {ms : List MS}
/-- a call of the frame's inner, wherever the frame stands so -/
theorem inn_call (ok : SxOk x) {Fc : Heap → Prop} (hFc : ∀ s s', x.c.Ext s s' → Fc s.heap → Fc s'.heap) {fi : Addr} {p pos : Pos} {es : List Expr} {ds : List AV} {r : AV} (he : EvsOk x.c x.env x.names x.kd ρ es ds) (hne : es ≠ [])
    (hl : ∀ X s, x.St X ρ own s → Fc s.heap → Ld x.env s.heap (Str.ofString "inner") (.ref fi)) (hf : ∀ h, Fc h → ∃ o fd, h.get? fi = some o ∧ o.data = .func fd)
    (hcall : ∀ (A : Around) (X : Addr → Prop) (s : Shared) (vs : List Value) (Q : Value → Shared → Prop), Room A x.c.n → x.St X ρ own s → Fc s.heap → x.c.Reps X s.heap vs ds → (∀ v s', x.c.Ext s s' → x.c.Rep X s'.heap v r → Q v s') → wpAny x.c.M A (call (.ref fi) vs) Q noE s)
    (A : Around) (X : Addr → Prop) (s : Shared) (Q : Value → Shared → Prop) (R : Room A x.c.n) (S : x.St X ρ own s) (hF : Fc s.heap) (hq : ∀ v s', x.c.Ext s s' → x.c.Rep X s'.heap v r → Q v s') :
    wpAny x.c.M A (eval (.Call (.Name (Str.ofString "inner") p) es [] pos) x.env) Q noE s := by
  exact call_name R S.v Fc (fun Q hq => name_Ld S.v.fk (hl X s S hF) (by decide +kernel) hq) hf hne he fun vs s₁ e₁ r₁ =>
    ⟨hFc _ _ e₁ hF, hcall A X s₁ vs Q R (St.extS ok S e₁) (hFc _ _ e₁ hF) r₁ fun v s2 e2 r2 => hq v s2 (e₁.trans e2) r2⟩
@[elab_as_elim] theorem retJ_k {st : Stmt} {es : List Expr} {M : Stmt → List Expr → Prop} (h : retJ st = some es) (k : ∀ a b c d e p1 q1 p2 q2 p3 p4 p5, M (.Return (some (.BinOp (.BinOp (.Call (.Name (Str.ofString "inner") p1) [a, b] [] q1) .LShift c p3) .Add (.Call (.Name (Str.ofString "inner") p2) [d, e] [] q2) p4)) p5) [a, b, c, d, e]) : M st es :=
  ksReturn_k (M := fun st => M st es) oN h fun o p5 h => ko_k (M := fun o => M (.Return o p5) es) oN h fun e h => kBinOp_k (M := fun e => M (.Return (some e) p5) es) oN h fun l o2 r p4 h => kBinOp_k (M := fun l => M (.Return (some (.BinOp l o2 r p4)) p5) es) oN h fun c1 o1 sh p3 h => ob_k h fun ⟨l1, g1⟩ h1 h => ob_k h fun ⟨l2, g2⟩ h2 h => bif_k h fun hb h =>
    call2_k (M := fun c1 l1 _ => some (l1 ++ sh :: l2) = some es → M (.Return (some (.BinOp (.BinOp c1 o1 sh p3) o2 r p4)) p5) es) h1 (fun p1 a b q1 => call2_k (M := fun r l2 _ => some ([a, b] ++ sh :: l2) = some es → M (.Return (some (.BinOp (.BinOp (.Call (.Name (Str.ofString "inner") p1) [a, b] [] q1) o1 sh p3) o2 r p4)) p5) es) h2 fun p2 d e q2 h =>
      deq_k (M := fun o2 => M (.Return (some (.BinOp (.BinOp (.Call (.Name (Str.ofString "inner") p1) [a, b] [] q1) o1 sh p3) o2 (.Call (.Name (Str.ofString "inner") p2) [d, e] [] q2) p4)) p5) es) (and_t hb).1
        (deq_k (M := fun o1 => M (.Return (some (.BinOp (.BinOp (.Call (.Name (Str.ofString "inner") p1) [a, b] [] q1) o1 sh p3) .Add (.Call (.Name (Str.ofString "inner") p2) [d, e] [] q2) p4)) p5) es) (and_t hb).2 (Option.some.inj h ▸ k a b sh d e p1 q1 p2 q2 p3 p4 p5))) h
/-- return (inner(a, b) << c) + inner(d, e) -/
theorem ExF_ret2 (ok : SxOk x) (hy : x.ys = ysJ) {Fc : Heap → Prop} (hFc : ∀ s s', x.c.Ext s s' → Fc s.heap → Fc s'.heap) {fi : Addr} {l : List ME} {i1 j1 sh i2 j2 v1 v2 : Int} {C : Prop} (hm : mevL x.c.F x.c.X ρ l = some ([.int i1, .int j1, .int sh, .int i2, .int j2], C)) (hC : C)
    (h0 : 0 ≤ sh) (h1 : sh ≤ 1000000) (hv : v1.natAbs < 2 ^ 64)
    (hl : ∀ X s, x.St X ρ own s → Fc s.heap → Ld x.env s.heap (Str.ofString "inner") (.ref fi)) (hf : ∀ h, Fc h → ∃ o fd, h.get? fi = some o ∧ o.data = .func fd)
    (hcall : ∀ i j r, (i = i1 ∧ j = j1 ∧ r = v1) ∨ (i = i2 ∧ j = j2 ∧ r = v2) → ∀ (A : Around) (X : Addr → Prop) (s : Shared) (vs : List Value) (Q : Value → Shared → Prop), Room A x.c.n → x.St X ρ own s → Fc s.heap → x.c.Reps X s.heap vs [.int i, .int j] → (∀ v s', x.c.Ext s s' → x.c.Rep X s'.heap v (.int r) → Q v s') → wpAny x.c.M A (call (.ref fi) vs) Q noE s)
    (h : Post (.ret (.int (v1 * 2 ^ sh.toNat + v2))) ρ own) : ExF x Fc (.ext 4 l [] :: ms) ρ own Post := by
  refine ExF_cons fun st hs A s X R S hF => ext_k hs fun es he hes => retJ_k (show retJ st = some es from (congrFun (congrFun (congrFun hy 4) []) st).symm.trans he) (fun a b c d e p1 q1 p2 q2 p3 p4 p5 hes => ?_) hes
  have E := (soundL (env := x.env) ok.c l _ _ C hes hm hC).1
  refine wpAny_Return_some (wpAny_BinOp (wpAny_BinOp (inn_call ok hFc (es := [a, b]) (ds := [.int i1, .int j1]) (r := .int v1) ⟨E.1, E.2.1, E.2.2.1, E.2.2.2.1, trivial⟩ nofun hl hf (hcall i1 j1 v1 (.inl ⟨rfl, rfl, rfl⟩)) A X s _ R S hF fun u1 s1 e1 r1 => ?_)))
  have S1 := St.extS ok S e1
  refine E.2.2.2.2.1 A X s1 _ R S1.v fun u2 s2 e2 r2 => Rep.int_k (Rep.ext S1.v.x.xc e2 r1) fun t1 => Rep.int_k r2 fun t2 => lshift_int_small h0 h1 hv ?_
  have e3 : x.c.Ext s { s2 with toks := s2.toks + 1 } := (e1.trans e2).tk _
  refine inn_call ok hFc (es := [d, e]) (ds := [.int i2, .int j2]) (r := .int v2) E.2.2.2.2.2.2 nofun hl hf (hcall i2 j2 v2 (.inr ⟨rfl, rfl, rfl⟩)) A X _ _ R (St.extS ok S e3) (hFc _ _ e3 hF) fun u3 s4 e4 r4 => Rep.int_k r4 fun t3 => PyProof.Rows.add_int ?_
  have e5 : x.c.Ext s { s4 with toks := s4.toks + 1 } := (e3.trans e4).tk _
  exact .inr ⟨nofun, .ret _, ρ, own, X, h, .int _ _, St.extS ok S e5, Stp.ext ok.c.w e5⟩
end
end NC
end Mine
namespace Mine
noncomputable section NC
noncomputable abbrev fo2 (qual : Str) (cl : List (Str × Addr)) (doc pm : Value) (cc : Addr) (ctv : Value) : Obj := fnMade (Str.ofString "inner") qual n2.2.1 n2.2.2.1 n2.2.2.2.1 cl doc pm cc ctv
noncomputable abbrev cl2 (cD cI cN : Addr) : List (Str × Addr) := [(Str.ofString "n", cN), (Str.ofString "inner", cI), (Str.ofString "digits", cD)]
noncomputable abbrev Base.clo2 (b : Base) (vd : Value) (fi cD cI cN cc : Addr) (N : Int) (t : Tok) (qual : Str) (doc pm ctv : Value) : Base :=
  b.clo [(cD, vd), (cI, .ref fi), (cN, .int N t)] fi (fo2 qual (cl2 cD cI cN) doc pm cc ctv) cc qual
theorem bind_inn2 (qual : Str) (cl : List (Str × Addr)) (doc pm : Value) (cc : Addr) (ctv v u : Value) : bindArgs (fnX (Str.ofString "inner") qual n2.2.1 n2.2.2.1 n2.2.2.2.1 cl .none .none doc pm none (.ref cc) ctv) ⟨[v, u], []⟩ = pure [(Str.ofString "L", v), (Str.ofString "R", u)] := by
  with_unfolding_all rfl
theorem sc2_nocell : ∀ x ∈ n2.2.2.2.1.names, x.2 ≠ .cell := by decide +kernel
theorem kd2 : kdOf n2.2.2.2.1 (Str.ofString "digits") = some .free ∧ kdOf n2.2.2.2.1 (Str.ofString "n") = some .free ∧ kdOf n2.2.2.2.1 (Str.ofString "inner") = some .free := by decide +kernel
theorem loc2 : n2.2.2.2.1.names.lookup (Str.ofString "L") = some .local ∧ n2.2.2.2.1.names.lookup (Str.ofString "R") = some .local := by decide +kernel
theorem co2 : n2.2.2.2.1.isCoroutine = false ∧ n2.2.2.2.1.isGenerator = false ∧ n2.2.2.2.1.kind = .function := by decide +kernel
theorem ps2_nd : ([Str.ofString "L", Str.ofString "R"] : List Str).Nodup := by decide +kernel
theorem kd2_nc (y : Str) : kdOf n2.2.2.2.1 y ≠ some .cell := fun h => by
  have : ∀ (l : List (Str × NameKind)), (∀ x ∈ l, x.2 ≠ .cell) → l.lookup y ≠ some .cell := fun l => by
    induction l with
    | nil => intro _ q; cases q
    | cons p r ih =>
      intro hl q
      obtain ⟨a, k⟩ := p
      rw [List.lookup_cons] at q
      split at q
      · cases q; exact hl (a, .cell) List.mem_cons_self rfl
      · exact ih (fun x hx => hl x (List.mem_cons_of_mem _ hx)) q
  exact this _ sc2_nocell h
/-- inner's answer: the number that k digits from place L on are -/
noncomputable def Inn2 (b : Base) (fi : Addr) (vd : Value) (N n L k : Nat) (ds : List Int) : Prop :=
  ∀ (A : Around) (X : Addr → Prop) (s : Shared) (vs : List Value) (Q : Value → Shared → Prop), Room A n → b.W s.heap → XOk b.c0 X s → b.c0.Rep X s.heap vd (.lst (ds.map .int)) → b.c0.Reps X s.heap vs [.int L, .int ((L + k : Nat) : Int)] →
    (∀ v s', b.c0.Ext s s' → b.c0.Rep X s'.heap v (.int (valD N ((ds.drop L).take k))) → Q v s') → wpAny b.c0.M A (call (.ref fi) vs) Q noE s
theorem Ex.of_F {x : Sx} {ρ : Rho} {own : OwnO} {Post : PostT} {ms : List MS} (h : ExF x x.c.W ms ρ own Post) : Ex x ms ρ own Post := fun ss hs A s X R S => h ss hs A s X R S S.v.wd
section
variable {b : Base}
set_option maxHeartbeats 4000000 in
theorem inn2_all (hw : WOk b.W b.wd b.xc b.mg b.mb) {vd : Value} {fi cD cI cN cc : Addr} {N : Nat} {t : Tok} {qual : Str} {doc pm ctv : Value} (d1 : cD ≠ cI) (d2 : cD ≠ cN) (d3 : cI ≠ cN) (ds : List Int) (hds : ∀ d ∈ ds, 0 ≤ d ∧ d < 2 ^ N) (hdl : ds.length ≤ 1000) :
    ∀ m k, k ≤ m → 0 < k → k * N ≤ 60 → ∀ L, L + k ≤ ds.length → Inn2 (b.clo2 vd fi cD cI cN cc (N : Int) t qual doc pm ctv) fi vd N k L k ds := by
  intro m
  induction m with
  | zero => intro k h1 h2; omega
  | succ m ih =>
    intro k hkm hk0 hkN L hLk A X s vs Q R W xk hrd hr hq
    obtain ⟨k', rfl⟩ : ∃ k', k = k' + 1 := ⟨k - 1, by omega⟩
    have hwB := clo_w hw (cells := [(cD, vd), (cI, .ref fi), (cN, .int (N : Int) t)]) (fi := fi) (fo := fo2 qual (cl2 cD cI cN) doc pm cc ctv) (cc := cc) (qual := qual)
    have W0 := W
    obtain ⟨w1, w2, w3, w4⟩ := W
    have cD' := w2 (cD, vd) (by simp)
    have cI' := w2 (cI, .ref fi) (by simp)
    have cN' := w2 (cN, .int (N : Int) t) (by simp)
    have hlk1 : (cl2 cD cI cN).lookup (Str.ofString "digits") = some cD := rfl
    have hlk2 : (cl2 cD cI cN).lookup (Str.ofString "inner") = some cI := rfl
    have hlk3 : (cl2 cD cI cN).lookup (Str.ofString "n") = some cN := rfl
    have hmem : ∀ y a, (cl2 cD cI cN).lookup y = some a → (y = Str.ofString "n" ∧ a = cN) ∨ (y = Str.ofString "inner" ∧ a = cI) ∨ (y = Str.ofString "digits" ∧ a = cD) := fun y a h => by
      have := mem_of_lookup h
      simpa using this
    have hvl := hr.length
    rcases vs with _ | ⟨v1, _ | ⟨v2, _ | ⟨v3, vs⟩⟩⟩ <;> first | (simp at hvl; done) | skip
    refine wpAny_call (codeAny_call_def (fd := fnX (Str.ofString "inner") qual n2.2.1 n2.2.2.1 n2.2.2.2.1 (cl2 cD cI cN) .none .none doc pm none (.ref cc) ctv) (body := n2.2.2.1) (by have := R.dp; omega) w3 rfl (hwB.nolim _ W0) w4 rfl
      (BindsTo.of_eq (bind_inn2 ..)) sc2_nocell (fun p hp => ?_) (fun h₀ hns hk => ?_) co2.1 co2.2.1 co2.2.2)
    · simp only [List.mem_cons, List.not_mem_nil, or_false] at hp
      rcases hp with rfl | rfl
      · exact loc2.1
      · exact loc2.2
    generalize hfd : fnX (Str.ofString "inner") qual n2.2.1 n2.2.2.1 n2.2.2.2.1 (cl2 cD cI cN) .none .none doc pm none (.ref cc) ctv = fd
    have f1 : fd.scope = n2.2.2.2.1 := by rw [← hfd]
    have f2 : fd.globals = mainGlobals := by rw [← hfd]
    have f3 : fd.builtins = builtinsNs := by rw [← hfd]
    have f4 : fd.closure = cl2 cD cI cN := by rw [← hfd]
    have S0 := clo_St (n := k') (tk := s.toks + 2) (F := noF) (X := XW) (xs := xsW) (nm := nm_inn2) (ps := [Str.ofString "L", Str.ofString "R"]) (xo := fun _ => False) (vs := [v1, v2])
      (ρ := [some (.int L), some (.int ((L + (k' + 1) : Nat) : Int)), none, none, some (.lst (ds.map .int)), some (.int N)]) (own := none) (fi := fi) hwB f1 f2 f3 f4 co2.2.2 W0 xk hns hk ?_ ps2_nd rfl hr ?_ ?_ kd2_nc ?_ ?_ ?_ (fun _ h => h.elim) (fun _ _ _ h => by cases h)
    rotate_left
    · intro p hp
      simp only [List.mem_cons, List.not_mem_nil, or_false] at hp
      rcases hp with rfl | rfl
      · exact loc2.1
      · exact loc2.2
    · intro i y hi hlt
      rcases i with _ | _ | i <;> first | exact hi | (simp at hlt; omega)
    · intro i hlt
      rcases i with _ | _ | i <;> first | rfl | (simp at hlt; omega)
    · intro y a h
      refine ⟨fun q => q, ?_⟩
      rcases hmem y a h with ⟨rfl, rfl⟩ | ⟨rfl, rfl⟩ | ⟨rfl, rfl⟩
      · obtain ⟨o, q, _⟩ := cN'; exact ⟨o, q⟩
      · obtain ⟨o, q, _⟩ := cI'; exact ⟨o, q⟩
      · obtain ⟨o, q, _⟩ := cD'; exact ⟨o, q⟩
    · intro y z a hyz h1 h2
      rcases hmem y a h1 with ⟨rfl, rfl⟩ | ⟨rfl, rfl⟩ | ⟨rfl, rfl⟩ <;> rcases hmem z _ h2 with ⟨rfl, q⟩ | ⟨rfl, q⟩ | ⟨rfl, q⟩ <;> first | exact hyz rfl | (exact absurd q (by first | assumption | (apply Ne.symm; assumption)))
    · intro i y d hi hd hge
      rcases i with _ | _ | _ | _ | _ | _ | i <;> first | (simp at hge; done) | (cases hd; done) | skip
      · cases hd; cases hi
        exact ⟨kd2.1, cD, _, hlk1, cD', hrd⟩
      · cases hd; cases hi
        exact ⟨kd2.2.1, cN, _, hlk3, cN', .int _ _⟩
    have ok : SxOk ⟨(b.clo2 vd fi cD cI cN cc (N : Int) t qual doc pm ctv).cx k' noF XW xsW, callEnv fd s.heap.objs.size fi, nm_inn2, kdOf n2.2.2.2.1, s, X, fun _ => False, ysJ, zsW⟩ := ⟨cxok0' hwB k', nd_inn2⟩
    have hex : ExF ⟨(b.clo2 vd fi cD cI cN cc (N : Int) t qual doc pm ctv).cx k' noF XW xsW, callEnv fd s.heap.objs.size fi, nm_inn2, kdOf n2.2.2.2.1, s, X, fun _ => False, ysJ, zsW⟩ (b.clo2 vd fi cD cI cN cc (N : Int) t qual doc pm ctv).W ms_inn2
        [some (.int L), some (.int ((L + (k' + 1) : Nat) : Int)), none, none, some (.lst (ds.map .int)), some (.int N)] none
        (fun o _ _ => o = .ret (.int (valD N ((ds.drop L).take (k' + 1))))) := by
      unfold ms_inn2
      refine ExF_ite ok (fun _ _ e => e.wd) rfl (by simp) rfl trivial (fun ht => ?_) (fun hf => ?_)
      · rw [decide_eq_true_eq] at ht
        have hk1 : k' = 0 := by omega
        subst hk1
        have hg : (ds.map AV.int)[L]? = some (.int (ds.getD L 0)) := by
          rw [List.getElem?_map, List.getD_eq_getElem?_getD, List.getElem?_eq_getElem (by omega)]; rfl
        have hgd : (ds.map AV.int).getD ((L : Int)).toNat .none = .int (ds.getD L 0) := by
          rw [Int.toNat_natCast, List.getD_eq_getElem?_getD, hg]; rfl
        refine ExF.of (Ex_ret ok rfl ?_ ?_)
        · refine ⟨trivial, trivial, by omega, by omega, ?_⟩
          rw [hgd, Int.toNat_natCast, hg]; rfl
        · show Out.ret (.int (getI _)) = _
          rw [hgd]
          have : (ds.drop L).take 1 = [ds.getD L 0] := by
            rw [List.drop_eq_getElem_cons (by omega), List.getD_eq_getElem?_getD, List.getElem?_eq_getElem (by omega)]; rfl
          rw [this]
          simp [valD, getI]
      · rw [decide_eq_false_iff_not] at hf
        refine Ex_nil ?_
        obtain ⟨i, j, hij, hi0, hj0, hid⟩ : ∃ i j : Nat, i + j = k' + 1 ∧ 0 < i ∧ 0 < j ∧ (L + (L + (k' + 1))) / 2 = L + i := ⟨(k' + 1) / 2, k' + 1 - (k' + 1) / 2, by omega, by omega, by omega, by omega⟩
        have hiN : i * N ≤ 60 := Nat.le_trans (Nat.mul_le_mul_right N (by omega)) hkN
        have hjN : j * N ≤ 60 := Nat.le_trans (Nat.mul_le_mul_right N (by omega)) hkN
        refine Ex_asg ok rfl (by simp) (by simp) ?_
        rw [show ((L : Int) + ((L + (k' + 1) : Nat) : Int)) / 2 ^ (Int.toNat 1) = ((L + i : Nat) : Int) by
          have : (2 : Int) ^ (Int.toNat 1) = 2 := rfl
          rw [this]; omega]
        refine Ex_asg ok rfl (by simp; omega) (by simp) ?_
        rw [show (((L + i : Nat) : Int) - (L : Int)) * (N : Int) = ((i * N : Nat) : Int) by
          rw [show ((L + i : Nat) : Int) - (L : Int) = (i : Int) by omega]; simp]
        have hvb := valD_bd N ((ds.drop (L + i)).take j) fun d hd => hds d (List.mem_of_mem_drop (List.mem_of_mem_take hd))
        have hvb2 : (2 : Int) ^ (((ds.drop (L + i)).take j).length * N) ≤ 2 ^ 60 := by
          have hle : ((ds.drop (L + i)).take j).length * N ≤ 60 := by
            rw [List.length_take, List.length_drop, Nat.min_eq_left (by omega)]; exact hjN
          have := Nat.pow_le_pow_right (n := 2) (by decide) hle
          exact_mod_cast this
        refine Ex.of_F (ExF_ret2 (fi := fi) (v1 := valD N ((ds.drop (L + i)).take j)) (v2 := valD N ((ds.drop L).take i)) ok rfl (fun _ _ e => e.wd) rfl (by simp) (by omega) (by omega) (by omega) (fun X2 s2 S2 W2 => ?_) (fun h W2 => ⟨_, _, W2.2.2.1, rfl⟩) (fun i' j' r' hc A2 X2 s2 vs2 Q2 R2 S2 W2 r2 hq2 => ?_) ?_)
        · exact .inr ⟨.inr ((S2.kde _).trans kd2.2.2), cI, by show List.lookup _ fd.closure = _; rw [f4]; exact hlk2, W2.2.1 (cI, .ref fi) (by simp)⟩
        · obtain ⟨v', ld, rv⟩ := S2.v.vars 4 _ _ rfl rfl
          have hvd : v' = vd := by
            rcases ld with ⟨hl, _⟩ | ⟨_, ca, h3, h4⟩
            · have q := ((S2.kde _).symm.trans hl).symm.trans kd2.1
              cases q
            · have h3' : List.lookup (Str.ofString "digits") fd.closure = some ca := h3
              rw [f4, hlk1] at h3'
              cases h3'
              obtain ⟨o1, q1, q2⟩ := h4
              obtain ⟨o2, q3, q4⟩ := W2.2.1 (cD, vd) (by simp)
              rw [q1] at q3; cases q3
              rw [q2] at q4
              injection q4 with q4
              injection q4
          subst hvd
          rcases hc with ⟨rfl, rfl, rfl⟩ | ⟨rfl, rfl, rfl⟩
          · exact ih j (by omega) hj0 hjN (L + i) (by omega) A2 X2 s2 vs2 Q2 (R2.le (by show j ≤ k'; omega)) W2 ⟨S2.v.x.xc, S2.v.x.lt⟩ rv (by rw [Nat.add_assoc, hij]; exact r2) hq2
          · exact ih i (by omega) hi0 hiN L (by omega) A2 X2 s2 vs2 Q2 (R2.le (by show i ≤ k'; omega)) W2 ⟨S2.v.x.xc, S2.v.x.lt⟩ rv r2 hq2
        · rw [Int.toNat_natCast, Int.mul_comm, Int.add_comm, ← valD_split N ds L i j (by omega), hij]
    refine wpAny_mono (hex n2.2.2.1 chk_inn2 (A.deeper _) _ _ (R.deeper _) S0 (hwB.stable _ _ W0 fun a o _ e => hk a o e)) (fun fl s' h1 => ?_) fun _ _ e => e.elim
    obtain ⟨o, ρ', own', X1, rfl, hO', S', _⟩ := h1
    cases fl <;> first | exact hO'.elim | skip
    exact hq _ _ ((S'.e).weaken fun _ h => h.elim id id) hO'
end
end NC
end Mine
namespace Mine
noncomputable section NC
noncomputable def retE (st : Stmt) : Option (List Expr) := ksReturn none st fun o _ => o.elim none fun e => kIfExp none e fun d c z _ => kConstant none z fun z _ _ => kcint none z fun z => (call2 "inner" c).elim none fun q => bif z == 0 then some (d :: q.1) else none
noncomputable def ysE (nst : Stmt) (k : Nat) (_ : List Nat) (st : Stmt) : Option (List Expr) := bif k == 5 then retE st else bif k == 2 then isSt nst st else none
theorem ysE_2 {nst : Stmt} {is : List Nat} {st : Stmt} {es : List Expr} (h : ysE nst 2 is st = some es) : st = nst := isSt_t h
@[elab_as_elim] theorem retE_k {st : Stmt} {es : List Expr} {M : Stmt → List Expr → Prop} (h : retE st = some es) (k : ∀ d a b p1 q1 k2 p2 p3 p4, M (.Return (some (.IfExp d (.Call (.Name (Str.ofString "inner") p1) [a, b] [] q1) (.Constant (.int 0) k2 p2) p3)) p4) [d, a, b]) : M st es :=
  ksReturn_k (M := fun st => M st es) oN h fun o p4 h => ko_k (M := fun o => M (.Return o p4) es) oN h fun e h => kIfExp_k (M := fun e => M (.Return (some e) p4) es) oN h fun d c z p3 h => kConstant_k (M := fun z => M (.Return (some (.IfExp d c z p3)) p4) es) oN h fun z k2 p2 h => kcint_k (M := fun z => M (.Return (some (.IfExp d c (.Constant z k2 p2) p3)) p4) es) oN h fun z h => ob_k h fun ⟨l1, g1⟩ h1 h => bif_k h fun hb h =>
    beq_k (M := fun z => M (.Return (some (.IfExp d c (.Constant (.int z) k2 p2) p3)) p4) es) hb (call2_k (M := fun c l1 _ => some (d :: l1) = some es → M (.Return (some (.IfExp d c (.Constant (.int 0) k2 p2) p3)) p4) es) h1 (fun p1 a b q1 h => Option.some.inj h ▸ k d a b p1 q1 k2 p2 p3 p4) h)
section
variable {x : Sx} {ρ : Rho} {own : OwnO} {Post : PostT} {ms : List MS}
/-- return inner(a, b) if d else 0 -/
theorem ExF_ret3 (ok : SxOk x) {nst : Stmt} (hy : x.ys = ysE nst) {Fc : Heap → Prop} (hFc : ∀ s s', x.c.Ext s s' → Fc s.heap → Fc s'.heap) {fi : Addr} {e0 e1 e2 : ME} {dl : List AV} {i1 j1 v1 : Int} {C0 C : Prop} (hm0 : mev x.c.F x.c.X ρ e0 = some (.lst dl, C0)) (hC0 : C0) (hdl : dl.length ≤ 2 ^ 20)
    (hm : mevL x.c.F x.c.X ρ [e1, e2] = some ([.int i1, .int j1], C)) (hC : C)
    (hl : ∀ X s, x.St X ρ own s → Fc s.heap → Ld x.env s.heap (Str.ofString "inner") (.ref fi)) (hf : ∀ h, Fc h → ∃ o fd, h.get? fi = some o ∧ o.data = .func fd)
    (hcall : dl ≠ [] → ∀ (A : Around) (X : Addr → Prop) (s : Shared) (vs : List Value) (Q : Value → Shared → Prop), Room A x.c.n → x.St X ρ own s → Fc s.heap → x.c.Reps X s.heap vs [.int i1, .int j1] → (∀ v s', x.c.Ext s s' → x.c.Rep X s'.heap v (.int v1) → Q v s') → wpAny x.c.M A (call (.ref fi) vs) Q noE s)
    (h1 : dl ≠ [] → Post (.ret (.int v1)) ρ own) (h2 : dl = [] → Post (.ret (.int 0)) ρ own) : ExF x Fc (.ext 5 [e0, e1, e2] [] :: ms) ρ own Post := by
  refine ExF_cons fun st hs A s X R S hF => ext_k hs fun es he hes => retE_k (show retE st = some es from (congrFun (congrFun (congrFun hy 5) []) st).symm.trans he) (fun d a b p1 q1 k2 p2 p3 p4 hes => ?_) hes
  have hb := and_t (show (chk x.names x.kd x.c.gs x.c.xs e0 d && chkL x.names x.kd x.c.gs x.c.xs [e1, e2] [a, b]) = true from hes)
  refine wpAny_Return_some (wpAny_IfExp ((sound (env := x.env) ok.c e0 d _ C0 hb.1 hm0 hC0).2 (!dl.isEmpty) rfl hdl A X s _ R S.v fun s1 e1' => ?_))
  have S1 := St.extS ok S e1'
  cases dl with
  | nil =>
    have e5 : x.c.Ext s { s1 with toks := s1.toks + 1 } := e1'.tk _
    exact wpAny_Constant_int (.inr ⟨nofun, .ret _, ρ, own, X, h2 rfl, .int _ _, St.extS ok S e5, Stp.ext ok.c.w e5⟩)
  | cons y r =>
    refine inn_call ok hFc (es := [a, b]) (ds := [.int i1, .int j1]) (r := .int v1) (soundL (env := x.env) ok.c [e1, e2] [a, b] _ C hb.2 hm hC).1 nofun hl hf (hcall nofun) A X s1 _ R S1 (hFc _ _ e1' hF) fun u1 s2 e2' r1 => ?_
    have e5 := e1'.trans e2'
    exact .inr ⟨nofun, .ret _, ρ, own, X, h1 nofun, Rep.int_k r1 fun t => .int _ _, St.extS ok S e5, Stp.ext ok.c.w e5⟩
end
end NC
end Mine
namespace Mine
noncomputable section NC
noncomputable def qual8 : Str := dName 8 ++ (".<locals>." : Str) ++ Str.ofString "inner"
noncomputable def ps_d2i : List Str := ["digits", "n"].map Str.ofString
noncomputable def ls_d2i : List Str := ["inner"].map Str.ofString
noncomputable def ms_d2i : List MS := [.ext 2 [] [], .ext 5 [.var 0, .int 0, .ext 0 [.var 0]] []]
theorem body8 : dBody 8 = [sAt 8 0, sAt 8 1] := by with_unfolding_all rfl
theorem nst8 : sAt 8 0 = .FunctionDef (Str.ofString "inner") n2.2.1 n2.2.2.1 [] none [] n2.2.2.2.1 none (Str.ofString "inner") n2.2.2.2.2 := by with_unfolding_all rfl
theorem chk_d2i : chkSs (ps_d2i ++ ls_d2i) (kdOf (dSc 8)) gsAll xsW (ysE (sAt 8 0)) zsW ms_d2i (dBody 8) = true := by
  rw [body8]
  unfold ms_d2i
  exact chkSs_mk (ext_mk (isSt_self _)) (chkSs_mk (by decide +kernel) rfl)
theorem gs_5 : gsAll[5]? = some (dName 8) := by decide +kernel
theorem nd_8 : (ps_d2i ++ ls_d2i).Nodup := by decide +kernel
theorem kd8 : kdOf (dSc 8) (Str.ofString "digits") = some .cell ∧ kdOf (dSc 8) (Str.ofString "n") = some .cell ∧ kdOf (dSc 8) (Str.ofString "inner") = some .cell := by decide +kernel
theorem clos2 {env : Env} {cD cI cN : Addr} (h1 : env.cells.lookup (Str.ofString "digits") = some cD) (h2 : env.cells.lookup (Str.ofString "inner") = some cI) (h3 : env.cells.lookup (Str.ofString "n") = some cN) : closureFor n2.2.2.2.1 env = pure (cl2 cD cI cN) := by
  have hn : n2.2.2.2.1.names = [(Str.ofString "L", .local), (Str.ofString "R", .local), (Str.ofString "mid", .local), (Str.ofString "shift", .local), (Str.ofString "digits", .free), (Str.ofString "inner", .free), (Str.ofString "n", .free)] := by decide +kernel
  unfold closureFor
  rw [hn]
  simp [cellOf, h1, h2, h3]
end NC
end Mine
namespace Mine
noncomputable section NC
section
variable {b : Base}
set_option maxHeartbeats 4000000 in
theorem fn_d2i (hb : BOk b) {P : Addr} (NW : NestW b 8 P n2.2.2.2.2 qual8) (n : Nat) {w : Nat} (ds : List Int) (hds : ∀ d ∈ ds, 0 ≤ d ∧ d < 2 ^ w) (hw60 : ds.length * w ≤ 60) (hdl : ds.length ≤ 1000) (hn : ds.length ≤ n) :
    FnOk b.c0 (n + 1) 5 [.lst (ds.map .int), .int w] (.int (valD w ds)) := by
  obtain ⟨f, D⟩ := hb.d 8 (by simp)
  refine FnOk_ofC (ps := ps_d2i) (rest := ls_d2i) (ms := ms_d2i) (F := noF) (X := XW) (xs := xsW) hb.w (ysE (sAt 8 0)) zsW gs_5 D (bind2 fun _ _ _ _ _ => by with_unfolding_all rfl) rfl (by decide +kernel) (by decide +kernel) chk_d2i ?_
    (by decide +kernel) (by decide +kernel) (by decide +kernel)
  rintro env s₀ X0 ⟨⟨W0, o, pm, doc, ho, hd⟩, hqual⟩
  have ok : SxOk ⟨b.cx n noF XW xsW, env, ps_d2i ++ ls_d2i, kdOf (dSc 8), s₀, X0, fun _ => False, ysE (sAt 8 0), zsW⟩ := ⟨cxok0 hb n, nd_8⟩
  unfold ms_d2i
  obtain ⟨cO, hc1, hc2, hc3⟩ := NW.hd _ f o pm env.code doc W0 D.glob ho hd
  generalize hcD : (env.cells.lookup (Str.ofString "digits")).getD 0 = cD
  generalize hcI : (env.cells.lookup (Str.ofString "inner")).getD 0 = cI
  generalize hcN : (env.cells.lookup (Str.ofString "n")).getD 0 = cN
  have hcel : ∀ (X : Addr → Prop) (s : Shared) (ρ : Rho) (own : OwnO), Mine.St (b.cx n noF XW xsW) env (ps_d2i ++ ls_d2i) (kdOf (dSc 8)) (fun _ => False) s₀ X0 X ρ own s →
      (env.cells.lookup (Str.ofString "digits") = some cD ∧ ¬ b.wd cD) ∧ (env.cells.lookup (Str.ofString "inner") = some cI ∧ ¬ b.wd cI) ∧ (env.cells.lookup (Str.ofString "n") = some cN ∧ ¬ b.wd cN) ∧ cD ≠ cI ∧ cD ≠ cN ∧ cI ≠ cN := fun X s ρ own S => by
    obtain ⟨a1, h1, _, w1, _⟩ := S.cel _ kd8.1
    obtain ⟨a2, h2, _, w2, _⟩ := S.cel _ kd8.2.2
    obtain ⟨a3, h3, _, w3, _⟩ := S.cel _ kd8.2.1
    rw [h1] at hcD; rw [h2] at hcI; rw [h3] at hcN
    simp only [Option.getD_some] at hcD hcI hcN
    subst hcD; subst hcI; subst hcN
    refine ⟨⟨h1, w1⟩, ⟨h2, w2⟩, ⟨h3, w3⟩, fun q => ?_, fun q => ?_, fun q => ?_⟩
    · exact S.apart _ _ a1 (by decide +kernel) h1 (q ▸ h2)
    · exact S.apart _ _ a1 (by decide +kernel) h1 (q ▸ h3)
    · exact S.apart _ _ a2 (by decide +kernel) h2 (q ▸ h3)
  refine Ex_def hb.w NW ok (fun is st es h => (ysE_2 h).trans nst8) rfl rfl rfl (fun X s S => ?_) ⟨cO, hc1, hc2, hc3⟩ (iN := 2) rfl kd8.2.2 (by rintro j a l ⟨⟩) (clo := cl2 cD cI cN) (fun X s S => ?_) fun fi cc doc ctv pm => ?_
  · unfold qualnameIn
    rw [show env.kindOf (Str.ofString "inner") = some .cell from (S.kde _).trans kd8.2.2]
    rw [hqual]; rfl
  · have := hcel X s _ _ S
    exact clos2 this.1.1 this.2.1.1 this.2.2.1.1
  refine ExF.more (Fc' := fun h => (¬ b.wd fi ∧ ¬ b.xc cc ∧ (¬ b.wd cD ∧ ¬ b.wd cI ∧ ¬ b.wd cN) ∧ (env.cells.lookup (Str.ofString "digits") = some cD ∧ env.cells.lookup (Str.ofString "inner") = some cI) ∧ (cD ≠ cI ∧ cD ≠ cN ∧ cI ≠ cN) ∧
      ∃ vd t, CloF [(cD, vd), (cI, .ref fi), (cN, .int (w : Int) t)] fi (fo2 qual8 (cl2 cD cI cN) doc pm cc ctv) cc qual8 h)) (fun X s S hF => ?_) ?_
  · obtain ⟨f1, f2, ⟨ci, f3, f4⟩, f5, f6⟩ := hF
    have hc := hcel X s _ _ S
    obtain ⟨vd, ld, rd⟩ := S.v.vars 0 _ (.lst (ds.map .int)) rfl rfl
    obtain ⟨vn, ln, rn⟩ := S.v.vars 1 _ (.int w) rfl rfl
    have lA : s.heap.IsCell cD (some vd) := by
      rcases ld with ⟨hl, _⟩ | ⟨_, c2, h3, h4⟩
      · have q := ((S.kde _).symm.trans hl).symm.trans kd8.1
        cases q
      · have q := h3.symm.trans hc.1.1
        cases q; exact h4
    have lN : s.heap.IsCell cN (some vn) := by
      rcases ln with ⟨hl, _⟩ | ⟨_, c2, h3, h4⟩
      · have q := ((S.kde _).symm.trans hl).symm.trans kd8.2.1
        cases q
      · have q := h3.symm.trans hc.2.2.1.1
        cases q; exact h4
    have q := f3.symm.trans hc.2.1.1
    cases q
    cases rn with | int _ t0 =>
    refine ⟨f1, f2, ⟨hc.1.2, hc.2.1.2, hc.2.2.1.2⟩, ⟨hc.1.1, hc.2.1.1⟩, hc.2.2.2, vd, t0, ?_, f5, f6⟩
    intro p hp
    simp only [List.mem_cons, List.not_mem_nil, or_false] at hp
    rcases hp with rfl | rfl | rfl
    · exact lA
    · exact f4
    · exact lN
  have nxc : ∀ {z : Addr}, ¬ b.wd z → ¬ b.xc z := fun h q => h (hb.w.xcwd _ q)
  have hFc : ∀ s s' : Shared, (b.cx n noF XW xsW).Ext s s' → (¬ b.wd fi ∧ ¬ b.xc cc ∧ (¬ b.wd cD ∧ ¬ b.wd cI ∧ ¬ b.wd cN) ∧ (env.cells.lookup (Str.ofString "digits") = some cD ∧ env.cells.lookup (Str.ofString "inner") = some cI) ∧ (cD ≠ cI ∧ cD ≠ cN ∧ cI ≠ cN) ∧
      ∃ vd t, CloF [(cD, vd), (cI, .ref fi), (cN, .int (w : Int) t)] fi (fo2 qual8 (cl2 cD cI cN) doc pm cc ctv) cc qual8 s.heap) → (¬ b.wd fi ∧ ¬ b.xc cc ∧ (¬ b.wd cD ∧ ¬ b.wd cI ∧ ¬ b.wd cN) ∧ (env.cells.lookup (Str.ofString "digits") = some cD ∧ env.cells.lookup (Str.ofString "inner") = some cI) ∧ (cD ≠ cI ∧ cD ≠ cN ∧ cI ≠ cN) ∧
      ∃ vd t, CloF [(cD, vd), (cI, .ref fi), (cN, .int (w : Int) t)] fi (fo2 qual8 (cl2 cD cI cN) doc pm cc ctv) cc qual8 s'.heap) := fun s s' e ⟨g1, g2, g3, g4, g5, vd, t, g7, g8, g9⟩ => by
    refine ⟨g1, g2, g3, g4, g5, vd, t, fun p hp => IsCell.keep1 (g7 p hp) fun o q => e.keep _ o ?_ q, e.keep _ _ (nxc g1) g8, CodeRec.keep1 g9 fun o q => e.keep _ o g2 q⟩
    simp only [List.mem_cons, List.not_mem_nil, or_false] at hp
    rcases hp with rfl | rfl | rfl
    · exact nxc g3.1
    · exact nxc g3.2.1
    · exact nxc g3.2.2
  refine ExF_ret3 (fi := fi) (v1 := valD w ds) ok rfl hFc rfl trivial (by rw [List.length_map]; omega) rfl (by simp; omega) (fun X s S hF => ?_) (fun h hF => ?_) (fun hne A X s vs Q R S hF hr hq => ?_) (fun _ => rfl) (fun he => ?_)
  · obtain ⟨g1, g2, g3, g4, g5, vd, t, g7, g8, g9⟩ := hF
    exact .inr ⟨.inl ((S.kde _).trans kd8.2.2), cI, g4.2, g7 (cI, .ref fi) (by simp)⟩
  · obtain ⟨g1, g2, g3, g4, g5, vd, t, g7, g8, g9⟩ := hF
    exact ⟨_, _, g8, rfl⟩
  · obtain ⟨g1, g2, g3, g4, g5, vd, t, g7, g8, g9⟩ := hF
    obtain ⟨v', ld, rv⟩ := S.v.vars 0 _ (.lst (ds.map .int)) rfl rfl
    have hvd : v' = vd := by
      rcases ld with ⟨hl, _⟩ | ⟨_, ca, h3, h4⟩
      · have q := ((S.kde _).symm.trans hl).symm.trans kd8.1
        cases q
      · have q := h3.symm.trans g4.1
        cases q
        obtain ⟨o1, q1, q2⟩ := h4
        obtain ⟨o2, q3, q4⟩ := g7 (cD, vd) (by simp)
        rw [q1] at q3; cases q3
        rw [q2] at q4
        injection q4 with q4
        injection q4
    subst hvd
    have hpos : 0 < ds.length := by
      rcases Nat.eq_zero_or_pos ds.length with q | q
      · exact absurd (by rw [List.length_eq_zero_iff.mp q]; rfl) hne
      · exact q
    have hI := inn2_all (b := b) (vd := v') (fi := fi) (cc := cc) (t := t) (qual := qual8) (doc := doc) (pm := pm) (ctv := ctv) hb.w g5.1 g5.2.1 g5.2.2 ds hds hdl ds.length ds.length (Nat.le_refl _) hpos hw60 0 (by omega)
    have Wc : (b.clo2 v' fi cD cI cN cc (w : Int) t qual8 doc pm ctv).W s.heap := ⟨S.v.wd, g7, g8, g9⟩
    refine hI A X s vs Q (R.le hn) Wc ⟨fun _ q => q.elim, fun z hz => ?_⟩ rv (by rw [Nat.zero_add]; rw [List.length_map] at hr; exact hr) fun v s' e r => hq v s' ⟨e.same, fun z o _ q => e.keep z o id q, fun _ => (e.wd Wc).1⟩ ?_
    · rcases S.v.x.lt z hz with q | q
      · exact .inr (hb.w.alive _ _ S.v.wd (hb.w.xcwd _ q))
      · exact .inr q
    · rw [List.drop_zero, List.take_of_length_le (Nat.le_refl _)] at r
      exact r
  · rw [List.map_eq_nil_iff.mp he]; rfl
end
end NC
end Mine
namespace Mine
noncomputable section NC
noncomputable def mOf (a w : Int) : Nat := (Builtin.Int.intBits a + w.toNat - 1) / w.toNat
noncomputable def ic (l : List AV) (f : Int → List AV → AP) : AP := kc none l fun a l => oInt a fun a => f a l
@[elab_as_elim] theorem ic_k {l : List AV} {f : Int → List AV → AP} {r : AV × Prop} {M : List AV → Prop} (h : ic l f = some r) (k : ∀ a l, f a l = some r → M (.int a :: l)) : M l := kc_k oN h fun a l h => oInt_k (M := fun a => M (a :: l)) h fun a h => k a l h
noncomputable def i2 (l : List AV) (f : Int → Int → AP) : AP := k2 none l fun a b => oInt a fun a => oInt b fun b => f a b
@[elab_as_elim] theorem i2_k {l : List AV} {f : Int → Int → AP} {r : AV × Prop} {M : List AV → Prop} (h : i2 l f = some r) (k : ∀ a b, f a b = some r → M [.int a, .int b]) : M l := k2_k oN h fun a b h => oInt_k (M := fun a => M [a, b]) h fun a h => oInt_k (M := fun b => M [.int a, b]) h fun b h => k a b h
noncomputable def FP (n k : Nat) (ds : List AV) : AP := bif k == 3 then (ic ds fun x l => i2 l fun y k => some (.tup [.int (x / y), .int (x % y)], (Builtin.Int.intBits x : Int) - k ≤ 4000 ∧ 0 < y ∧ y < 2 ^ 64)) else
  bif k == 4 then (i2 ds fun a w => some (.lst ((digs w.toNat (mOf a w) a.toNat).map .int), 0 ≤ a ∧ 0 < w ∧ w ≤ 60 ∧ mOf a w * w.toNat ≤ 60 ∧ mOf a w ≤ n ∧ a.toNat < 2 ^ (mOf a w * w.toNat))) else
  bif k == 5 then (k2 none ds fun l w => oLst l fun l => oInt w fun w => some (.int (valD w.toNat (l.map getI)), l = (l.map getI).map .int ∧ 0 ≤ w ∧ (∀ d ∈ l.map getI, 0 ≤ d ∧ d < 2 ^ w.toNat) ∧ (l.map getI).length * w.toNat ≤ 60 ∧ (l.map getI).length ≤ 1000 ∧ (l.map getI).length ≤ n)) else none
section
variable {b : Base}
theorem FP_ok (hb : BOk b) {P7 P8 : Addr} (N7 : NestW b 7 P7 n1.2.2.2.2 qual7) (N8 : NestW b 8 P8 n2.2.2.2.2 qual8) (n : Nat) : ∀ k ds d C, FP n k ds = some (d, C) → C → FnOk b.c0 (n + 1) k ds d := fun k ds d C h =>
  row_k h (fun h => ic_k h fun x l h => i2_k h fun y k h => some_k h fun hC => fn_div2 hb n hC.1 hC.2.1 hC.2.2) fun h =>
  row_k h (fun h => i2_k h fun a w h => some_k h fun hC => by
    have ea := Int.toNat_of_nonneg hC.1
    have ew := Int.toNat_of_nonneg (Int.le_of_lt hC.2.1)
    have := fn_i2d hb N7 n (a := a.toNat) (w := w.toNat) (m := mOf a w) (by omega) (by unfold mOf; rw [ea]) hC.2.2.2.1 (by omega) hC.2.2.2.2.1 hC.2.2.2.2.2
    rw [ea, ew] at this
    exact this) fun h =>
  row_k h (fun h => k2_k oN h fun l w h => oLst_k h fun l h => oInt_k h fun w h => some_k h fun hC => by
    have ew := Int.toNat_of_nonneg hC.2.1
    have := fn_d2i hb N8 n (w := w.toNat) (l.map getI) hC.2.2.1 hC.2.2.2.1 hC.2.2.2.2.1 hC.2.2.2.2.2
    rw [← hC.1, ew] at this
    exact this) fun h => absurd h oN
theorem gs_6 : gsAll[6]? = some (dName 9) := by decide +kernel
theorem nd_9 : (ps_divmod_pos ++ ls_divmod_pos).Nodup := by decide +kernel
theorem dig_step {w : Nat} {bb r d : Int} (hb : 0 < bb) (r0 : 0 ≤ r) (r1 : r < bb) (d0 : 0 ≤ d) (d1 : d < 2 ^ w) : 0 ≤ (r * 2 ^ w + d) / bb ∧ (r * 2 ^ w + d) / bb < 2 ^ w := by
  have hp : (0 : Int) < 2 ^ w := Int.pow_pos (by decide)
  have h0 : 0 ≤ r * 2 ^ w := Int.mul_nonneg r0 (Int.le_of_lt hp)
  refine ⟨Int.ediv_nonneg (by omega) (Int.le_of_lt hb), Int.ediv_lt_of_lt_mul hb ?_⟩
  have h1 : (r + 1) * 2 ^ w ≤ bb * 2 ^ w := Int.mul_le_mul_of_nonneg_right (by omega) (Int.le_of_lt hp)
  rw [Int.add_mul, Int.one_mul] at h1
  rw [Int.mul_comm (2 ^ w) bb]
  omega
theorem digs_bd (N : Nat) : ∀ k x, ∀ d ∈ digs N k x, 0 ≤ d ∧ d < 2 ^ N
  | 0, _, d, h => by cases h
  | k + 1, x, d, h => by
    rw [digs] at h
    rcases List.mem_cons.mp h with rfl | h
    · have := Nat.mod_lt x (Nat.two_pow_pos N)
      refine ⟨by omega, ?_⟩
      have e : ((2 ^ N : Nat) : Int) = (2 : Int) ^ N := by norm_cast
      rw [← e]; omega
    · exact digs_bd N k _ d h
set_option maxHeartbeats 4000000 in
theorem fn_dpos (hb : BOk b) {P7 P8 : Addr} (N7 : NestW b 7 P7 n1.2.2.2.2 qual7) (N8 : NestW b 8 P8 n2.2.2.2.2 qual8) (n : Nat) (hn : 60 ≤ n) {a bb : Nat} (ha : a < 2 ^ 32) (hb0 : 0 < bb) (hb1 : bb < 2 ^ 26) :
    FnOk b.c0 (n + 2) 6 [.int a, .int bb] (.tup [.int ((a : Int) / bb), .int ((a : Int) % bb)]) := by
  obtain ⟨f, D⟩ := hb.d 9 (by simp)
  refine FnOk_of (n := n + 1) (ps := ps_divmod_pos) (rest := ls_divmod_pos) (ms := ms_divmod_pos) (F := FP n) (X := XW) (xs := xsW) hb.w ys0 zsW gs_6 D (bind2 fun _ _ _ _ _ => by with_unfolding_all rfl) rfl (by decide +kernel) (by decide +kernel) chk_divmod_pos ?_
    (by decide +kernel) (by decide +kernel) (by decide +kernel)
  intro env s₀ X0
  have ok : SxOk ⟨b.cx (n + 1) (FP n) XW xsW, env, ps_divmod_pos ++ ls_divmod_pos, kdOf (dSc 9), s₀, X0, fun _ => False, ys0, zsW⟩ := ⟨cxok hb (n + 1) (FP n) (FP_ok hb N7 N8 n), nd_9⟩
  generalize hw : Builtin.Int.intBits (bb : Int) = w
  have hw26 : w ≤ 26 := by rw [← hw]; exact intBits_le_iff.mpr (by simpa using hb1)
  have hbw : bb < 2 ^ w := by
    have := (intBits_le_iff (m := w) (x := (bb : Int))).mp (by rw [hw]; exact Nat.le_refl _)
    simpa using this
  have hw0 : 0 < w := by
    rcases Nat.eq_zero_or_pos w with q | q
    · rw [q] at hbw; simp at hbw; omega
    · exact q
  have hba : Builtin.Int.intBits (a : Int) ≤ 32 := intBits_le_iff.mpr (by simpa using ha)
  have haw : a < 2 ^ Builtin.Int.intBits (a : Int) := by
    have := (intBits_le_iff (m := Builtin.Int.intBits (a : Int)) (x := (a : Int))).mp (Nat.le_refl _)
    simpa using this
  have hmm : mOf a w = (Builtin.Int.intBits (a : Int) + w - 1) / w := by unfold mOf; rw [Int.toNat_natCast]
  generalize hm : mOf a w = m at hmm
  have hmw : m * w ≤ Builtin.Int.intBits (a : Int) + w - 1 := by rw [hmm]; exact Nat.div_mul_le_self _ _
  have hmw2 : Builtin.Int.intBits (a : Int) ≤ m * w := by
    have := Nat.lt_div_mul_add (a := Builtin.Int.intBits (a : Int) + w - 1) hw0
    rw [← hmm] at this
    omega
  have hm60 : m ≤ 60 := by
    have := Nat.le_mul_of_pos_right m hw0
    omega
  have ham : a < 2 ^ (m * w) := Nat.lt_of_lt_of_le haw (Nat.pow_le_pow_right (by decide) hmw2)
  unfold ms_divmod_pos
  refine Ex_asg ok rfl (by simp) (by simp) ?_
  rw [hw]
  refine Ex_asg ok rfl (by
    refine ⟨⟨trivial, trivial, trivial⟩, by omega, by omega, by omega, ?_⟩
    rw [hm]; simp only [Int.toNat_natCast]; exact ⟨by omega, by omega, ham⟩) (by simp) ?_
  rw [hm, Int.toNat_natCast, Int.toNat_natCast]
  generalize hDg : digs w m a = Dg
  have hDl : Dg.length = m := by rw [← hDg, digs_len]
  have hDv : valD w Dg = a := by rw [← hDg]; exact valD_digs w m a ham
  have hDb : ∀ d ∈ Dg, 0 ≤ d ∧ d < 2 ^ w := by rw [← hDg]; exact digs_bd w m a
  refine Ex_asg ok rfl trivial (by simp) ?_
  refine Ex_new ok fun Dl => ?_
  refine Ex_for ok (fun ie te _ hi => hit_rev ok rfl trivial ie te hi)
    (fun rest ρ own => ∃ (pre qs rs : List Int) (r : Int) (o1 o2 o3 : Option AV), Dg.reverse = pre ++ rs ∧ rest = rs.map .int ∧ valD w pre.reverse = valD w qs.reverse * bb + r ∧ 0 ≤ r ∧ r < bb ∧ (∀ q ∈ qs, 0 ≤ q ∧ q < 2 ^ w) ∧ qs.length = pre.length ∧ own = some (5, Dl, .lst (qs.map .int)) ∧
      ρ = [some (.int a), some (.int bb), some (.int w), some (.lst (Dg.map .int)), some (.int r), none, o1, o2, o3]) ?_ ?_ ?_
  · exact ⟨[], [], Dg.reverse, 0, none, none, none, rfl, by rw [List.map_reverse], by simp [valD], by omega, by omega, by simp, rfl, rfl, rfl⟩
  · rintro d rest ρ own ⟨pre, qs, rs, r, o1, o2, o3, hp, hr, hv, r0, r1, hq, hl, rfl, rfl⟩
    rcases rs with _ | ⟨d1, rs⟩
    · cases hr
    rw [List.map_cons] at hr
    injection hr with q1 q2
    subst q1; subst q2
    have hd := hDb d1 (by rw [← List.mem_reverse, hp]; simp)
    have hst := dig_step (w := w) (bb := bb) (by omega) r0 r1 hd.1 hd.2
    have hlen : pre.length + (rs.length + 1) = m := by
      have := congrArg List.length hp
      simp at this; omega
    have hw2 : (2 : Int) ^ w ≤ 2 ^ 26 := by
      have := Nat.pow_le_pow_right (n := 2) (by decide) hw26
      exact_mod_cast this
    have hp2 : (0 : Int) < 2 ^ w := Int.pow_pos (by decide)
    have hx0 : 0 ≤ r * 2 ^ w := Int.mul_nonneg r0 (Int.le_of_lt hp2)
    have hx1 : r * 2 ^ w ≤ 2 ^ 26 * 2 ^ 26 := Int.mul_le_mul (by omega) hw2 (Int.le_of_lt hp2) (by decide)
    have hbx : Builtin.Int.intBits (r * 2 ^ w + d1) ≤ 64 := intBits_le_iff.mpr (by omega)
    have hdm := Int.mul_ediv_add_emod (r * 2 ^ w + d1) bb
    have hm0 := Int.emod_nonneg (r * 2 ^ w + d1) (b := bb) (by omega)
    have hm1 := Int.emod_lt_of_pos (r * 2 ^ w + d1) (b := bb) (by omega)
    refine ⟨_, rfl, by simp [Tg.names], ?_⟩
    refine Ex_upk ok rfl (by
      refine ⟨⟨⟨⟨trivial, trivial, by omega, by omega, by omega⟩, trivial, trivial⟩, trivial, trivial, trivial⟩, ?_, by omega, by omega⟩
      rw [Int.toNat_natCast]; omega) rfl (by rintro j z l ⟨⟩; simp) ?_
    rw [Int.toNat_natCast]
    refine Ex_app ok rfl trivial (by rw [List.length_map]; omega) ?_
    refine Ex_nil ⟨pre ++ [d1], qs ++ [(r * 2 ^ w + d1) / bb], rs, (r * 2 ^ w + d1) % bb, some (.int d1), _, some (.int ((r * 2 ^ w + d1) / bb)), by rw [hp]; simp, rfl, ?_, hm0, hm1, ?_, by simp [hl], by rw [List.map_append]; rfl, rfl⟩
    · rw [List.reverse_append, List.reverse_append]
      show d1 + 2 ^ w * valD w pre.reverse = ((r * 2 ^ w + d1) / bb + 2 ^ w * valD w qs.reverse) * bb + _
      rw [hv, Int.mul_add, Int.add_mul, Int.mul_assoc, Int.mul_comm (2 ^ w) r]
      have := Int.mul_comm (bb : Int) ((r * 2 ^ w + d1) / bb)
      omega
    · intro q hq'
      rcases List.mem_append.mp hq' with h | h
      · exact hq q h
      · rw [List.mem_singleton.mp h]; exact hst
  · rintro ρ own ⟨pre, qs, rs, r, o1, o2, o3, hp, hr, hv, r0, r1, hq, hl, rfl, rfl⟩
    rcases rs with _ | ⟨d1, rs⟩
    case cons => cases hr
    rw [List.append_nil] at hp
    have hpr : pre.reverse = Dg := by rw [← hp, List.reverse_reverse]
    have hplen : pre.length = m := by rw [← hDl, ← hpr, List.length_reverse]
    rw [hpr, hDv] at hv
    refine Ex_rvs ok (by rw [List.length_map]; omega) ?_
    refine Ex_frz ok id ?_
    rw [← List.map_reverse]
    have hgi : (qs.reverse.map AV.int).map getI = qs.reverse := by rw [List.map_map]; exact List.map_id' _
    have hqb : ∀ q ∈ qs.reverse, 0 ≤ q ∧ q < 2 ^ w := fun q h => hq q (List.mem_reverse.mp h)
    refine Ex_asg ok rfl (by
      refine ⟨⟨trivial, trivial, trivial⟩, ?_⟩
      rw [hgi]
      simp only [Int.toNat_natCast, List.length_reverse]
      exact ⟨trivial, by omega, hqb, by rw [hl, hplen]; omega, by omega, by omega⟩) (by simp) ?_
    rw [hgi, Int.toNat_natCast]
    refine Ex_ret ok rfl (by simp) ?_
    have hQ : (a : Int) / bb = valD w qs.reverse ∧ (a : Int) % bb = r := by
      have h1 : (a : Int) = r + bb * valD w qs.reverse := by rw [hv, Int.mul_comm]; omega
      rw [h1, Int.add_mul_ediv_left _ _ (by omega), Int.add_mul_emod_self_left, Int.ediv_eq_zero_of_lt r0 r1, Int.emod_eq_of_lt r0 r1, Int.zero_add]
      exact ⟨rfl, rfl⟩
    rw [hQ.1, hQ.2]
end
end NC
end Mine
namespace Mine
noncomputable section NC
theorem FnOk.le {c : Cx} {m n k : Nat} {ds : List AV} {d : AV} (h : FnOk c m k ds d) (l : m ≤ n) : FnOk c n k ds d := by
  obtain ⟨x, f, h1, h2, h3, h4⟩ := h
  exact ⟨x, f, h1, h2, h3, fun A X s vs Q R W xo r hq => h4 A X s vs Q (R.le l) W xo r hq⟩
noncomputable def fdm (ds : List AV) : AP := i2 ds fun a y => some (.tup [.int (a / y), .int (a % y)], 0 ≤ a ∧ a < 2 ^ 32 ∧ 0 < y ∧ y < 2 ^ 26)
noncomputable def F6 (k : Nat) (ds : List AV) : AP := bif k == 6 then fdm ds else none
noncomputable def F2 (k : Nat) (ds : List AV) : AP := bif k == 2 then fdm ds else none
section
variable {b : Base}
theorem F6_ok (hb : BOk b) {P7 P8 : Addr} (N7 : NestW b 7 P7 n1.2.2.2.2 qual7) (N8 : NestW b 8 P8 n2.2.2.2.2 qual8) (n : Nat) (hn : 60 ≤ n) : ∀ k ds d C, F6 k ds = some (d, C) → C → FnOk b.c0 (n + 2) k ds d := fun k ds d C h =>
  row_k h (fun h => i2_k h fun a y h => some_k h fun hC => by
    have ea := Int.toNat_of_nonneg hC.1
    have ey := Int.toNat_of_nonneg (Int.le_of_lt hC.2.2.1)
    have := fn_dpos hb N7 N8 n hn (a := a.toNat) (bb := y.toNat) (by omega) (by omega) (by omega)
    rw [ea, ey] at this
    exact this) fun h => absurd h oN
theorem gs_2 : gsAll[2]? = some (dName 10) := by decide +kernel
theorem nd_10 : (ps_int_divmod ++ ls_int_divmod).Nodup := by decide +kernel
theorem fn_divmod0 (hb : BOk b) {P7 P8 : Addr} (N7 : NestW b 7 P7 n1.2.2.2.2 qual7) (N8 : NestW b 8 P8 n2.2.2.2.2 qual8) (n : Nat) (hn : 60 ≤ n) {a y : Int} (h1 : 0 ≤ a) (h2 : a < 2 ^ 32) (h3 : 0 < y) (h4 : y < 2 ^ 26) :
    FnOk b.c0 (n + 3) 2 [.int a, .int y] (.tup [.int (a / y), .int (a % y)]) := by
  obtain ⟨f, D⟩ := hb.d 10 (by simp)
  refine FnOk_of (n := n + 2) (ps := ps_int_divmod) (rest := ls_int_divmod) (ms := ms_int_divmod) (F := F6) (X := XW) (xs := xsW) hb.w ys0 zsW gs_2 D (bind2 fun _ _ _ _ _ => by with_unfolding_all rfl) rfl (by decide +kernel) (by decide +kernel) chk_int_divmod ?_
    (by decide +kernel) (by decide +kernel) (by decide +kernel)
  intro env s₀ X0
  have ok : SxOk ⟨b.cx (n + 2) F6 XW xsW, env, ps_int_divmod ++ ls_int_divmod, kdOf (dSc 10), s₀, X0, fun _ => False, ys0, zsW⟩ := ⟨cxok hb (n + 2) F6 (F6_ok hb N7 N8 n hn), nd_10⟩
  unfold ms_int_divmod
  refine Ex_ite ok rfl (by simp) rfl trivial (fun ht => ?_) (fun _ => ?_)
  · simp at ht; omega
  refine Ex_ite ok rfl (by simp) rfl trivial (fun ht => ?_) (fun _ => ?_)
  · simp at ht; omega
  refine Ex_ite ok rfl (by simp) rfl trivial (fun ht => ?_) (fun _ => ?_)
  · simp at ht; omega
  exact Ex_ret ok rfl ⟨⟨trivial, trivial, trivial⟩, h1, h2, h3, h4⟩ rfl
theorem F2_ok (hb : BOk b) {P7 P8 : Addr} (N7 : NestW b 7 P7 n1.2.2.2.2 qual7) (N8 : NestW b 8 P8 n2.2.2.2.2 qual8) (n : Nat) (hn : 60 ≤ n) : ∀ k ds d C, F2 k ds = some (d, C) → C → FnOk b.c0 (n + 3) k ds d := fun k ds d C h =>
  row_k h (fun h => i2_k h fun a y h => some_k h fun hC => fn_divmod0 hb N7 N8 n hn hC.1 hC.2.1 hC.2.2.1 hC.2.2.2) fun h => absurd h oN
/-- int_divmod, for any dividend -/
theorem fn_divmod (hb : BOk b) {P7 P8 : Addr} (N7 : NestW b 7 P7 n1.2.2.2.2 qual7) (N8 : NestW b 8 P8 n2.2.2.2.2 qual8) (n : Nat) (hn : 60 ≤ n) {a y : Int} (h1 : -2 ^ 32 ≤ a) (h2 : a < 2 ^ 32) (h3 : 0 < y) (h4 : y < 2 ^ 26) :
    FnOk b.c0 (n + 4) 2 [.int a, .int y] (.tup [.int (a / y), .int (a % y)]) := by
  rcases (by omega : 0 ≤ a ∨ a < 0) with h0 | h0
  · exact (fn_divmod0 hb N7 N8 n hn h0 h2 h3 h4).le (by omega)
  obtain ⟨f, D⟩ := hb.d 10 (by simp)
  refine FnOk_of (n := n + 3) (ps := ps_int_divmod) (rest := ls_int_divmod) (ms := ms_int_divmod) (F := F2) (X := XW) (xs := xsW) hb.w ys0 zsW gs_2 D (bind2 fun _ _ _ _ _ => by with_unfolding_all rfl) rfl (by decide +kernel) (by decide +kernel) chk_int_divmod ?_
    (by decide +kernel) (by decide +kernel) (by decide +kernel)
  intro env s₀ X0
  have ok : SxOk ⟨b.cx (n + 3) F2 XW xsW, env, ps_int_divmod ++ ls_int_divmod, kdOf (dSc 10), s₀, X0, fun _ => False, ys0, zsW⟩ := ⟨cxok hb (n + 3) F2 (F2_ok hb N7 N8 n hn), nd_10⟩
  unfold ms_int_divmod
  refine Ex_ite ok rfl (by simp) rfl trivial (fun ht => ?_) (fun _ => ?_)
  · simp at ht; omega
  refine Ex_ite ok rfl (by simp) rfl trivial (fun ht => ?_) (fun _ => ?_)
  · simp at ht; omega
  refine Ex_ite ok rfl (by simp) rfl trivial (fun _ => ?_) (fun ht => ?_)
  · refine Ex_upk ok rfl ⟨⟨trivial, trivial, trivial⟩, by omega, by omega, h3, h4⟩ rfl (by simp) ?_
    refine Ex_ret ok rfl (by simp) ?_
    have e1 := Int.mul_ediv_add_emod (-a - 1) y
    have e2 := Int.emod_nonneg (-a - 1) (b := y) (by omega)
    have e3 := Int.emod_lt_of_pos (-a - 1) (b := y) h3
    have hQ : a / y = -((-a - 1) / y) - 1 ∧ a % y = y + (-((-a - 1) % y) - 1) := by
      have h5 : a = (y + (-((-a - 1) % y) - 1)) + y * (-((-a - 1) / y) - 1) := by
        rw [Int.mul_sub, Int.mul_neg]; omega
      constructor
      · conv => lhs; rw [h5]
        rw [Int.add_mul_ediv_left _ _ (by omega), Int.ediv_eq_zero_of_lt (by omega) (by omega), Int.zero_add]
      · conv => lhs; rw [h5]
        rw [Int.add_mul_emod_self_left, Int.emod_eq_of_lt (by omega) (by omega)]
    show Out.ret _ = Out.ret _
    rw [hQ.1, hQ.2]
  · simp at ht; omega
end
end NC
end Mine
namespace Mine
noncomputable section NC
/-- the cells that a comprehension takes along -/
noncomputable def cloL (env : Env) : List (Str × NameKind) → List (Str × Addr) → List (Str × Addr)
  | [], acc => acc
  | (n, k) :: r, acc => if (k == .free) = true then (match env.cells.lookup n with | some a => cloL env r ((n, a) :: acc) | none => cloL env r acc) else cloL env r acc
theorem lookup_cons_self {α : Type} (y : Str) (a : α) (l : List (Str × α)) : ((y, a) :: l).lookup y = some a := by simp [List.lookup_cons]
theorem lookup_cons_ne {α : Type} {x y : Str} (a : α) (l : List (Str × α)) (h : x ≠ y) : ((y, a) :: l).lookup x = l.lookup x := by
  have : (x == y) = false := by simpa using h
  simp [List.lookup_cons, this]
theorem cloL_sub {env : Env} : ∀ (names : List (Str × NameKind)) (acc : List (Str × Addr)), (∀ y a, acc.lookup y = some a → env.cells.lookup y = some a) → ∀ y a, (cloL env names acc).lookup y = some a → env.cells.lookup y = some a
  | [], acc, h, y, a, e => h y a e
  | (n, k) :: r, acc, h, y, a, e => by
    unfold cloL at e
    split at e
    · split at e
      · rename_i b hb
        refine cloL_sub r ((n, b) :: acc) (fun y' a' e' => ?_) y a e
        by_cases q : y' = n
        · subst q; rw [lookup_cons_self] at e'; cases e'; exact hb
        · rw [lookup_cons_ne _ _ q] at e'; exact h _ _ e'
      · exact cloL_sub r acc h y a e
    · exact cloL_sub r acc h y a e
theorem cloL_has {env : Env} {y : Str} (hy : ∃ a, env.cells.lookup y = some a) : ∀ (names : List (Str × NameKind)) (acc : List (Str × Addr)), (∃ a, acc.lookup y = some a) ∨ (y, NameKind.free) ∈ names → ∃ a, (cloL env names acc).lookup y = some a
  | [], acc, h => by
    rcases h with h | h
    · exact h
    · cases h
  | (n, k) :: r, acc, h => by
    unfold cloL
    split
    · rename_i hk
      split
      · rename_i b hb
        refine cloL_has hy r ((n, b) :: acc) ?_
        by_cases q : y = n
        · subst q; exact .inl ⟨b, lookup_cons_self ..⟩
        · rcases h with ⟨a, h⟩ | h
          · exact .inl ⟨a, by rw [lookup_cons_ne _ _ q]; exact h⟩
          · rcases List.mem_cons.mp h with h | h
            · cases h; exact absurd rfl q
            · exact .inr h
      · rename_i hb
        refine cloL_has hy r acc ?_
        rcases h with h | h
        · exact .inl h
        · rcases List.mem_cons.mp h with h | h
          · cases h; obtain ⟨a, ha⟩ := hy; rw [ha] at hb; cases hb
          · exact .inr h
    · rename_i hk
      refine cloL_has hy r acc ?_
      rcases h with h | h
      · exact .inl h
      · rcases List.mem_cons.mp h with h | h
        · cases h; exact absurd rfl hk
        · exact .inr h
theorem forIn_cl {env : Env} (f : Str × NameKind → List (Str × Addr) → Sem (ForInStep (List (Str × Addr)))) (hf : ∀ n k acc a, (k == NameKind.free) = true → env.cells.lookup n = some a → f (n, k) acc = pure (.yield ((n, a) :: acc)))
    (hf' : ∀ n k acc, (k == NameKind.free) = false → f (n, k) acc = pure (.yield acc)) : ∀ (names : List (Str × NameKind)) (acc : List (Str × Addr)), (∀ p ∈ names, p.2 = .free → ∃ a, env.cells.lookup p.1 = some a) →
    (forIn names acc f : Sem _) = pure (cloL env names acc)
  | [], acc, _ => by rw [List.forIn_nil]; rfl
  | (n, k) :: r, acc, h => by
    rw [List.forIn_cons]
    have ih := fun acc => forIn_cl f hf hf' r acc fun p hp => h p (List.mem_cons_of_mem _ hp)
    cases hk : k == NameKind.free with
    | true =>
      obtain ⟨a, ha⟩ := h (n, k) List.mem_cons_self (by simpa using hk)
      rw [hf n k acc a hk ha, pure_bind]
      dsimp only
      rw [ih]
      unfold cloL
      rw [if_pos hk, ha]
      cases r <;> rfl
    | false =>
      rw [hf' n k acc hk, pure_bind]
      dsimp only
      rw [ih]
      conv => rhs; unfold cloL
      rw [if_neg (by rw [hk]; simp)]
theorem closure_cl {env : Env} {scope : Scope} (h : ∀ p ∈ scope.names, p.2 = .free → ∃ a, env.cells.lookup p.1 = some a) : closureFor scope env = pure (cloL env scope.names []) := by
  simp only [closureFor]
  rw [forIn_cl (env := env) _ (fun n k acc a hk ha => by simp [hk, cellOf, ha]) (fun n k acc hk => by simp [hk]) _ _ h]
  rfl
theorem lookup_relabel {env : Env} {k : NameKind} (hk : k ≠ .free) : ∀ {names : List (Str × NameKind)} {x : Str}, names.lookup x = some k →
    (names.map fun (n, k) => if (k == NameKind.free && env.scope.kind == .function && env.kindOf n == some .cell) then (n, NameKind.cell) else (n, k)).lookup x = some k
  | [], _, h => by simp at h
  | (n, j) :: r, x, h => by
    have ih := @lookup_relabel env k hk r x
    show List.lookup x ((if (j == NameKind.free && env.scope.kind == .function && env.kindOf n == some .cell) = true then (n, NameKind.cell) else (n, j)) :: _) = _
    by_cases q : x = n
    · subst q
      rw [lookup_cons_self] at h
      cases h
      have : (k == NameKind.free) = false := by simpa using hk
      rw [this]
      simp [List.lookup_cons]
    · rw [lookup_cons_ne _ _ q] at h
      split
      · rw [lookup_cons_ne _ _ q]; exact ih h
      · rw [lookup_cons_ne _ _ q]; exact ih h
theorem lookup_relabel_free {env : Env} : ∀ {names : List (Str × NameKind)} {x : Str}, names.lookup x = some .free →
    (names.map fun (n, k) => if (k == NameKind.free && env.scope.kind == .function && env.kindOf n == some .cell) then (n, NameKind.cell) else (n, k)).lookup x = some .cell ∨
    (names.map fun (n, k) => if (k == NameKind.free && env.scope.kind == .function && env.kindOf n == some .cell) then (n, NameKind.cell) else (n, k)).lookup x = some .free
  | [], _, h => by simp at h
  | (n, j) :: r, x, h => by
    have ih := @lookup_relabel_free env r x
    rw [List.map_cons]
    by_cases q : x = n
    · subst q
      rw [lookup_cons_self] at h
      cases h
      dsimp only
      split
      · exact .inl (lookup_cons_self ..)
      · exact .inr (lookup_cons_self ..)
    · rw [lookup_cons_ne _ _ q] at h
      dsimp only
      split
      · rw [lookup_cons_ne _ _ q]; exact ih h
      · rw [lookup_cons_ne _ _ q]; exact ih h
end NC
end Mine
namespace Mine
noncomputable section NC
/-- the frame of a comprehension -/
structure CompFr (env : Env) (names : List Str) (ρ : Rho) (scope : Scope) (x : Str) (fr : List Str) (ρ' : Rho) : Prop where
  fk : scope.kind = .function
  nc : ∀ y ∈ scope.names, y.2 ≠ .cell
  nl : ∀ y ∈ scope.names, y.2 = .local → scope.names.lookup y.1 = some .local
  x : scope.names.lookup x = some .local
  fr : ∀ (j : Nat) (y : Str) (d : AV), fr[j]? = some y → ρ'[j]? = some (some d) → (∃ i : Nat, names[i]? = some y ∧ ρ[i]? = some (some d)) ∧ scope.names.lookup y = some .free ∧ (env.kindOf y = some .cell ∨ env.kindOf y = some .free)
  al : ∀ p ∈ scope.names, p.2 = .free → ∃ a, env.cells.lookup p.1 = some a
theorem lookup_mem {x : Str} {k : NameKind} : ∀ {l : List (Str × NameKind)}, l.lookup x = some k → (x, k) ∈ l
  | [], h => by cases h
  | (y, j) :: r, h => by
    by_cases q : x = y
    · subst q; rw [lookup_cons_self] at h; cases h; exact List.mem_cons_self
    · rw [lookup_cons_ne _ _ q] at h; exact List.mem_cons_of_mem _ (lookup_mem h)
section
variable {c : Cx} {env : Env} {names : List Str} {kd : Str → Option NameKind} {ρ : Rho}
theorem letGo_name {A : Around} {y : Str} {p : Pos} {it v : Value} {s : Shared} {Q : Shared → Prop} {P : Prop} (h : wpAny c.M A (letOwnedTupleGo (.Name y p) it v) (fun _ s => Q s) noE s) {α : Type} {m : Sem α} {Q' : α → Shared → Prop} (k : ∀ s', Q s' → wpAny c.M A m Q' noE s') : wpAny c.M A m Q' noE s :=
  wpAny_bind (m := letOwnedTupleGo (.Name y p) it v) (f := fun _ => m) (wpAny_mono h (fun _ s' q => k s' q) fun _ _ e => e)
/-- a frame inside a comprehension -/
theorem comp_vs (hw : CxW c) {X X3 : Addr → Prop} {s s4 : Shared} {scope : Scope} {x : Str} {fr : List Str} {ρ' : Rho} {C : Addr} {m : Str → Option Value} {v : Value} {d : AV} (K : CompFr env names ρ scope x fr ρ') (V : Vs c env names kd X ρ s)
    (W : c.W s4.heap) (hx3 : XOk c X3 s4) (hx : ∀ b o, s.heap.get? b = some o → X3 b → X b) (k : ∀ b o, ¬ c.xc b → s.heap.get? b = some o → s4.heap.get? b = some o) (hC : ¬ c.xc C) (hm : s4.heap.Ns C m) (hv : m x = some v) (hr : c.Rep X3 s4.heap v d) :
    Vs c (compEnvC scope (cloL env scope.names []) C env) (x :: fr) (kdOf scope) X3 (some d :: ρ') s4 where
  fk := K.fk
  gl := V.gl
  bi := V.bi
  kd := fun y hy => lookup_relabel (by simp) hy
  wd := W
  x := hx3
  lc := ⟨hC, fun y a ha => V.lc.2 y a (cloL_sub _ _ (fun _ _ e => by cases e) _ _ ha)⟩
  al := ⟨by obtain ⟨o, _, _, e, _⟩ := hm; exact ⟨o, e⟩, fun y a ha => by
    have ha' := cloL_sub _ _ (fun _ _ e => by cases e) _ _ ha
    obtain ⟨o, e⟩ := V.al.2 y a ha'
    exact ⟨o, k a o (V.lc.2 y a ha') e⟩⟩
  vars := fun i y d' hn hr' => by
    rcases i with _ | i
    · simp only [List.getElem?_cons_zero, Option.some.injEq] at hn hr'
      subst hn; subst hr'
      exact ⟨v, .inl ⟨lookup_relabel_local K.x, m, hm, hv⟩, hr⟩
    · simp only [List.getElem?_cons_succ] at hn hr'
      obtain ⟨⟨j, h1, h2⟩, h3, h4⟩ := K.fr i y d' hn hr'
      obtain ⟨u, l, r⟩ := V.vars j y d' h1 h2
      refine ⟨u, ?_, r.mono (fun b o nx e => k b o (fun q => nx (V.x.xc b q)) e) fun b o q e => hx b o e q⟩
      rcases l with ⟨hl, _⟩ | ⟨_, a, ha, hc⟩
      · rcases h4 with h4 | h4 <;> rw [hl] at h4 <;> cases h4
      · refine .inr ⟨lookup_relabel_free h3, a, ?_, IsCell.keep1 hc fun o e => k a o (V.lc.2 y a ha) e⟩
        obtain ⟨a', ha'⟩ := cloL_has (env := env) (y := y) ⟨a, ha⟩ scope.names [] (.inr (lookup_mem h3))
        have := cloL_sub _ _ (fun _ _ e => by cases e) _ _ ha'
        rw [ha] at this; cases this
        exact ha'
/-- what stands around a comprehension's loop: I walks, C is its frame, D what it fills -/
structure CompS (c : Cx) (X X3 : Addr → Prop) (s s₂ : Shared) (I C D : Addr) : Prop where
  x3 : ∀ b, X3 b ↔ (X b ∨ b = I ∨ b = C ∨ b = D)
  e12 : c.Ext s s₂
  hI0 : s.heap.get? I = none
  hC0 : s.heap.get? C = none
  hD0 : s.heap.get? D = none
  hIw : ¬ c.wd I
  nwC : ¬ c.wd C
  nwD : ¬ c.wd D
  hCn : ∀ o, s₂.heap.get? C ≠ some o
  hDs : ∀ o, s₂.heap.get? D ≠ some o
  hCD : C ≠ D
  hIC : I ≠ C
  hID : I ≠ D
theorem CompS.of (hw : CxW c) {X : Addr → Prop} {s s₂ : Shared} {I C : Addr} (V : Vs c env names kd X ρ s) (e12 : c.Ext s s₂) (hI0 : s.heap.get? I = none) (hIw : ¬ c.wd I) (al : ∃ o, s₂.heap.get? I = some o) (hC : C = s₂.heap.objs.size + 1) : CompS c X (fun b => X b ∨ b = I ∨ b = C ∨ b = s₂.heap.objs.size) s s₂ I C s₂.heap.objs.size := by
  have hDs : ∀ o, s₂.heap.get? s₂.heap.objs.size ≠ some o := fun o e => Nat.lt_irrefl _ (Heap.lt_size e)
  have hCn : ∀ o, s₂.heap.get? C ≠ some o := fun o e => by have h1 := Heap.lt_size e; rw [hC] at h1; exact Nat.lt_irrefl _ (Nat.lt_of_succ_lt h1)
  have dead : ∀ b, (∀ o, s₂.heap.get? b ≠ some o) → ¬ c.wd b ∧ s.heap.get? b = none := fun b hb => by
    have nw : ¬ c.wd b := fun q => (hw.alive _ _ (e12.wd V.wd) q).elim fun o z => hb o z
    refine ⟨nw, ?_⟩
    cases z : s.heap.get? b with
    | none => rfl
    | some o => exact absurd (e12.keep b o (fun q => nw (hw.xcwd _ q)) z) (hb o)
  obtain ⟨oI, hoI⟩ := al
  exact ⟨fun b => Iff.rfl, e12, hI0, (dead _ hCn).2, (dead _ hDs).2, hIw, (dead _ hCn).1, (dead _ hDs).1, hCn, hDs, fun q => absurd (hC.symm.trans q) (Nat.succ_ne_self _), fun q => hCn _ (q ▸ hoI), fun q => hDs _ (q ▸ hoI)⟩
/-- what is so behind the loop's name -/
structure CompT (c : Cx) (env' : Env) (names' : List Str) (kd' : Str → Option NameKind) (X3 : Addr → Prop) (ρ' : Rho) (s₂ : Shared) (I C : Addr) (Zi : Heap → Prop) (m : Str → Option Value) (h' h3 : Heap) (tk : Nat) : Prop where
  k3 : ∀ b o, b ≠ I → b ≠ C → h'.get? b = some o → h3.get? b = some o
  z3 : Zi h3
  W3 : c.W h3
  k23 : ∀ b o, ¬ c.xc b → b ≠ I → s₂.heap.get? b = some o → h3.get? b = some o
  ns : h3.Ns C m
  V4 : Vs c env' names' kd' X3 ρ' { s₂ with heap := h3, toks := tk }
theorem comp_turn (hw : CxW c) {A : Around} {X X3 : Addr → Prop} {s s₂ : Shared} {I C D : Addr} {Z : Nat → Heap → Prop} {ds : List AV} {x : Str} {px : Pos} {scope : Scope} {fr : List Str} {ρ' : Rho} (K : CompFr env names ρ scope x fr ρ') (V : Vs c env names kd X ρ s) (E : CompS c X X3 s s₂ I C D)
    (IT : Itr c A (.Name x px) I s₂.heap (fun b => X b ∨ b = I) ds Z) {i tk2 : Nat} {h' h2 : Heap} {m' : Str → Option Value} {v : Value} {d : AV} (zi : Z i h') (hn' : h'.Ns C m') (hD : ∃ o, h'.get? D = some o) (W' : c.W h') (k' : ∀ b o, ¬ c.xc b → b ≠ I → s₂.heap.get? b = some o → h'.get? b = some o)
    (kk : ∀ b o, b ≠ I → h'.get? b = some o → h2.get? b = some o) (rv : ∀ X2 : Addr → Prop, (∀ b o, s₂.heap.get? b = some o → X2 b → X b ∨ b = I) → (∀ b, h'.get? b = none → ¬ X2 b) → c.Rep X2 h2 v d) (z2 : Z (i + 1) h2) {Q : Unit → Shared → Prop}
    (h : ∀ h3, CompT c (compEnvC scope (cloL env scope.names []) C env) (x :: fr) (kdOf scope) X3 (some d :: ρ') s₂ I C (Z (i + 1)) (fun z => if z = x then some v else m' z) h' h3 (tk2 + 1) → Q () { s₂ with heap := h3, toks := tk2 + 1 }) :
    wpAny c.M A (assign (.Name x px) (compEnvC scope (cloL env scope.names []) C env) v) Q noE { s₂ with heap := h2, toks := tk2 } := by
  have aliveX : ∀ b, X3 b → c.xc b ∨ ∃ o, h'.get? b = some o := fun b q => ((E.x3 b).mp q).elim (fun q => ((V.x.ext E.e12).lt b q).elim .inl fun ⟨o, z⟩ => (Classical.em (c.xc b)).elim .inl fun qx => .inr ((Classical.em (b = I)).elim (fun qi => qi ▸ IT.alive _ _ zi) fun qi => ⟨o, k' b o qx qi z⟩))
    fun q => .inr (q.elim (fun q => q ▸ IT.alive _ _ zi) fun q => q.elim (fun q => q ▸ hn'.elim fun o h => h.elim fun _ h => h.elim fun _ h => ⟨o, h.1⟩) fun q => q ▸ hD)
  have hn2 : h2.Ns C m' := Ns.keep1 hn' fun o e => kk _ o (Ne.symm E.hIC) e
  refine wpAny_assign_Name (wpAny_storeName_local (env := compEnvC scope (cloL env scope.names []) C env) (lookup_relabel_local K.x) hn2 (fun h3 hn3 hs3 => ?_) (by simp [compEnvC, relabel, K.fk]))
  have k3 : ∀ b o, b ≠ I → b ≠ C → h'.get? b = some o → h3.get? b = some o := fun b o n1 n2 e => hs3.extBut b o n2 (kk b o n1 e)
  have z3 : Z (i + 1) h3 := IT.frame _ _ _ z2 fun b o ⟨o', q⟩ _ e => hs3.extBut b o (fun z => E.hCn _ (z ▸ q)) e
  have W3 : c.W h3 := hw.stable _ _ W' fun b o wb e => k3 b o (fun q => wb.elim (fun wb => E.hIw (q ▸ wb)) (IT.nr _ _ zi o (q ▸ e))) (fun q => wb.elim (fun wb => E.nwC (q ▸ wb)) (Ns.notRec hn' (q ▸ e))) e
  have k23 : ∀ b o, ¬ c.xc b → b ≠ I → s₂.heap.get? b = some o → h3.get? b = some o := fun b o n1 n2 e => k3 b o n2 (fun q => E.hCn _ (q ▸ e)) (k' b o n1 n2 e)
  have hx3 : XOk c X3 { s₂ with heap := h3, toks := tk2 + 1 } := ⟨fun b q => (E.x3 b).mpr (.inl (V.x.xc b q)), fun b q => (Classical.em (c.xc b)).elim .inl fun qx => .inr ((Classical.em (b = I)).elim (fun qi => qi ▸ IT.alive _ _ z3) fun qi => (Classical.em (b = C)).elim (fun qc => qc ▸ hn3.elim fun o h => h.elim fun _ h => h.elim fun _ h => ⟨o, h.1⟩)
    fun qc => (aliveX b q).elim (fun z => absurd z qx) fun ⟨o, z⟩ => ⟨o, k3 b o qi qc z⟩)⟩
  have hX : ∀ b o, s₂.heap.get? b = some o → X3 b → X b ∨ b = I := fun b o e q => ((E.x3 b).mp q).elim .inl fun q => .inr (q.elim id fun q => q.elim (fun q => absurd (q ▸ e) (E.hCn _)) fun q => absurd (q ▸ e) (E.hDs _))
  have r3 : c.Rep X3 h3 v d := (rv X3 hX fun b e q => (aliveX b q).elim (fun z => (hw.alive _ _ W' (hw.xcwd _ z)).elim fun o z => absurd (e.symm.trans z) nofun) fun ⟨o, z⟩ => absurd (e.symm.trans z) nofun).mono (fun b o nx e => hs3.extBut b o (fun q => nx ((E.x3 b).mpr (.inr (.inr (.inl q))))) e) fun _ _ q _ => q
  have keepI : ∀ b o, s.heap.get? b = some o → b ≠ I := fun b o e q => absurd ((q ▸ e : s.heap.get? I = some o).symm.trans E.hI0) nofun
  exact h h3 ⟨k3, z3, W3, k23, hn3, comp_vs (C := C) (s4 := { s₂ with heap := h3, toks := tk2 + 1 }) hw K V W3 hx3 (fun b o e q => ((E.x3 b).mp q).elim id fun q => q.elim (fun q => absurd q (keepI b o e)) fun q => q.elim (fun q => absurd ((q ▸ e : s.heap.get? C = some o).symm.trans E.hC0) nofun) fun q => absurd ((q ▸ e : s.heap.get? D = some o).symm.trans E.hD0) nofun)
    (fun b o n e => k23 b o n (keepI b o e) (E.e12.keep b o n e)) (fun q => E.nwC (hw.xcwd _ q)) hn3 (if_pos rfl) r3⟩
/-- where a list comprehension stands -/
noncomputable def CompI (c : Cx) (X3 : Addr → Prop) (I C D : Addr) (Z : Nat → Heap → Prop) (s₂ : Shared) (ds : List AV) (f : AV → AV) (k : Nat) (s' : Shared) : Prop :=
  ∃ h' tk i ys m', s' = { s₂ with heap := h', toks := tk } ∧ i ≤ ds.length ∧ k = ds.length + 1 - i ∧ ys.length = i ∧ Z i h' ∧ h'.Ns C m' ∧ h'.PlainList D ys.toArray ∧ c.W h' ∧ (∀ b o, ¬ c.xc b → b ≠ I → s₂.heap.get? b = some o → h'.get? b = some o) ∧
        c.Reps X3 h' ys ((ds.take i).map f)
set_option maxHeartbeats 4000000 in
theorem comp_block (hw : CxW c) {A : Around} {X : Addr → Prop} {s s₂ : Shared} {I : Addr} {Z : Nat → Heap → Prop} {ds : List AV} {f : AV → AV} {elt iter : Expr} {x : Str} {px pos : Pos} {scope : Scope} {fr : List Str} {ρ' : Rho} {RR : Value → Addr → Result → Shared → Prop}
    (K : CompFr env names ρ scope x fr ρ') (R : Room A c.n) (V : Vs c env names kd X ρ s) (e12 : c.Ext s s₂) (hI0 : s.heap.get? I = none) (hIX : ¬ X I) (hIw : ¬ c.wd I) (hIl : I ≠ env.locals) (hIc : ∀ y, env.cells.lookup y ≠ some I)
    (IT : Itr c A (.Name x px) I s₂.heap (fun b => X b ∨ b = I) ds Z) (z0 : Z 0 s₂.heap) (hsz : ds.length ≤ sizeLine)
    (helt : ∀ d ∈ ds, ∀ C, EvOk c (compEnvC scope (cloL env scope.names []) C env) (x :: fr) (kdOf scope) (some d :: ρ') elt (f d))
    (hR : ∀ D C s' ys, c.Ext s s' → s.heap.get? D = none → s.heap.get? C = none → C ≠ D → ¬ c.wd C → ¬ c.wd D → (∃ m, s'.heap.Ns C m) → s'.heap.PlainList D ys.toArray →
      c.Reps (fun b => X b ∨ b = C) s'.heap ys (ds.map f) → RR (.ref D) C (.ok .next) s') :
    wpAny c.M A (newList []) (fun acc s₃ => wpAny c.M A (newFunctionEnv scope env.globals (cloL env scope.names []) [] env.qual none .none (some env)) (fun cenv s₄ =>
      codeAny c.M A (.compStart (.ListComp elt [⟨.Name x px, iter, [], 0⟩] scope pos) 0 (.ref I) acc { cenv with scope := relabel scope env }) (RR acc cenv.locals) s₄) noE s₃) noE s₂ := by
  refine wpAny_newObj_type (wpAny_newFunctionEnv K.nc (by intro y hy; simp at hy) (fun h₁ hns₁ hsb₁ => ?_) K.fk)
  dsimp only at hns₁ hsb₁ ⊢
  generalize hH2 : s₂.heap.push { cls := .type "list", dict := none, data := .seq ([] : List Value).toArray } = H2 at hns₁ hsb₁ ⊢
  have hCs : H2.objs.size = s₂.heap.objs.size + 1 := by rw [← hH2, Heap.size_push]
  generalize hC : H2.objs.size = C at hCs hns₁ hsb₁ ⊢
  have hDs : ∀ o, s₂.heap.get? s₂.heap.objs.size ≠ some o := fun o e => Nat.lt_irrefl _ (Heap.lt_size e)
  have hCn : ∀ o, s₂.heap.get? C ≠ some o := fun o e => by have h1 := Heap.lt_size e; rw [hCs] at h1; exact Nat.lt_irrefl _ (Nat.lt_of_succ_lt h1)
  generalize hD : s₂.heap.objs.size = D at hDs
  have hCD : C ≠ D := fun q => absurd (hCs.symm.trans (q.trans hD.symm)) (Nat.succ_ne_self _)
  have old : ∀ b o, s₂.heap.get? b = some o → h₁.get? b = some o := fun b o e => hsb₁.extBut b o (fun q => hCn o (q ▸ e)) (Heap.get?_push_of_some _ (by rw [← hH2]; exact Heap.get?_push_of_some _ e))
  have hacc : h₁.PlainList D #[] := ⟨_, hsb₁.extBut _ _ (Ne.symm hCD) (Heap.get?_push_of_some _ (by rw [← hH2, ← hD]; exact Heap.get?_push_size _ rfl))⟩
  have W2 : c.W s₂.heap := e12.wd V.wd
  obtain ⟨X3, E⟩ : ∃ X3, CompS c X X3 s s₂ I C D := ⟨_, hD ▸ CompS.of hw V e12 hI0 hIw (IT.alive _ _ z0) hCs⟩
  have W1 : c.W h₁ := hw.stable _ _ W2 fun b o _ e => old b o e
  have z1 : Z 0 h₁ := IT.frame 0 _ _ z0 fun b o _ _ e => old b o e
  have loop : ∀ s₃ : Shared, s₃ = { s₂ with heap := h₁, toks := s₂.toks + ([] : List (Str × Value)).length } →
      codeAny c.M A (.compLoop (.ListComp elt [⟨.Name x px, iter, [], 0⟩] scope pos) 0 (.ref I) (.ref D) (compEnvC scope (cloL env scope.names []) C env)) (RR (.ref D) C) s₃ := by
    rintro s₃ rfl
    refine codeAny_compLoop_tests
      (CompI c X3 I C D Z s₂ ds f) ?_ (ds.length + 1)
      ⟨h₁, _, 0, [], _, rfl, Nat.zero_le _, rfl, rfl, z1, hns₁, hacc, W1, fun b o _ _ e => old b o e, .nil⟩
    rintro k s' ⟨h', tk, i, ys, m', rfl, hi, rfl, hyl, zi, hn', hp', W', k', rs⟩
    by_cases hlt : i < ds.length
    · have hd : ds[i]? = some ds[i] := List.getElem?_eq_getElem hlt
      refine wpAny_mono (IT.item i _ _ (fun v s3 => wpAny c.M A (assign (.Name x px) (compEnvC scope (cloL env scope.names []) C env) v) (fun _ s4 => wpAny c.M A (eval elt (compEnvC scope (cloL env scope.names []) C env)) (fun y s5 =>
          wpAny c.M A (call (.builtin "list.append") [.ref D, y]) (fun _ s6 => ∃ m, m < ds.length + 1 - i ∧ CompI c X3 I C D Z s₂ ds f m s6) noE s5) noE s4) noE s3) zi hd fun v h2 tk2 kk rv z2 => ?_) (fun r s3 h3 => ?_) fun _ _ e => e.elim
      rotate_left
      · obtain ⟨v, rfl, h4⟩ := h3
        refine wpAny_mono (letGo_name (P := True) (Q := fun s => _) h4 (fun s' q => q)) (fun _ s5 h5 => ?_) fun _ _ e => e.elim
        refine wpAny_tests_nil ?_
        rw [if_pos rfl]
        exact wpAny_mono h5 (fun y s6 h6 => wpAny_mono h6 (fun _ s7 h7 => h7) fun _ _ e => e.elim) fun _ _ e => e.elim
      · refine comp_turn hw K V E IT zi hn' (hp'.elim fun n e => ⟨_, e⟩) W' k' kk rv z2 fun h3 T => ?_
        refine helt ds[i] (List.getElem_mem hlt) C A X3 _ _ R T.V4 fun y s5 e5 r5 => ?_
        have xD : X3 D := (E.x3 D).mpr (.inr (.inr (.inr rfl)))
        obtain ⟨n, hpD⟩ := PlainList.keep1 hp' fun o e => e5.keep _ o (fun q => E.nwD (hw.xcwd _ q)) (T.k3 D o (Ne.symm E.hID) (Ne.symm E.hCD) e)
        refine append_at (hsz := by show ys.toArray.size ≤ sizeLine; rw [List.size_toArray, hyl]; omega) hpD fun h6 hs6 hD6 => ?_
        obtain ⟨h5, t5, rfl⟩ := e5.same
        refine ⟨ds.length + 1 - (i + 1), by omega, h6, t5, i + 1, ys ++ [y], (fun z => if z = x then some v else m' z), rfl, hlt, rfl, by rw [List.length_append, List.length_singleton, hyl], ?_, ?_, ?_, ?_, ?_, ?_⟩
        · refine IT.frame _ _ _ T.z3 fun b o q q2 e => hs6.extBut b o (fun z => by obtain ⟨o', q⟩ := q; exact E.hDs _ (z ▸ q)) (e5.keep b o (fun z => ?_) e)
          rcases q2 with rfl | q2
          · exact E.hIw (hw.xcwd _ z)
          · exact q2 (.inl (V.x.xc b z))
        · exact Ns.keep1 T.ns fun o e => hs6.extBut _ o E.hCD (e5.keep _ o (fun q => E.nwC (hw.xcwd _ q)) e)
        · refine ⟨n + 1, ?_⟩
          rw [hD6, List.push_toArray]
        · refine hw.stable _ _ (e5.wd T.W3) fun b o wb e => hs6.extBut b o (fun q => ?_) e
          rcases wb with wb | wb
          · exact E.nwD (q ▸ wb)
          · subst q
            rw [hpD] at e; cases e
            obtain ⟨vs, _, _, z, _⟩ := wb
            cases z
        · exact fun b o n1 n2 e => hs6.extBut b o (fun q => E.hDs _ (q ▸ e)) (e5.keep b o n1 (T.k23 b o n1 n2 e))
        · rw [List.take_add_one, hd, List.map_append]
          refine Reps.append ?_ (.cons ?_ .nil)
          · refine rs.mono (fun b o nx e => ?_) fun _ _ q _ => q
            refine hs6.extBut b o (fun q => nx (q ▸ xD)) (e5.keep b o (fun q => nx ((E.x3 b).mpr (.inl (V.x.xc b q)))) (T.k3 b o (fun q => nx ((E.x3 b).mpr (.inr (.inl q)))) (fun q => nx ((E.x3 b).mpr (.inr (.inr (.inl q))))) e))
          · exact r5.mono (fun b o nx e => hs6.extBut b o (fun q => nx (q ▸ xD)) e) fun _ _ q _ => q
    · have hi2 : i = ds.length := by omega
      refine wpAny_mono (IT.done _ (fun s3 => RR (.ref D) C (.ok .next) s3) (hi2 ▸ zi) fun h2 tk2 kk => ?_) (fun r s3 h3 => ?_) fun _ _ e => e.elim
      · rw [hi2, List.take_length] at rs
        have W2' : c.W h2 := hw.stable _ _ W' fun b o wb e => by
          refine kk b o (fun q => ?_) e
          rcases wb with wb | wb
          · exact E.hIw (q ▸ wb)
          · exact IT.nr _ _ zi o (q ▸ e) wb
        refine hR D C _ ys ⟨?_, fun b o n e => kk b o (fun q => by rw [q, E.hI0] at e; cases e) (k' b o n (fun q => by rw [q, E.hI0] at e; cases e) (e12.keep b o n e)), fun _ => W2'⟩ E.hD0 E.hC0 E.hCD E.nwC E.nwD ⟨m', Ns.keep1 hn' fun o e => kk _ o (Ne.symm E.hIC) e⟩ (PlainList.keep1 hp' fun o e => kk _ o (Ne.symm E.hID) e)
          (rs.mono (fun b o nx e => kk b o (fun q => nx ((E.x3 b).mpr (.inr (.inl q)))) e) fun b o q _ => (E.x3 b).mpr (q.elim .inl fun q => .inr (.inr (.inl q))))
        obtain ⟨h0, t0, e0⟩ := e12.same
        exact ⟨h2, tk2, by rw [e0]⟩
      · obtain ⟨rfl, h4⟩ := h3
        exact h4
  have := loop _ rfl
  exact codeAny_compStart_list this (IT.self ⟨_, _, rfl⟩ 0 _ _ _ z1 this)
end
end NC
end Mine
namespace Mine
noncomputable section NC
section
variable {c : Cx} {env : Env} {names : List Str} {kd : Str → Option NameKind} {ρ : Rho}
theorem ev_comp (hw : CxW c) {ds : List AV} {f : AV → AV} {elt iter : Expr} {x : Str} {px pos : Pos} {scope : Scope} {fr : List Str} {ρ' : Rho} (K : CompFr env names ρ scope x fr ρ') (hit : ItOk c env names kd ρ iter (.Name x px) ds) (hsz : ds.length ≤ sizeLine)
    (helt : ∀ d ∈ ds, ∀ C, EvOk c (compEnvC scope (cloL env scope.names []) C env) (x :: fr) (kdOf scope) (some d :: ρ') elt (f d)) (hs : ∀ v, foldedSetIterable iter env v = pure v) :
    EvOk c env names kd ρ (.ListComp elt [⟨.Name x px, iter, [], 0⟩] scope pos) (.lst (ds.map f)) := by
  intro A X s Q R V h
  rw [eval_ListComp]
  refine wpAny_comprehension_free (use := none) rfl hs (closure_cl K.al) K.fk K.nl (hit A X s _ R V fun I Z s' e hI0 hIX hIw hIl hIc IT z0 => ?_)
  refine comp_block hw K R V e hI0 hIX hIw hIl hIc IT z0 hsz helt ?_
  rintro D C s1 ys e1 hD0 hC0 hCD nwC nwD ⟨m, hm⟩ hp rs
  have notX : ∀ b, s.heap.get? b = none → ¬ c.wd b → ¬ X b := fun b h0 nw q => by
    rcases V.x.lt b q with z | ⟨o, z⟩
    · exact nw (hw.xcwd _ z)
    · rw [h0] at z; cases z
  refine ⟨m, hm, fun h' hs' => h _ _ ⟨?_, fun b o n e => hs'.extBut b o (fun q => by rw [q, hC0] at e; cases e) (e1.keep b o n e), fun W => ?_⟩ (.lst (notX D hD0 nwD) (PlainList.keep1 hp fun o e => hs'.extBut _ o (Ne.symm hCD) e).isList (rs.mono (fun b o nx e => hs'.extBut b o (fun q => nx (.inr q)) e) fun b o q _ => .inl q))⟩
  · obtain ⟨h0, t0, e0⟩ := e1.same
    exact ⟨h', t0, by rw [e0]⟩
  · refine hw.stable _ _ (e1.wd W) fun b o wb e => hs'.extBut b o (fun q => ?_) e
    rcases wb with wb | wb
    · exact nwC (q ▸ wb)
    · exact Ns.notRec hm (q ▸ e) wb
theorem it_keys (hw : CxW c) {K : Type} [DecidableEq K] {knd : KeyKind c.P c.w K} {e tgt : Expr} {D : AV} {l : List (K × Int)} (enc : K → AV) (henc : ∀ X h k v, knd.is k v = true → c.Rep X h v (enc k)) (hD : DictRep c knd D l) (he : EvOk c env names kd ρ e D) :
    ItOk c env names kd ρ e tgt (l.map fun p => enc p.1) := by
  intro A X s Q R V h
  refine he A X s _ R V fun v s2 e2 r2 => ?_
  refine hide fun G kG => ?_
  obtain ⟨d, kv, ev, nx, ns, dd, m, rs⟩ := hD _ _ _ r2
  obtain ⟨ep, da⟩ := dd.dictAt
  have dal : ∃ o, s2.heap.get? d = some o := let ⟨o, _, q, _⟩ := da; ⟨o, q⟩
  refine kG (ev ▸ wpAny_pyIter_dict (ep := ep) ns da (it_new hw V e2 rfl h fun kp hg ne rp => ⟨_, itr_of_walks (c := c) (T := "dict_keyiterator") (n := kv.length) (Walks.dictKeys (knd := knd) R.hd s2.heap.objs.size d (ne dal) kv ep) (by rw [List.length_map]; exact keys_len m) (fun b hb nb => ?_) ⟨_, hg⟩ (.inr rfl)
    (fun i h' ⟨⟨o, q, q2, q3⟩, _⟩ => ⟨o, q, q2, fun ⟨vs, y, t, z, z2⟩ => by rw [q3] at z; cases z; cases z2⟩) (by decide) (fun i v d' h' X2 hv hd k kx2 => ?_), ⟨⟨_, hg, rfl, rfl⟩, da.push _⟩, fun _ _ _ q => q⟩))
  · refine (List.mem_cons.mp hb).elim (fun q => absurd q nb) fun q => ?_
    rw [List.mem_singleton.mp q]
    exact ⟨fun q => q.elim nx (ne dal), dal.imp fun o e => kp _ o e⟩
  · obtain ⟨kk, xx, hk, hkey⟩ := hv
    rw [List.getElem?_map] at hd
    obtain ⟨p, hp, ep⟩ := Option.map_eq_some_iff.mp hd
    have h1 : (kv.map (·.1))[i]? = some kk := by rw [List.getElem?_map, hk]; rfl
    rw [m, List.getElem?_map, hp] at h1
    exact ep ▸ (show p.1 = kk from Option.some.inj h1) ▸ henc _ _ _ _ hkey
end
section
variable {x : Sx} {ρ : Rho} {own : OwnO} {Post : PostT} {ms : List MS} {m : MS}
set_option maxHeartbeats 1000000 in
/-- y = [elt for v in iter] -/
theorem Ex_asgC (ok : SxOk x) {y v : Str} {py px pos spos : Pos} {elt iter : Expr} {scope : Scope} {fr : List Str} {ρ' : Rho} {ds : List AV} {f : AV → AV} {i : Nat}
    (hst : ∀ st, x.chkS m st = true → st = .Assign [.Name y py] (.ListComp elt [⟨.Name v px, iter, [], 0⟩] scope pos) spos) (hy : x.names[i]? = some y) (hk : x.kd y = some .local)
    (hl : (py.line == pos.line) = true) (hnm : (scope.names.any fun (n, k) => n == y && (k == .local || k == .cell)) = false)
    (K : ∀ X s, x.St X ρ own s → CompFr x.env x.names ρ scope v fr ρ') (hit : ItOk x.c x.env x.names x.kd ρ iter (.Name v px) ds) (hsz : ds.length ≤ sizeLine)
    (helt : ∀ X s, x.St X ρ own s → ∀ d ∈ ds, ∀ C, EvOk x.c (compEnvC scope (cloL x.env scope.names []) C x.env) (v :: fr) (kdOf scope) (some d :: ρ') elt (f d)) (hs : ∀ v, foldedSetIterable iter x.env v = pure v)
    (ho : ∀ j a l, own = some (j, a, l) → j ≠ i) (h : Ex x ms (ρ.set i (some (.lst (ds.map f)))) own Post) : Ex x (m :: ms) ρ own Post := by
  refine Ex_cons fun st hs' A s X R S => ?_
  obtain rfl := hst st hs'
  have hsw : swapsWith (.ListComp elt [⟨.Name v px, iter, [], 0⟩] scope pos) (some (.Name y py)) spos.line x.env = pure true := by
    show (do return x.env.blockKind == .function && x.env.kindOf y == some .local && py.line == pos.line && !(scope.names.any fun (n, k) => n == y && (k == .local || k == .cell)) : Sem Bool) = pure true
    have hb : x.env.blockKind = .function := by unfold Env.blockKind; rw [S.v.fk]; rfl
    rw [hb, S.kde, hk, hl, hnm]
    rfl
  rw [exec_Assign_Name_used _ _ _ _ hsw]
  refine wpAny_bind (wpAny_standAt (wpAny_bind ?_))
  show wpAny _ A (do let _ ← comprehension (.ListComp elt [⟨.Name v px, iter, [], 0⟩] scope pos) scope x.env _ (newList []) false (eval iter x.env) (some (assign (.Name y py) x.env))) _ _ s
  have K := K X s S
  refine wpAny_bind (wpAny_mono (wpAny_comprehension_free (use := some (assign (.Name y py) x.env)) (Q := fun _ s' => Nxt x ms Post X own s .next s') rfl hs (closure_cl K.al) K.fk K.nl
    (hit A X s _ R S.v fun I Z s' e hI0 hIX hIw hIl hIc IT z0 => ?_)) (fun _ s' hq => wpAny_pure (wpAny_pure hq)) fun _ _ e => e)
  refine comp_block ok.c.w K R S.v e hI0 hIX hIw hIl hIc IT z0 hsz (helt X s S) ?_
  rintro D C s1 ys e1 hD0 hC0 hCD nwC nwD ⟨m, hm⟩ hp rs
  have notX : ∀ b, s.heap.get? b = none → ¬ x.c.wd b → ¬ X b := fun b h0 nw q => by
    rcases S.v.x.lt b q with z | ⟨o, z⟩
    · exact nw (ok.c.w.xcwd _ z)
    · rw [h0] at z; cases z
  have nXC := notX C hC0 nwC
  have nXD := notX D hD0 nwD
  have S1 : x.St (fun b => X b ∨ b = C) ρ own s1 := St.withI S hC0 e1 (by obtain ⟨o, _, _, e, _⟩ := hm; exact ⟨o, e⟩) ok
  have nWr : ¬ x.Wr own C := fun q => nXC (Mine.St.wrX S q)
  refine wpAny_assign_Name (Stp.store (d := .lst (ds.map f)) (i := i) ok S1 (by unfold stName; rw [hy, hk]; simp) (.lst (fun q => q.elim nXD (fun q => hCD q.symm)) hp.isList rs) ho fun s2 S2 a2 => ?_)
  have hm2 : s2.heap.Ns C m := Ns.keep1 hm fun o e => a2.keep C o nWr e
  refine ⟨m, hm2, fun h' hs' => .inl ⟨rfl, _, own, X, St.turnI (tk := s2.toks) ok S2 (I := C) (.inr rfl) (fun o e => Ns.notRec hm2 e) nwC (St.fresh0 S ok.c.w hC0) nWr (fun y q => ?_) (fun b o n e => hs'.extBut b o n e) X (fun b q => .inl q) (fun b q n => q.resolve_right n) (fun q => absurd q nXC), ⟨fun b o n e => ?_, fun _ _ _ q => q, fun _ _ _ q => q, fun _ q _ => q⟩, h⟩⟩
  · obtain ⟨o, z⟩ := S.v.al.2 y C q
    rw [hC0] at z; cases z
  · exact hs'.extBut b o (fun q => by rw [q, hC0] at e; cases e) (a2.keep b o n (e1.keep b o (fun q => n (.inl q)) e))
/-- if t: .. , where t is not so -/
theorem Ex_ifF (ok : SxOk x) {t : Expr} {b : List Stmt} {pos : Pos} (hst : ∀ st, x.chkS m st = true → st = .If t b [] pos) (ht : ∀ X s, x.St X ρ own s → TrOk x.c x.env x.names x.kd ρ t false) (h : Ex x ms ρ own Post) : Ex x (m :: ms) ρ own Post := by
  refine Ex_cons fun st hs' A s X R S => ?_
  obtain rfl := hst st hs'
  refine wpAny_If (ht X s S A X s _ R S.v fun s1 e1 => ?_)
  simp only [Bool.false_eq_true, if_false]
  exact wpAny_execs_nil (.inl ⟨rfl, ρ, own, X, St.extS ok S e1, Stp.ext ok.c.w e1, h⟩)
end
end NC
end Mine
namespace Mine
noncomputable section NC
/-- the dict that a comprehension fills -/
noncomputable def dcF (t : AV → Bool) (kf vf : AV → Int) (ds : List AV) : List (Int × Int) := ds.foldl (fun acc d => bif t d then storeL acc (kf d) (vf d) else acc) []
theorem dcF_snoc (t : AV → Bool) (kf vf : AV → Int) (ds : List AV) (d : AV) : dcF t kf vf (ds ++ [d]) = bif t d then storeL (dcF t kf vf ds) (kf d) (vf d) else dcF t kf vf ds := by
  unfold dcF; rw [List.foldl_append]; rfl
theorem storeL_len1 {K : Type} [DecidableEq K] (l : List (K × Int)) (k : K) (v : Int) : (storeL l k v).length ≤ l.length + 1 := by
  unfold storeL; split <;> simp
theorem dcF_len (t : AV → Bool) (kf vf : AV → Int) (ds : List AV) : (dcF t kf vf ds).length ≤ ds.length := by
  suffices ∀ acc : List (Int × Int), (ds.foldl (fun acc d => bif t d then storeL acc (kf d) (vf d) else acc) acc).length ≤ acc.length + ds.length by
    have := this []; simpa [dcF] using this
  induction ds with
  | nil => intro acc; simp
  | cons d ds ih =>
    intro acc
    rw [List.foldl_cons, List.length_cons]
    have h := ih (bif t d then storeL acc (kf d) (vf d) else acc)
    generalize t d = b at h ⊢
    cases b with
    | true => have := storeL_len1 acc (kf d) (vf d); simp only [cond_true] at h ⊢; omega
    | false => simp only [cond_false] at h ⊢; omega
section
variable {c : Cx} {env : Env} {names : List Str} {kd : Str → Option NameKind} {ρ : Rho}
/-- where a dict comprehension stands -/
noncomputable def CompJ (c : Cx) (X3 : Addr → Prop) (I C D : Addr) (Z : Nat → Heap → Prop) (s₂ : Shared) (ds : List AV) (t : AV → Bool) (kf vf : AV → Int) (i : Nat) (s' : Shared) : Prop :=
  ∃ h' tk kv m', s' = { s₂ with heap := h', toks := tk } ∧ Z i h' ∧ h'.Ns C m' ∧ h'.DictOf (intKind c.P c.w) D kv ∧ kv.map (·.1) = (dcF t kf vf (ds.take i)).map (·.1) ∧
    c.Reps X3 h' (kv.map (·.2)) ((dcF t kf vf (ds.take i)).map fun p => AV.int p.2) ∧ c.W h' ∧ (∀ b o, ¬ c.xc b → b ≠ I → s₂.heap.get? b = some o → h'.get? b = some o)
noncomputable def CompK (c : Cx) (X3 : Addr → Prop) (I C D : Addr) (Z : Nat → Heap → Prop) (s₂ : Shared) (ds : List AV) (t : AV → Bool) (kf vf : AV → Int) (k : Nat) (s' : Shared) : Prop := ∃ i, i ≤ ds.length ∧ k = ds.length + 1 - i ∧ CompJ c X3 I C D Z s₂ ds t kf vf i s'
set_option maxHeartbeats 4000000 in
theorem comp_blockD (hw : CxW c) {A : Around} {X : Addr → Prop} {s s₂ : Shared} {I : Addr} {Z : Nat → Heap → Prop} {ds : List AV} {t : AV → Bool} {kf vf : AV → Int} {kx vx tx iter : Expr} {x : Str} {px pos : Pos} {scope : Scope} {fr : List Str} {ρ' : Rho} {RR : Value → Addr → Result → Shared → Prop}
    (K : CompFr env names ρ scope x fr ρ') (R : Room A c.n) (V : Vs c env names kd X ρ s) (e12 : c.Ext s s₂) (hI0 : s.heap.get? I = none) (hIX : ¬ X I) (hIw : ¬ c.wd I) (hIl : I ≠ env.locals) (hIc : ∀ y, env.cells.lookup y ≠ some I)
    (IT : Itr c A (.Name x px) I s₂.heap (fun b => X b ∨ b = I) ds Z) (z0 : Z 0 s₂.heap) (hsz : ds.length ≤ sizeLine)
    (htst : ∀ d ∈ ds, ∀ C, TrOk c (compEnvC scope (cloL env scope.names []) C env) (x :: fr) (kdOf scope) (some d :: ρ') tx (t d))
    (hkey : ∀ d ∈ ds, t d = true → ∀ C, EvOk c (compEnvC scope (cloL env scope.names []) C env) (x :: fr) (kdOf scope) (some d :: ρ') kx (.int (kf d)))
    (hval : ∀ d ∈ ds, t d = true → ∀ C, EvOk c (compEnvC scope (cloL env scope.names []) C env) (x :: fr) (kdOf scope) (some d :: ρ') vx (.int (vf d)))
    (hR : ∀ D C s' kv, c.Ext s s' → s.heap.get? D = none → s.heap.get? C = none → C ≠ D → ¬ c.wd C → ¬ c.wd D → (∃ m, s'.heap.Ns C m) → s'.heap.DictOf (intKind c.P c.w) D kv → kv.map (·.1) = (dcF t kf vf ds).map (·.1) →
      c.Reps (fun b => X b ∨ b = C) s'.heap (kv.map (·.2)) ((dcF t kf vf ds).map fun p => AV.int p.2) → RR (.ref D) C (.ok .next) s') :
    wpAny c.M A newDict (fun acc s₃ => wpAny c.M A (newFunctionEnv scope env.globals (cloL env scope.names []) [] env.qual none .none (some env)) (fun cenv s₄ =>
      codeAny c.M A (.compStart (.DictComp kx vx [⟨.Name x px, iter, [tx], 0⟩] scope pos) 0 (.ref I) acc { cenv with scope := relabel scope env }) (RR acc cenv.locals) s₄) noE s₃) noE s₂ := by
  refine wpAny_newObj_type (wpAny_newFunctionEnv K.nc (by intro y hy; simp at hy) (fun h₁ hns₁ hsb₁ => ?_) K.fk)
  dsimp only at hns₁ hsb₁ ⊢
  generalize hH2 : s₂.heap.push { cls := .type "dict", dict := none, data := .dict #[] } = H2 at hns₁ hsb₁ ⊢
  have hCs : H2.objs.size = s₂.heap.objs.size + 1 := by rw [← hH2, Heap.size_push]
  generalize hC : H2.objs.size = C at hCs hns₁ hsb₁ ⊢
  have hDs : ∀ o, s₂.heap.get? s₂.heap.objs.size ≠ some o := fun o e => Nat.lt_irrefl _ (Heap.lt_size e)
  have hCn : ∀ o, s₂.heap.get? C ≠ some o := fun o e => by have h1 := Heap.lt_size e; rw [hCs] at h1; exact Nat.lt_irrefl _ (Nat.lt_of_succ_lt h1)
  generalize hD : s₂.heap.objs.size = D at hDs
  have hCD : C ≠ D := fun q => absurd (hCs.symm.trans (q.trans hD.symm)) (Nat.succ_ne_self _)
  have old : ∀ b o, s₂.heap.get? b = some o → h₁.get? b = some o := fun b o e => hsb₁.extBut b o (fun q => hCn o (q ▸ e)) (Heap.get?_push_of_some _ (by rw [← hH2]; exact Heap.get?_push_of_some _ e))
  have hacc : h₁.DictOf (intKind c.P c.w) D [] := DictOf.keep1 (by rw [← hD]; exact Heap.DictOf.new (knd := intKind c.P c.w) s₂.heap) fun o e => hsb₁.extBut _ _ (Ne.symm hCD) (Heap.get?_push_of_some _ (by rw [← hH2]; exact e))
  have W2 : c.W s₂.heap := e12.wd V.wd
  obtain ⟨X3, E⟩ : ∃ X3, CompS c X X3 s s₂ I C D := ⟨_, hD ▸ CompS.of hw V e12 hI0 hIw (IT.alive _ _ z0) hCs⟩
  have W1 : c.W h₁ := hw.stable _ _ W2 fun b o _ e => old b o e
  have z1 : Z 0 h₁ := IT.frame 0 _ _ z0 fun b o _ _ e => old b o e
  have loop : ∀ s₃ : Shared, s₃ = { s₂ with heap := h₁, toks := s₂.toks + ([] : List (Str × Value)).length } →
      codeAny c.M A (.compLoop (.DictComp kx vx [⟨.Name x px, iter, [tx], 0⟩] scope pos) 0 (.ref I) (.ref D) (compEnvC scope (cloL env scope.names []) C env)) (RR (.ref D) C) s₃ := by
    rintro s₃ rfl
    refine codeAny_compLoop_testsD
      (CompK c X3 I C D Z s₂ ds t kf vf) ?_ (ds.length + 1)
      ⟨0, Nat.zero_le _, rfl, h₁, _, [], _, rfl, z1, hns₁, hacc, rfl, .nil, W1, fun b o _ _ e => old b o e⟩
    rintro k s' ⟨i, hi, rfl, h', tk, kv, m', rfl, zi, hn', hp', hm', rs, W', k'⟩
    by_cases hlt : i < ds.length
    · have hd : ds[i]? = some ds[i] := List.getElem?_eq_getElem hlt
      refine wpAny_mono (IT.item i _ _ (fun v s3 => wpAny c.M A (assign (.Name x px) (compEnvC scope (cloL env scope.names []) C env) v) (fun _ s4 => wpAny c.M A (isTrue tx (compEnvC scope (cloL env scope.names []) C env) (eval tx (compEnvC scope (cloL env scope.names []) C env))) (fun ok s5 =>
          if ok = true then wpAny c.M A (eval kx (compEnvC scope (cloL env scope.names []) C env)) (fun kv s6 => wpAny c.M A (eval vx (compEnvC scope (cloL env scope.names []) C env)) (fun vv s7 =>
            wpAny c.M A (dictSet D kv vv) (fun _ s8 => CompJ c X3 I C D Z s₂ ds t kf vf (i + 1) s8) noE s7) noE s6) noE s5 else CompJ c X3 I C D Z s₂ ds t kf vf (i + 1) s5) noE s4) noE s3) zi hd fun v h2 tk2 kk rv z2 => ?_) (fun r s3 h3 => ?_) fun _ _ e => e.elim
      rotate_left
      · obtain ⟨v, rfl, h4⟩ := h3
        have fin : ∀ s8, CompJ c X3 I C D Z s₂ ds t kf vf (i + 1) s8 → ∃ m, m < ds.length + 1 - i ∧ CompK c X3 I C D Z s₂ ds t kf vf m s8 := fun s8 q => ⟨ds.length + 1 - (i + 1), by omega, i + 1, hlt, rfl, q⟩
        refine wpAny_mono (letGo_name (P := True) (Q := fun s => _) h4 (fun s' q => q)) (fun _ s5 h5 => ?_) fun _ _ e => e.elim
        refine wpAny_tests_one (wpAny_mono h5 (fun ok s6 h6 => ?_) fun _ _ e => e.elim)
        split at h6
        · rename_i q
          rw [if_pos q]
          exact wpAny_mono h6 (fun kv s7 h7 => wpAny_mono h7 (fun vv s8 h8 => wpAny_mono h8 (fun _ s9 h9 => fin _ h9) fun _ _ e => e.elim) fun _ _ e => e.elim) fun _ _ e => e.elim
        · rename_i q
          rw [if_neg q]
          exact fin _ h6
      · refine comp_turn hw K V E IT zi hn' (DictOf.some hp') W' k' kk rv z2 fun h3 T => ?_
        have xD : X3 D := (E.x3 D).mpr (.inr (.inr (.inr rfl)))
        have hmem := List.getElem_mem hlt
        have ext : ∀ s5, c.Ext { s₂ with heap := h3, toks := tk2 + 1 } s5 → Z (i + 1) s5.heap ∧ s5.heap.Ns C (fun z => if z = x then some v else m' z) ∧ s5.heap.DictOf (intKind c.P c.w) D kv ∧
            c.Reps X3 s5.heap (kv.map (·.2)) ((dcF t kf vf (ds.take i)).map fun p => AV.int p.2) ∧ c.W s5.heap ∧ (∀ b o, ¬ c.xc b → b ≠ I → s₂.heap.get? b = some o → s5.heap.get? b = some o) ∧ ∃ h5 t5, s5 = { s₂ with heap := h5, toks := t5 } := fun s5 e5 => by
          obtain ⟨h5, t5, rfl⟩ := e5.same
          refine ⟨IT.frame _ _ _ T.z3 fun b o q q2 e => e5.keep b o (fun z => ?_) e, Ns.keep1 T.ns fun o e => e5.keep _ o (fun q => E.nwC (hw.xcwd _ q)) e, DictOf.keep1 hp' fun o e => e5.keep _ o (fun q => E.nwD (hw.xcwd _ q)) (T.k3 D o (Ne.symm E.hID) (Ne.symm E.hCD) e),
            rs.mono (fun b o nx e => e5.keep b o (fun q => nx ((E.x3 b).mpr (.inl (V.x.xc b q)))) (T.k3 b o (fun q => nx ((E.x3 b).mpr (.inr (.inl q)))) (fun q => nx ((E.x3 b).mpr (.inr (.inr (.inl q))))) e)) fun _ _ q _ => q, e5.wd T.W3, fun b o n1 n2 e => e5.keep b o n1 (T.k23 b o n1 n2 e), h5, t5, rfl⟩
          rcases q2 with rfl | q2
          · exact E.hIw (hw.xcwd _ z)
          · exact q2 (.inl (V.x.xc b z))
        have htk : ds.take (i + 1) = ds.take i ++ [ds[i]] := by rw [List.take_add_one, hd]; rfl
        refine htst ds[i] hmem C A X3 _ _ R T.V4 fun s5 e5 => ?_
        cases hb : t ds[i] with
        | false =>
          rw [if_neg (by simp)]
          obtain ⟨a1, a2, a3, a4, a5, a6, h5, t5, rfl⟩ := ext s5 e5
          refine ⟨h5, t5, kv, _, rfl, a1, a2, a3, ?_, ?_, a5, a6⟩
          · rw [htk, dcF_snoc, hb]; exact hm'
          · rw [htk, dcF_snoc, hb]; exact a4
        | true =>
          rw [if_pos rfl]
          refine hkey ds[i] hmem hb C A X3 _ _ R (T.V4.ext e5) fun y s6 e6 r6 => ?_
          refine hval ds[i] hmem hb C A X3 _ _ R ((T.V4.ext e5).ext e6) fun u s7 e7 r7 => ?_
          obtain ⟨a1, a2, a3, a4, a5, a6, h5, t5, rfl⟩ := ext s7 ((e5.trans e6).trans e7)
          have hlen : kv.length ≤ i := by
            have := congrArg List.length hm'
            rw [List.length_map, List.length_map] at this
            have h2 := dcF_len t kf vf (ds.take i)
            rw [List.length_take] at h2
            omega
          refine wpAny_dictSet_pairs (knd := intKind c.P c.w) (k := kf ds[i]) (dec_int c _ _ _ _ r6) a3 (fun h8 d8 hs8 => ?_) (by omega)
          have := stored_rep (k := kf ds[i]) hm' a4 r7
          refine ⟨h8, _, _, (fun z => if z = x then some v else m' z), rfl, ?_, Ns.keep1 a2 fun o e => hs8.extBut _ o E.hCD e, d8, ?_, ?_, ?_, ?_⟩
          · refine IT.frame _ _ _ a1 fun b o q q2 e => hs8.extBut b o (fun z => by obtain ⟨o', q⟩ := q; exact E.hDs _ (z ▸ q)) e
          · rw [htk, dcF_snoc, hb]; exact this.1
          · rw [htk, dcF_snoc, hb]
            exact this.2.mono (fun b o nx e => hs8.extBut b o (fun q => nx (q ▸ xD)) e) fun _ _ q _ => q
          · refine hw.stable _ _ a5 fun b o wb e => hs8.extBut b o (fun q => ?_) e
            rcases wb with wb | wb
            · exact E.nwD (q ▸ wb)
            · subst q
              obtain ⟨o', es, ep, q1, _, q2, _⟩ := a3
              rw [q1] at e; cases e
              obtain ⟨vs, _, _, z, _⟩ := wb
              rw [q2] at z; cases z
          · exact fun b o n1 n2 e => hs8.extBut b o (fun q => E.hDs _ (q ▸ e)) (a6 b o n1 n2 e)
    · have hi2 : i = ds.length := by omega
      refine wpAny_mono (IT.done _ (fun s3 => RR (.ref D) C (.ok .next) s3) (hi2 ▸ zi) fun h2 tk2 kk => ?_) (fun r s3 h3 => ?_) fun _ _ e => e.elim
      · rw [hi2, List.take_length] at rs hm'
        have W2' : c.W h2 := hw.stable _ _ W' fun b o wb e => by
          refine kk b o (fun q => ?_) e
          rcases wb with wb | wb
          · exact E.hIw (q ▸ wb)
          · exact IT.nr _ _ zi o (q ▸ e) wb
        refine hR D C _ kv ⟨?_, fun b o n e => kk b o (fun q => by rw [q, E.hI0] at e; cases e) (k' b o n (fun q => by rw [q, E.hI0] at e; cases e) (e12.keep b o n e)), fun _ => W2'⟩ E.hD0 E.hC0 E.hCD E.nwC E.nwD ⟨m', Ns.keep1 hn' fun o e => kk _ o (Ne.symm E.hIC) e⟩ (DictOf.keep1 hp' fun o e => kk _ o (Ne.symm E.hID) e) hm'
          (rs.mono (fun b o nx e => kk b o (fun q => nx ((E.x3 b).mpr (.inr (.inl q)))) e) fun b o q _ => (E.x3 b).mpr (q.elim .inl fun q => .inr (.inr (.inl q))))
        obtain ⟨h0, t0, e0⟩ := e12.same
        exact ⟨h2, tk2, by rw [e0]⟩
      · obtain ⟨rfl, h4⟩ := h3
        exact h4
  have := loop _ rfl
  exact codeAny_compStart_dict this (IT.self ⟨_, _, rfl⟩ 0 _ _ _ z1 this)
theorem ev_dcomp (hw : CxW c) {ds : List AV} {t : AV → Bool} {kf vf : AV → Int} {kx vx tx iter : Expr} {x : Str} {px pos : Pos} {scope : Scope} {fr : List Str} {ρ' : Rho} (K : CompFr env names ρ scope x fr ρ') (hit : ItOk c env names kd ρ iter (.Name x px) ds) (hsz : ds.length ≤ sizeLine)
    (htst : ∀ d ∈ ds, ∀ C, TrOk c (compEnvC scope (cloL env scope.names []) C env) (x :: fr) (kdOf scope) (some d :: ρ') tx (t d))
    (hkey : ∀ d ∈ ds, t d = true → ∀ C, EvOk c (compEnvC scope (cloL env scope.names []) C env) (x :: fr) (kdOf scope) (some d :: ρ') kx (.int (kf d)))
    (hval : ∀ d ∈ ds, t d = true → ∀ C, EvOk c (compEnvC scope (cloL env scope.names []) C env) (x :: fr) (kdOf scope) (some d :: ρ') vx (.int (vf d)))
    (hs : ∀ v, foldedSetIterable iter env v = pure v) :
    EvOk c env names kd ρ (.DictComp kx vx [⟨.Name x px, iter, [tx], 0⟩] scope pos) (.dI (dcF t kf vf ds)) := by
  intro A X s Q R V h
  rw [arm_eval_DictComp]
  refine wpAny_comprehension_free (use := none) rfl hs (closure_cl K.al) K.fk K.nl (hit A X s _ R V fun I Z s' e hI0 hIX hIw hIl hIc IT z0 => ?_)
  refine comp_blockD hw K R V e hI0 hIX hIw hIl hIc IT z0 hsz htst hkey hval ?_
  rintro D C s1 kv e1 hD0 hC0 hCD nwC nwD ⟨m, hm⟩ hp hm1 rs
  have notX : ∀ b, s.heap.get? b = none → ¬ c.wd b → ¬ X b := fun b h0 nw q => by
    rcases V.x.lt b q with z | ⟨o, z⟩
    · exact nw (hw.xcwd _ z)
    · rw [h0] at z; cases z
  have nsm : (D == sysModules) = false := by
    cases q : (D == sysModules) with
    | false => rfl
    | true => exact absurd (by rw [beq_iff_eq] at q; rw [q]; exact hw.sysm) nwD
  refine ⟨m, hm, fun h' hs' => h _ _ ⟨?_, fun b o n e => hs'.extBut b o (fun q => by rw [q, hC0] at e; cases e) (e1.keep b o n e), fun W => ?_⟩ (.dI (notX D hD0 nwD) nsm (DictOf.keep1 hp fun o e => hs'.extBut _ o (Ne.symm hCD) e) hm1 (rs.mono (fun b o nx e => hs'.extBut b o (fun q => nx (.inr q)) e) fun b o q _ => .inl q))⟩
  · obtain ⟨h0, t0, e0⟩ := e1.same
    exact ⟨h', t0, by rw [e0]⟩
  · refine hw.stable _ _ (e1.wd W) fun b o wb e => hs'.extBut b o (fun q => ?_) e
    rcases wb with wb | wb
    · exact nwC (q ▸ wb)
    · exact Ns.notRec hm (q ▸ e) wb
end
end NC
end Mine
namespace Mine
noncomputable section NC
theorem Room.under {A : Around} {n : Nat} (r : Room A (n + 1)) {C : Addr} {rest : List Value} {kw : List (Str × Value)} : Room (A.under (.builtin "type.__call__" ⟨.ref C :: rest, kw⟩)) n where
  hd := r.hd
  dp := by
    have h1 := r.dp
    have h2 : (Code.builtin "type.__call__" ⟨.ref C :: rest, kw⟩).weight = 1 := by rfl
    show A.depth + (Code.builtin "type.__call__" ⟨.ref C :: rest, kw⟩).weight + n + 2 < _
    rw [h2]; omega
  un := by
    have h1 := r.un
    have h2 : (Code.builtin "type.__call__" ⟨.ref C :: rest, kw⟩).cUnits = 1 := by rfl
    show A.units + (Code.builtin "type.__call__" ⟨.ref C :: rest, kw⟩).cUnits + 8 * n + 200 < _
    rw [h2]; omega
  gd := by
    have h2 : (Code.builtin "type.__call__" ⟨.ref C :: rest, kw⟩).guards = [] := by rfl
    unfold Around.under
    dsimp only
    rw [h2, r.gd]; rfl
section
variable {M : Model} {A : Around} {E : Value → Shared → Prop} {s : Shared} {env : Env}
theorem method_call {y n : Str} {q apos pos : Pos} {a b : Expr} {Q : Value → Shared → Prop} (ha : plainE a = true) (hb : plainE b = true) (hline : (apos.endLine == pos.line) = true)
    (h : wpAny M A (eval (.Name y q) env) (fun ov s₁ => ∀ pl, wpAny M A (getMethod ov n pl) (fun fx s₂ => wpAny M A (callWith pos fx.1 fx.2 (backTo pos (starEach [a, b] env)) []) Q E s₂) E s₁) E s) :
    wpAny M A (eval (.Call (.Attribute (.Name y q) n apos) [a, b] [] pos) env) Q E s := by
  have hbase : attributeBase (.Name y q) n env (eval (.Name y q) env) = eval (.Name y q) env := rfl
  rw [arm_eval_Call, hbase]
  refine wpAny_bind (wpAny_mono h (fun ov s₁ h₁ => ?_) fun _ _ e => e)
  refine wpAny_bind (wpAny_standAt ?_)
  have hform : methodCallForm ([a, b].length + ([] : List Keyword).length) (backTo pos (starEach [a, b] env)) (backToKw pos (keywordEach [] env)) = true := by
    rw [starEach_plain ha, starEach_plain hb]; rfl
  have hpos : methodCallPos true (.Name y q) env apos pos = pure pos := by unfold methodCallPos; simp [hline]
  unfold methodCall
  rw [hform]
  unfold calleeOf
  simp only [if_true]
  refine wpAny_bind (wpAny_holding (wpAny_mono (h₁ _) (fun fx s₂ h₂ => ?_) fun _ _ e => e))
  rw [hpos]
  exact wpAny_bind (wpAny_pure h₂)
end
section
variable {prog : Program} {w : World} {A : Around} {E : Value → Shared → Prop} {s : Shared} {K : Frag} {x C dx : Addr} {R : Result → Shared → Prop}
/-- the first value that an object keeps -/
theorem osa_new {name : Str} {tk : Tok} {v : Value} (X : K.In s.heap) (hx : s.heap.get? x = some (instObj C dx)) (hdx : s.heap.get? dx = some emptyDict) (hp : plainOver K C = true) (ht : takerIn K C name = some none) (hh : (clsIn K C).any (·.hasDict) = true)
    (h : ∀ h', (∀ b o, b ≠ dx → s.heap.get? b = some o → h'.get? b = some o) → h'.get? dx = some (dictOf [⟨PyData.keyHash w.params name, .str name s.toks, v⟩] 1) → R (.ok (.ret .none)) { s with heap := h', toks := s.toks + 1 }) :
    codeAny (model prog w) A (.call (.builtin "object.__setattr__") ⟨[.ref x, .str name tk, v], []⟩) R s := by
  have I : InstAt s.heap x (instObj C dx) C (some emptyDict) := ⟨hx, rfl, rfl, hdx⟩
  refine osa_open X I hp ht fun b => ?_
  obtain ⟨cd, hc, hd'⟩ := any_some hh
  have hput : Obj.putName name (PyData.keyHash w.params name) (.str name s.toks) v emptyDict = dictOf [⟨PyData.keyHash w.params name, .str name s.toks, v⟩] 1 := putName_dict name _ _ v [] 0
  have hfr : (Obj.putName name (PyData.keyHash w.params name) (.str name s.toks) v emptyDict).isFreed = false := by rw [hput]; rfl
  have D' : (s.heap.update dx (Obj.putName name (PyData.keyHash w.params name) (.str name s.toks) v)).get? dx = some (dictOf [⟨PyData.keyHash w.params name, .str name s.toks, v⟩] 1) := by
    rw [Heap.get?_update_self _ hdx hfr, hput]
  refine wpAny_bind (wpAny_pure (wpAny_bind (wpAny_bind (wpAny_loadPart hx (wpAny_bind ((looks_clsIn X hc).here ?_))))))
  rw [hd']
  refine wpAny_pure (a := some dx) (wpAny_bind (wpAny_pure (wpAny_bind ?_)))
  unfold nsSet
  refine wpAny_bind (wpAny_bind (wpAny_askSetting (wpAny_pure (wpAny_bind (wpAny_mkText (wpAny_bind (wpAny_loadPart hdx ?_)))))))
  dsimp only
  rw [aRefKeyMayBeTheName_at]
  have c : (!(#[] : Array DictEntry).any (·.key.isStr name) && (#[] : Array DictEntry).any (·.refKey)) = false := by simp
  rw [c]
  refine wpAny_updatePart hdx ?_
  refine wpAny_bind (wpAny_lookBehind D' (by exact pastItsLine_dict (by rw [List.size_toArray, sizeLine_eq]; simp)) ?_)
  exact wpAny_pure (h _ (fun b o nb e => (Heap.get?_update_ne _ _ _ _ nb).trans e) D')
end
end NC
end Mine
namespace Mine
noncomputable section NC
noncomputable def mAt (j : Nat) : Str × Arguments × List Stmt × Scope := match (pw.main.body[12]? : Option Stmt) with
  | some (.ClassDef _ _ _ b _ _ _ _ _ _ _) => (match b[j]? with
    | some (.FunctionDef n a b _ _ _ sc _ _ _) => (n, a, b, sc)
    | _ => (Str.empty, ⟨[], [], none, [], [], none, []⟩, [], ⟨.function, [], false, false, []⟩))
  | _ => (Str.empty, ⟨[], [], none, [], [], none, []⟩, [], ⟨.function, [], false, false, []⟩)
noncomputable abbrev csl : Str := "comp_select_list"
noncomputable abbrev qI : Str := "TupleComp.__init__"
noncomputable abbrev qC : Str := "TupleComp.compare"
/-- a function of a class, as the old part holds it -/
noncomputable def FnAt (K : Frag) (f : Addr) (j : Nat) (qual : Str) : Prop := ∃ oc od osl doc pm an cdv ct, K.lookup f = some ⟨oc, od, .func (fnOf (mAt j).1 qual (mAt j).2.1 (mAt j).2.2.1 (mAt j).2.2.2 .none .none doc pm an cdv ct), osl⟩ ∧ codeIn K cdv qual = true
structure ClsOk (c : Cx) (K : Frag) : Prop where
  kin : ∀ h, c.W h → K.In h
  glob : c.mg (Str.ofString "TupleComp") = some (.ref c.CC)
  keep : keepIn K (.ref c.CC) = true
  makes : makesIn K c.CC = true
  seta : findIn K (.ref c.CC) "__setattr__" = some (some (.builtin "object.__setattr__"))
  plain : plainOver K c.CC = true
  taker : takerIn K c.CC csl = some none
  hasD : hasDictIn K c.CC = true
  getS : plainGet K c.CC csl = true
  find : findIn K (.ref c.CC) csl = some none
  init : ∃ f, findIn K (.ref c.CC) "__init__" = some (some (.ref f)) ∧ typeIn K (.ref f) = some (.type "function") ∧ FnAt K f 0 qI
  cmp : ∃ f, findIn K (.ref c.CC) "compare" = some (some (.ref f)) ∧ typeIn K (.ref f) = some (.type "function") ∧ keepIn K (.ref f) = true ∧ FnAt K f 1 qC
theorem body_init : ∃ q1 q2 q3 q4, (mAt 0).2.2.1 = [.Assign [.Attribute (.Name (Str.ofString "self") q1) csl q2] (.Name (Str.ofString "comp_select_list") q3) q4] := ⟨_, _, _, _, by with_unfolding_all rfl⟩
section
variable {c : Cx} {K : Frag}
set_option maxHeartbeats 2000000 in
theorem init_ok (hw : CxW c) (Kc : ClsOk c K) {A : Around} {n : Nat} (R : Room A (n + 2)) {s : Shared} {v : Value} {Q : Value → Shared → Prop} (W : c.W s.heap)
    (h : ∀ x dx s' hs t, c.Ext s s' → s.heap.get? x = none → s.heap.get? dx = none → s'.heap.get? x = some (instObj c.CC dx) → s'.heap.get? dx = some (dictOf [⟨hs, .str csl t, v⟩] 1) → Q (.ref x) s') : wpAny c.M A (call (.ref c.CC) [v] []) Q noE s := by
  obtain ⟨hh, g, dr, tk, os⟩ := s
  obtain ⟨fI, hi, hf, oc, od, osl, doc, pm, an, cdv, ct, hlk, hcd⟩ := Kc.init
  have X0 := Kc.kin _ W
  refine wpAny_call (make_core (makes_of X0 Kc.makes) (looks_findIn X0 hi) (fun self => bind_fn X0 self hf) (.inl rfl) ?_)
  generalize hh1 : (hh.push emptyDict).push (instObj c.CC hh.objs.size) = h1
  generalize hxx : hh.objs.size + 1 = x
  generalize hdd : hh.objs.size = dx at hh1
  have k1 : ∀ b o, hh.get? b = some o → h1.get? b = some o := fun b o e => by rw [← hh1]; exact Heap.get?_push_of_some _ (Heap.get?_push_of_some _ e)
  have e1 : h1.get? x = some (instObj c.CC dx) := by
    rw [← hh1, ← hxx, ← hdd]
    have : ((hh.push emptyDict).push (instObj c.CC hh.objs.size)).get? (hh.push emptyDict).objs.size = some (instObj c.CC hh.objs.size) := Heap.get?_push_size _ rfl
    rw [Heap.size_push] at this
    exact this
  have e2 : h1.get? dx = some emptyDict := by
    rw [← hh1, ← hdd]
    exact Heap.get?_push_of_some _ (Heap.get?_push_size _ rfl)
  have n1 : hh.get? x = none := Heap.get?_none_of_le (by omega)
  have n2 : hh.get? dx = none := Heap.get?_none_of_le (by omega)
  have W1 : c.W h1 := hw.stable _ _ W fun b o _ e => k1 b o e
  have X1 := Kc.kin _ W1
  have R1 := Room.under (C := c.CC) (rest := [v]) (kw := []) R
  obtain ⟨q1, q2, q3, q4, hb⟩ := body_init
  refine codeAny_call_cells (body := (mAt 0).2.2.1) (binds := [(Str.ofString "self", .ref x), (Str.ofString "comp_select_list", v)]) (by have := R1.dp; omega) (X1 _ _ hlk) rfl (hw.nolim _ W1) (codeRec_of X1 hcd) rfl (by with_unfolding_all rfl) rfl (fun p hp => .inl ?_) (fun s₁ C => ?_) rfl rfl rfl
  · have hl : (mAt 0).2.2.2.names.lookup (Str.ofString "self") = some .local ∧ (mAt 0).2.2.2.names.lookup (Str.ofString "comp_select_list") = some .local := by decide +kernel
    rcases List.mem_cons.mp hp with rfl | hp
    · exact hl.1
    · rw [List.mem_singleton.mp hp]; exact hl.2
  generalize hfd : fnOf (mAt 0).1 qI (mAt 0).2.1 (mAt 0).2.2.1 (mAt 0).2.2.2 .none .none doc pm an cdv ct = fd at C ⊢
  have hsc : fd.scope = (mAt 0).2.2.2 := by rw [← hfd]
  generalize henv : callEnvC fd h1.objs.size fI = env at C ⊢
  have he : env.scope = (mAt 0).2.2.2 := by rw [← henv, ← hsc]; rfl
  have ek : ∀ y, env.kindOf y = (mAt 0).2.2.2.names.lookup y := fun y => by unfold Env.kindOf; rw [he]
  have fk : env.scope.kind = .function := by rw [he]; rfl
  have kl : ∀ y ∈ [Str.ofString "self", Str.ofString "comp_select_list"], env.kindOf y = some .local := fun y hy => by
    rw [ek]
    have hl : (mAt 0).2.2.2.names.lookup (Str.ofString "self") = some .local ∧ (mAt 0).2.2.2.names.lookup (Str.ofString "comp_select_list") = some .local := by decide +kernel
    rcases List.mem_cons.mp hy with rfl | hy
    · exact hl.1
    · rw [List.mem_singleton.mp hy]; exact hl.2
  have l1 : Ld env s₁.heap (Str.ofString "self") (.ref x) := .inl ⟨kl _ (by simp), _, C.toInCall.ns, by
    have := bindL_at (ps := [Str.ofString "self", Str.ofString "comp_select_list"]) (vs := [.ref x, v]) (m := fun _ => none) (i := 0) (kl _ (by simp)) (by decide +kernel) rfl rfl
    exact this⟩
  have l2 : Ld env s₁.heap (Str.ofString "comp_select_list") v := .inl ⟨kl _ (by simp), _, C.toInCall.ns, by
    have := bindL_at (ps := [Str.ofString "self", Str.ofString "comp_select_list"]) (vs := [.ref x, v]) (m := fun _ => none) (i := 1) (kl _ (by simp)) (by decide +kernel) rfl rfl
    exact this⟩
  have W2 : c.W s₁.heap := hw.stable _ _ W1 fun b o _ e => C.toInCall.keep b o e
  have X2 := Kc.kin _ W2
  have f1 := C.toInCall.keep _ _ e1
  have f2 := C.toInCall.keep _ _ e2
  rw [hb]
  refine wpAny_execs_cons (plainObj_wpAny_Assign_Attribute (name_Ld fk l2 (by decide +kernel) (name_Ld fk l1 (by decide +kernel) ?_)) (by rfl))
  refine set_plain (od := some emptyDict) X2 ⟨f1, rfl, rfl, f2⟩ Kc.seta ?_
  refine osa_new (s := { s₁ with toks := s₁.toks + 1 }) X2 f1 f2 Kc.plain Kc.taker Kc.hasD fun h3 k3 d3 => ?_
  refine wpAny_execs_nil ?_
  obtain ⟨h0, t0, rfl⟩ := C.toInCall.same
  have kk : ∀ b o, b ≠ dx → h1.get? b = some o → h3.get? b = some o := fun b o nb e => k3 b o nb (C.toInCall.keep b o e)
  have nxd : x ≠ dx := by omega
  refine ⟨rfl, h x dx _ _ _ ⟨⟨h3, _, rfl⟩, fun b o _ e => kk b o (fun q => by rw [q] at e; have e' : hh.get? dx = some o := e; rw [n2] at e'; cases e') (k1 b o e), fun _ => hw.stable _ _ W fun b o _ e => kk b o (fun q => by rw [q, n2] at e; cases e) (k1 b o e)⟩ n1 n2 (kk x _ nxd e1) d3⟩
theorem ev_make (hw : CxW c) (Kc : ClsOk c K) (hn : 2 ≤ c.n) {env : Env} {names : List Str} {kd : Str → Option NameKind} {ρ : Rho} {x : Str} {p pos : Pos} {e : Expr} {d : AV} (hx : x = Str.ofString "TupleComp") (hg : glob kd x = true) (he : EvsOk c env names kd ρ [e] [d]) :
    EvOk c env names kd ρ (.Call (.Name x p) [e] [] pos) (.obj d) := by
  intro A X s Q R V h
  subst hx
  have hg' := Bool.and_eq_true_iff.mp hg
  refine wpAny_Call_NameR (Calls.Name_function_global V.fk (V.kd _ (by simpa using hg'.1)) (Calls.loadGlobal_global (V.gl ▸ hw.glob _ V.wd) Kc.glob ?_) (by decide +kernel))
  have hp := he.plain
  refine callWith_of (P := c.W) (by rw [plain_any hp]; rfl) (fun h' W' => keeps_K Kc.keep h' (Kc.kin _ W')) ?_
  have hs := starEach_plain (rest := []) (env := env) (hp e List.mem_cons_self)
  have key := evs_ok he pos A X s (fun vs s₁ => c.W s₁.heap ∧ wpAny c.M A (PySem.call (.ref c.CC) vs) Q noE s₁) R V fun vs s₁ e₁ r₁ => ?_
  · rw [hs] at key ⊢
    exact evalArgs_plain key
  refine ⟨e₁.wd V.wd, ?_⟩
  cases r₁ with | cons r1 r2 =>
  cases r2
  obtain ⟨n, hn'⟩ : ∃ n, c.n = n + 2 := ⟨c.n - 2, by omega⟩
  refine init_ok hw Kc (n := n) (hn' ▸ R) (e₁.wd V.wd) fun x dx s' hs t e2 n1 n2 f1 f2 => h _ _ (e₁.trans e2) ?_
  have notX : ∀ b, s₁.heap.get? b = none → ¬ X b := fun b h0 q => by
    rcases (V.x.ext e₁).lt b q with z | ⟨o, z⟩
    · obtain ⟨o, z⟩ := hw.alive _ _ (e₁.wd V.wd) (hw.xcwd _ z); rw [h0] at z; cases z
    · rw [h0] at z; cases z
  exact .obj (notX x n1) (notX dx n2) f1 f2 (Rep.ext V.x.xc e2 r1)
end
end NC
end Mine
namespace Mine
noncomputable section NC
set_option maxHeartbeats 2000000 in
/-- a function answers what its body is shown to return: by its object alone -/
theorem callC {c : Cx} (hw : CxW c) {n : Nat} {ds : List AV} {d : AV} {f : Addr} {body : List Stmt} {scope : Scope} {ps rest : List Str} (ys : Nat → List Nat → Stmt → Option (List Expr)) (zs : Nat → Expr → Option (List Expr × List Str)) {ms : List MS}
    {F X : Nat → List AV → AP} {xs : Nat → Expr → Option (List Expr × List Str)}
    (obj : ∀ h, c.W h → ∃ o fd, h.get? f = some o ∧ o.data = .func fd ∧ h.CodeRec fd.code fd.qualname ∧ fd.body = .stmts body ∧ fd.closure = [] ∧ fd.scope = scope ∧ fd.globals = mainGlobals ∧ fd.builtins = builtinsNs ∧ (∀ vs, vs.length = ps.length → bindArgs fd ⟨vs, []⟩ = pure (ps.zip vs)))
    (hlen : ds.length = ps.length) (hps : (ps.all fun y => scope.names.lookup y == some .local || scope.names.lookup y == some .cell) = true) (nd : ps.Nodup)
    (hchk : chkSs (ps ++ rest) (kdOf scope) c.gs xs ys zs ms body = true)
    (hex : ∀ env s₀ X0, c.W s₀.heap → Ex ⟨{ c with n := n, F := F, X := X, xs := xs }, env, ps ++ rest, kdOf scope, s₀, X0, fun _ => False, ys, zs⟩ ms (ds.map some ++ rest.map fun _ => none) none (fun o _ _ => o = .ret d))
    (hco : scope.isCoroutine = false := by rfl) (hgen : scope.isGenerator = false := by rfl) (hkd : scope.kind = .function := by rfl) :
    ∀ (A : Around) (X : Addr → Prop) (s : Shared) (vs : List Value) (Q : Value → Shared → Prop), Room A (n + 1) → c.W s.heap → XOk c X s → c.Reps X s.heap vs ds → (∀ v s', c.Ext s s' → c.Rep X s'.heap v d → Q v s') → wpAny c.M A (call (.ref f) vs) Q noE s := by
  intro A X0 s vs Q R W xo r hq
  obtain ⟨o, fd, ho, hd, hcr, hbo, hcl, hsc, hgl, hbi, hbind⟩ := obj _ W
  have hvl := r.length
  have hv : vs.length = ps.length := by omega
  have hkind : ∀ p ∈ ps.zip vs, scope.names.lookup p.1 = some .local ∨ (scope.names.lookup p.1 = some .cell ∧ ((cellsFrom (s.heap.objs.size + 1) scope.names []).lookup p.1).isSome = true) := fun p hp => by
    have := List.all_eq_true.mp hps p.1 (List.of_mem_zip hp).1
    rcases Bool.or_eq_true_iff.mp this with q | q
    · exact .inl (by simpa using q)
    · exact .inr ⟨by simpa using q, cells_lookup (by simpa using q)⟩
  refine wpAny_call (codeAny_call_cells (by have := R.dp; omega) ho hd (hw.nolim _ W) hcr hbo (hbind vs hv) hcl (by rw [hsc]; exact hkind) (fun s₁ C => ?_) (by rw [hsc]; exact hco) (by rw [hsc]; exact hgen) (by rw [hsc]; exact hkd))
  generalize henv : callEnvC fd s.heap.objs.size f = env at C ⊢
  have e1 : env.scope = scope := by rw [← henv, ← hsc]; rfl
  have e2 : env.globals = mainGlobals := by rw [← henv, ← hgl]; rfl
  have e3 : env.builtins = builtinsNs := by rw [← henv, ← hbi]; rfl
  have e4 : env.locals = s.heap.objs.size := by rw [← henv]; rfl
  have e5 : env.cells = cellsFrom (s.heap.objs.size + 1) scope.names [] := by rw [← henv, ← hsc]; rfl
  have ek : ∀ y, env.kindOf y = kdOf scope y := fun y => by unfold Env.kindOf kdOf; rw [e1]
  have none0 : ∀ a, s.heap.objs.size ≤ a → s.heap.get? a = none := fun a h => Heap.get?_none_of_le h
  have nwd : ∀ a, s.heap.objs.size ≤ a → ¬ c.wd a := fun a h q => by obtain ⟨o, z⟩ := hw.alive _ _ W q; rw [none0 a h] at z; cases z
  have W1 : c.W s₁.heap := hw.stable _ _ W fun b o _ e => C.toInCall.keep b o e
  have ext : c.Ext s s₁ := by
    obtain ⟨h, tk, e⟩ := C.toInCall.same
    exact ⟨⟨h, tk, e⟩, fun b o _ e => C.toInCall.keep b o e, fun _ => W1⟩
  have cellAt : ∀ y a, env.cells.lookup y = some a → s.heap.objs.size ≤ a ∧ ∃ v, s₁.heap.IsCell a v := fun y a h =>
    ⟨Nat.le_of_lt (e4 ▸ C.above y a (mem_of_lookup h)), _, C.cell y a h⟩
  let X' : Addr → Prop := fun b => X0 b ∨ b = env.locals ∨ ∃ y, env.cells.lookup y = some b
  have kx : ∀ b o, X' b → s.heap.get? b = some o → X0 b := fun b o q e => by
    rcases q with q | rfl | ⟨y, q⟩
    · exact q
    · rw [none0 _ (by rw [e4]; exact Nat.le_refl _)] at e; cases e
    · rw [none0 _ (cellAt y b q).1] at e; cases e
  have nsA : ∃ o, s₁.heap.get? env.locals = some o := by obtain ⟨o, _, _, q, _⟩ := C.toInCall.ns; exact ⟨o, q⟩
  have ceA : ∀ y a, env.cells.lookup y = some a → ∃ o, s₁.heap.get? a = some o := fun y a h => by obtain ⟨_, v, o, q, _⟩ := cellAt y a h; exact ⟨o, q⟩
  have St0 : Mine.St { c with n := n, F := F, X := X, xs := xs } env (ps ++ rest) (kdOf scope) (fun _ => False) s X0 X' (ds.map some ++ rest.map fun _ => none) none s₁ := by
    refine ⟨⟨by rw [e1]; exact hkd, e2, e3, fun y h => (ek y).trans h, W1, ⟨fun b hb => .inl (xo.xc b hb), fun b hb => ?_⟩, ⟨fun q => nwd _ (by rw [e4]; exact Nat.le_refl _) (hw.xcwd _ q), fun y a h q => nwd _ (cellAt y a h).1 (hw.xcwd _ q)⟩, ⟨nsA, ceA⟩, fun i y d' hn hr => ?_⟩, ext.weaken fun _ h => .inl h, fun _ h => h.elim, fun b hb => .inl hb, ek,
      ⟨none0 _ (by rw [e4]; exact Nat.le_refl _), .inr (.inl rfl), nwd _ (by rw [e4]; exact Nat.le_refl _)⟩, ⟨_, C.toInCall.ns⟩, fun y hy => ?_, fun y z a hyz h1 h2 => ?_, fun b hb => xo.lt b hb, fun _ _ _ q => by cases q⟩
    · rcases hb with hb | rfl | ⟨y, hb⟩
      · rcases xo.lt b hb with q | ⟨o, q⟩
        · exact .inl q
        · exact .inr ⟨o, C.toInCall.keep b o q⟩
      · exact .inr nsA
      · exact .inr (ceA y b hb)
    · have hi : i < ds.length := by
        rcases Nat.lt_or_ge i ds.length with h | h
        · exact h
        · rw [List.getElem?_append_right (by simpa using h)] at hr
          rw [List.getElem?_map] at hr
          obtain ⟨_, _, q⟩ := Option.map_eq_some_iff.mp hr
          cases q
      rw [List.getElem?_append_left (by simpa using hi), List.getElem?_map] at hr
      obtain ⟨d'', hd', q⟩ := Option.map_eq_some_iff.mp hr
      cases q
      have hn' : ps[i]? = some y := by rw [List.getElem?_append_left (by omega)] at hn; exact hn
      obtain ⟨v, hv', rv⟩ := r.get hd'
      refine ⟨v, ?_, rv.mono (fun b o nb e => C.toInCall.keep b o e) kx⟩
      have hky := List.all_eq_true.mp hps y (List.mem_of_getElem? hn')
      rcases Bool.or_eq_true_iff.mp hky with q | q
      · have q' : scope.names.lookup y = some .local := by simpa using q
        refine .inl ⟨(ek y).trans q', _, C.toInCall.ns, bindL_at ((ek y).trans q') nd hn' hv'⟩
      · have q' : scope.names.lookup y = some .cell := by simpa using q
        obtain ⟨a, ha⟩ := Option.isSome_iff_exists.mp (cells_lookup (n := s.heap.objs.size + 1) q')
        rw [← e5] at ha
        refine .inr ⟨.inl ((ek y).trans q'), a, ha, ?_⟩
        have := C.cell y a ha
        rwa [bindC_at ((ek y).trans q') nd hn' hv'] at this
    · obtain ⟨a, ha⟩ := Option.isSome_iff_exists.mp (cells_lookup (n := s.heap.objs.size + 1) hy)
      rw [← e5] at ha
      exact ⟨a, ha, .inr (.inr ⟨y, ha⟩), nwd _ (cellAt y a ha).1, none0 _ (cellAt y a ha).1, (cellAt y a ha).2⟩
    · exact hyz (name_of_addr C.apart (mem_of_lookup h1) (mem_of_lookup h2))
  refine wpAny_mono (hex env s X0 W body hchk (A.deeper env) s₁ X' (R.deeper env) St0) (fun fl s' h1 => ?_) fun _ _ e => e.elim
  obtain ⟨o', ρ', own', X1, rfl, hO, S', _⟩ := h1
  cases fl <;> first | exact hO.elim | exact hq _ s' (S'.e.weaken fun _ h => h.elim id False.elim) hO
end NC
end Mine
namespace Mine
noncomputable section NC
/-- the words of compare's frame -/
noncomputable def w23 : Wd := ⟨fun e => kAttribute none e fun o n _ => kName none o fun y q => bif n == csl then some ([.Name y q], []) else none, fun ds => k1 none ds fun d => oObj d fun d => some (d, True)⟩
noncomputable def xsC (k : Nat) (e : Expr) : Option (List Expr × List Str) := bif k == 23 then w23.sh e else xsW k e
noncomputable def XC (k : Nat) (l : List AV) : AP := bif k == 23 then w23.val l else XW k l
noncomputable def cmpT (s a1 a2 a3 b1 b2 b3 : Int) : Int := if a1 < b1 then -s else if b1 < a1 then s else if a2 < b2 then -s else if b2 < a2 then s else if a3 < b3 then -s else if b3 < a3 then s else 0
noncomputable def ps_compare : List Str := ["self", "left", "right"].map Str.ofString
noncomputable def ls_compare : List Str := ["index", "direction", "l", "r"].map Str.ofString
noncomputable def ms_compare : List MS := [
  .for (.two 3 4) (.val (.ext 23 [.var 0])) [
    .asg 5 (.itemI (.var 1) (.var 3)),
    .asg 6 (.itemI (.var 2) (.var 3)),
    .ite (.cmp .Lt (.var 5) (.var 6)) [.ret (.neg (.var 4))] [],
    .ite (.cmp .Gt (.var 5) (.var 6)) [.ret (.var 4)] []],
  .ret (.int 0)]
theorem chk_compare : chkSs (ps_compare ++ ls_compare) (kdOf (mAt 1).2.2.2) gsAll xsC ys0 zsW ms_compare (mAt 1).2.2.1 = true := by decide +kernel
theorem nd_compare : (ps_compare ++ ls_compare).Nodup := by decide +kernel
section
variable {c : Cx} {K : Frag} {env : Env} {names : List Str} {kd : Str → Option NameKind} {ρ : Rho}
theorem handed_rep {P : Program} {w : World} {CC : Addr} {X : Addr → Prop} {h : Heap} {v : Value} {d : AV} (r : Mine.Rep P w CC X h v d) : handedIn v = true := by cases r <;> rfl
theorem ev_attr (hw : CxW c) (Kc : ClsOk c K) {y : Str} {q pos : Pos} {d : AV} (he : EvOk c env names kd ρ (.Name y q) (.obj d)) : EvOk c env names kd ρ (.Attribute (.Name y q) csl pos) d := by
  intro A X s Q R V h
  refine Attribute_Name_ (he A X s _ R V fun v s1 e1 r1 => Rep.obj_k r1 fun a da hs t v n sl nx ny h1 h2 r => ?_) (by with_unfolding_all rfl)
  have hl : lookIn csl (dictOf [⟨hs, .str csl t, v⟩] n) = some (some v) := by
    show (match ([⟨hs, .str csl t, v⟩] : List DictEntry).find? (·.key.isStr csl) with | some e => some (some e.val) | none => if ([⟨hs, .str csl t, v⟩] : List DictEntry).any (·.refKey) then none else some none) = _
    rw [List.find?_cons, show (DictEntry.mk hs (.str csl t) v).key.isStr csl = true from beq_self_eq_true csl]
  exact get_value (Kc.kin _ (e1.wd V.wd)) ⟨h1, rfl, rfl, h2⟩ (plainGet_of Kc.getS).1 (findObj_own Kc.hasD Kc.find (by rfl) hl) (handed_rep r) (h _ _ (e1.tk _) r)
theorem ok_w23 (hw : CxW c) (Kc : ClsOk c K) : WdOk c w23 := fun h hX => kAttribute_k oN h fun o n pos h => kName_k oN h fun y q h => bif_k h fun hb h => beq_k hb (two_k h (k1_k oN hX fun d hX => oObj_k hX fun d hX => some_k hX fun hg hC he => ev_attr hw Kc he.1))
theorem xC_ok (hw : CxW c) (Kc : ClsOk c K) {k : Nat} {e : Expr} {es : List Expr} {gn : List Str} (h : xsC k e = some (es, gn)) {ds : List AV} {d : AV} {C : Prop} (hg : ∀ x ∈ gn, glob kd x = true) (hX : XC k ds = some (d, C)) (hC : C) (he : EvsOk c env names kd ρ es ds) : EvOk c env names kd ρ e d := by
  unfold xsC at h
  unfold XC at hX
  cases hk : k == 23 with
  | true => rw [hk] at h hX; exact ok_w23 hw Kc h hX hg hC he
  | false => rw [hk] at h hX; exact xW_ok hw h hg hX hC he
end
end NC
end Mine
namespace Mine
noncomputable section NC
theorem ClsOk.cast {b : Base} {K : Frag} {n m : Nat} {F F' X X' : Nat → List AV → AP} {xs xs' : Nat → Expr → Option (List Expr × List Str)} (Kc : ClsOk (b.cx n F X xs) K) : ClsOk (b.cx m F' X' xs') K :=
  ⟨Kc.kin, Kc.glob, Kc.keep, Kc.makes, Kc.seta, Kc.plain, Kc.taker, Kc.hasD, Kc.getS, Kc.find, Kc.init, Kc.cmp⟩
theorem sc_compare : (mAt 1).2.2.2.isCoroutine = false ∧ (mAt 1).2.2.2.isGenerator = false ∧ (mAt 1).2.2.2.kind = .function := ⟨by rfl, by rfl, by rfl⟩
section
variable {b : Base} {K : Frag}
set_option maxHeartbeats 2000000 in
theorem fn_compare (hb : BOk b) (Kc : ClsOk b.c0 K) {f : Addr} (hF : FnAt K f 1 qC) (n : Nat) (sg a1 a2 a3 b1 b2 b3 : Int) :
    ∀ (A : Around) (X : Addr → Prop) (s : Shared) (vs : List Value) (Q : Value → Shared → Prop), Room A (n + 1) → b.W s.heap → XOk b.c0 X s → b.c0.Reps X s.heap vs [.obj (.lst [.tup [.int 0, .int sg], .tup [.int 1, .int sg], .tup [.int 2, .int sg]]), .tup [.int a1, .int a2, .int a3], .tup [.int b1, .int b2, .int b3]] →
      (∀ v s', b.c0.Ext s s' → b.c0.Rep X s'.heap v (.int (cmpT sg a1 a2 a3 b1 b2 b3)) → Q v s') → wpAny b.c0.M A (call (.ref f) vs) Q noE s := by
  obtain ⟨oc, od, osl, doc, pm, an, cdv, ct, hlk, hcd⟩ := hF
  refine callC (c := b.c0) (n := n) (body := (mAt 1).2.2.1) (scope := (mAt 1).2.2.2) (ps := ps_compare) (rest := ls_compare) (ms := ms_compare) (F := noF) (X := XC) (xs := xsC) hb.w ys0 zsW (fun h W => ?_) rfl (by decide +kernel) (by decide +kernel) chk_compare ?_ sc_compare.1 sc_compare.2.1 sc_compare.2.2
  · have X0 := Kc.kin _ W
    refine ⟨_, _, X0 _ _ hlk, rfl, codeRec_of X0 hcd, rfl, rfl, rfl, rfl, rfl, fun vs hl => ?_⟩
    rcases vs with _ | ⟨v, _ | ⟨v', _ | ⟨v'', _ | ⟨v''', vs⟩⟩⟩⟩ <;> first | (simp [ps_compare] at hl; done) | skip
    with_unfolding_all rfl
  intro env s₀ X0 _
  have ok : SxOk ⟨b.cx n noF XC xsC, env, ps_compare ++ ls_compare, kdOf (mAt 1).2.2.2, s₀, X0, fun _ => False, ys0, zsW⟩ :=
    ⟨⟨hb.w, fun _ _ _ _ h => (by cases h), fun k e es gn h env names kd ρ ds d C hg hX hC he _ => xC_ok hb.w Kc.cast h hg hX hC he⟩, nd_compare⟩
  generalize hT : cmpT sg a1 a2 a3 b1 b2 b3 = T
  unfold ms_compare
  have step : ∀ (i x y : Int) (o3 o4 o5 o6 : Option AV) (P : PostT), 0 ≤ i → i < 2 ^ 62 → [AV.int a1, .int a2, .int a3][i.toNat]? = some (.int x) → [AV.int b1, .int b2, .int b3][i.toNat]? = some (.int y) →
      (x < y → P (.ret (.int (-sg))) [some (.obj (.lst [.tup [.int 0, .int sg], .tup [.int 1, .int sg], .tup [.int 2, .int sg]])), some (.tup [.int a1, .int a2, .int a3]), some (.tup [.int b1, .int b2, .int b3]), some (.int i), some (.int sg), some (.int x), some (.int y)] none) →
      (y < x → P (.ret (.int sg)) [some (.obj (.lst [.tup [.int 0, .int sg], .tup [.int 1, .int sg], .tup [.int 2, .int sg]])), some (.tup [.int a1, .int a2, .int a3]), some (.tup [.int b1, .int b2, .int b3]), some (.int i), some (.int sg), some (.int x), some (.int y)] none) →
      (x = y → P .next [some (.obj (.lst [.tup [.int 0, .int sg], .tup [.int 1, .int sg], .tup [.int 2, .int sg]])), some (.tup [.int a1, .int a2, .int a3]), some (.tup [.int b1, .int b2, .int b3]), some (.int i), some (.int sg), some (.int x), some (.int y)] none) →
      Ex ⟨b.cx n noF XC xsC, env, ps_compare ++ ls_compare, kdOf (mAt 1).2.2.2, s₀, X0, fun _ => False, ys0, zsW⟩ [
        .asg 5 (.itemI (.var 1) (.var 3)), .asg 6 (.itemI (.var 2) (.var 3)), .ite (.cmp .Lt (.var 5) (.var 6)) [.ret (.neg (.var 4))] [], .ite (.cmp .Gt (.var 5) (.var 6)) [.ret (.var 4)] []]
        [some (.obj (.lst [.tup [.int 0, .int sg], .tup [.int 1, .int sg], .tup [.int 2, .int sg]])), some (.tup [.int a1, .int a2, .int a3]), some (.tup [.int b1, .int b2, .int b3]), some (.int i), some (.int sg), o5, o6] none P := by
    intro i x y o3 o4 o5 o6 P h0 h1 hx hy p1 p2 p3
    have ex : ([AV.int a1, .int a2, .int a3].getD i.toNat .none) = .int x := by rw [List.getD_eq_getElem?_getD, hx]; rfl
    have ey : ([AV.int b1, .int b2, .int b3].getD i.toNat .none) = .int y := by rw [List.getD_eq_getElem?_getD, hy]; rfl
    refine Ex_asg ok rfl ⟨trivial, trivial, h0, h1, by rw [ex]; exact hx⟩ (by simp) ?_
    rw [ex]
    refine Ex_asg ok rfl ⟨trivial, trivial, h0, h1, by rw [ey]; exact hy⟩ (by simp) ?_
    rw [ey]
    refine Ex_ite ok rfl (by simp) rfl trivial (fun ht => ?_) (fun hf => ?_)
    · exact Ex_ret ok rfl (by simp) (p1 (of_decide_eq_true ht))
    refine Ex_nil ?_
    refine Ex_ite ok rfl (by simp) rfl trivial (fun ht => ?_) (fun hf2 => ?_)
    · exact Ex_ret ok rfl (by simp) (p2 (of_decide_eq_true ht))
    refine Ex_nil (Ex_nil (p3 ?_))
    have q1 : ¬ x < y := of_decide_eq_false hf
    have q2 : ¬ y < x := of_decide_eq_false hf2
    omega
  refine Ex_for ok (fun ie te _ hi => hit_val ok (ds := [.tup [.int 0, .int sg], .tup [.int 1, .int sg], .tup [.int 2, .int sg]]) rfl (by simp) ie te hi)
    (fun rest ρ own => own = none ∧ (∃ o3 o4 o5 o6, ρ = [some (.obj (.lst [.tup [.int 0, .int sg], .tup [.int 1, .int sg], .tup [.int 2, .int sg]])), some (.tup [.int a1, .int a2, .int a3]), some (.tup [.int b1, .int b2, .int b3]), o3, o4, o5, o6]) ∧
      (rest = [.tup [.int 0, .int sg], .tup [.int 1, .int sg], .tup [.int 2, .int sg]] ∨ (rest = [.tup [.int 1, .int sg], .tup [.int 2, .int sg]] ∧ a1 = b1) ∨ (rest = [.tup [.int 2, .int sg]] ∧ a1 = b1 ∧ a2 = b2) ∨ (rest = [] ∧ a1 = b1 ∧ a2 = b2 ∧ a3 = b3))) ?_ ?_ ?_
  · exact ⟨rfl, ⟨_, _, _, _, rfl⟩, .inl rfl⟩
  · rintro d rest ρ own ⟨rfl, ⟨o3, o4, o5, o6, rfl⟩, h⟩
    rcases h with h | ⟨h, e1⟩ | ⟨h, e1, e2⟩ | ⟨h, _⟩
    · injection h with q1 q2
      subst q1; subst q2
      refine ⟨_, rfl, by simp, ?_⟩
      refine step 0 a1 b1 o3 o4 o5 o6 _ (by decide) (by decide) rfl rfl (fun q => ?_) (fun q => ?_) (fun q => ?_)
      · show Out.ret _ = Out.ret _; rw [← hT]; unfold cmpT; rw [if_pos q]
      · show Out.ret _ = Out.ret _; rw [← hT]; unfold cmpT; rw [if_neg (by omega), if_pos q]
      · exact ⟨rfl, ⟨_, _, _, _, rfl⟩, .inr (.inl ⟨rfl, q⟩)⟩
    · injection h with q1 q2
      subst q1; subst q2
      refine ⟨_, rfl, by simp, ?_⟩
      refine step 1 a2 b2 o3 o4 o5 o6 _ (by decide) (by decide) rfl rfl (fun q => ?_) (fun q => ?_) (fun q => ?_)
      · show Out.ret _ = Out.ret _; rw [← hT]; unfold cmpT; rw [if_neg (by omega), if_neg (by omega), if_pos q]
      · show Out.ret _ = Out.ret _; rw [← hT]; unfold cmpT; rw [if_neg (by omega), if_neg (by omega), if_neg (by omega), if_pos q]
      · exact ⟨rfl, ⟨_, _, _, _, rfl⟩, .inr (.inr (.inl ⟨rfl, e1, q⟩))⟩
    · injection h with q1 q2
      subst q1; subst q2
      refine ⟨_, rfl, by simp, ?_⟩
      refine step 2 a3 b3 o3 o4 o5 o6 _ (by decide) (by decide) rfl rfl (fun q => ?_) (fun q => ?_) (fun q => ?_)
      · show Out.ret _ = Out.ret _; rw [← hT]; unfold cmpT; rw [if_neg (by omega), if_neg (by omega), if_neg (by omega), if_neg (by omega), if_pos q]
      · show Out.ret _ = Out.ret _; rw [← hT]; unfold cmpT; rw [if_neg (by omega), if_neg (by omega), if_neg (by omega), if_neg (by omega), if_neg (by omega), if_pos q]
      · exact ⟨rfl, ⟨_, _, _, _, rfl⟩, .inr (.inr (.inr ⟨rfl, e1, e2, q⟩))⟩
    · cases h
  · rintro ρ own ⟨rfl, ⟨o3, o4, o5, o6, rfl⟩, h⟩
    rcases h with h | ⟨h, _⟩ | ⟨h, _⟩ | ⟨_, e1, e2, e3⟩ <;> first | cases h | skip
    refine Ex_ret ok rfl (by simp) ?_
    show Out.ret _ = Out.ret _
    rw [← hT]
    unfold cmpT
    rw [if_neg (by omega), if_neg (by omega), if_neg (by omega), if_neg (by omega), if_neg (by omega), if_neg (by omega)]
end
end NC
end Mine
namespace Mine
noncomputable section NC
section
variable {b : Base} {K : Frag} {n : Nat} {F XX : Nat → List AV → AP} {xs : Nat → Expr → Option (List Expr × List Str)} {env : Env} {names : List Str} {kd : Str → Option NameKind} {ρ : Rho}
set_option maxHeartbeats 2000000 in
theorem ev_compare (hb : BOk b) (Kc : ClsOk b.c0 K) (hn : 1 ≤ n) {y : Str} {q p pos : Pos} {e f : Expr} {sg a1 a2 a3 b1 b2 b3 : Int} (hl : (p.endLine == pos.line) = true)
    (he : EvsOk (b.cx n F XX xs) env names kd ρ [.Name y q, e, f] [.obj (.lst [.tup [.int 0, .int sg], .tup [.int 1, .int sg], .tup [.int 2, .int sg]]), .tup [.int a1, .int a2, .int a3], .tup [.int b1, .int b2, .int b3]]) :
    EvOk (b.cx n F XX xs) env names kd ρ (.Call (.Attribute (.Name y q) (Str.ofString "compare") p) [e, f] [] pos) (.int (cmpT sg a1 a2 a3 b1 b2 b3)) := by
  intro A X s Q R V h
  refine hide fun G kG => ?_
  obtain ⟨fC, hf, ht, hk, hF⟩ := Kc.cmp
  obtain ⟨n', rfl⟩ : ∃ n', n = n' + 1 := ⟨n - 1, by omega⟩
  refine kG (method_call he.2.2.2.1 he.2.2.2.2.2.1 hl (he.1 A X s _ R V fun v s1 e1 r1 pl => ?_))
  have V1 := V.ext e1
  have r1' := r1
  revert r1'
  refine Rep.obj_k r1 fun a da hs t v nn sl nx ny g1 g2 r r1' => ?_
  have hsh : shadowIn (some (dictOf [⟨hs, .str csl t, v⟩] nn)) "compare" = some false := by
    show (lookIn "compare" (dictOf [⟨hs, .str csl t, v⟩] nn)).map _ = _
    have : lookIn "compare" (dictOf [⟨hs, .str csl t, v⟩] nn) = some none := by
      show (match ([⟨hs, .str csl t, v⟩] : List DictEntry).find? (·.key.isStr "compare") with | some e => some (some e.val) | none => if ([⟨hs, .str csl t, v⟩] : List DictEntry).any (·.refKey) then none else some none) = _
      rw [List.find?_cons, show (DictEntry.mk hs (.str csl t) v).key.isStr "compare" = false from (by decide +kernel : ((csl : Str) == ("compare" : Str)) = false)]
      rfl
    rw [this]; rfl
  refine method_fn (Kc.kin _ V1.wd) ⟨g1, rfl, rfl, g2⟩ (plainGet_of Kc.getS).1 (plainGet_of Kc.getS).2 hf ht hsh ?_
  refine callWith_of (P := b.W) (by rw [plain_any (es := [e, f]) (fun z hz => he.plain z (List.mem_cons_of_mem _ hz))]; rfl) (fun h' W' => keeps_K hk h' (Kc.kin _ W')) ?_
  have hs' := starEach_plain (rest := [f]) (env := env) he.2.2.2.1
  have key := evs_ok (c := b.cx (n' + 1) F _ xs) (es := [e, f]) (ds := [.tup [.int a1, .int a2, .int a3], .tup [.int b1, .int b2, .int b3]]) he.2.2 pos A X s1 (fun vs s₂ => b.W s₂.heap ∧ wpAny (b.cx (n' + 1) F XX xs).M A (PySem.call (.ref fC) (.ref a :: vs)) Q noE s₂) R V1 fun vs s₂ e₂ r₂ =>
    have V2 := V1.ext e₂
    ⟨V2.wd, fn_compare hb Kc hF n' sg a1 a2 a3 b1 b2 b3 A X s₂ _ _ R V2.wd ⟨V2.x.xc, V2.x.lt⟩ (.cons (Rep.ext V1.x.xc e₂ r1') r₂) fun v s₃ e₃ r₃ => h _ _ ((e1.trans e₂).trans e₃) r₃⟩
  rw [hs'] at key ⊢
  exact evalArgs_plain key
theorem ev_rep {c : Cx} (hw : CxW c) {e re : Expr} {lpos pos : Pos} {j m : Int} (he : EvsOk c env names kd ρ [e, re] [.int j, .int m]) (h0 : 0 ≤ m) (hl : m ≤ 1000) : EvOk c env names kd ρ (.BinOp (.List [e] lpos) .Mult re pos) (.lst (List.replicate m.toNat (.int j))) := fun A X s Q R V h =>
  rep_go hw ⟨he.1, he.2.1, trivial⟩ he.2.2.1 h0 hl R V fun s3 v e rv => h _ _ (e.trans (Ext.push hw s3 _)) (.lst (fresh_not hw (V.ext e).wd (V.ext e).x) ⟨_, Heap.get?_push_size _ rfl, rfl, _, rfl⟩ (Reps.rep (rv _) _))
end
/-- the words of law's frame -/
noncomputable def w20 : Wd := ⟨call1 "TupleComp", fun ds => k1 none ds fun d => some (.obj d, True)⟩
/-- three ints of a tuple -/
noncomputable def on3 (d : AV) (f : Int → Int → Int → AP) : AP := oTup d fun l => kc none l fun a l => oInt a fun a => k2 none l fun b c => oInt b fun b => oInt c fun c => f a b c
@[elab_as_elim] theorem on3_k {d : AV} {f : Int → Int → Int → AP} {r : AV × Prop} {M : AV → Prop} (h : on3 d f = some r) (k : ∀ a b c, f a b c = some r → M (.tup [.int a, .int b, .int c])) : M d :=
  oTup_k h fun l h => kc_k (M := fun l => M (.tup l)) oN h fun a l h => oInt_k (M := fun a => M (.tup (a :: l))) h fun a h => k2_k (M := fun l => M (.tup (.int a :: l))) oN h fun b c h => oInt_k (M := fun b => M (.tup [.int a, b, c])) h fun b h => oInt_k (M := fun c => M (.tup [.int a, .int b, c])) h fun c h => k a b c h
noncomputable def on2 (d : AV) (f : Int → Int → AP) : AP := oTup d fun l => k2 none l fun b c => oInt b fun b => oInt c fun c => f b c
@[elab_as_elim] theorem on2_k {d : AV} {f : Int → Int → AP} {r : AV × Prop} {M : AV → Prop} (h : on2 d f = some r) (k : ∀ a b, f a b = some r → M (.tup [.int a, .int b])) : M d :=
  oTup_k h fun l h => k2_k (M := fun l => M (.tup l)) oN h fun b c h => oInt_k (M := fun b => M (.tup [b, c])) h fun b h => oInt_k (M := fun c => M (.tup [.int b, c])) h fun c h => k b c h
noncomputable def w21 : Wd := ⟨fun e => kCall none e fun g es ks pos => kAttribute none g fun o n p => kName none o fun y q => k2 none es fun a b => bif ks.isEmpty && (n == Str.ofString "compare" && p.endLine == pos.line) then some ([.Name y q, a, b], []) else none,
  fun ds => kc none ds fun o ds => oObj o fun o => oLst o fun l => kc none l fun x l => on2 x fun i0 s0 => k2 none l fun x y => on2 x fun i1 s1 => on2 y fun i2 s2 => k2 none ds fun u v => on3 u fun a1 a2 a3 => on3 v fun b1 b2 b3 => some (.int (cmpT s0 a1 a2 a3 b1 b2 b3), i0 = 0 ∧ i1 = 1 ∧ i2 = 2 ∧ s1 = s0 ∧ s2 = s0)⟩
noncomputable def w22 : Wd := ⟨fun e => kBinOp none e fun l o re _ => kList none l fun es _ => k1 none es fun a => bif decide (Operator.Mult = o) then some ([a, re], []) else none, fun ds => k2 none ds fun a b => ii a b fun j m => some (.lst (List.replicate m.toNat (.int j)), 0 ≤ m ∧ m ≤ 1000)⟩
noncomputable def wsL : List Wd := wsW ++ [w20, w21, w22]
noncomputable def xsL (k : Nat) (e : Expr) : Option (List Expr × List Str) := xsT wsL k e
noncomputable def XL (k : Nat) (l : List AV) : AP := XT wsL k l
section
variable {b : Base} {K : Frag}
theorem ok_w20 {c : Cx} (hw : CxW c) (Kc : ClsOk c K) (hn : 2 ≤ c.n) : WdOk c w20 := fun h hX => call1_k h fun p a pos => k1_k oN hX fun d hX => some_k hX fun hg hC he => ev_make hw Kc hn rfl (hg _ (.head _)) he
theorem ok_w21 (hb : BOk b) {n : Nat} {F XX : Nat → List AV → AP} {xs : Nat → Expr → Option (List Expr × List Str)} (Kc : ClsOk b.c0 K) (hn : 1 ≤ n) : WdOk (b.cx n F XX xs) w21 := fun h hX => kCall_k oN h fun g es ks pos h => kAttribute_k oN h fun o n p h => kName_k oN h fun y q h => k2_k oN h fun a b h => bif_k h fun hb' h => emp_k (and_t hb').1 (beq_k (and_t (and_t hb').2).1 (two_k h
  (kc_k oN hX fun o ds hX => oObj_k hX fun o hX => oLst_k hX fun l hX => kc_k oN hX fun x l hX => on2_k hX fun i0 s0 hX => k2_k oN hX fun x y hX => on2_k hX fun i1 s1 hX => on2_k hX fun i2 s2 hX => k2_k oN hX fun u v hX => on3_k hX fun a1 a2 a3 hX => on3_k hX fun b1 b2 b3 hX => some_k hX fun hg hC he => by
    obtain ⟨rfl, rfl, rfl, rfl, rfl⟩ := hC
    exact ev_compare hb Kc hn (and_t (and_t hb').2).2 he)))
theorem ok_w22 {c : Cx} (hw : CxW c) : WdOk c w22 := fun h hX => kBinOp_k oN h fun l o re pos h => kList_k oN h fun es lp h => k1_k oN h fun a h => bif_k h fun hb h => deq_k hb (two_k h (k2_k oN hX fun a b hX => ii_k hX fun j m hX => some_k hX fun hg hC he => ev_rep hw he hC.1 hC.2))
theorem xL_ok (hb : BOk b) (Kc : ClsOk b.c0 K) {env : Env} {names : List Str} {kd : Str → Option NameKind} {ρ : Rho} {n : Nat} (hn : 2 ≤ n) {F : Nat → List AV → AP} {k : Nat} {e : Expr} {es : List Expr} {gn : List Str} (h : xsL k e = some (es, gn)) {ds : List AV} {d : AV} {C : Prop} (hg : ∀ x ∈ gn, glob kd x = true) (hX : XL k ds = some (d, C)) (hC : C)
    (he : EvsOk (b.cx n F XL xsL) env names kd ρ es ds) : EvOk (b.cx n F XL xsL) env names kd ρ e d :=
  xT_ok (AllW.append (l := wsW) (m := [w20, w21, w22]) ⟨ok_w20 hb.w Kc.cast hn, ok_w21 hb Kc (by omega), ok_w22 hb.w, trivial⟩ (all_wsW hb.w)) h hg hX hC he
end
end NC
end Mine
namespace Mine
noncomputable section NC
noncomputable def ps_law : List Str := [(Str.ofString "script")]
noncomputable def ls_law : List Str := [(Str.ofString "cells"), (Str.ofString "rule"), (Str.ofString "cycle"), (Str.ofString "early"), (Str.ofString "late"), (Str.ofString "seen"), (Str.ofString "day"), (Str.ofString "order"), (Str.ofString "back"), (Str.ofString "start"), (Str.ofString "walked"), (Str.ofString "firsts"), (Str.ofString "book"), (Str.ofString "pairs"), (Str.ofString "k"), (Str.ofString "due"), (Str.ofString "lengths"), (Str.ofString "table"), (Str.ofString "often"), (Str.ofString "years"), (Str.ofString "leaps"), (Str.ofString "phase"), (Str.ofString "part"), (Str.ofString "whole"), (Str.ofString "begin"), (Str.ofString "shift"), (Str.ofString "date"), (Str.ofString "line"), (Str.ofString "size"), (Str.ofString "cut"), (Str.ofString "told"), (Str.ofString "year"), (Str.ofString "first"), (Str.ofString "rest"), (Str.ofString "month"), (Str.ofString "other"), (Str.ofString "its"), (Str.ofString "sign")]
noncomputable def ml0 : MS := .asg 1 (.call 10 [(.var 0)])
noncomputable def ml1 : MS := .asg 2 (.call 11 [(.var 1)])
noncomputable def ml2 : MS := .upk [20, 21, 22, 23, 24, 25, 26] (.var 2)
noncomputable def ml3 : MS := .asg 3 (.bin .Add (.bin .Mult (.int 365) (.var 20)) (.var 21))
noncomputable def ml4 : MS := .asg 4 (.bin .Sub (.bin .Mod (.item (.var 1) (.int 3)) (.int 1000000)) (.int 500000))
noncomputable def ml5 : MS := .asg 5 (.bin .Sub (.bin .Mod (.item (.var 1) (.int 4)) (.int 1000000)) (.int 500000))
noncomputable def ml6 : MS := .new 6
noncomputable def ml7 : MS := .for (.one 7) (.val (.lst [(.var 4), (.var 5), (.bin .Add (.var 5) (.int 1))])) [
    .upk [32, 34] (.call 2 [(.bin .Sub (.bin .Sub (.bin .Add (.bin .Mult (.var 20) (.var 7)) (.var 20)) (.int 1)) (.var 22)), (.var 3)]),
    .upk [35, 34] (.call 2 [(.bin .Sub (.bin .Sub (.bin .Add (.bin .Mult (.var 24) (.bin .FloorDiv (.var 34) (.var 20))) (.var 24)) (.int 1)) (.var 25)), (.bin .Add (.bin .Mult (.int 30) (.var 24)) (.var 23))]),
    .asg 27 (.tup [(.var 32), (.bin .Add (.var 35) (.int 1)), (.bin .Add (.bin .FloorDiv (.var 34) (.var 24)) (.int 1))]),
    .asg 28 (.call 1 [(.ext 7 [(.var 27), (.tup [(.int 12), (.int 0), (.int 0), (.item (.call 2 [(.bin .Add (.var 7) (.var 26)), (.int 7)]) (.int 1))])]), (.str (Str.ofString "-0000"))]),
    .ite (.or (.cmp .NotEq (.var 27) (.call 12 [(.var 2), (.var 7)])) (.cmp .NotEq (.var 28) (.call 14 [(.var 27), (.bin .Mod (.bin .Add (.var 7) (.var 26)) (.int 7))]))) [
      .ret (.bool false)] [],
    .app 6 (.tup [(.var 7), (.var 27)])]
noncomputable def ml8 : MS := .asg 8 (.ext 20 [(.lst [(.tup [(.int 0), (.int 1)]), (.tup [(.int 1), (.int 1)]), (.tup [(.int 2), (.int 1)])])])
noncomputable def ml9 : MS := .asg 9 (.ext 20 [(.lst [(.tup [(.int 0), (.neg (.int 1))]), (.tup [(.int 1), (.neg (.int 1))]), (.tup [(.int 2), (.neg (.int 1))])])])
noncomputable def ml10 : MS := .for (.two 7 27) (.val (.var 6)) [
    .for (.two 36 37) (.val (.var 6)) [
      .asg 38 (.ife (.cmp .Gt (.var 7) (.var 36)) (.int 1) (.ife (.cmp .Lt (.var 7) (.var 36)) (.neg (.int 1)) (.int 0))),
      .ite (.or (.cmp .NotEq (.ext 21 [(.var 8), (.var 27), (.var 37)]) (.var 38)) (.cmp .NotEq (.ext 21 [(.var 9), (.var 27), (.var 37)]) (.neg (.var 38)))) [
        .ret (.bool false)] []]]
noncomputable def ml11 : MS := .asg 10 (.bin .Sub (.bin .Mod (.item (.var 1) (.int 2)) (.int 25)) (.int 12))
noncomputable def ml12 : MS := .asg 11 (.call 13 [(.var 2), (.var 10)])
noncomputable def ml13 : MS := .ext 113 [] []
noncomputable def ml14 : MS := .asg 13 (.tup [(.int 0), (.int 0), (.int 0), (.int 0), (.ext 16 [])])
noncomputable def ml15 : MS := .new 14
noncomputable def ml16 : MS := .for (.one 15) (.rng (.var 20)) [
    .asg 29 (.bin .Sub (.itemI (.var 12) (.bin .Add (.var 15) (.int 1))) (.itemI (.var 12) (.var 15))),
    .asg 30 (.bin .Mod (.bin .Add (.var 10) (.var 15)) (.int 4)),
    .asg 31 (.ext 2 [(.var 29)]),
    .app 14 (.tup [(.bin .Add (.var 10) (.var 15)), (.ife (.cmp .Lt (.var 29) (.int 366)) (.bin .Add (.var 31) (.str (Str.ofString "]"))) (.bin .Add (.bin .Add (.ext 10 [(.var 31), (.var 30)]) (.str (Str.ofString "["))) (.ext 11 [(.var 31), (.var 30)])))]),
    .asg 13 (.call 7 [(.var 13), (.tup [(.int 1), (.bin .Sub (.var 29) (.int 365)), (.var 29), (.itemI (.var 12) (.var 15)), (.ext 14 [(.var 29), (.int 1)])])])]
noncomputable def ml17 : MS := .ext 117 [] []
noncomputable def ml18 : MS := .ite (.cmp .NotEq (.call 0 [(.var 14)]) (.var 16)) [
    .ret (.bool false)] []
noncomputable def ml19 : MS := .asg 17 (.ext 15 [(.int 365), (.bin .Sub (.var 20) (.var 21)), (.int 366), (.var 21)])
noncomputable def ml20 : MS := .ext 120 [] []
noncomputable def ml21 : MS := .asg 18 (.ext 17 [])
noncomputable def ml22 : MS := .for (.one 15) (.rng (.int 7)) [
    .asg 32 (.bin .Add (.var 10) (.bin .Mult (.var 15) (.var 20))),
    .asg 33 (.bin .Add (.bin .Mult (.int 365) (.var 32)) (.item (.call 2 [(.bin .Add (.bin .Mult (.var 21) (.var 32)) (.var 22)), (.var 20)]) (.int 0))),
    .asg 28 (.call 1 [(.tup [(.var 32), (.int 1), (.int 1), (.int 12), (.int 0), (.int 0), (.item (.call 2 [(.bin .Add (.var 33) (.var 26)), (.int 7)]) (.int 1))]), (.str (Str.ofString "-0000"))]),
    .ite (.cmp .NotEq (.var 28) (.call 14 [(.tup [(.var 32), (.int 1), (.int 1)]), (.bin .Mod (.bin .Add (.bin .Add (.item (.itemP (.var 11) (.int 0)) (.int 0)) (.bin .Mult (.var 15) (.var 3))) (.var 26)) (.int 7))])) [
      .ret (.bool false)] [],
    .asg 18 (.call 8 [(.var 18), (.ext 14 [(.ext 10 [(.var 28), (.int 3)]), (.int 1)])])]
noncomputable def ml23 : MS := .ext 123 [] []
noncomputable def ml24 : MS := .ret (.and (.cmp .Eq (.var 19) (.ife (.cmp .Eq (.bin .Mod (.var 3) (.int 7)) (.int 0)) (.lst [(.int 7)]) (.ext 22 [(.int 1), (.int 7)]))) (.cmp .Eq (.call 9 [(.var 18)]) (.int 7)))
noncomputable def ms_law : List MS := [ml0, ml1, ml2, ml3, ml4, ml5, ml6, ml7, ml8, ml9, ml10, ml11, ml12, ml13, ml14, ml15, ml16, ml17, ml18, ml19, ml20, ml21, ml22, ml23, ml24]
noncomputable def ysL : Nat → List Nat → Stmt → Option (List Expr) := fun k _ st => isSt (sAt 22 (k - 100)) st
theorem ysL_of {k : Nat} {is : List Nat} {st : Stmt} {es : List Expr} (h : ysL k is st = some es) : st = sAt 22 (k - 100) := isSt_t h
theorem body22 : dBody 22 = [sAt 22 0, sAt 22 1, sAt 22 2, sAt 22 3, sAt 22 4, sAt 22 5, sAt 22 6, sAt 22 7, sAt 22 8, sAt 22 9, sAt 22 10, sAt 22 11, sAt 22 12, sAt 22 13, sAt 22 14, sAt 22 15, sAt 22 16, sAt 22 17, sAt 22 18, sAt 22 19, sAt 22 20, sAt 22 21, sAt 22 22, sAt 22 23, sAt 22 24] := by with_unfolding_all rfl
theorem ext22 (j : Nat) : chkS (ps_law ++ ls_law) (kdOf (dSc 22)) gsAll xsL ysL zsW (.ext (100 + j) [] []) (sAt 22 j) = true := ext_mk (by
  show isSt (sAt 22 (100 + j - 100)) (sAt 22 j) = _
  rw [Nat.add_sub_cancel_left]; exact isSt_self _)
theorem nd_law : (ps_law ++ ls_law).Nodup := by decide +kernel
theorem chk_law : chkSs (ps_law ++ ls_law) (kdOf (dSc 22)) gsAll xsL ysL zsW ms_law (dBody 22) = true := by
  rw [body22]
  unfold ms_law
  exact chkSs_mk (by decide +kernel) (chkSs_mk (by decide +kernel) (chkSs_mk (by decide +kernel) (chkSs_mk (by decide +kernel) (chkSs_mk (by decide +kernel) (chkSs_mk (by decide +kernel) (chkSs_mk (by decide +kernel) (chkSs_mk (by decide +kernel) (chkSs_mk (by decide +kernel) (chkSs_mk (by decide +kernel) (chkSs_mk (by decide +kernel) (chkSs_mk (by decide +kernel) (chkSs_mk (by decide +kernel) (chkSs_mk (ext22 13) (chkSs_mk (by decide +kernel) (chkSs_mk (by decide +kernel) (chkSs_mk (by decide +kernel) (chkSs_mk (ext22 17) (chkSs_mk (by decide +kernel) (chkSs_mk (by decide +kernel) (chkSs_mk (ext22 20) (chkSs_mk (by decide +kernel) (chkSs_mk (by decide +kernel) (chkSs_mk (ext22 23) (chkSs_mk (by decide +kernel) (rfl)))))))))))))))))))))))))
end NC
end Mine
namespace Mine
noncomputable section NC
noncomputable def pOf : AV → Int × Str
  | .tup [.int i, .str s] => (i, s)
  | _ => (0, Str.empty)
noncomputable def encP (p : Int × Str) : AV := .tup [.int p.1, .str p.2]
noncomputable def cellV (l : List Int) (i : Nat) : Int := (cellsAt l l.length).getD i 0
noncomputable def partV (c : Int) : Int := if c % 4 = 2 then 2 else if c % 4 = 3 then 3 else 1
noncomputable def wholeV (c : Int) : Int := if c % 4 = 0 then 1 else if c % 4 = 1 then 2 else if c % 4 = 2 then 3 else 5
/-- the year of a day, and the month of a day of the year, by one division -/
noncomputable def yearV (w p ph day : Int) : Int := (w * day + w - 1 - ph) / (365 * w + p)
noncomputable def restV (w p ph day : Int) : Int := day - G 365 p w ph (yearV w p ph day)
noncomputable def monV (pt wh bg r : Int) : Int := (wh * r + wh - 1 - bg) / (30 * wh + pt)
noncomputable def dayV (pt wh bg r : Int) : Int := r - G 30 pt wh bg (monV pt wh bg r)
noncomputable def dateV (w p ph pt wh bg day : Int) : AV := .tup [.int (yearV w p ph day), .int (monV pt wh bg (restV w p ph day) + 1), .int (dayV pt wh bg (restV w p ph day) + 1)]
noncomputable def i7 (d : AV) (f : Int → Int → Int → Int → Int → Int → Int → AP) : AP := oTup d fun l => ic l fun a l => ic l fun b l => ic l fun c l => ic l fun d l => ic l fun e l => i2 l fun g h => f a b c d e g h
@[elab_as_elim] theorem i7_k {d : AV} {f : Int → Int → Int → Int → Int → Int → Int → AP} {r : AV × Prop} {M : AV → Prop} (h : i7 d f = some r) (k : ∀ a b c d e g h, f a b c d e g h = some r → M (.tup [.int a, .int b, .int c, .int d, .int e, .int g, .int h])) : M d :=
  oTup_k h fun l h => ic_k (M := fun l => M (.tup l)) h fun a l h => ic_k (M := fun l => M (.tup (.int a :: l))) h fun b l h => ic_k (M := fun l => M (.tup (.int a :: .int b :: l))) h fun c l h => ic_k (M := fun l => M (.tup (.int a :: .int b :: .int c :: l))) h fun d l h => ic_k (M := fun l => M (.tup (.int a :: .int b :: .int c :: .int d :: l))) h fun e l h => i2_k (M := fun l => M (.tup (.int a :: .int b :: .int c :: .int d :: .int e :: l))) h fun g h q => k a b c d e g h q
noncomputable def i4d (d : AV) (f : Int → Int → Int → Int → List (Int × Int) → AP) : AP := oTup d fun l => ic l fun a l => ic l fun b l => ic l fun c l => k2 none l fun d t => oInt d fun d => oDI t fun t => f a b c d t
@[elab_as_elim] theorem i4d_k {d : AV} {f : Int → Int → Int → Int → List (Int × Int) → AP} {r : AV × Prop} {M : AV → Prop} (h : i4d d f = some r) (k : ∀ a b c d t, f a b c d t = some r → M (.tup [.int a, .int b, .int c, .int d, .dI t])) : M d :=
  oTup_k h fun l h => ic_k (M := fun l => M (.tup l)) h fun a l h => ic_k (M := fun l => M (.tup (.int a :: l))) h fun b l h => ic_k (M := fun l => M (.tup (.int a :: .int b :: l))) h fun c l h => k2_k (M := fun l => M (.tup (.int a :: .int b :: .int c :: l))) oN h fun d t h => oInt_k (M := fun d => M (.tup [.int a, .int b, .int c, d, t])) h fun d h => oDI_k (M := fun t => M (.tup [.int a, .int b, .int c, .int d, t])) h fun t h => k a b c d t h
/-- what law calls, and what that answers -/
noncomputable def FL (n k : Nat) (ds : List AV) : AP := bif k == 0 then (k1 none ds fun d => oLst d fun l => some (.lst ((l.map pOf).map postF), l = (l.map pOf).map encP ∧ l.length ≤ 1000)) else
  bif k == 1 then (k2 none ds fun t z => i7 t fun y m d n5 n6 n7 wd => oStr z fun z => some (.str (fmtT (dN wd) (mN (m - 1)) z d y n5 n6 n7), 0 ≤ wd ∧ wd < 7 ∧ 1 ≤ m ∧ m ≤ 12 ∧ d.natAbs < 10 ^ 10 ∧ y.natAbs < 10 ^ 10 ∧ n5.natAbs < 10 ^ 10 ∧ n6.natAbs < 10 ^ 10 ∧ n7.natAbs < 10 ^ 10 ∧ z.length ≤ 1000000)) else
  bif k == 2 then (i2 ds fun a y => some (.tup [.int (a / y), .int (a % y)], -2 ^ 32 ≤ a ∧ a < 2 ^ 32 ∧ 0 < y ∧ y < 2 ^ 26)) else
  bif k == 7 then (k2 none ds fun t s => i4d t fun a1 a2 a3 a4 t => i4d s fun c1 c2 c3 c4 s => some (.tup [.int (c1 + a1), .int (c2 + a2), .int (c3 + a3), .int (c4 + a4), .dI (addL (copyL t) s)], t.length + s.length ≤ 900)) else
  bif k == 8 then (k2 none ds fun t s => oDS t fun t => oDS s fun s => some (.dS (addL (copyL t) s), t.length + s.length ≤ 900)) else
  bif k == 9 then (k1 none ds fun d => oDS d fun l => some (.int (l.map (·.2)).sum, True)) else
  bif k == 10 then (k1 none ds fun d => oLst d fun l => some (.lst [.int (cellV (l.map getI) 0), .int (cellV (l.map getI) 1), .int (cellV (l.map getI) 2), .int (cellV (l.map getI) 3), .int (cellV (l.map getI) 4)], l = (l.map getI).map .int ∧ l.length ≤ 63)) else
  bif k == 11 then (k1 none ds fun d => oLst d fun l => ic l fun c0 l => ic l fun c1 l => ic l fun c2 l => i2 l fun c3 c4 => some (.tup [.int (2 + c0 % 7), .int (c0 / 7 % (2 + c0 % 7 + 1)), .int (c0 / 7 / (2 + c0 % 7 + 1) % (2 + c0 % 7)), .int (partV c1), .int (wholeV c1), .int (c1 / 4 % wholeV c1), .int (c1 / 20 % 7)], 0 ≤ c0 ∧ 0 ≤ c1 ∧ c0 < 2 ^ 40 ∧ c1 < 2 ^ 40)) else
  bif k == 12 then (k2 none ds fun r day => i7 r fun w p ph pt wh bg sh => oInt day fun day => some (dateV w p ph pt wh bg day, 0 < w ∧ w ≤ 100 ∧ 0 ≤ p ∧ p ≤ w ∧ 0 ≤ ph ∧ ph < w ∧ 0 < wh ∧ 0 ≤ pt ∧ pt ≤ wh ∧ 0 ≤ bg ∧ bg < wh ∧ -10 ^ 9 ≤ day ∧ day ≤ 10 ^ 9)) else
  bif k == 13 then (k2 none ds fun r st => i7 r fun w p ph pt wh bg sh => oInt st fun st => some (.lst ((upL st w.toNat).map fun y => .tup [.int (G 365 p w ph y), .int (sizeF p w ph y)]), 0 < w ∧ w ≤ 100 ∧ 0 ≤ p ∧ p ≤ w ∧ 0 ≤ ph ∧ ph < w ∧ -1000 ≤ st ∧ st ≤ 1000)) else
  bif k == 14 then (k2 none ds fun t wd => on3 t fun y m d => oInt wd fun wd => some (.str (fmtT (dN wd) (mN (m - 1)) (Str.ofString "-0000") d y 12 0 0), 0 ≤ wd ∧ wd < 7 ∧ 1 ≤ m ∧ m ≤ 12 ∧ 1 ≤ d ∧ d ≤ 31 ∧ y.natAbs < 10 ^ 10)) else none
theorem year_bd {w p ph day : Int} (hw : 0 < w) (h0 : 0 ≤ p) : G 365 p w ph (yearV w p ph day) ≤ day ∧ day < G 365 p w ph (yearV w p ph day + 1) := G_div (base := 365) (b := ph) (d := day) hw h0 (by decide)
theorem mon_bd {pt wh bg r : Int} (hw : 0 < wh) (h0 : 0 ≤ pt) : G 30 pt wh bg (monV pt wh bg r) ≤ r ∧ r < G 30 pt wh bg (monV pt wh bg r + 1) := G_div (base := 30) (b := bg) (d := r) hw h0 (by decide)
section
variable {b : Base}
theorem pw_at {c1 : Int} : [((1 : Int), (1 : Int)), (1, 2), (2, 3), (3, 5)][(c1 % 4).toNat]? = some (partV c1, wholeV c1) := by
  have : c1 % 4 = 0 ∨ c1 % 4 = 1 ∨ c1 % 4 = 2 ∨ c1 % 4 = 3 := by omega
  unfold partV wholeV
  rcases this with q | q | q | q <;> rw [q] <;> rfl
theorem FL_ok (hb : BOk b) {P7 P8 : Addr} (N7 : NestW b 7 P7 n1.2.2.2.2 qual7) (N8 : NestW b 8 P8 n2.2.2.2.2 qual8) (n : Nat) (hn : 60 ≤ n) : ∀ k ds d C, FL n k ds = some (d, C) → C → FnOk b.c0 (n + 4) k ds d := fun k ds d C h =>
  have l1 : n + 1 ≤ n + 4 := Nat.add_le_add_left (by decide) n
  have l2 : n + 2 ≤ n + 4 := Nat.add_le_add_left (by decide) n
  row_k h (fun h => k1_k oN h fun d h => oLst_k h fun l h => some_k h fun hC => by
    have := fn_post hb n (l.map pOf) (by rw [List.length_map]; exact hC.2)
    rw [show ((l.map pOf).map fun p => AV.tup [.int p.1, .str p.2]) = l from hC.1.symm] at this
    exact this.le l1) fun h =>
  row_k h (fun h => k2_k oN h fun t z h => i7_k h fun y m d n5 n6 n7 wd h => oStr_k h fun z h => some_k h fun ⟨a1, a2, a3, a4, a5, a6, a7, a8, a9, a10⟩ => (fn_fmt hb n a1 a2 a3 a4 a5 a6 a7 a8 a9 a10).le l1) fun h =>
  row_k h (fun h => i2_k h fun a y h => some_k h fun hC => fn_divmod hb N7 N8 n hn hC.1 hC.2.1 hC.2.2.1 hC.2.2.2) fun h =>
  row_k h (fun h => k2_k oN h fun t s h => i4d_k h fun a1 a2 a3 a4 t h => i4d_k h fun c1 c2 c3 c4 s h => some_k h fun hC => (fn_addfs hb n hC).le l2) fun h =>
  row_k h (fun h => k2_k oN h fun t s h => oDS_k h fun t h => oDS_k h fun s h => some_k h fun hC => (fn_callersS hb n _ _ hC).le l1) fun h =>
  row_k h (fun h => k1_k oN h fun d h => oDS_k h fun l h => some_k h fun hC => (fn_count hb n _).le l1) fun h =>
  row_k h (fun h => k1_k oN h fun d h => oLst_k h fun l h => some_k h fun hC => by
    have := fn_cells hb n (l.map getI) (by rw [List.length_map]; exact hC.2)
    rw [← hC.1, five_of (cellsAt_len (l.map getI) (l.map getI).length)] at this
    exact this.le l1) fun h =>
  row_k h (fun h => k1_k oN h fun d h => oLst_k h fun l h => ic_k h fun c0 l h => ic_k h fun c1 l h => ic_k h fun c2 l h => i2_k h fun c3 c4 h => some_k h fun hC => (fn_rule hb n c0 c1 c2 c3 c4 hC.1 hC.2.1 hC.2.2.1 hC.2.2.2 (part := partV c1) (whole := wholeV c1) pw_at).le l1) fun h =>
  row_k h (fun h => k2_k oN h fun r day h => i7_k h fun w p ph pt wh bg sh h => oInt_k h fun day h => some_k h fun ⟨h1, h2, h3, h4, h5, h6, h7, h8, h9, h10, h11, h12, h13⟩ =>
    have y := year_bd (ph := ph) (day := day) h1 h3
    have m := mon_bd (bg := bg) (r := restV w p ph day) h7 h8
    (fn_walk hb n (sh := sh) h1 h2 h3 h4 h5 h6 h7 h8 h9 h10 h11 h12 h13 y.1 y.2 m.1 m.2).le l1) fun h =>
  row_k h (fun h => k2_k oN h fun r st h => i7_k h fun w p ph pt wh bg sh h => oInt_k h fun st h => some_k h fun ⟨h1, h2, h3, h4, h5, h6, h7, h8⟩ => (fn_walked hb n h1 h2 h3 h4 h5 h6 h7 h8).le l1) fun h =>
  row_k h (fun h => k2_k oN h fun t wd h => on3_k h fun y m d h => oInt_k h fun wd h => some_k h fun ⟨h1, h2, h3, h4, h5, h6, h7⟩ => (fn_line hb n h1 h2 h3 h4 h5 h6 h7).le l1) fun h => absurd h oN
end
end NC
end Mine
namespace Mine
noncomputable section NC
theorem rest_div {base w p ph d : Int} (hw : 0 < w) : (w * d + w - 1 - ph) % (base * w + p) / w = d - G base p w ph ((w * d + w - 1 - ph) / (base * w + p)) := by
  generalize hc : base * w + p = c
  generalize hY : (w * d + w - 1 - ph) / c = Y
  rw [Int.emod_def, hY]
  have hx := Int.mul_ediv_add_emod (p * Y + ph) w
  have r0 := Int.emod_nonneg (p * Y + ph) (by omega : w ≠ 0)
  have r1 := Int.emod_lt_of_pos (p * Y + ph) hw
  generalize hq : (p * Y + ph) / w = q at hx
  generalize hr : (p * Y + ph) % w = r at hx r0 r1
  have e : w * d + w - 1 - ph - c * Y = (w - 1 - r) + w * (d - base * Y - q) := by
    have e1 : c * Y = w * (base * Y) + p * Y := by rw [← hc, Int.add_mul, Int.mul_comm base w, Int.mul_assoc]
    have e2 : w * (d - base * Y - q) = w * d - w * (base * Y) - w * q := by rw [Int.mul_sub, Int.mul_sub]
    rw [e1, e2]
    omega
  rw [e, Int.add_mul_ediv_left _ _ (by omega), Int.ediv_eq_zero_of_lt (by omega) (by omega)]
  unfold G
  rw [hq]
  omega
/-- the kinds of month *)-/
noncomputable def PW (pt wh : Int) : Prop := (pt = 1 ∧ wh = 1) ∨ (pt = 1 ∧ wh = 2) ∨ (pt = 2 ∧ wh = 3) ∨ (pt = 3 ∧ wh = 5)
theorem pw_of (c : Int) : PW (partV c) (wholeV c) := by
  have : c % 4 = 0 ∨ c % 4 = 1 ∨ c % 4 = 2 ∨ c % 4 = 3 := by omega
  unfold PW partV wholeV
  rcases this with q | q | q | q <;> rw [q] <;> simp
theorem rest_rng {w p ph day : Int} (hw : 0 < w) (h0 : 0 ≤ p) (h1 : p ≤ w) : 0 ≤ restV w p ph day ∧ restV w p ph day ≤ 365 := by
  have y := year_bd (ph := ph) (day := day) hw h0
  have s := G_step (base := 365) (b := ph) hw h0 h1 (yearV w p ph day)
  unfold restV
  split at s <;> omega
theorem G_le {base p w b : Int} (hw : 0 < w) (h0 : 0 ≤ p) (h1 : p ≤ w) (hb : 0 < base) {k l : Int} (h : k ≤ l) : G base p w b k ≤ G base p w b l := by
  have := G_mono (b := b) hw h0 h1 hb k (l - k).toNat
  rw [show k + (((l - k).toNat : Nat) : Int) = l by omega] at this
  exact this
theorem mon_rng {pt wh bg r : Int} (h : PW pt wh) (g0 : 0 ≤ bg) (g1 : bg < wh) (r0 : 0 ≤ r) (r1 : r ≤ 365) : 0 ≤ monV pt wh bg r ∧ monV pt wh bg r ≤ 11 ∧ 0 ≤ dayV pt wh bg r ∧ dayV pt wh bg r ≤ 30 := by
  have hwh : 0 < wh := by rcases h with ⟨_, h⟩ | ⟨_, h⟩ | ⟨_, h⟩ | ⟨_, h⟩ <;> omega
  have hp0 : 0 ≤ pt := by rcases h with ⟨h, _⟩ | ⟨h, _⟩ | ⟨h, _⟩ | ⟨h, _⟩ <;> omega
  have hp1 : pt ≤ wh := by rcases h with ⟨h, _⟩ | ⟨h, _⟩ | ⟨h, _⟩ | ⟨h, _⟩ <;> omega
  have m := mon_bd (bg := bg) (r := r) hwh hp0
  have s := G_step (base := 30) (b := bg) hwh hp0 hp1 (monV pt wh bg r)
  have z := G_zero (base := 30) (p := pt) g0 g1
  have t : 366 ≤ G 30 pt wh bg 12 := by
    unfold G
    rcases h with ⟨rfl, rfl⟩ | ⟨rfl, rfl⟩ | ⟨rfl, rfl⟩ | ⟨rfl, rfl⟩ <;> omega
  have hm : 0 ≤ monV pt wh bg r := by
    rcases (by omega : 0 ≤ monV pt wh bg r ∨ monV pt wh bg r + 1 ≤ 0) with q | q
    · exact q
    · have := G_le (b := bg) hwh hp0 hp1 (show (0 : Int) < 30 by decide) q
      omega
  have hm2 : monV pt wh bg r ≤ 11 := by
    rcases (by omega : monV pt wh bg r ≤ 11 ∨ 12 ≤ monV pt wh bg r) with q | q
    · exact q
    · have := G_le (b := bg) hwh hp0 hp1 (show (0 : Int) < 30 by decide) q
      omega
  refine ⟨hm, hm2, ?_, ?_⟩
  · unfold dayV; omega
  · unfold dayV; split at s <;> omega
theorem year_mono {w p ph x y : Int} (hw : 0 < w) (h0 : 0 ≤ p) (h : x ≤ y) : yearV w p ph x ≤ yearV w p ph y := by
  unfold yearV
  refine Int.ediv_le_ediv (by omega) ?_
  have := Int.mul_le_mul_of_nonneg_left h (Int.le_of_lt hw)
  omega
theorem mon_mono {pt wh bg x y : Int} (hw : 0 < wh) (h0 : 0 ≤ pt) (h : x ≤ y) : monV pt wh bg x ≤ monV pt wh bg y := by
  unfold monV
  refine Int.ediv_le_ediv (by omega) ?_
  have := Int.mul_le_mul_of_nonneg_left h (Int.le_of_lt hw)
  omega
theorem lex_lt {w p ph pt wh bg x y : Int} (hw : 0 < w) (h0 : 0 ≤ p) (hh : 0 < wh) (g0 : 0 ≤ pt) (h : x < y) : yearV w p ph x < yearV w p ph y ∨ (yearV w p ph x = yearV w p ph y ∧
    (monV pt wh bg (restV w p ph x) < monV pt wh bg (restV w p ph y) ∨ (monV pt wh bg (restV w p ph x) = monV pt wh bg (restV w p ph y) ∧ dayV pt wh bg (restV w p ph x) < dayV pt wh bg (restV w p ph y)))) := by
  have m1 := year_mono (ph := ph) hw h0 (Int.le_of_lt h)
  rcases Int.lt_or_eq_of_le m1 with q | q
  · exact .inl q
  refine .inr ⟨q, ?_⟩
  have hr : restV w p ph x < restV w p ph y := by unfold restV; rw [q]; omega
  have m2 := mon_mono (bg := bg) hh g0 (Int.le_of_lt hr)
  rcases Int.lt_or_eq_of_le m2 with q2 | q2
  · exact .inl q2
  refine .inr ⟨q2, ?_⟩
  unfold dayV; rw [q2]; omega
/-- which of two days comes first -/
theorem cmp_days {w p ph pt wh bg : Int} (hw : 0 < w) (h0 : 0 ≤ p) (hh : 0 < wh) (g0 : 0 ≤ pt) (s x y : Int) :
    cmpT s (yearV w p ph x) (monV pt wh bg (restV w p ph x) + 1) (dayV pt wh bg (restV w p ph x) + 1) (yearV w p ph y) (monV pt wh bg (restV w p ph y) + 1) (dayV pt wh bg (restV w p ph y) + 1) = if y < x then s else if x < y then -s else 0 := by
  rcases Int.lt_trichotomy x y with h | h | h
  · have := lex_lt (ph := ph) (bg := bg) hw h0 hh g0 h
    rw [if_neg (by omega), if_pos h]
    unfold cmpT
    rcases this with q | ⟨q, q2 | ⟨q2, q3⟩⟩
    · rw [if_pos q]
    · rw [if_neg (by omega), if_neg (by omega), if_pos (by omega)]
    · rw [if_neg (by omega), if_neg (by omega), if_neg (by omega), if_neg (by omega), if_pos (by omega)]
  · subst h
    rw [if_neg (by omega), if_neg (by omega)]
    unfold cmpT
    rw [if_neg (by omega), if_neg (by omega), if_neg (by omega), if_neg (by omega), if_neg (by omega), if_neg (by omega)]
  · have := lex_lt (ph := ph) (bg := bg) hw h0 hh g0 h
    rw [if_pos h]
    unfold cmpT
    rcases this with q | ⟨q, q2 | ⟨q2, q3⟩⟩
    · rw [if_neg (by omega), if_pos q]
    · rw [if_neg (by omega), if_neg (by omega), if_neg (by omega), if_pos (by omega)]
    · rw [if_neg (by omega), if_neg (by omega), if_neg (by omega), if_neg (by omega), if_neg (by omega), if_pos (by omega)]
end NC
end Mine
namespace Mine
noncomputable section NC
/-- the rule of a calendar, as the cells give it -/
structure Rl (w p ph pt wh bg sh : Int) : Prop where
  w2 : 2 ≤ w
  w8 : w ≤ 8
  p0 : 0 ≤ p
  pw : p ≤ w
  h0 : 0 ≤ ph
  hw : ph < w
  m : PW pt wh
  g0 : 0 ≤ bg
  g1 : bg < wh
  s0 : 0 ≤ sh
  s7 : sh < 7
theorem Rl.wh {w p ph pt wh bg sh : Int} (R : Rl w p ph pt wh bg sh) : 0 < wh ∧ wh ≤ 5 ∧ 0 ≤ pt ∧ pt ≤ wh ∧ pt ≤ 3 := by
  rcases R.m with ⟨h, g⟩ | ⟨h, g⟩ | ⟨h, g⟩ | ⟨h, g⟩ <;> omega
theorem mul_bd {a d A N : Int} (h0 : 0 ≤ a) (h1 : a ≤ A) (hN : 0 ≤ N) (d0 : -N ≤ d) (d1 : d ≤ N) : -(A * N) ≤ a * d ∧ a * d ≤ A * N := by
  have k : a * N ≤ A * N := Int.mul_le_mul_of_nonneg_right h1 hN
  have k1 : a * d ≤ a * N := Int.mul_le_mul_of_nonneg_left d1 h0
  have k2 : a * -N ≤ a * d := Int.mul_le_mul_of_nonneg_left d0 h0
  rw [Int.mul_neg] at k2
  omega
section
variable {b : Base} {K : Frag} {n : Nat} {env : Env} {s₀ : Shared} {X0 : Addr → Prop} {Post : PostT} {rest : List MS}
noncomputable abbrev lawSx (b : Base) (n : Nat) (env : Env) (s₀ : Shared) (X0 : Addr → Prop) : Sx := ⟨b.cx (n + 4) (FL n) XL xsL, env, ps_law ++ ls_law, kdOf (dSc 22), s₀, X0, fun _ => False, ysL, zsW⟩
theorem law_ok (hb : BOk b) (Kc : ClsOk b.c0 K) {P7 P8 : Addr} (N7 : NestW b 7 P7 n1.2.2.2.2 qual7) (N8 : NestW b 8 P8 n2.2.2.2.2 qual8) (hn : 60 ≤ n) : SxOk (lawSx b n env s₀ X0) :=
  ⟨⟨hb.w, fun k ds d C h hC => fn_cast (FL_ok hb N7 N8 n hn k ds d C h hC), fun k e es gn h env names kd ρ ds d C hg hX hC he _ => xL_ok hb Kc (by omega) h hg hX hC he⟩, nd_law⟩
theorem cellV_bd (l : List Int) (hl : l.length ≤ 63) (i : Nat) : 0 ≤ cellV l i ∧ cellV l i < 2 ^ 30 := by
  have := cellsAt_bd l l.length i
  unfold cellV
  omega
set_option maxHeartbeats 2000000 in
theorem seg_a (ok : SxOk (lawSx b n env s₀ X0)) (l : List Int) (hl : l.length ≤ 63)
    (h : ∀ c0 c1 c2 c3 c4 w p ph pt wh bg sh e la : Int, 0 ≤ c2 → c2 < 2 ^ 30 → Rl w p ph pt wh bg sh → -500000 ≤ e → e < 500000 → -500000 ≤ la → la < 500000 → Ex (lawSx b n env s₀ X0) rest [some (.lst (l.map .int)), some (.lst [.int c0, .int c1, .int c2, .int c3, .int c4]), some (.tup [.int w, .int p, .int ph, .int pt, .int wh, .int bg, .int sh]), some (.int (365 * w + p)), some (.int e), some (.int la), none, none, none, none, none, none, none, none, none, none, none, none, none, none, some (.int w), some (.int p), some (.int ph), some (.int pt), some (.int wh), some (.int bg), some (.int sh), none, none, none, none, none, none, none, none, none, none, none, none] none Post) :
    Ex (lawSx b n env s₀ X0) (ml0 :: ml1 :: ml2 :: ml3 :: ml4 :: ml5 :: rest) [some (.lst (l.map .int)), none, none, none, none, none, none, none, none, none, none, none, none, none, none, none, none, none, none, none, none, none, none, none, none, none, none, none, none, none, none, none, none, none, none, none, none, none, none] none Post := by
  have bd := cellV_bd l hl
  have hmap : ((l.map AV.int).map getI) = l := by
    rw [List.map_map]; exact List.map_id'' (fun _ => rfl) l
  refine Ex_asg (d := .lst [.int (cellV l 0), .int (cellV l 1), .int (cellV l 2), .int (cellV l 3), .int (cellV l 4)]) (C := (True ∧ True) ∧ (l.map AV.int = (l.map AV.int) ∧ (l.map AV.int).length ≤ 63)) ok ?_ ⟨⟨trivial, trivial⟩, rfl, by simpa using hl⟩ (by simp) ?_
  · have : mev (FL n) XL [some (.lst (l.map .int)), none, none, none, none, none, none, none, none, none, none, none, none, none, none, none, none, none, none, none, none, none, none, none, none, none, none, none, none, none, none, none, none, none, none, none, none, none, none] (.call 10 [.var 0]) = some (.lst [.int (cellV ((l.map AV.int).map getI) 0), .int (cellV ((l.map AV.int).map getI) 1), .int (cellV ((l.map AV.int).map getI) 2), .int (cellV ((l.map AV.int).map getI) 3), .int (cellV ((l.map AV.int).map getI) 4)], (True ∧ True) ∧ (l.map AV.int = ((l.map AV.int).map getI).map AV.int ∧ (l.map AV.int).length ≤ 63)) := rfl
    rw [hmap] at this
    exact this
  have b0 := bd 0
  have b1 := bd 1
  have b2 := bd 2
  generalize cellV l 0 = c0 at *
  generalize cellV l 1 = c1 at *
  generalize cellV l 2 = c2 at *
  generalize cellV l 3 = c3 at *
  generalize cellV l 4 = c4 at *
  show Ex _ _ [some (.lst (l.map .int)), some (.lst [.int c0, .int c1, .int c2, .int c3, .int c4]), none, none, none, none, none, none, none, none, none, none, none, none, none, none, none, none, none, none, none, none, none, none, none, none, none, none, none, none, none, none, none, none, none, none, none, none, none] none Post
  refine Ex_asg ok rfl ⟨⟨trivial, trivial⟩, b0.1, b1.1, by omega, by omega⟩ (by simp) ?_
  refine Ex_upk ok rfl trivial rfl (by simp) ?_
  have hr : Rl (2 + c0 % 7) (c0 / 7 % (2 + c0 % 7 + 1)) (c0 / 7 / (2 + c0 % 7 + 1) % (2 + c0 % 7)) (partV c1) (wholeV c1) (c1 / 4 % wholeV c1) (c1 / 20 % 7) := by
    have m := pw_of c1
    have q : 0 < wholeV c1 := by rcases m with ⟨_, g⟩ | ⟨_, g⟩ | ⟨_, g⟩ | ⟨_, g⟩ <;> omega
    have a1 := Int.emod_nonneg (c0 / 7) (b := 2 + c0 % 7 + 1) (by omega)
    have a2 := Int.emod_lt_of_pos (c0 / 7) (b := 2 + c0 % 7 + 1) (by omega)
    exact ⟨by omega, by omega, a1, by omega, Int.emod_nonneg _ (by omega), Int.emod_lt_of_pos _ (by omega), m, Int.emod_nonneg _ (by omega), Int.emod_lt_of_pos _ q, by omega, by omega⟩
  generalize c0 / 7 % (2 + c0 % 7 + 1) = p at *
  generalize c0 / 7 / (2 + c0 % 7 + 1) % (2 + c0 % 7) = ph at *
  generalize 2 + c0 % 7 = w at *
  generalize c1 / 4 % wholeV c1 = bg at *
  generalize wholeV c1 = wh at *
  generalize partV c1 = pt at *
  generalize c1 / 20 % 7 = sh at *
  show Ex _ _ [some (.lst (l.map .int)), some (.lst [.int c0, .int c1, .int c2, .int c3, .int c4]), some (.tup [.int w, .int p, .int ph, .int pt, .int wh, .int bg, .int sh]), none, none, none, none, none, none, none, none, none, none, none, none, none, none, none, none, none, some (.int w), some (.int p), some (.int ph), some (.int pt), some (.int wh), some (.int bg), some (.int sh), none, none, none, none, none, none, none, none, none, none, none, none] none Post
  refine Ex_asg ok rfl (by simp) (by simp) ?_
  refine Ex_asg ok rfl ?_ (by simp) ?_
  · simp
  refine Ex_asg ok rfl ?_ (by simp) ?_
  · simp
  exact h c0 c1 c2 c3 c4 w p ph pt wh bg sh (c3 % 1000000 - 500000) (c4 % 1000000 - 500000) b2.1 b2.2 hr (by omega) (by omega) (by omega) (by omega)
end
end NC
end Mine
namespace Mine
noncomputable section NC
noncomputable def forB : MS → List MS
  | .for _ _ b => b
  | _ => []
/-- a day and its date -/
noncomputable def sd (w p ph pt wh bg d : Int) : AV := .tup [.int d, dateV w p ph pt wh bg d]
theorem yearV_bd {w p ph d : Int} (hw : 2 ≤ w) (hw8 : w ≤ 8) (h0 : 0 ≤ p) (h1 : p ≤ w) (q0 : 0 ≤ ph) (q1 : ph < w) (d0 : -500000 ≤ d) (d1 : d ≤ 500000) : -100000000 ≤ yearV w p ph d ∧ yearV w p ph d ≤ 100000000 := by
  have m := mul_bd (a := w) (d := d) (A := 8) (N := 500000) (by omega) hw8 (by omega) d0 d1
  unfold yearV
  exact div_bd (c := 365 * w + p) (N := 100000000) (by omega) (by omega) (by omega) (by omega)
section
variable {b : Base} {K : Frag} {n : Nat} {env : Env} {s₀ : Shared} {X0 : Addr → Prop} {Post : PostT} {rest : List MS}
set_option maxHeartbeats 4000000 in
theorem day_body (ok : SxOk (lawSx b n env s₀ X0)) {l : List Int} {c0 c1 c2 c3 c4 w p ph pt wh bg sh e la : Int} (R : Rl w p ph pt wh bg sh) {a : Addr} {dn : List AV} (hdn : dn.length ≤ 10) {d : Int} (d0 : -500000 ≤ d) (d1 : d ≤ 500000) {o2 o3 o4 o5 o6 : Option AV} :
    Ex (lawSx b n env s₀ X0) (forB ml7) [some (.lst (l.map .int)), some (.lst [.int c0, .int c1, .int c2, .int c3, .int c4]), some (.tup [.int w, .int p, .int ph, .int pt, .int wh, .int bg, .int sh]), some (.int (365 * w + p)), some (.int e), some (.int la), none, some (.int d), none, none, none, none, none, none, none, none, none, none, none, none, some (.int w), some (.int p), some (.int ph), some (.int pt), some (.int wh), some (.int bg), some (.int sh), o2, o3, none, none, none, o4, none, o5, o6, none, none, none] (some (6, a, .lst dn)) (fun o ρ' own' => o = .next ∧ own' = some (6, a, .lst (dn ++ [sd w p ph pt wh bg d])) ∧ ∃ o1 o2 o3 o4 o5 o6, ρ' = [some (.lst (l.map .int)), some (.lst [.int c0, .int c1, .int c2, .int c3, .int c4]), some (.tup [.int w, .int p, .int ph, .int pt, .int wh, .int bg, .int sh]), some (.int (365 * w + p)), some (.int e), some (.int la), none, o1, none, none, none, none, none, none, none, none, none, none, none, none, some (.int w), some (.int p), some (.int ph), some (.int pt), some (.int wh), some (.int bg), some (.int sh), o2, o3, none, none, none, o4, none, o5, o6, none, none, none]) := by
  obtain ⟨w2, w8, p0, pw, h0, hw, m, g0, g1, s0, s7⟩ := R
  obtain ⟨wh0, wh5, pt0, ptw, pt3⟩ := (⟨w2, w8, p0, pw, h0, hw, m, g0, g1, s0, s7⟩ : Rl w p ph pt wh bg sh).wh
  have mb := mul_bd (a := w) (d := d) (A := 8) (N := 500000) (by omega) w8 (by omega) d0 d1
  have yb := yearV_bd (ph := ph) w2 w8 p0 pw h0 hw d0 d1
  have rr := rest_rng (ph := ph) (day := d) (by omega : 0 < w) p0 pw
  have mr := mon_rng m g0 g1 rr.1 rr.2
  unfold ml7 forB
  refine Ex_upk (ds := [.int (yearV w p ph d), .int ((w * d + w - 1 - ph) % (365 * w + p))]) ok rfl ?_ rfl (by simp) ?_
  · simp; omega
  have hr0 : (w * d + w - 1 - ph) % (365 * w + p) / w = restV w p ph d := rest_div (by omega)
  generalize (w * d + w - 1 - ph) % (365 * w + p) = r0 at *
  show Ex _ _ [some (.lst (l.map .int)), some (.lst [.int c0, .int c1, .int c2, .int c3, .int c4]), some (.tup [.int w, .int p, .int ph, .int pt, .int wh, .int bg, .int sh]), some (.int (365 * w + p)), some (.int e), some (.int la), none, some (.int d), none, none, none, none, none, none, none, none, none, none, none, none, some (.int w), some (.int p), some (.int ph), some (.int pt), some (.int wh), some (.int bg), some (.int sh), o2, o3, none, none, none, some (.int (yearV w p ph d)), none, some (.int r0), o6, none, none, none] _ _
  have mb2 := mul_bd (a := wh) (d := restV w p ph d) (A := 5) (N := 365) (by omega) wh5 (by omega) (by omega) rr.2
  refine Ex_upk (ds := [.int (monV pt wh bg (r0 / w)), .int ((wh * (r0 / w) + wh - 1 - bg) % (30 * wh + pt))]) ok rfl ?_ rfl (by simp) ?_
  · rw [hr0]; simp; omega
  have hr1 : (wh * (r0 / w) + wh - 1 - bg) % (30 * wh + pt) / wh = dayV pt wh bg (restV w p ph d) := by rw [hr0]; exact rest_div (by omega)
  generalize (wh * (r0 / w) + wh - 1 - bg) % (30 * wh + pt) = r1 at *
  rw [hr0]
  show Ex _ _ [some (.lst (l.map .int)), some (.lst [.int c0, .int c1, .int c2, .int c3, .int c4]), some (.tup [.int w, .int p, .int ph, .int pt, .int wh, .int bg, .int sh]), some (.int (365 * w + p)), some (.int e), some (.int la), none, some (.int d), none, none, none, none, none, none, none, none, none, none, none, none, some (.int w), some (.int p), some (.int ph), some (.int pt), some (.int wh), some (.int bg), some (.int sh), o2, o3, none, none, none, some (.int (yearV w p ph d)), none, some (.int r1), some (.int (monV pt wh bg (restV w p ph d))), none, none, none] _ _
  generalize hY : yearV w p ph d = Y at *
  generalize hM : monV pt wh bg (restV w p ph d) = M at *
  generalize hD : dayV pt wh bg (restV w p ph d) = D at *
  refine Ex_asg (d := .tup [.int Y, .int (M + 1), .int (r1 / wh + 1)]) ok rfl ?_ (by simp) ?_
  · simp; omega
  rw [hr1]
  show Ex _ _ [some (.lst (l.map .int)), some (.lst [.int c0, .int c1, .int c2, .int c3, .int c4]), some (.tup [.int w, .int p, .int ph, .int pt, .int wh, .int bg, .int sh]), some (.int (365 * w + p)), some (.int e), some (.int la), none, some (.int d), none, none, none, none, none, none, none, none, none, none, none, none, some (.int w), some (.int p), some (.int ph), some (.int pt), some (.int wh), some (.int bg), some (.int sh), some (.tup [.int Y, .int (M + 1), .int (D + 1)]), o3, none, none, none, some (.int Y), none, some (.int r1), some (.int M), none, none, none] _ _
  refine Ex_asg (d := .str (fmtT (dN ((d + sh) % 7)) (mN (M + 1 - 1)) (Str.ofString "-0000") (D + 1) Y 12 0 0)) ok rfl ?_ (by simp) ?_
  · have hz : (Str.ofString "-0000").length ≤ 1000000 := by decide +kernel
    simp; omega
  have hdate : dateV w p ph pt wh bg d = .tup [.int Y, .int (M + 1), .int (D + 1)] := by unfold dateV; rw [hY, hM, hD]
  refine Ex_ite (z := .bool (false || (fmtT (dN ((d + sh) % 7)) (mN (M + 1 - 1)) (Str.ofString "-0000") (D + 1) Y 12 0 0 != fmtT (dN ((d + sh) % 7)) (mN (M + 1 - 1)) (Str.ofString "-0000") (D + 1) Y 12 0 0))) ok rfl ?_ rfl trivial (fun ht => ?_) (fun hf => Ex_nil ?_)
  · simp
    rw [hY, hM, hD]
    refine ⟨⟨by omega, .inl ⟨rfl, rfl, rfl⟩⟩, by omega⟩
  · simp at ht
  · refine Ex_app ok rfl (by simp) (by omega) (Ex_nil ⟨rfl, ?_, _, _, _, _, _, _, rfl⟩)
    rw [sd, hdate]
end
end NC
end Mine
namespace Mine
noncomputable section NC
/-- what nobody asks for -/
structure OV where
  o1 : Option AV
  o2 : Option AV
  o3 : Option AV
  o4 : Option AV
  o5 : Option AV
  o6 : Option AV
  o7 : Option AV
  o8 : Option AV
  o9 : Option AV
section
variable {b : Base} {K : Frag} {n : Nat} {env : Env} {s₀ : Shared} {X0 : Addr → Prop} {Post : PostT} {rest : List MS}
set_option maxHeartbeats 4000000 in
theorem seg_b (ok : SxOk (lawSx b n env s₀ X0)) {l : List Int} {c0 c1 c2 c3 c4 w p ph pt wh bg sh e la : Int} (R : Rl w p ph pt wh bg sh) (e0 : -500000 ≤ e) (e1 : e < 500000) (l0 : -500000 ≤ la) (l1 : la < 500000)
    (h : ∀ (ds : List Int) (o1 o2 o3 o4 o5 o6 : Option AV), Ex (lawSx b n env s₀ X0) rest [some (.lst (l.map .int)), some (.lst [.int c0, .int c1, .int c2, .int c3, .int c4]), some (.tup [.int w, .int p, .int ph, .int pt, .int wh, .int bg, .int sh]), some (.int (365 * w + p)), some (.int e), some (.int la), some (.lst (ds.map (sd w p ph pt wh bg))), o1, none, none, none, none, none, none, none, none, none, none, none, none, some (.int w), some (.int p), some (.int ph), some (.int pt), some (.int wh), some (.int bg), some (.int sh), o2, o3, none, none, none, o4, none, o5, o6, none, none, none] none Post) :
    Ex (lawSx b n env s₀ X0) (ml6 :: ml7 :: rest) [some (.lst (l.map .int)), some (.lst [.int c0, .int c1, .int c2, .int c3, .int c4]), some (.tup [.int w, .int p, .int ph, .int pt, .int wh, .int bg, .int sh]), some (.int (365 * w + p)), some (.int e), some (.int la), none, none, none, none, none, none, none, none, none, none, none, none, none, none, some (.int w), some (.int p), some (.int ph), some (.int pt), some (.int wh), some (.int bg), some (.int sh), none, none, none, none, none, none, none, none, none, none, none, none] none Post := by
  refine Ex_new ok fun a => ?_
  refine Ex_for ok (fun ie te _ hi => hit_val (ds := [e, la, la + 1].map .int) ok rfl (by simp) ie te hi)
    (fun rs ρ own => ∃ (dn ds : List Int) (o : OV), rs = ds.map .int ∧ dn.length + ds.length ≤ 3 ∧ (∀ d ∈ ds, -500000 ≤ d ∧ d ≤ 500000) ∧ own = some (6, a, .lst (dn.map (sd w p ph pt wh bg))) ∧ ρ = [some (.lst (l.map .int)), some (.lst [.int c0, .int c1, .int c2, .int c3, .int c4]), some (.tup [.int w, .int p, .int ph, .int pt, .int wh, .int bg, .int sh]), some (.int (365 * w + p)), some (.int e), some (.int la), none, o.o1, none, none, none, none, none, none, none, none, none, none, none, none, some (.int w), some (.int p), some (.int ph), some (.int pt), some (.int wh), some (.int bg), some (.int sh), o.o2, o.o3, none, none, none, o.o4, none, o.o5, o.o6, none, none, none]) ?_ ?_ ?_
  · refine ⟨[], [e, la, la + 1], ⟨none, none, none, none, none, none, none, none, none⟩, rfl, by simp, ?_, rfl, rfl⟩
    intro d hd
    simp at hd
    omega
  · rintro d rs ρ own ⟨dn, ds, o, hr, hl, hb, rfl, rfl⟩
    rcases ds with _ | ⟨d, ds⟩
    · cases hr
    rw [List.map_cons] at hr
    injection hr with r1 r2
    subst r1; subst r2
    have hd := hb d (by simp)
    refine ⟨_, rfl, by simp [Tg.names], ?_⟩
    refine (day_body (o2 := o.o2) (o3 := o.o3) (o4 := o.o4) (o5 := o.o5) (o6 := o.o6) ok R (dn := dn.map (sd w p ph pt wh bg)) (by rw [List.length_map]; omega) hd.1 hd.2).mono ?_
    rintro _ ρ' own' ⟨rfl, rfl, o1, o2, o3, o4, o5, o6, rfl⟩
    refine ⟨dn ++ [d], ds, ⟨o1, o2, o3, o4, o5, o6, none, none, none⟩, rfl, by simp at hl ⊢; omega, fun x hx => hb x (by simp [hx]), by simp, rfl⟩
  · rintro ρ own ⟨dn, ds, o, hr, hl, hb, rfl, rfl⟩
    refine Ex_frz ok id ?_
    exact h dn o.o1 o.o2 o.o3 o.o4 o.o5 o.o6
set_option maxHeartbeats 4000000 in
theorem cmp_body (ok : SxOk (lawSx b n env s₀ X0)) {l : List Int} {c0 c1 c2 c3 c4 w p ph pt wh bg sh e la : Int} (R : Rl w p ph pt wh bg sh) {ds : List Int} (x y : Int) {o3 o4 o5 o6 o9 : Option AV} :
    Ex (lawSx b n env s₀ X0) (ml10 |> forB |> (·.headD .any) |> forB) [some (.lst (l.map .int)), some (.lst [.int c0, .int c1, .int c2, .int c3, .int c4]), some (.tup [.int w, .int p, .int ph, .int pt, .int wh, .int bg, .int sh]), some (.int (365 * w + p)), some (.int e), some (.int la), some (.lst (ds.map (sd w p ph pt wh bg))), some (.int x), some (.obj (.lst [.tup [.int 0, .int 1], .tup [.int 1, .int 1], .tup [.int 2, .int 1]])), some (.obj (.lst [.tup [.int 0, .int (-1)], .tup [.int 1, .int (-1)], .tup [.int 2, .int (-1)]])), none, none, none, none, none, none, none, none, none, none, some (.int w), some (.int p), some (.int ph), some (.int pt), some (.int wh), some (.int bg), some (.int sh), some (dateV w p ph pt wh bg x), o3, none, none, none, o4, none, o5, o6, some (.int y), some (dateV w p ph pt wh bg y), o9] none
      (fun o ρ' own' => o = .next ∧ own' = none ∧ ∃ o9, ρ' = [some (.lst (l.map .int)), some (.lst [.int c0, .int c1, .int c2, .int c3, .int c4]), some (.tup [.int w, .int p, .int ph, .int pt, .int wh, .int bg, .int sh]), some (.int (365 * w + p)), some (.int e), some (.int la), some (.lst (ds.map (sd w p ph pt wh bg))), some (.int x), some (.obj (.lst [.tup [.int 0, .int 1], .tup [.int 1, .int 1], .tup [.int 2, .int 1]])), some (.obj (.lst [.tup [.int 0, .int (-1)], .tup [.int 1, .int (-1)], .tup [.int 2, .int (-1)]])), none, none, none, none, none, none, none, none, none, none, some (.int w), some (.int p), some (.int ph), some (.int pt), some (.int wh), some (.int bg), some (.int sh), some (dateV w p ph pt wh bg x), o3, none, none, none, o4, none, o5, o6, some (.int y), some (dateV w p ph pt wh bg y), o9]) := by
  obtain ⟨w2, w8, p0, pw, h0, hw, m, g0, g1, s0, s7⟩ := R
  obtain ⟨wh0, wh5, pt0, ptw, pt3⟩ := (⟨w2, w8, p0, pw, h0, hw, m, g0, g1, s0, s7⟩ : Rl w p ph pt wh bg sh).wh
  have k1 := cmp_days (w := w) (p := p) (ph := ph) (pt := pt) (wh := wh) (bg := bg) (by omega) p0 wh0 pt0 1 x y
  have k2 := cmp_days (w := w) (p := p) (ph := ph) (pt := pt) (wh := wh) (bg := bg) (by omega) p0 wh0 pt0 (-1) x y
  unfold ml10
  show Ex _ [_, _] _ _ _
  refine Ex_asg (d := .int (bif decide (y < x) then 1 else bif decide (x < y) then -1 else 0)) ok rfl (by simp [truthC]) (by simp) ?_
  generalize hsg : (bif decide (y < x) then (1 : Int) else bif decide (x < y) then -1 else 0) = sg
  have q1 : (if y < x then (1 : Int) else if x < y then -1 else 0) = sg := by
    rw [← hsg]
    by_cases a1 : y < x
    · simp [a1]
    · by_cases a2 : x < y <;> simp [a1, a2]
  have q2 : (if y < x then (-1 : Int) else if x < y then - -1 else 0) = -sg := by
    rw [← q1]
    by_cases a1 : y < x
    · simp [a1]
    · by_cases a2 : x < y <;> simp [a1, a2]
  rw [q1] at k1
  rw [q2] at k2
  refine Ex_ite (z := .bool ((!decide (cmpT 1 (yearV w p ph x) (monV pt wh bg (restV w p ph x) + 1) (dayV pt wh bg (restV w p ph x) + 1) (yearV w p ph y) (monV pt wh bg (restV w p ph y) + 1) (dayV pt wh bg (restV w p ph y) + 1) = sg)) || (!decide (cmpT (-1) (yearV w p ph x) (monV pt wh bg (restV w p ph x) + 1) (dayV pt wh bg (restV w p ph x) + 1) (yearV w p ph y) (monV pt wh bg (restV w p ph y) + 1) (dayV pt wh bg (restV w p ph y) + 1) = -sg)))) ok rfl ?_ rfl trivial (fun ht => ?_) (fun hf => Ex_nil (Ex_nil ⟨rfl, rfl, _, rfl⟩))
  · simp
  · rw [k1, k2] at ht; simp at ht
set_option maxHeartbeats 4000000 in
theorem seg_c (ok : SxOk (lawSx b n env s₀ X0)) {l : List Int} {c0 c1 c2 c3 c4 w p ph pt wh bg sh e la : Int} (R : Rl w p ph pt wh bg sh) {ds : List Int} {o1 o2 o3 o4 o5 o6 : Option AV} 
    (h : ∀ o1 o2 o3 o4 o5 o6 o7 o8 o9 : Option AV, Ex (lawSx b n env s₀ X0) rest [some (.lst (l.map .int)), some (.lst [.int c0, .int c1, .int c2, .int c3, .int c4]), some (.tup [.int w, .int p, .int ph, .int pt, .int wh, .int bg, .int sh]), some (.int (365 * w + p)), some (.int e), some (.int la), some (.lst (ds.map (sd w p ph pt wh bg))), o1, some (.obj (.lst [.tup [.int 0, .int 1], .tup [.int 1, .int 1], .tup [.int 2, .int 1]])), some (.obj (.lst [.tup [.int 0, .int (-1)], .tup [.int 1, .int (-1)], .tup [.int 2, .int (-1)]])), none, none, none, none, none, none, none, none, none, none, some (.int w), some (.int p), some (.int ph), some (.int pt), some (.int wh), some (.int bg), some (.int sh), o2, o3, none, none, none, o4, none, o5, o6, o7, o8, o9] none Post) :
    Ex (lawSx b n env s₀ X0) (ml8 :: ml9 :: ml10 :: rest) [some (.lst (l.map .int)), some (.lst [.int c0, .int c1, .int c2, .int c3, .int c4]), some (.tup [.int w, .int p, .int ph, .int pt, .int wh, .int bg, .int sh]), some (.int (365 * w + p)), some (.int e), some (.int la), some (.lst (ds.map (sd w p ph pt wh bg))), o1, none, none, none, none, none, none, none, none, none, none, none, none, some (.int w), some (.int p), some (.int ph), some (.int pt), some (.int wh), some (.int bg), some (.int sh), o2, o3, none, none, none, o4, none, o5, o6, none, none, none] none Post := by
  refine Ex_asg ok rfl (by simp) (by simp) ?_
  refine Ex_asg ok rfl (by simp) (by simp) ?_
  refine Ex_for ok (fun ie te _ hi => hit_val ok rfl trivial ie te hi)
    (fun rs ρ own => ∃ (d2 : List Int) (o : OV), rs = d2.map (sd w p ph pt wh bg) ∧ own = none ∧ ρ = [some (.lst (l.map .int)), some (.lst [.int c0, .int c1, .int c2, .int c3, .int c4]), some (.tup [.int w, .int p, .int ph, .int pt, .int wh, .int bg, .int sh]), some (.int (365 * w + p)), some (.int e), some (.int la), some (.lst (ds.map (sd w p ph pt wh bg))), o.o1, some (.obj (.lst [.tup [.int 0, .int 1], .tup [.int 1, .int 1], .tup [.int 2, .int 1]])), some (.obj (.lst [.tup [.int 0, .int (-1)], .tup [.int 1, .int (-1)], .tup [.int 2, .int (-1)]])), none, none, none, none, none, none, none, none, none, none, some (.int w), some (.int p), some (.int ph), some (.int pt), some (.int wh), some (.int bg), some (.int sh), o.o2, o.o3, none, none, none, o.o4, none, o.o5, o.o6, o.o7, o.o8, o.o9]) ?_ ?_ ?_
  · exact ⟨ds, ⟨o1, o2, o3, o4, o5, o6, none, none, none⟩, rfl, rfl, rfl⟩
  · rintro d rs ρ own ⟨d2, oo, hr, rfl, rfl⟩
    rcases d2 with _ | ⟨x, d2⟩
    · cases hr
    rw [List.map_cons] at hr
    injection hr with r1 r2
    subst r1; subst r2
    refine ⟨_, rfl, by simp, ?_⟩
    refine Ex_for ok (fun ie te _ hi => hit_val ok rfl trivial ie te hi)
      (fun rs ρ own => ∃ (d3 : List Int) (o : OV), rs = d3.map (sd w p ph pt wh bg) ∧ own = none ∧ ρ = [some (.lst (l.map .int)), some (.lst [.int c0, .int c1, .int c2, .int c3, .int c4]), some (.tup [.int w, .int p, .int ph, .int pt, .int wh, .int bg, .int sh]), some (.int (365 * w + p)), some (.int e), some (.int la), some (.lst (ds.map (sd w p ph pt wh bg))), some (.int x), some (.obj (.lst [.tup [.int 0, .int 1], .tup [.int 1, .int 1], .tup [.int 2, .int 1]])), some (.obj (.lst [.tup [.int 0, .int (-1)], .tup [.int 1, .int (-1)], .tup [.int 2, .int (-1)]])), none, none, none, none, none, none, none, none, none, none, some (.int w), some (.int p), some (.int ph), some (.int pt), some (.int wh), some (.int bg), some (.int sh), some (dateV w p ph pt wh bg x), o.o3, none, none, none, o.o4, none, o.o5, o.o6, o.o7, o.o8, o.o9]) ?_ ?_ ?_
    · exact ⟨ds, oo, rfl, rfl, rfl⟩
    · rintro d rs ρ own ⟨d3, o, hr, rfl, rfl⟩
      rcases d3 with _ | ⟨y, d3⟩
      · cases hr
      rw [List.map_cons] at hr
      injection hr with r1 r2
      subst r1; subst r2
      refine ⟨_, rfl, by simp, ?_⟩
      refine (cmp_body (o3 := o.o3) (o4 := o.o4) (o5 := o.o5) (o6 := o.o6) (o9 := o.o9) ok R x y).mono ?_
      rintro _ ρ' own' ⟨rfl, rfl, o9, rfl⟩
      exact ⟨d3, ⟨none, none, o.o3, o.o4, o.o5, o.o6, _, _, o9⟩, rfl, rfl, rfl⟩
    · rintro ρ own ⟨d3, o, hr, rfl, rfl⟩
      exact Ex_nil ⟨d2, ⟨_, _, o.o3, o.o4, o.o5, o.o6, o.o7, o.o8, o.o9⟩, rfl, rfl, rfl⟩
  · rintro ρ own ⟨d2, o, hr, rfl, rfl⟩
    exact h o.o1 o.o2 o.o3 o.o4 o.o5 o.o6 o.o7 o.o8 o.o9
end
end NC
end Mine
namespace Mine
noncomputable section NC
noncomputable def frB (names : List Str) (kd : Str → Option NameKind) (scope : Scope) (fr : List Str) : List Nat → Bool := @List.rec Str (fun _ => List Nat → Bool) (fun is => is.isEmpty) (fun y _ r is => kc false is fun i is => names[i]? == some y && (scope.names.lookup y == some .free && (kd y == some .cell && r is))) fr
noncomputable def cfB (names : List Str) (kd : Str → Option NameKind) (scope : Scope) (v : Str) (fr : List Str) (is : List Nat) : Bool :=
  scope.kind == .function && (scope.names.all fun y => !(y.2 == .cell)) && (scope.names.all fun y => !(y.2 == .local) || scope.names.lookup y.1 == some .local) && scope.names.lookup v == some .local &&
    (scope.names.all fun y => !(y.2 == .free) || kd y.1 == some .cell) && frB names kd scope fr is
theorem frB_at {names : List Str} {kd : Str → Option NameKind} {scope : Scope} : ∀ {fr : List Str} {is : List Nat} {j : Nat} {y : Str}, frB names kd scope fr is = true → fr[j]? = some y → ∃ i, is[j]? = some i ∧ names[i]? = some y ∧ scope.names.lookup y = some .free ∧ kd y = some .cell
  | [], _, _, _ => fun _ h => absurd h nofun
  | z :: fr, is, 0, y => fun h e => kc_k (M := fun is => ∃ i, is[0]? = some i ∧ names[i]? = some y ∧ scope.names.lookup y = some .free ∧ kd y = some .cell) fT h fun i is h => Option.some.inj e ▸ ⟨i, rfl, eq_of_beq (and_t h).1, eq_of_beq (and_t (and_t h).2).1, eq_of_beq (and_t (and_t (and_t h).2).2).1⟩
  | z :: fr, is, j + 1, y => fun h e => kc_k (M := fun is => ∃ i, is[j + 1]? = some i ∧ names[i]? = some y ∧ scope.names.lookup y = some .free ∧ kd y = some .cell) fT h fun i is h => frB_at (is := is) (j := j) (and_t (and_t (and_t h).2).2).2 e
theorem compFr_of {x : Sx} {ρ : Rho} {own : OwnO} {scope : Scope} {v : Str} {fr : List Str} {is : List Nat} {ρ' : Rho} (hb : cfB x.names x.kd scope v fr is = true) (hρ : ρ' = is.map fun i => (ρ[i]?).getD none) {X : Addr → Prop} {s : Shared} (S : x.St X ρ own s) : CompFr x.env x.names ρ scope v fr ρ' := by
  simp only [cfB, Bool.and_eq_true, beq_iff_eq, List.all_eq_true, Bool.or_eq_true, Bool.not_eq_true', beq_eq_false_iff_ne] at hb
  obtain ⟨⟨⟨⟨⟨h1, h2⟩, h3⟩, h4⟩, h5⟩, h6⟩ := hb
  refine ⟨h1, h2, fun y hy hl => (h3 y hy).resolve_left (fun q => q hl), h4, fun j y d hj hd => ?_, fun p hp hf => ?_⟩
  · obtain ⟨i, a1, a2, a3, a4⟩ := frB_at h6 hj
    refine ⟨⟨i, a2, ?_⟩, a3, .inl ((S.kde y).trans a4)⟩
    rw [hρ, List.getElem?_map, a1] at hd
    simp only [Option.map_some, Option.some.injEq] at hd
    cases q : ρ[i]? with
    | none => rw [q] at hd; cases hd
    | some o => rw [q] at hd; simp at hd; rw [hd]
  · obtain ⟨a, h, _⟩ := S.cel p.1 ((h5 p hp).resolve_left (fun q => q hf))
    exact ⟨a, h⟩
theorem ext_st {x : Sx} (hy : x.ys = ysL) {k : Nat} {st : Stmt} (h : x.chkS (.ext (100 + k) [] []) st = true) : st = sAt 22 k := by
  refine ext_k h fun es he _ => ?_
  rw [hy] at he
  have := ysL_of he
  rwa [Nat.add_sub_cancel_left] at this
noncomputable def me13 : ME := .bin .Add (.bin .Mult (.int 365) (.bin .Add (.var 1) (.var 0))) (.item (.call 2 [.bin .Add (.bin .Mult (.var 2) (.bin .Add (.var 1) (.var 0))) (.var 3), .var 4]) (.int 0))
noncomputable def fr13 : List Str := ["start", "leaps", "phase", "years"].map Str.ofString
noncomputable def me17 : ME := .ife (.cmp .Eq (.item (.itemP (.var 2) (.var 0)) (.int 1)) (.int 365)) (.tup [.bin .Add (.var 1) (.var 0), .str (Str.ofString "365]")]) (.tup [.str (Str.ofString ""), .str (Str.ofString "")])
noncomputable def fr17 : List Str := ["start", "walked"].map Str.ofString
noncomputable def me23 : ME := .ext 18 [.var 1, .var 0]
noncomputable def fr23 : List Str := ["table"].map Str.ofString
noncomputable abbrev nmL : List Str := ps_law ++ ls_law
theorem at13 : ∃ py px pos spos scope elt iter, sAt 22 13 = .Assign [.Name (Str.ofString "firsts") py] (.ListComp elt [⟨.Name (Str.ofString "k") px, iter, [], 0⟩] scope pos) spos ∧
    (py.line == pos.line) = true ∧ (scope.names.any fun (n, k) => n == Str.ofString "firsts" && (k == .local || k == .cell)) = false ∧ cfB nmL (kdOf (dSc 22)) scope (Str.ofString "k") fr13 [10, 21, 22, 20] = true ∧
    chk (Str.ofString "k" :: fr13) (kdOf scope) gsAll xsL me13 elt = true ∧ (chkI nmL (kdOf (dSc 22)) gsAll xsL zsW (.rng (.bin .Add (.var 20) (.int 1))) iter = true ∧ plainE iter = true) :=
  ⟨_, _, _, _, _, _, _, by with_unfolding_all rfl, by decide +kernel, by decide +kernel, by decide +kernel, by decide +kernel, by decide +kernel, by decide +kernel⟩
theorem at17 : ∃ py px pos spos scope elt iter, sAt 22 17 = .Assign [.Name (Str.ofString "due") py] (.ListComp elt [⟨.Name (Str.ofString "k") px, iter, [], 0⟩] scope pos) spos ∧
    (py.line == pos.line) = true ∧ (scope.names.any fun (n, k) => n == Str.ofString "due" && (k == .local || k == .cell)) = false ∧ cfB nmL (kdOf (dSc 22)) scope (Str.ofString "k") fr17 [10, 11] = true ∧
    chk (Str.ofString "k" :: fr17) (kdOf scope) gsAll xsL me17 elt = true ∧ (chkI nmL (kdOf (dSc 22)) gsAll xsL zsW (.rng (.var 20)) iter = true ∧ plainE iter = true) :=
  ⟨_, _, _, _, _, _, _, by with_unfolding_all rfl, by decide +kernel, by decide +kernel, by decide +kernel, by decide +kernel, by decide +kernel, by decide +kernel⟩
theorem at23 : ∃ py px pos spos scope elt iter, sAt 22 23 = .Assign [.Name (Str.ofString "often") py] (.ListComp elt [⟨.Name (Str.ofString "name") px, iter, [], 0⟩] scope pos) spos ∧
    (py.line == pos.line) = true ∧ (scope.names.any fun (n, k) => n == Str.ofString "often" && (k == .local || k == .cell)) = false ∧ cfB nmL (kdOf (dSc 22)) scope (Str.ofString "name") fr23 [18] = true ∧
    chk (Str.ofString "name" :: fr23) (kdOf scope) gsAll xsL me23 elt = true ∧ (chkI nmL (kdOf (dSc 22)) gsAll xsL zsW (.val (.var 18)) iter = true ∧ plainE iter = true) :=
  ⟨_, _, _, _, _, _, _, by with_unfolding_all rfl, by decide +kernel, by decide +kernel, by decide +kernel, by decide +kernel, by decide +kernel, by decide +kernel⟩
section
variable {b : Base} {n : Nat} {env : Env} {s₀ : Shared} {X0 : Addr → Prop} {Post : PostT} {rest : List MS} {ρ ρ' : Rho}
/-- a name of law's becomes a list told by a comprehension -/
theorem Ex_comp (ok : SxOk (lawSx b n env s₀ X0)) {k i : Nat} {nm v : Str} {fr : List Str} {is : List Nat} {me : ME} {mi : MI} {ds : List AV} {f : AV → AV}
    (hat : ∃ py px pos spos scope elt iter, sAt 22 k = .Assign [.Name nm py] (.ListComp elt [⟨.Name v px, iter, [], 0⟩] scope pos) spos ∧ (py.line == pos.line) = true ∧ (scope.names.any fun (n, k) => n == nm && (k == .local || k == .cell)) = false ∧ cfB nmL (kdOf (dSc 22)) scope v fr is = true ∧
      chk (v :: fr) (kdOf scope) gsAll xsL me elt = true ∧ (chkI nmL (kdOf (dSc 22)) gsAll xsL zsW mi iter = true ∧ plainE iter = true))
    (hn : nmL[i]? = some nm) (hk : kdOf (dSc 22) nm = some .local) (hit : ∀ ie te, chkI nmL (kdOf (dSc 22)) gsAll xsL zsW mi ie = true → ItOk (b.cx (n + 4) (FL n) XL xsL) env nmL (kdOf (dSc 22)) ρ ie te ds) (hsz : ds.length ≤ 1000)
    (hρ : ρ' = is.map fun i => (ρ[i]?).getD none) (helt : ∀ d ∈ ds, ∃ C, mev (FL n) XL (some d :: ρ') me = some (f d, C) ∧ C) (h : Ex (lawSx b n env s₀ X0) rest (ρ.set i (some (.lst (ds.map f)))) none Post) : Ex (lawSx b n env s₀ X0) (.ext (100 + k) [] [] :: rest) ρ none Post := by
  obtain ⟨py, px, pos, spos, scope, elt, iter, h1, h2, h3, h4, h5, h6, h7⟩ := hat
  refine Ex_asgC ok (y := nm) (v := v) (py := py) (px := px) (pos := pos) (spos := spos) (elt := elt) (iter := iter) (scope := scope) (fr := fr) (ρ' := ρ') (f := f) (ds := ds) (i := i)
    (fun st hs => (ext_st rfl hs).trans h1) hn hk h2 h3 (fun X s S => compFr_of h4 hρ S) (hit iter _ h6) (by rw [sizeLine_eq]; omega) (fun X s S d hd C => ?_) (folded_plain h7) (by simp) h
  obtain ⟨C', hm, hC⟩ := helt d hd
  exact (sound ok.c me elt _ C' h5 hm hC).1
end
noncomputable def me20e : ME := .item (.var 0) (.int 0)
noncomputable def me20t : ME := .cmp .Gt (.ext 18 [.var 1, .var 0]) (.int 0)
noncomputable def fr20 : List Str := ["lengths"].map Str.ofString
theorem at20 : ∃ lB ea eb ec sp px elt iter scope lp kx vx kpx kiter tx kscope kp callp tk tp cpos body pos, sAt 22 20 = .If (.Compare lB [.NotEq] [.Tuple [ea, eb, ec, .Call (.Name (Str.ofString "sum") sp) [.ListComp elt [⟨.Name (Str.ofString "pair") px, iter, [], 0⟩] scope lp] [] callp, .DictComp kx vx [⟨.Name (Str.ofString "key") kpx, kiter, [tx], 0⟩] kscope kp] tk tp] cpos) body [] pos ∧
    (chk nmL (kdOf (dSc 22)) gsAll xsL (.var 13) lB = true ∧ chkL nmL (kdOf (dSc 22)) gsAll xsL [.var 20, .var 21, .var 3] [ea, eb, ec] = true ∧ ([ea, eb, ec].all plainE) = true ∧ glob (kdOf (dSc 22)) (Str.ofString "sum") = true) ∧
    (cfB nmL (kdOf (dSc 22)) scope (Str.ofString "pair") [] [] = true ∧ chk [Str.ofString "pair"] (kdOf scope) gsAll xsL me20e elt = true ∧ chk nmL (kdOf (dSc 22)) gsAll xsL (.var 11) iter = true ∧ ∃ y q, iter = .Name y q) ∧
    (cfB nmL (kdOf (dSc 22)) kscope (Str.ofString "key") fr20 [17] = true ∧ chk (Str.ofString "key" :: fr20) (kdOf kscope) gsAll xsL (.var 0) kx = true ∧ chk (Str.ofString "key" :: fr20) (kdOf kscope) gsAll xsL (.ext 18 [.var 1, .var 0]) vx = true ∧
      chk (Str.ofString "key" :: fr20) (kdOf kscope) gsAll xsL me20t tx = true ∧ chk nmL (kdOf (dSc 22)) gsAll xsL (.var 17) kiter = true ∧ ∃ y q, kiter = .Name y q) := 
  ⟨_, _, _, _, _, _, _, _, _, _, _, _, _, _, _, _, _, _, _, _, _, _, _, by with_unfolding_all rfl, ⟨by decide +kernel, by decide +kernel, by decide +kernel, by decide +kernel⟩, ⟨by decide +kernel, by decide +kernel, by decide +kernel, _, _, rfl⟩, ⟨by decide +kernel, by decide +kernel, by decide +kernel, by decide +kernel, by decide +kernel, _, _, rfl⟩⟩
end NC
end Mine
namespace Mine
noncomputable section NC
noncomputable def wkL (w p ph st : Int) : List AV := (upL st w.toNat).map fun y => .tup [.int (G 365 p w ph y), .int (sizeF p w ph y)]
noncomputable def fsL (w p ph st : Int) : List AV := (rangeL 0 (w + 1)).map fun d => .int (G 365 p w ph (st + getI d))
theorem rangeL_mem {a b : Int} {d : AV} (h : d ∈ rangeL a b) : ∃ k : Int, a ≤ k ∧ k < b ∧ d = .int k := by
  unfold rangeL at h
  rw [List.mem_map] at h
  obtain ⟨i, hi, rfl⟩ := h
  rw [List.mem_range] at hi
  exact ⟨_, by omega, by omega, rfl⟩
theorem rangeL_len (a b : Int) : (rangeL a b).length = (b - a).toNat := by simp [rangeL]
theorem rangeL_at {a b k : Int} (h0 : a ≤ k) (h1 : k < b) : (rangeL a b)[(k - a).toNat]? = some (.int k) := by
  unfold rangeL
  rw [List.getElem?_map, List.getElem?_range (by omega)]
  simp; omega
theorem upL_at : ∀ (n : Nat) (a : Int) (k : Nat), k < n → (upL a n)[k]? = some (a + k)
  | 0, _, _, h => by omega
  | n + 1, a, 0, _ => by simp [upL]
  | n + 1, a, k + 1, h => by
    rw [upL, List.getElem?_cons_succ, upL_at n (a + 1) k (by omega)]
    congr 1; omega
theorem fs_at {w p ph st k : Int} (h0 : 0 ≤ k) (h1 : k ≤ w) : (fsL w p ph st)[k.toNat]? = some (.int (G 365 p w ph (st + k))) := by
  unfold fsL
  have := rangeL_at (a := 0) (b := w + 1) h0 (by omega)
  rw [Int.sub_zero] at this
  rw [List.getElem?_map, this]; rfl
theorem fs_getD {w p ph st k : Int} (h0 : 0 ≤ k) (h1 : k ≤ w) : (fsL w p ph st).getD k.toNat .none = .int (G 365 p w ph (st + k)) := by
  rw [List.getD_eq_getElem?_getD, fs_at h0 h1]; rfl
theorem wk_at {w p ph st k : Int} (h0 : 0 ≤ k) (h1 : k < w) : (wkL w p ph st)[k.toNat]? = some (.tup [.int (G 365 p w ph (st + k)), .int (sizeF p w ph (st + k))]) := by
  unfold wkL
  rw [List.getElem?_map, upL_at _ _ _ (by omega)]
  simp only [Option.map_some]
  rw [show st + ((k.toNat : Nat) : Int) = st + k by omega]
theorem wk_getD {w p ph st k : Int} (h0 : 0 ≤ k) (h1 : k < w) : (wkL w p ph st).getD k.toNat .none = .tup [.int (G 365 p w ph (st + k)), .int (sizeF p w ph (st + k))] := by
  rw [List.getD_eq_getElem?_getD, wk_at h0 h1]; rfl
theorem size_or (p w ph y : Int) : sizeF p w ph y = 365 ∨ sizeF p w ph y = 366 := by
  unfold sizeF
  cases decide (w ≤ (p * y + ph) % w + p) <;> simp
theorem G_bd {w p ph y : Int} (hw : 0 < w) (w8 : w ≤ 8) (p0 : 0 ≤ p) (pw : p ≤ w) (h0 : 0 ≤ ph) (h1 : ph < w) {N : Int} (hN : 0 ≤ N) (hN2 : N ≤ 100000) (y0 : -N ≤ y) (y1 : y ≤ N) : -40000000 ≤ G 365 p w ph y ∧ G 365 p w ph y ≤ 40000000 ∧ -800000 ≤ p * y ∧ p * y ≤ 800000 := by
  have m := mul_bd (a := p) (d := y) (A := 8) (N := 100000) p0 (by omega) (by omega) (by omega) (by omega)
  have q := div_bd (a := p * y + ph) (c := w) (N := 800008) hw (by omega) (by omega) (by omega)
  unfold G
  omega
section
variable {b : Base} {K : Frag} {n : Nat} {env : Env} {s₀ : Shared} {X0 : Addr → Prop} {Post : PostT} {rest : List MS}
set_option maxHeartbeats 4000000 in
theorem seg_e (ok : SxOk (lawSx b n env s₀ X0)) {l : List Int} {c0 c1 c2 c3 c4 w p ph pt wh bg sh e la : Int} (R : Rl w p ph pt wh bg sh) {ds : List Int} {o1 o2 o3 o4 o5 o6 o7 o8 o9 : Option AV} (h20 : 0 ≤ c2) (h21 : c2 < 2 ^ 30)
    (h : ∀ (a : Addr) (st : Int) (u1 u2 u3 : Option AV), -12 ≤ st → st ≤ 12 → Ex (lawSx b n env s₀ X0) rest [some (.lst (l.map .int)), some (.lst [.int c0, .int c1, .int c2, .int c3, .int c4]), some (.tup [.int w, .int p, .int ph, .int pt, .int wh, .int bg, .int sh]), some (.int (365 * w + p)), some (.int e), some (.int la), u1, o1, u2, u3, some (.int st), some (.lst (wkL w p ph st)), some (.lst (fsL w p ph st)), some (.tup [.int 0, .int 0, .int 0, .int 0, .dI []]), none, none, none, none, none, none, some (.int w), some (.int p), some (.int ph), some (.int pt), some (.int wh), some (.int bg), some (.int sh), o2, o3, none, none, none, o4, none, o5, o6, o7, o8, o9] (some (14, a, .lst [])) Post) :
    Ex (lawSx b n env s₀ X0) (ml11 :: ml12 :: ml13 :: ml14 :: ml15 :: rest) [some (.lst (l.map .int)), some (.lst [.int c0, .int c1, .int c2, .int c3, .int c4]), some (.tup [.int w, .int p, .int ph, .int pt, .int wh, .int bg, .int sh]), some (.int (365 * w + p)), some (.int e), some (.int la), some (.lst (ds.map (sd w p ph pt wh bg))), o1, some (.obj (.lst [.tup [.int 0, .int 1], .tup [.int 1, .int 1], .tup [.int 2, .int 1]])), some (.obj (.lst [.tup [.int 0, .int (-1)], .tup [.int 1, .int (-1)], .tup [.int 2, .int (-1)]])), none, none, none, none, none, none, none, none, none, none, some (.int w), some (.int p), some (.int ph), some (.int pt), some (.int wh), some (.int bg), some (.int sh), o2, o3, none, none, none, o4, none, o5, o6, o7, o8, o9] none Post := by
  obtain ⟨w2, w8, p0, pw, h0, hw, m, g0, g1, s0, s7⟩ := R
  refine Ex_asg (d := .int (c2 % 25 - 12)) ok rfl ?_ (by simp) ?_
  · simp
  have t0 : -12 ≤ c2 % 25 - 12 := by omega
  have t1 : c2 % 25 - 12 ≤ 12 := by omega
  generalize c2 % 25 - 12 = st at *
  refine Ex_asg (d := .lst (wkL w p ph st)) ok rfl ?_ (by simp) ?_
  · simp; omega
  refine Ex_comp (k := 13) (is := [10, 21, 22, 20]) (ρ' := [some (.int st), some (.int p), some (.int ph), some (.int w)]) (f := fun d => .int (G 365 p w ph (st + getI d))) (ds := rangeL 0 (w + 1)) ok at13 (i := 12) (by decide +kernel) (by decide +kernel)
    (fun ie te hi => hit_rng ok (e := .bin .Add (.var 20) (.int 1)) (n := w + 1) rfl (by simp) (by omega) (by omega) ie te hi) (by rw [rangeL_len]; omega) rfl (fun d hd => ?_) ?_
  · obtain ⟨k, k0, k1, rfl⟩ := rangeL_mem hd
    refine ⟨_, rfl, ?_⟩
    have := G_bd (y := st + k) (N := 100) (by omega) w8 p0 pw h0 hw (by omega) (by omega) (by omega) (by omega)
    simp; omega
  refine Ex_asg ok rfl (by simp) (by simp) ?_
  refine Ex_new ok fun a => ?_
  exact h a st _ _ _ t0 t1
end
end NC
end Mine
namespace Mine
noncomputable section NC
noncomputable def toldF (z cut : Int) : Str := bif decide (z < 366) then Str.ofString (toString z) ++ Str.ofString "]" else slS (Str.ofString (toString z)) none (some cut) ++ Str.ofString "[" ++ slS (Str.ofString (toString z)) (some cut) none
noncomputable def pairF (w p ph st k : Int) : Int × Str := (st + k, toldF (sizeF p w ph (st + k)) ((st + k) % 4))
theorem sl_facts {z c : Int} (hz : z = 365 ∨ z = 366) (h0 : 0 ≤ c) (h1 : c < 4) : (Str.ofString (toString z)).length ≤ 1000 ∧ (slS (Str.ofString (toString z)) none (some c)).length ≤ 1000 ∧ (slS (Str.ofString (toString z)) (some c) none).length ≤ 1000 ∧
    (z = 365 → toldF z c = Str.ofString "365]" ∧ Txt.contains (toldF z c) (Str.ofString "[") = false) ∧ (z = 366 → Txt.contains (toldF z c) (Str.ofString "[") = true) := by
  have hc : c = 0 ∨ c = 1 ∨ c = 2 ∨ c = 3 := by omega
  rcases hz with rfl | rfl <;> rcases hc with rfl | rfl | rfl | rfl <;> refine ⟨by decide +kernel, by decide +kernel, by decide +kernel, fun h => ?_, fun h => ?_⟩ <;>
    first | exact ⟨by decide +kernel, by decide +kernel⟩ | decide +kernel | omega
/-- the counts of the lengths *)-/
noncomputable def DInv (d : List (Int × Int)) (x y : Int) : Prop := (x = 0 ∧ y = 0 ∧ d = []) ∨ (0 < x ∧ y = 0 ∧ d = [(365, x)]) ∨ (x = 0 ∧ 0 < y ∧ d = [(366, y)]) ∨ (0 < x ∧ 0 < y ∧ (d = [(365, x), (366, y)] ∨ d = [(366, y), (365, x)]))
theorem DInv.len {d : List (Int × Int)} {x y : Int} (h : DInv d x y) : d.length ≤ 2 := by
  rcases h with ⟨_, _, rfl⟩ | ⟨_, _, rfl⟩ | ⟨_, _, rfl⟩ | ⟨_, _, rfl | rfl⟩ <;> simp
theorem DInv.s365 {d : List (Int × Int)} {x y : Int} (h : DInv d x y) : DInv (addL (copyL d) [(365, 1)]) (x + 1) y := by
  rcases h with ⟨rfl, rfl, rfl⟩ | ⟨h1, rfl, rfl⟩ | ⟨rfl, h2, rfl⟩ | ⟨h1, h2, rfl | rfl⟩ <;> simp [addL, copyL, storeL, getL, DInv] <;> omega
theorem DInv.s366 {d : List (Int × Int)} {x y : Int} (h : DInv d x y) : DInv (addL (copyL d) [(366, 1)]) x (y + 1) := by
  rcases h with ⟨rfl, rfl, rfl⟩ | ⟨h1, rfl, rfl⟩ | ⟨rfl, h2, rfl⟩ | ⟨h1, h2, rfl | rfl⟩ <;> simp [addL, copyL, storeL, getL, DInv] <;> omega
theorem DInv.fin {d : List (Int × Int)} {x y : Int} (h : DInv d x y) {t : AV → Bool} {kf vf : AV → Int} (t1 : t (.int 365) = decide (0 < x)) (t2 : t (.int 366) = decide (0 < y)) (k1 : kf (.int 365) = 365) (k2 : kf (.int 366) = 366) (v1 : vf (.int 365) = x) (v2 : vf (.int 366) = y) :
    d.length = (dcF t kf vf [.int 365, .int 366]).length ∧ ∀ q ∈ d, q ∈ dcF t kf vf [.int 365, .int 366] := by
  rcases h with ⟨rfl, rfl, rfl⟩ | ⟨h1, rfl, rfl⟩ | ⟨rfl, h2, rfl⟩ | ⟨h1, h2, rfl | rfl⟩ <;> simp [dcF, storeL, t1, t2, k1, k2, v1, v2, *]
noncomputable def sumG (w p ph st : Int) (k : Nat) : Int := ((upL st k).map fun y => G 365 p w ph y).sum
theorem sumG_step (w p ph st : Int) (k : Nat) : sumG w p ph st (k + 1) = sumG w p ph st k + G 365 p w ph (st + k) := by
  unfold sumG
  rw [upL_snoc, List.map_append, List.sum_append]
  simp
section
variable {b : Base} {K : Frag} {n : Nat} {env : Env} {s₀ : Shared} {X0 : Addr → Prop} {Post : PostT} {rest : List MS}
set_option maxHeartbeats 4000000 in
theorem pair_body (ok : SxOk (lawSx b n env s₀ X0)) {l : List Int} {c0 c1 c2 c3 c4 w p ph pt wh bg sh e la : Int} (R : Rl w p ph pt wh bg sh) {o1 o2 o3 o4 o5 o6 o7 o8 o9 o10 o11 o12 u1 u2 u3 : Option AV} {a : Addr} {st k : Int} (t0 : -12 ≤ st) (t1 : st ≤ 12) (k0 : 0 ≤ k) (k1 : k < w)
    {x y : Int} {d : List (Int × Int)} {S : Int} (D : DInv d x y) {pl : List AV} (hpl : pl.length ≤ 100) :
    Ex (lawSx b n env s₀ X0) (forB ml16) [some (.lst (l.map .int)), some (.lst [.int c0, .int c1, .int c2, .int c3, .int c4]), some (.tup [.int w, .int p, .int ph, .int pt, .int wh, .int bg, .int sh]), some (.int (365 * w + p)), some (.int e), some (.int la), u1, o1, u2, u3, some (.int st), some (.lst (wkL w p ph st)), some (.lst (fsL w p ph st)), some (.tup [.int k, .int (G 365 p w ph (st + k) - G 365 p w ph st - 365 * k), .int (G 365 p w ph (st + k) - G 365 p w ph st), .int S, .dI d]), none, some (.int k), none, none, none, none, some (.int w), some (.int p), some (.int ph), some (.int pt), some (.int wh), some (.int bg), some (.int sh), o2, o3, o10, o11, o12, o4, none, o5, o6, o7, o8, o9] (some (14, a, .lst pl))
      (fun o ρ' own' => o = .next ∧ own' = some (14, a, .lst (pl ++ [encP (pairF w p ph st k)])) ∧ ∃ o10 o11 o12 d', ρ' = [some (.lst (l.map .int)), some (.lst [.int c0, .int c1, .int c2, .int c3, .int c4]), some (.tup [.int w, .int p, .int ph, .int pt, .int wh, .int bg, .int sh]), some (.int (365 * w + p)), some (.int e), some (.int la), u1, o1, u2, u3, some (.int st), some (.lst (wkL w p ph st)), some (.lst (fsL w p ph st)), some (.tup [.int (k + 1), .int (G 365 p w ph (st + (k + 1)) - G 365 p w ph st - 365 * (k + 1)), .int (G 365 p w ph (st + (k + 1)) - G 365 p w ph st), .int (S + G 365 p w ph (st + k)), .dI d']), none, some (.int k), none, none, none, none, some (.int w), some (.int p), some (.int ph), some (.int pt), some (.int wh), some (.int bg), some (.int sh), o2, o3, o10, o11, o12, o4, none, o5, o6, o7, o8, o9] ∧
        ((sizeF p w ph (st + k) = 365 ∧ DInv d' (x + 1) y) ∨ (sizeF p w ph (st + k) = 366 ∧ DInv d' x (y + 1)))) := by
  obtain ⟨w2, w8, p0, pw, h0, hw, m, g0, g1, s0, s7⟩ := R
  have st1 := sizeF_step (w := w) (p := p) (ph := ph) (by omega) p0 pw (st + k)
  have hz := size_or p w ph (st + k)
  unfold ml16 forB
  refine Ex_asg (d := .int (getI ((fsL w p ph st).getD (k + 1).toNat .none) - getI ((fsL w p ph st).getD k.toNat .none))) ok rfl ?_ (by simp) ?_
  · refine ⟨⟨trivial, ⟨trivial, trivial, trivial⟩, by omega, by omega, ?_⟩, ⟨trivial, trivial, by omega, by omega, ?_⟩, trivial⟩
    · rw [fs_getD (by omega) (by omega), fs_at (by omega) (by omega)]; rfl
    · rw [fs_getD (by omega) (by omega), fs_at (by omega) (by omega)]; rfl
  rw [fs_getD (by omega) (by omega), fs_getD (by omega) (by omega)]
  have e1 : getI (.int (G 365 p w ph (st + (k + 1)))) - getI (.int (G 365 p w ph (st + k))) = sizeF p w ph (st + k) := by
    show G 365 p w ph (st + (k + 1)) - G 365 p w ph (st + k) = _
    rw [show st + (k + 1) = st + k + 1 by omega, st1]; omega
  rw [e1]
  refine Ex_asg (d := .int ((st + k) % 4)) ok rfl (by simp) (by simp) ?_
  have f := sl_facts hz (c := (st + k) % 4) (by omega) (by omega)
  refine Ex_asg (d := .str (Str.ofString (toString (sizeF p w ph (st + k))))) ok rfl ?_ (by simp) ?_
  · refine ⟨⟨trivial, trivial⟩, ?_⟩
    rcases hz with q | q <;> rw [q] <;> decide +kernel
  refine Ex_app (d := encP (pairF w p ph st k)) ok rfl ?_ (by omega) ?_
  · have l1 : (Str.ofString "]").length = 1 := by decide +kernel
    have l2 : (Str.ofString "[").length = 1 := by decide +kernel
    simp only [len_app, sizeLine_eq]
    obtain ⟨f1, f2, f3, _⟩ := f
    generalize Str.ofString (toString (sizeF p w ph (st + k))) = tz at f1 f2 f3 ⊢
    simp [truthC]
    omega
  have hfi := fs_getD (w := w) (p := p) (ph := ph) (st := st) (k := k) (by omega) (by omega)
  refine Ex_asg (d := .tup [.int (1 + k), .int (sizeF p w ph (st + k) - 365 + (G 365 p w ph (st + k) - G 365 p w ph st - 365 * k)), .int (sizeF p w ph (st + k) + (G 365 p w ph (st + k) - G 365 p w ph st)), .int (getI ((fsL w p ph st).getD k.toNat .none) + S), .dI (addL (copyL d) [(sizeF p w ph (st + k), 1)])]) ok rfl ?_ (by simp) (Ex_nil ⟨rfl, rfl, some (.int (sizeF p w ph (st + k))), some (.int ((st + k) % 4)), some (.str (Str.ofString (toString (sizeF p w ph (st + k))))), addL (copyL d) [(sizeF p w ph (st + k), 1)], ?_, ?_⟩)
  · have hl := D.len
    have hfa := fs_at (w := w) (p := p) (ph := ph) (st := st) (k := k) (by omega) (by omega)
    refine ⟨?_, by show d.length + 1 ≤ 900; omega⟩
    simp only [hfi, hfa]
    simp [getI]
    omega
  · have hA : 1 + k = k + 1 := by omega
    have hB : sizeF p w ph (st + k) - 365 + (G 365 p w ph (st + k) - G 365 p w ph st - 365 * k) = G 365 p w ph (st + (k + 1)) - G 365 p w ph st - 365 * (k + 1) := by rw [show st + (k + 1) = st + k + 1 by omega, st1]; omega
    have hC : sizeF p w ph (st + k) + (G 365 p w ph (st + k) - G 365 p w ph st) = G 365 p w ph (st + (k + 1)) - G 365 p w ph st := by rw [show st + (k + 1) = st + k + 1 by omega, st1]; omega
    have hD : getI ((fsL w p ph st).getD k.toNat .none) + S = S + G 365 p w ph (st + k) := by rw [hfi]; show G 365 p w ph (st + k) + S = _; omega
    rw [hA, hB, hC, hD]; rfl
  · rcases hz with q | q <;> rw [q]
    · exact .inl ⟨rfl, D.s365⟩
    · exact .inr ⟨rfl, D.s366⟩
end
end NC
end Mine
namespace Mine
noncomputable section NC
noncomputable def okE (e : AV) : Prop := isPy e = true ∧ (pyOf e).canLay0 = true ∧ (pyOf e).depth ≤ 5
theorem okE_list : ∀ {l : List AV}, (∀ e ∈ l, okE e) → isPyL l = true ∧ PyData.canLayAll0 (pyOfL l) = true ∧ PyData.depthAll (pyOfL l) ≤ 5
  | [], _ => ⟨rfl, rfl, by simp [pyOfL, PyData.depthAll]⟩
  | e :: l, h => by
    obtain ⟨h1, h2, h3⟩ := h e (by simp)
    obtain ⟨g1, g2, g3⟩ := okE_list (l := l) fun x hx => h x (by simp [hx])
    refine ⟨by simp [isPyL, h1, g1], by simp [pyOfL, PyData.canLayAll0, h2, g2], ?_⟩
    simp only [pyOfL, PyData.depthAll]
    omega
theorem eqC_list {l : List AV} (h : ∀ e ∈ l, okE e) : eqC (.lst l) (.lst l) := by
  obtain ⟨g1, g2, g3⟩ := okE_list h
  refine .inl ⟨rfl, by simpa [isPy] using g1, ?_⟩
  unfold SeqAt.shaped
  simp only [pyOf, PyData.canLay0, PyData.depth, g2, Bool.true_and, decide_eq_true_eq]
  omega
theorem upL_range : ∀ (n : Nat) (a : Int), upL a n = (List.range n).map fun i => a + (i : Nat)
  | 0, _ => rfl
  | n + 1, a => by rw [upL_snoc, upL_range n a, List.range_succ, List.map_append]; rfl
noncomputable def dueF (w p ph st : Int) (d : AV) : AV := bif decide (pI 1 ((wkL w p ph st).getD (getI d).toNat .none) = 365) then .tup [.int (st + getI d), .str (Str.ofString "365]")] else .tup [.str (Str.ofString ""), .str (Str.ofString "")]
theorem due_okE (w p ph st : Int) (d : AV) : okE (dueF w p ph st d) := by
  unfold dueF
  cases decide (pI 1 ((wkL w p ph st).getD (getI d).toNat .none) = 365)
  · show okE (.tup [.str (Str.ofString ""), .str (Str.ofString "")])
    exact ⟨rfl, by decide +kernel, by decide +kernel⟩
  · show okE (.tup [.int (st + getI d), .str (Str.ofString "365]")])
    refine ⟨rfl, ?_, by simp [pyOf, pyOfL, PyData.depth, PyData.depthAll]⟩
    show PyData.canLay0 (.tuple [.int _, .str (Str.ofString "365]")]) = true
    simp only [PyData.canLay0, PyData.canLayAll0]
    decide +kernel
noncomputable def prL (w p ph st : Int) (k : Nat) : List AV := (upL 0 k).map fun k => encP (pairF w p ph st k)
theorem prL_step (w p ph st : Int) (k : Nat) : prL w p ph st (k + 1) = prL w p ph st k ++ [encP (pairF w p ph st k)] := by
  unfold prL; rw [upL_snoc, List.map_append]; simp
theorem prL_pOf (w p ph st : Int) (k : Nat) : (prL w p ph st k).map pOf = (upL 0 k).map (pairF w p ph st) := by
  unfold prL; rw [List.map_map]; rfl
theorem due_eq (w p ph st : Int) : ((prL w p ph st w.toNat).map pOf).map postF = (rangeL 0 w).map (dueF w p ph st) := by
  rw [prL_pOf, upL_range, rangeL, Int.sub_zero, List.map_map, List.map_map, List.map_map]
  refine List.map_congr_left fun i hi => ?_
  rw [List.mem_range] at hi
  simp only [Function.comp]
  have hk0 : (0 : Int) ≤ 0 + (i : Nat) := by omega
  have hk1 : (0 : Int) + (i : Nat) < w := by omega
  generalize (0 : Int) + (i : Nat) = k at *
  unfold dueF pairF postF
  show _ = bif decide (pI 1 ((wkL w p ph st).getD k.toNat .none) = 365) then _ else _
  rw [wk_getD hk0 hk1]
  have f := sl_facts (size_or p w ph (st + k)) (c := (st + k) % 4) (by omega) (by omega)
  show _ = bif decide (sizeF p w ph (st + k) = 365) then _ else _
  rcases size_or p w ph (st + k) with q | q
  · rw [q] at f
    have f4 := f.2.2.2.1 rfl
    simp only [q, f4.2, decide_true, cond_true, cond_false]
    rw [f4.1]; rfl
  · rw [q] at f
    have f5 := f.2.2.2.2 rfl
    simp only [q, f5, cond_true]
    rfl
theorem wk_firsts (w p ph st : Int) : (wkL w p ph st).map (pI 0) = (upL st w.toNat).map fun y => G 365 p w ph y := by
  unfold wkL
  rw [List.map_map]; rfl
end NC
end Mine
namespace Mine
noncomputable section NC
theorem evOk_eq {c : Cx} {env : Env} {names : List Str} {kd : Str → Option NameKind} {ρ : Rho} {e : Expr} {d d' : AV} (h : EvOk c env names kd ρ e d) (q : d = d') : EvOk c env names kd ρ e d' := q ▸ h
section
variable {b : Base} {K : Frag} {n : Nat} {env : Env} {s₀ : Shared} {X0 : Addr → Prop} {Post : PostT} {rest : List MS}
/-- what changes from year to year -/
structure GV where
  k : Int
  x : Int
  y : Int
  d : List (Int × Int)
  o10 : Option AV
  o11 : Option AV
  o12 : Option AV
  o13 : Option AV
structure GP (w p ph st : Int) (a : Addr) (mk : GV → Rho) (v : GV) (rs : List AV) (ρ : Rho) (own : OwnO) : Prop where
  k0 : 0 ≤ v.k
  k1 : v.k ≤ w
  hr : rs = rangeL v.k w
  D : DInv v.d v.x v.y
  hxy : v.x + v.y = v.k
  hy : v.y = G 365 p w ph (st + v.k) - G 365 p w ph st - 365 * v.k
  e1 : own = some (14, a, .lst (prL w p ph st v.k.toNat))
  e2 : ρ = mk v
set_option maxHeartbeats 4000000 in
theorem seg_g (ok : SxOk (lawSx b n env s₀ X0)) {l : List Int} {c0 c1 c2 c3 c4 w p ph pt wh bg sh e la : Int} (R : Rl w p ph pt wh bg sh) {o1 o2 o3 o4 o5 o6 o7 o8 o9 u1 u2 u3 : Option AV} {a : Addr} {st : Int} (t0 : -12 ≤ st) (t1 : st ≤ 12)
    (h : ∀ (o10 o11 o12 o13 : Option AV) (d : List (Int × Int)), DInv d (w - p) p → Ex (lawSx b n env s₀ X0) rest [some (.lst (l.map .int)), some (.lst [.int c0, .int c1, .int c2, .int c3, .int c4]), some (.tup [.int w, .int p, .int ph, .int pt, .int wh, .int bg, .int sh]), some (.int (365 * w + p)), some (.int e), some (.int la), u1, o1, u2, u3, some (.int st), some (.lst (wkL w p ph st)), some (.lst (fsL w p ph st)), some (.tup [.int w, .int p, .int (365 * w + p), .int (sumG w p ph st w.toNat), .dI d]), some (.lst (prL w p ph st w.toNat)), o13, none, none, none, none, some (.int w), some (.int p), some (.int ph), some (.int pt), some (.int wh), some (.int bg), some (.int sh), o2, o3, o10, o11, o12, o4, none, o5, o6, o7, o8, o9] none Post) :
    Ex (lawSx b n env s₀ X0) (ml16 :: rest) [some (.lst (l.map .int)), some (.lst [.int c0, .int c1, .int c2, .int c3, .int c4]), some (.tup [.int w, .int p, .int ph, .int pt, .int wh, .int bg, .int sh]), some (.int (365 * w + p)), some (.int e), some (.int la), u1, o1, u2, u3, some (.int st), some (.lst (wkL w p ph st)), some (.lst (fsL w p ph st)), some (.tup [.int 0, .int 0, .int 0, .int 0, .dI []]), none, none, none, none, none, none, some (.int w), some (.int p), some (.int ph), some (.int pt), some (.int wh), some (.int bg), some (.int sh), o2, o3, none, none, none, o4, none, o5, o6, o7, o8, o9] (some (14, a, .lst [])) Post := by
  have R' := R
  obtain ⟨w2, w8, p0, pw, h0, hw, m, g0, g1, s0, s7⟩ := R
  refine Ex_for ok (fun ie te _ hi => hit_rng ok (e := .var 20) (n := w) rfl trivial (by omega) (by omega) ie te hi)
    (fun rs ρ own => ∃ v, GP w p ph st a (fun v => [some (.lst (l.map .int)), some (.lst [.int c0, .int c1, .int c2, .int c3, .int c4]), some (.tup [.int w, .int p, .int ph, .int pt, .int wh, .int bg, .int sh]), some (.int (365 * w + p)), some (.int e), some (.int la), u1, o1, u2, u3, some (.int st), some (.lst (wkL w p ph st)), some (.lst (fsL w p ph st)), some (.tup [.int v.k, .int (G 365 p w ph (st + v.k) - G 365 p w ph st - 365 * v.k), .int (G 365 p w ph (st + v.k) - G 365 p w ph st), .int (sumG w p ph st v.k.toNat), .dI v.d]), none, v.o13, none, none, none, none, some (.int w), some (.int p), some (.int ph), some (.int pt), some (.int wh), some (.int bg), some (.int sh), o2, o3, v.o10, v.o11, v.o12, o4, none, o5, o6, o7, o8, o9]) v rs ρ own) ?_ ?_ ?_
  · refine ⟨⟨0, 0, 0, [], none, none, none, none⟩, by dsimp only; omega, by dsimp only; omega, rfl, .inl ⟨rfl, rfl, rfl⟩, rfl, by dsimp only; rw [Int.add_zero]; omega, rfl, ?_⟩
    dsimp only
    rw [show G 365 p w ph (st + 0) - G 365 p w ph st - 365 * 0 = 0 by rw [Int.add_zero]; omega, show G 365 p w ph (st + 0) - G 365 p w ph st = 0 by rw [Int.add_zero]; omega]
    rfl
  · rintro d rs ρ own ⟨⟨k, x, y, dd, o10, o11, o12, o13⟩, k0, k1, hr, D, hxy, hy, rfl, rfl⟩
    dsimp only at *
    rcases (by omega : k < w ∨ w ≤ k) with hlt | hge
    case inr => rw [rangeL_nil hge] at hr; cases hr
    rw [rangeL_cons hlt] at hr
    injection hr with r1 r2
    subst r1; subst r2
    refine ⟨_, rfl, by simp [Tg.names], ?_⟩
    refine (pair_body (o10 := o10) (o11 := o11) (o12 := o12) ok R' (pl := prL w p ph st k.toNat) t0 t1 k0 hlt D (by unfold prL; rw [List.length_map, upL_len]; omega)).mono ?_
    rintro o ρ' own' ⟨rfl, rfl, o10, o11, o12, d', rfl, hd⟩
    have st1 := sizeF_step (w := w) (p := p) (ph := ph) (by omega) p0 pw (st + k)
    rw [show st + k + 1 = st + (k + 1) by omega] at st1
    have hk : (k + 1).toNat = k.toNat + 1 := by omega
    have hpr := prL_step w p ph st k.toNat
    have hsg := sumG_step w p ph st k.toNat
    rw [show ((k.toNat : Nat) : Int) = k by omega] at hpr hsg
    rcases hd with ⟨hz, hd⟩ | ⟨hz, hd⟩
    · refine ⟨⟨k + 1, x + 1, y, d', o10, o11, o12, some (.int k)⟩, by dsimp only; omega, by dsimp only; omega, rfl, hd, by dsimp only; omega, by dsimp only; omega, by dsimp only; rw [hk, hpr], ?_⟩
      dsimp only
      rw [hk, hsg]
    · refine ⟨⟨k + 1, x, y + 1, d', o10, o11, o12, some (.int k)⟩, by dsimp only; omega, by dsimp only; omega, rfl, hd, by dsimp only; omega, by dsimp only; omega, by dsimp only; rw [hk, hpr], ?_⟩
      dsimp only
      rw [hk, hsg]
  · rintro ρ own ⟨⟨k, x, y, dd, o10, o11, o12, o13⟩, k0, k1, hr, D, hxy, hy, rfl, rfl⟩
    dsimp only at *
    rcases (by omega : k < w ∨ w ≤ k) with hlt | hge
    · rw [rangeL_cons hlt] at hr; cases hr
    obtain rfl : k = w := by omega
    have cy := G_cycle (base := 365) (p := p) (b := ph) (w := k) (by omega) st 1
    rw [Int.one_mul, Int.one_mul] at cy
    have hB : G 365 p k ph (st + k) - G 365 p k ph st - 365 * k = p := by omega
    have hC : G 365 p k ph (st + k) - G 365 p k ph st = 365 * k + p := by omega
    rw [hB, hC]
    refine Ex_frz ok id ?_
    exact h o10 o11 o12 o13 dd (by rw [show k - p = x by omega]; rw [hB] at hy; rw [← hy]; exact D)
set_option maxHeartbeats 4000000 in
theorem seg_h (ok : SxOk (lawSx b n env s₀ X0)) {l : List Int} {c0 c1 c2 c3 c4 w p ph pt wh bg sh e la : Int} (R : Rl w p ph pt wh bg sh) {o1 o2 o3 o4 o5 o6 o7 o8 o9 o10 o11 o12 o13 u1 u2 u3 : Option AV} {st : Int} (t0 : -12 ≤ st) (t1 : st ≤ 12)
    {d : List (Int × Int)} (D : DInv d (w - p) p) (h : ∀ (u4 u5 u6 u7 u8 : Option AV), Ex (lawSx b n env s₀ X0) rest [some (.lst (l.map .int)), some (.lst [.int c0, .int c1, .int c2, .int c3, .int c4]), some (.tup [.int w, .int p, .int ph, .int pt, .int wh, .int bg, .int sh]), some (.int (365 * w + p)), some (.int e), some (.int la), u1, o1, u2, u3, some (.int st), some (.lst (wkL w p ph st)), u8, u5, u4, o13, u6, u7, none, none, some (.int w), some (.int p), some (.int ph), some (.int pt), some (.int wh), some (.int bg), some (.int sh), o2, o3, o10, o11, o12, o4, none, o5, o6, o7, o8, o9] none Post) :
    Ex (lawSx b n env s₀ X0) (ml17 :: ml18 :: ml19 :: ml20 :: rest) [some (.lst (l.map .int)), some (.lst [.int c0, .int c1, .int c2, .int c3, .int c4]), some (.tup [.int w, .int p, .int ph, .int pt, .int wh, .int bg, .int sh]), some (.int (365 * w + p)), some (.int e), some (.int la), u1, o1, u2, u3, some (.int st), some (.lst (wkL w p ph st)), some (.lst (fsL w p ph st)), some (.tup [.int w, .int p, .int (365 * w + p), .int (sumG w p ph st w.toNat), .dI d]), some (.lst (prL w p ph st w.toNat)), o13, none, none, none, none, some (.int w), some (.int p), some (.int ph), some (.int pt), some (.int wh), some (.int bg), some (.int sh), o2, o3, o10, o11, o12, o4, none, o5, o6, o7, o8, o9] none Post := by
  obtain ⟨w2, w8, p0, pw, h0, hw, m, g0, g1, s0, s7⟩ := R
  refine Ex_comp (k := 17) (is := [10, 11]) (ρ' := [some (.int st), some (.lst (wkL w p ph st))]) (f := dueF w p ph st) (ds := rangeL 0 w) ok at17 (i := 16) (by decide +kernel) (by decide +kernel)
    (fun ie te hi => hit_rng ok (e := .var 20) (n := w) rfl trivial (by omega) (by omega) ie te hi) (by rw [rangeL_len]; omega) rfl (fun d hd => ?_) ?_
  · obtain ⟨k, k0, k1, rfl⟩ := rangeL_mem hd
    refine ⟨_, rfl, ?_⟩
    simp only [wk_getD k0 k1, wk_at k0 k1]
    simp [pI, getI, truthC]
    omega
  refine Ex_ite (z := .bool false) ok rfl ?_ rfl trivial (fun ht => by cases ht) (fun _ => Ex_nil ?_)
  · refine ⟨⟨⟨trivial, trivial⟩, ?_, ?_⟩, trivial, ?_⟩
    · rw [prL_pOf]; unfold prL; rw [List.map_map]; rfl
    · unfold prL; rw [List.length_map, upL_len]; omega
    · rw [due_eq]
      refine eqC_list fun e he => ?_
      rw [List.mem_map] at he
      obtain ⟨d, _, rfl⟩ := he
      exact due_okE _ _ _ _ _
  refine Ex_asg (d := .dI [(365, w - p), (366, p)]) ok rfl (by simp) (by simp) ?_
  generalize hL : ([(365, w - p), (366, p)] : List (Int × Int)) = L
  refine hide fun Gl kG => ?_
  obtain ⟨lB, ea, eb, ec, sp, px, elt, iter, scope, lp, kx, vx, kpx, kiter, tx, kscope, kp, callp, tk, tp, cpos, body, pos, hAt, ⟨b1, b2, b3, b4⟩, ⟨p1, p2, p3, y1, q1, rfl⟩, k1, k2, k3, k4, k5, y2, q2, rfl⟩ := at20
  have g5 : getL L 365 = some (w - p) := by rw [← hL]; simp [getL]
  have g6 : getL L 366 = some p := by rw [← hL]; simp [getL]
  let t : AV → Bool := fun d => decide (0 < (getL L (getI d)).getD 0)
  let vf : AV → Int := fun d => (getL L (getI d)).getD 0
  have hds : (L.map fun q => AV.int q.1) = [.int 365, .int 366] := by rw [← hL]; rfl
  have hfin := D.fin (t := t) (kf := getI) (vf := vf) (by show decide (0 < (getL L 365).getD 0) = _; rw [g5]; rfl) (by show decide (0 < (getL L 366).getD 0) = _; rw [g6]; rfl) rfl rfl (by show (getL L 365).getD 0 = _; rw [g5]; rfl) (by show (getL L 366).getD 0 = _; rw [g6]; rfl)
  refine kG (Ex_ifF ok (m := ml20) (fun st hs => (ext_st rfl hs).trans hAt) (fun X s S => ?_) (h _ _ _ _ _))
  obtain ⟨⟨v1, pl1, v2, pl2, v3, pl3, _⟩, _⟩ := soundL (env := env) ok.c [.var 20, .var 21, .var 3] [ea, eb, ec] [.int w, .int p, .int (365 * w + p)] _ b2 (ρ := [some (.lst (l.map .int)), some (.lst [.int c0, .int c1, .int c2, .int c3, .int c4]), some (.tup [.int w, .int p, .int ph, .int pt, .int wh, .int bg, .int sh]), some (.int (365 * w + p)), some (.int e), some (.int la), u1, o1, u2, u3, some (.int st), some (.lst (wkL w p ph st)), some (.lst (fsL w p ph st)), some (.tup [.int w, .int p, .int (365 * w + p), .int (sumG w p ph st w.toNat), .dI d]), some (.lst (prL w p ph st w.toNat)), o13, some (.lst ((rangeL 0 w).map (dueF w p ph st))), some (.dI L), none, none, some (.int w), some (.int p), some (.int ph), some (.int pt), some (.int wh), some (.int bg), some (.int sh), o2, o3, o10, o11, o12, o4, none, o5, o6, o7, o8, o9]) rfl ⟨trivial, trivial, trivial, trivial⟩
  refine tr_cmp (x := .tup [.int w, .int p, .int (365 * w + p), .int (sumG w p ph st w.toNat), .dI d]) (y := .tup [.int w, .int p, .int (365 * w + p), .int (sumG w p ph st w.toNat), .dI (dcF t getI vf [.int 365, .int 366])])
    (sound ok.c (.var 13) lB _ True b1 rfl trivial).1 (ev_tup ok.c.w ⟨v1, pl1, v2, pl2, v3, pl3, ?_, rfl, ?_, rfl, trivial⟩ (by simp)) rfl rfl (.inr ⟨_, _, _, _, _, _, rfl, rfl, hfin⟩)
  · have hs : sumG w p ph st w.toNat = ((wkL w p ph st).map (pI 0)).sum := by unfold sumG; rw [wk_firsts]
    refine evOk_eq ?_ (congrArg AV.int hs.symm)
    refine ev_sum ok.c.w b4 ⟨?_, rfl, trivial⟩ ?_
    · rw [List.map_map]
      refine ev_comp ok.c.w (compFr_of (x := lawSx b n env s₀ X0) (is := []) (ρ' := []) p1 rfl S) (it_list ok.c.w (sound ok.c (.var 11) _ _ True p3 rfl trivial).1) (by rw [sizeLine_eq]; unfold wkL; rw [List.length_map, upL_len]; omega) (fun d hd C => ?_) (fun v => folded_plain rfl v)
      unfold wkL at hd
      rw [List.mem_map] at hd
      obtain ⟨y, _, rfl⟩ := hd
      exact (sound ok.c me20e elt _ _ p2 rfl (by simp)).1
    · refine sumFits_small (fun x hx => ?_) (by rw [List.length_map]; unfold wkL; rw [List.length_map, upL_len]; omega)
      rw [wk_firsts, List.mem_map] at hx
      obtain ⟨y, hy, rfl⟩ := hx
      rw [upL_range, List.mem_map] at hy
      obtain ⟨i, hi, rfl⟩ := hy
      rw [List.mem_range] at hi
      have := G_bd (w := w) (p := p) (ph := ph) (y := st + (i : Nat)) (N := 100) (by omega) w8 p0 pw h0 hw (by omega) (by omega) (by omega) (by omega)
      omega
  · rw [← hds]
    have hk : ∀ d ∈ (L.map fun q => AV.int q.1), ∃ k v : Int, d = .int k ∧ getL L k = some v := fun d hd => by
      rw [hds] at hd
      simp only [List.mem_cons, List.not_mem_nil, or_false] at hd
      rcases hd with rfl | rfl
      · exact ⟨_, _, rfl, g5⟩
      · exact ⟨_, _, rfl, g6⟩
    refine ev_dcomp ok.c.w (compFr_of (x := lawSx b n env s₀ X0) (is := [17]) (ρ' := [some (.dI L)]) k1 rfl S) (it_keys ok.c.w .int (enc_int _) (dictRep_I _ L) (sound ok.c (.var 17) _ _ True k5 rfl trivial).1) (by rw [sizeLine_eq, hds]; decide) (fun d hd C => ?_) (fun d hd _ C => ?_) (fun d hd _ C => ?_) (fun v => folded_plain rfl v)
    · obtain ⟨k, v, rfl, hv⟩ := hk d hd
      exact (sound ok.c me20t tx (.bool (decide (0 < (getL L k).getD 0))) _ k4 rfl (by simp [hv])).2 _ rfl trivial
    · obtain ⟨k, v, rfl, hv⟩ := hk d hd
      exact (sound ok.c (.var 0) kx _ _ k2 rfl trivial).1
    · obtain ⟨k, v, rfl, hv⟩ := hk d hd
      exact (sound ok.c (.ext 18 [.var 1, .var 0]) vx _ _ k3 rfl (by simp [hv])).1
end
end NC
end Mine
namespace Mine
noncomputable section NC
theorem sl_three {d r : Str} (h : d.length = 3) : slS (d ++ r) none (some 3) = d := by
  have hl : (d ++ r).length = 3 + r.length := by rw [len_app, h]
  have hi : Builtin.Str.strSliceIndices none (some 3) 1 (d ++ r).length = [0, 1, 2] := by
    rw [hl]
    unfold Builtin.Str.strSliceIndices
    simp only [show ¬ ((3 : Int) < 0) by omega, if_false, show ((1 : Int) > 0) by omega, if_true]
    rw [show max (0 : Int) (min 3 ((3 + r.length : Nat) : Int)) = 3 by omega]
    decide +kernel
  have hd : d = ⟨#[d.cps.toList.getD 0 0, d.cps.toList.getD 1 0, d.cps.toList.getD 2 0]⟩ := by
    apply str_ext
    have h3 : d.cps.toList.length = 3 := by rw [Array.length_toList]; exact h
    rcases hq : d.cps.toList with _ | ⟨a, _ | ⟨b, _ | ⟨c, _ | ⟨e, q⟩⟩⟩⟩ <;> rw [hq] at h3 <;> simp at h3
    rfl
  unfold slS
  rw [hi]
  by_cases q : ([0, 1, 2] : List Nat).length == (d ++ r).length
  · rw [if_pos q]
    rw [hl] at q
    have hr : r.length = 0 := by simpa using q
    have : r.cps.toList = [] := by
      have : r.cps.toList.length = 0 := by rw [Array.length_toList]; exact hr
      exact List.length_eq_zero_iff.mp this
    apply str_ext
    rw [toList_append, this, List.append_nil]
  · rw [if_neg q]
    apply str_ext
    have hc : (d ++ r).cps.toList = d.cps.toList ++ r.cps.toList := toList_append d r
    have h3 : d.cps.toList.length = 3 := by rw [Array.length_toList]; exact h
    have hg : ∀ i : Nat, (d ++ r).cps[i]? = (d.cps.toList ++ r.cps.toList)[i]? := fun i => by rw [← hc]; simp
    simp only [List.filterMap_cons, List.filterMap_nil, hg]
    rcases hq : d.cps.toList with _ | ⟨a, _ | ⟨b, _ | ⟨c, _ | ⟨e, q⟩⟩⟩⟩ <;> rw [hq] at h3 <;> simp at h3
    simp
theorem sl_line {wd : Int} (h0 : 0 ≤ wd) (h1 : wd < 7) (m z : Str) (dd y n5 n6 n7 : Int) : slS (fmtT (dN wd) m z dd y n5 n6 n7) none (some 3) = dN wd := by
  unfold fmtT
  have ass : ∀ a b c : Str, a ++ b ++ c = a ++ (b ++ c) := fun a b c => by apply str_ext; simp only [toList_append, List.append_assoc]
  simp only [ass]
  exact sl_three (dN_ok h0 h1).2
/-- the table of week-days, k years of a cycle on *)-/
noncomputable def tbF (a c : Int) : Nat → List (Str × Int)
  | 0 => []
  | k + 1 => addL (copyL (tbF a c k)) [(dN ((a + c * (k : Nat)) % 7), 1)]
theorem tbF_len (a c : Int) : ∀ k, (tbF a c k).length ≤ k
  | 0 => by simp [tbF]
  | k + 1 => by
    have h1 := tbF_len a c k
    have h2 := copyL_len (tbF a c k)
    have h3 := addL_len (copyL (tbF a c k)) [(dN ((a + c * (k : Nat)) % 7), 1)]
    rw [tbF]
    simp at h3
    omega
noncomputable def tbOk (t : List (Str × Int)) (z : Bool) : Bool := (t.all fun q => (getL t q.1).isSome) && ((t.map fun q => (getL t q.1).getD 0) == (if z then [7] else [1, 1, 1, 1, 1, 1, 1])) && ((t.map (·.2)).sum == 7)
theorem tb_all : ∀ a c : Fin 7, tbOk (tbF (a.val : Nat) (c.val : Nat) 7) (c.val == 0) = true := by decide +kernel
theorem tb_mod (a c : Int) : ∀ k, tbF a c k = tbF (a % 7) (c % 7) k
  | 0 => rfl
  | k + 1 => by
    rw [tbF, tbF, tb_mod a c k]
    suffices q : (a + c * (k : Nat)) % 7 = (a % 7 + c % 7 * (k : Nat)) % 7 by rw [q]
    have h : c * (k : Nat) = c % 7 * (k : Nat) + 7 * (c / 7 * (k : Nat)) := by
      rw [← Int.mul_assoc, ← Int.add_mul, Int.emod_add_mul_ediv]
    generalize c % 7 * ((k : Nat) : Int) = x at *
    generalize c / 7 * ((k : Nat) : Int) = y at *
    omega
theorem fin7 (a : Int) : ∃ x : Fin 7, ((x.val : Nat) : Int) = a % 7 := ⟨⟨(a % 7).toNat, by omega⟩, by show (((a % 7).toNat : Nat) : Int) = _; omega⟩
theorem tb_fin (a c : Int) : tbOk (tbF a c 7) (decide (c % 7 = 0)) = true := by
  obtain ⟨x, hx⟩ := fin7 a
  obtain ⟨y, hy⟩ := fin7 c
  rw [tb_mod, ← hx, ← hy]
  have h := tb_all x y
  have hd : decide (((y.val : Nat) : Int) = 0) = (y.val == 0) := by
    by_cases q : y.val = 0
    · simp [q]
    · simp [q]
  rw [hd]
  exact h
end NC
end Mine
namespace Mine
noncomputable section NC
section
variable {b : Base} {K : Frag} {n : Nat} {env : Env} {s₀ : Shared} {X0 : Addr → Prop} {Post : PostT} {rest : List MS}
set_option maxHeartbeats 4000000 in
theorem tab_body (ok : SxOk (lawSx b n env s₀ X0)) {l : List Int} {c0 c1 c2 c3 c4 w p ph pt wh bg sh e la : Int} (R : Rl w p ph pt wh bg sh) {o1 o2 o3 o4 o5 o6 o7 o8 o9 o10 o11 o12 o14 u1 u2 u3 u4 u5 u6 u7 u8 : Option AV} {st : Int} (t0 : -12 ≤ st) (t1 : st ≤ 12)
    {k : Nat} (hk : k < 7) :
    Ex (lawSx b n env s₀ X0) (forB ml22) [some (.lst (l.map .int)), some (.lst [.int c0, .int c1, .int c2, .int c3, .int c4]), some (.tup [.int w, .int p, .int ph, .int pt, .int wh, .int bg, .int sh]), some (.int (365 * w + p)), some (.int e), some (.int la), u1, o1, u2, u3, some (.int st), some (.lst (wkL w p ph st)), u8, u5, u4, some (.int (k : Nat)), u6, u7, some (.dS (tbF (G 365 p w ph st + sh) (365 * w + p) k)), none, some (.int w), some (.int p), some (.int ph), some (.int pt), some (.int wh), some (.int bg), some (.int sh), o2, o3, o10, o11, o12, o4, o14, o5, o6, o7, o8, o9] none
      (fun o ρ' own' => o = .next ∧ own' = none ∧ ∃ o3 o4 o14, ρ' = [some (.lst (l.map .int)), some (.lst [.int c0, .int c1, .int c2, .int c3, .int c4]), some (.tup [.int w, .int p, .int ph, .int pt, .int wh, .int bg, .int sh]), some (.int (365 * w + p)), some (.int e), some (.int la), u1, o1, u2, u3, some (.int st), some (.lst (wkL w p ph st)), u8, u5, u4, some (.int (k : Nat)), u6, u7, some (.dS (tbF (G 365 p w ph st + sh) (365 * w + p) (k + 1))), none, some (.int w), some (.int p), some (.int ph), some (.int pt), some (.int wh), some (.int bg), some (.int sh), o2, o3, o10, o11, o12, o4, o14, o5, o6, o7, o8, o9]) := by
  obtain ⟨w2, w8, p0, pw, h0, hw, m, g0, g1, s0, s7⟩ := R
  have hkw := mul_bd (a := (k : Nat)) (d := w) (A := 7) (N := 8) (by omega) (by omega) (by omega) (by omega) (by omega)
  have hkw0 : (0 : Int) ≤ (k : Nat) * w := Int.mul_nonneg (by omega) (by omega)
  have hgb := G_bd (w := w) (p := p) (ph := ph) (y := st + (k : Nat) * w) (N := 100) (by omega) w8 p0 pw h0 hw (by omega) (by omega) (by omega) (by omega)
  have cy := G_cycle (base := 365) (p := p) (b := ph) (w := w) (by omega) st (k : Nat)
  have hd0 : 0 ≤ (G 365 p w ph (st + (k : Nat) * w) + sh) % 7 := Int.emod_nonneg _ (by omega)
  have hd7 : (G 365 p w ph (st + (k : Nat) * w) + sh) % 7 < 7 := Int.emod_lt_of_pos _ (by omega)
  have hz : (Str.ofString "-0000").length ≤ 1000000 := by decide +kernel
  unfold ml22 forB
  refine Ex_asg (d := .int (st + (k : Nat) * w)) ok rfl (by simp; omega) (by simp) ?_
  refine Ex_asg (d := .int (G 365 p w ph (st + (k : Nat) * w))) ok rfl (by simp; omega) (by simp) ?_
  refine Ex_asg (d := .str (fmtT (dN ((G 365 p w ph (st + (k : Nat) * w) + sh) % 7)) (mN (1 - 1)) (Str.ofString "-0000") 1 (st + (k : Nat) * w) 12 0 0)) ok rfl ?_ (by simp) ?_
  · simp; omega
  have hw0 := wk_getD (w := w) (p := p) (ph := ph) (st := st) (k := 0) (by omega) (by omega)
  have hw1 := wk_at (w := w) (p := p) (ph := ph) (st := st) (k := 0) (by omega) (by omega)
  have e1 : (pI 0 ((wkL w p ph st).getD (0 : Int).toNat .none) + (k : Nat) * (365 * w + p) + sh) % 7 = (G 365 p w ph (st + (k : Nat) * w) + sh) % 7 := by
    rw [hw0, cy, Int.add_zero]; rfl
  have hlen := tbF_len (G 365 p w ph st + sh) (365 * w + p) k
  have hst : (G 365 p w ph st + sh + (365 * w + p) * (k : Nat)) % 7 = (G 365 p w ph (st + (k : Nat) * w) + sh) % 7 := by
    rw [cy, Int.mul_comm (365 * w + p)]; congr 1; omega
  refine Ex_ite (z := .bool (fmtT (dN ((G 365 p w ph (st + (k : Nat) * w) + sh) % 7)) (mN (1 - 1)) (Str.ofString "-0000") 1 (st + (k : Nat) * w) 12 0 0 != fmtT (dN ((pI 0 ((wkL w p ph st).getD (0 : Int).toNat .none) + (k : Nat) * (365 * w + p) + sh) % 7)) (mN (1 - 1)) (Str.ofString "-0000") 1 (st + (k : Nat) * w) 12 0 0)) ok rfl ?_ rfl trivial (fun ht => ?_) (fun _ => Ex_nil ?_)
  · rw [e1]
    have hw2 : (wkL w p ph st)[0]? = some (.tup [.int (G 365 p w ph (st + 0)), .int (sizeF p w ph (st + 0))]) := by simpa using hw1
    simp [hw2, pI, getI]
    omega
  · rw [e1] at ht; simp at ht
  · have hsl := sl_line hd0 hd7 (mN (1 - 1)) (Str.ofString "-0000") 1 (st + (k : Nat) * w) 12 0 0
    refine Ex_asg (d := .dS (addL (copyL (tbF (G 365 p w ph st + sh) (365 * w + p) k)) [(slS (fmtT (dN ((G 365 p w ph (st + (k : Nat) * w) + sh) % 7)) (mN (1 - 1)) (Str.ofString "-0000") 1 (st + (k : Nat) * w) 12 0 0) none (some 3), 1)])) ok rfl ?_ (by simp) (Ex_nil ⟨rfl, rfl, some (.str (fmtT (dN ((G 365 p w ph (st + (k : Nat) * w) + sh) % 7)) (mN (1 - 1)) (Str.ofString "-0000") 1 (st + (k : Nat) * w) 12 0 0)), some (.int (st + (k : Nat) * w)), some (.int (G 365 p w ph (st + (k : Nat) * w))), ?_⟩)
    · rw [hsl, sizeLine_eq, (dN_ok hd0 hd7).2]
      simp
      omega
    · rw [hsl, tbF, hst]; rfl
theorem okE_int (i : Int) : okE (.int i) := ⟨rfl, rfl, by simp [pyOf, PyData.depth]⟩
set_option maxHeartbeats 4000000 in
theorem seg_k (ok : SxOk (lawSx b n env s₀ X0)) {l : List Int} {c0 c1 c2 c3 c4 w p ph pt wh bg sh e la : Int} (R : Rl w p ph pt wh bg sh) {o1 o2 o3 o4 o5 o6 o7 o8 o9 o10 o11 o12 o13 u1 u2 u3 u4 u5 u6 u7 u8 : Option AV} {st : Int} (t0 : -12 ≤ st) (t1 : st ≤ 12) :
    Ex (lawSx b n env s₀ X0) [ml21, ml22, ml23, ml24] [some (.lst (l.map .int)), some (.lst [.int c0, .int c1, .int c2, .int c3, .int c4]), some (.tup [.int w, .int p, .int ph, .int pt, .int wh, .int bg, .int sh]), some (.int (365 * w + p)), some (.int e), some (.int la), u1, o1, u2, u3, some (.int st), some (.lst (wkL w p ph st)), u8, u5, u4, o13, u6, u7, none, none, some (.int w), some (.int p), some (.int ph), some (.int pt), some (.int wh), some (.int bg), some (.int sh), o2, o3, o10, o11, o12, o4, none, o5, o6, o7, o8, o9] none (fun o _ _ => o = .ret (.bool true)) := by
  have R' := R
  obtain ⟨w2, w8, p0, pw, h0, hw, m, g0, g1, s0, s7⟩ := R
  refine Ex_asg ok rfl (by simp) (by simp) ?_
  refine Ex_for ok (fun ie te _ hi => hit_rng ok (e := .int 7) (n := 7) rfl trivial (by omega) (by omega) ie te hi)
    (fun rs ρ own => ∃ (k : Nat) (o3 o4 o13 o14 : Option AV), k ≤ 7 ∧ rs = rangeL (k : Nat) 7 ∧ own = none ∧
      ρ = [some (.lst (l.map .int)), some (.lst [.int c0, .int c1, .int c2, .int c3, .int c4]), some (.tup [.int w, .int p, .int ph, .int pt, .int wh, .int bg, .int sh]), some (.int (365 * w + p)), some (.int e), some (.int la), u1, o1, u2, u3, some (.int st), some (.lst (wkL w p ph st)), u8, u5, u4, o13, u6, u7, some (.dS (tbF (G 365 p w ph st + sh) (365 * w + p) k)), none, some (.int w), some (.int p), some (.int ph), some (.int pt), some (.int wh), some (.int bg), some (.int sh), o2, o3, o10, o11, o12, o4, o14, o5, o6, o7, o8, o9]) ?_ ?_ ?_
  · exact ⟨0, o3, o4, o13, none, by omega, rfl, rfl, rfl⟩
  · rintro d rs ρ own ⟨k, o3, o4, o13, o14, k1, hr, rfl, rfl⟩
    rcases (by omega : k < 7 ∨ 7 ≤ k) with hlt | hge
    case inr => rw [rangeL_nil (by omega)] at hr; cases hr
    rw [rangeL_cons (by omega)] at hr
    injection hr with r1 r2
    subst r1; subst r2
    refine ⟨_, rfl, by simp, ?_⟩
    refine (tab_body (o14 := o14) ok R' t0 t1 hlt).mono ?_
    rintro o ρ' own' ⟨rfl, rfl, o3, o4, o14, rfl⟩
    exact ⟨k + 1, o3, o4, some (.int (k : Nat)), o14, by omega, rfl, rfl, rfl⟩
  rintro ρ own ⟨k, o3, o4, o13, o14, k1, hr, rfl, rfl⟩
  rcases (by omega : k < 7 ∨ 7 ≤ k) with hlt | hge
  · rw [rangeL_cons (by omega)] at hr; cases hr
  obtain rfl : k = 7 := by omega
  have htb := tb_fin (G 365 p w ph st + sh) (365 * w + p)
  have hlen := tbF_len (G 365 p w ph st + sh) (365 * w + p) 7
  generalize tbF (G 365 p w ph st + sh) (365 * w + p) 7 = T at *
  simp only [tbOk, Bool.and_eq_true, List.all_eq_true, beq_iff_eq] at htb
  obtain ⟨⟨hT1, hT2⟩, hT3⟩ := htb
  refine Ex_comp (k := 23) (is := [18]) (ρ' := [some (.dS T)]) (f := fun d => .int ((getL T (getS d)).getD 0)) (ds := T.map fun q => AV.str q.1) ok at23 (i := 19) (by decide +kernel) (by decide +kernel)
    (fun ie te hi => it_keys ok.c.w .str (enc_str _) (dictRep_S _ T) (sound ok.c (.var 18) ie _ True hi rfl trivial).1) (by rw [List.length_map]; omega) rfl (fun d hd => ?_) ?_
  · rw [List.mem_map] at hd
    obtain ⟨q, hq, rfl⟩ := hd
    exact ⟨_, rfl, by simp [hT1 q hq]⟩
  refine Ex_ret (d := .bool (true && decide ((T.map (·.2)).sum = 7))) ok rfl ?_ ?_
  · refine ⟨⟨trivial, ⟨⟨⟨trivial, trivial, by decide⟩, trivial, trivial⟩, trivial, fun _ => ⟨⟨trivial, trivial⟩, by decide⟩, fun _ => ⟨⟨trivial, trivial, trivial⟩, by decide, by decide⟩⟩, ?_⟩, fun _ => ⟨⟨⟨trivial, trivial⟩, trivial⟩, trivial, trivial⟩⟩
    have h1 : (T.map fun q => AV.str q.1).map (fun d => AV.int ((getL T (getS d)).getD 0)) = (T.map fun q => (getL T q.1).getD 0).map AV.int := by rw [List.map_map, List.map_map]; rfl
    have h2 : (bif decide ((365 * w + p) % 7 = 0) then [AV.int 7] else List.replicate (Int.toNat 7) (.int 1)) = (if decide ((365 * w + p) % 7 = 0) = true then ([7] : List Int) else [1, 1, 1, 1, 1, 1, 1]).map AV.int := by
      cases decide ((365 * w + p) % 7 = 0) <;> rfl
    rw [h1, hT2, h2]
    refine eqC_list fun e he => ?_
    rw [List.mem_map] at he
    obtain ⟨i, _, rfl⟩ := he
    exact okE_int i
  · rw [hT3]; rfl
end
end NC
end Mine
namespace Mine
noncomputable section NC
section
variable {b : Base} {K : Frag} {n : Nat} {env : Env} {s₀ : Shared} {X0 : Addr → Prop}
theorem law_ex (ok : SxOk (lawSx b n env s₀ X0)) (l : List Int) (hl : l.length ≤ 63) : Ex (lawSx b n env s₀ X0) ms_law [some (.lst (l.map .int)), none, none, none, none, none, none, none, none, none, none, none, none, none, none, none, none, none, none, none, none, none, none, none, none, none, none, none, none, none, none, none, none, none, none, none, none, none, none] none (fun o _ _ => o = .ret (.bool true)) := by
  unfold ms_law
  refine seg_a ok l hl fun c0 c1 c2 c3 c4 w p ph pt wh bg sh e la h20 h21 R e0 e1 l0 l1 => ?_
  refine seg_b ok R e0 e1 l0 l1 fun ds o1 o2 o3 o4 o5 o6 => ?_
  refine seg_c ok R fun o1 o2 o3 o4 o5 o6 o7 o8 o9 => ?_
  refine seg_e ok R h20 h21 fun a st u1 u2 u3 t0 t1 => ?_
  refine seg_g ok R t0 t1 fun o10 o11 o12 o13 d D => ?_
  refine seg_h ok R t0 t1 D fun u4 u5 u6 u7 u8 => ?_
  exact seg_k ok R t0 t1
theorem gs_15 : gsAll[15]? = some (dName 22) := by decide +kernel
theorem fn_law (hb : BOk b) (Kc : ClsOk b.c0 K) {P7 P8 : Addr} (N7 : NestW b 7 P7 n1.2.2.2.2 qual7) (N8 : NestW b 8 P8 n2.2.2.2.2 qual8) (hn : 60 ≤ n) {f : Addr} (D : DefOf b.c0 (dName 22) f (dPar 22) (dBody 22) (dSc 22)) (l : List Int) (hl : l.length ≤ 63) :
    FnOk b.c0 (n + 5) 15 [.lst (l.map .int)] (.bool true) := by
  refine FnOk_of (n := n + 4) (ps := ps_law) (rest := ls_law) (ms := ms_law) (F := FL n) (X := XL) (xs := xsL) hb.w ysL zsW gs_15 D (bind1 fun _ _ _ _ => by with_unfolding_all rfl) rfl (by decide +kernel) (by decide +kernel) chk_law ?_
    (by decide +kernel) (by decide +kernel) (by decide +kernel)
  intro env s₀ X0
  exact law_ex (law_ok hb Kc N7 N8 hn) l hl
end
end NC
end Mine
set_option maxHeartbeats 8000000
namespace Mine
noncomputable section NC
/-- the objects of the top that the walk looks at -/
noncomputable def KH (P : Params) : Frag := [(3, { cls := Value.type "dict", data := Data.dict #[{ hash := PyData.keyHash P (Str.ofString "__name__"), key := Value.str (Str.ofString "__name__") 165, val := Value.str (Str.ofString "law_xe0034_01") 370 }, { hash := PyData.keyHash P (Str.ofString "__doc__"), key := Value.str (Str.ofString "__doc__") 166, val := Value.none }, { hash := PyData.keyHash P (Str.ofString "__package__"), key := Value.str (Str.ofString "__package__") 167, val := Value.none }, { hash := PyData.keyHash P (Str.ofString "__loader__"), key := Value.str (Str.ofString "__loader__") 168, val := Value.builtin "__main__.__loader__#opaque" }, { hash := PyData.keyHash P (Str.ofString "__spec__"), key := Value.str (Str.ofString "__spec__") 169, val := Value.none }, { hash := PyData.keyHash P (Str.ofString "__annotations__"), key := Value.str (Str.ofString "__annotations__") 170, val := Value.ref 6 }, { hash := PyData.keyHash P (Str.ofString "__builtins__"), key := Value.str (Str.ofString "__builtins__") 171, val := Value.ref 4 }, { hash := PyData.keyHash P (Str.ofString "__file__"), key := Value.str (Str.ofString "__file__") 173, val := Value.str (Str.ofString "/claim/cut.py") 172 }, { hash := PyData.keyHash P (Str.ofString "__cached__"), key := Value.str (Str.ofString "__cached__") 174, val := Value.none }, { hash := PyData.keyHash P (Str.ofString "_post_parse_validation"), key := Value.str (Str.ofString "_post_parse_validation") 197, val := Value.ref 21 }, { hash := PyData.keyHash P (Str.ofString "_format_timetuple_and_zone"), key := Value.str (Str.ofString "_format_timetuple_and_zone") 205, val := Value.ref 28 }, { hash := PyData.keyHash P (Str.ofString "_DIV_LIMIT"), key := Value.str (Str.ofString "_DIV_LIMIT") 209, val := Value.int 4000 208 }, { hash := PyData.keyHash P (Str.ofString "_div2n1n"), key := Value.str (Str.ofString "_div2n1n") 226, val := Value.ref 35 }, { hash := PyData.keyHash P (Str.ofString "_div3n2n"), key := Value.str (Str.ofString "_div3n2n") 240, val := Value.ref 42 }, { hash := PyData.keyHash P (Str.ofString "_int2digits"), key := Value.str (Str.ofString "_int2digits") 251, val := Value.ref 49 }, { hash := PyData.keyHash P (Str.ofString "_digits2int"), key := Value.str (Str.ofString "_digits2int") 262, val := Value.ref 56 }, { hash := PyData.keyHash P (Str.ofString "_divmod_pos"), key := Value.str (Str.ofString "_divmod_pos") 277, val := Value.ref 63 }, { hash := PyData.keyHash P (Str.ofString "int_divmod"), key := Value.str (Str.ofString "int_divmod") 287, val := Value.ref 70 }, { hash := PyData.keyHash P (Str.ofString "TupleComp"), key := Value.str (Str.ofString "TupleComp") 331, val := Value.ref 94 }, { hash := PyData.keyHash P (Str.ofString "add_func_stats"), key := Value.str (Str.ofString "add_func_stats") 349, val := Value.ref 105 }, { hash := PyData.keyHash P (Str.ofString "add_callers"), key := Value.str (Str.ofString "add_callers") 360, val := Value.ref 112 }, { hash := PyData.keyHash P (Str.ofString "count_calls"), key := Value.str (Str.ofString "count_calls") 369, val := Value.ref 119 }, { hash := PyData.keyHash P (Str.ofString "_law_cells"), key := Value.str (Str.ofString "_law_cells") 380, val := Value.ref 126 }, { hash := PyData.keyHash P (Str.ofString "_law_rule"), key := Value.str (Str.ofString "_law_rule") 393, val := Value.ref 133 }, { hash := PyData.keyHash P (Str.ofString "_law_walk"), key := Value.str (Str.ofString "_law_walk") 413, val := Value.ref 140 }, { hash := PyData.keyHash P (Str.ofString "_law_walked"), key := Value.str (Str.ofString "_law_walked") 429, val := Value.ref 147 }, { hash := PyData.keyHash P (Str.ofString "_law_line"), key := Value.str (Str.ofString "_law_line") 444, val := Value.ref 154 }, { hash := PyData.keyHash P (Str.ofString "law"), key := Value.str (Str.ofString "law") 450, val := Value.ref 159 }] 28 }),
  (48, { cls := Value.type "code", data := Data.fields #[Value.str (Str.ofString "_int2digits") 241, Value.str (Str.ofString "_int2digits") 242, Value.str (Str.ofString "/claim/cut.py") 243, Value.int 39 0, Value.int 2 0, Value.int 0 0, Value.int 0 0, Value.int 3 0, Value.ref 43, Value.bool true, Value.int 181 0, Value.ref 44, Value.none, Value.ref 45, Value.ref 46, Value.ref 47, Value.int 249 0, Value.int 39 0, Value.str (Str.ofString "/claim/cut.py") 250] }),
  (49, { cls := Value.type "function", data := Data.func { name := dName 7, qualname := dName 7, params := dPar 7, body := FuncBody.stmts (dBody 7), scope := dSc 7, globals := 3, closure := [], defaults := Value.none, kwdefaults := Value.none, pyModule := Value.str (Str.ofString "cpy313._pylong") 206, code := Value.ref 48 } }),
  (55, { cls := Value.type "code", data := Data.fields #[Value.str (Str.ofString "_digits2int") 252, Value.str (Str.ofString "_digits2int") 253, Value.str (Str.ofString "/claim/cut.py") 254, Value.int 55 0, Value.int 2 0, Value.int 0 0, Value.int 0 0, Value.int 3 0, Value.ref 50, Value.bool true, Value.int 181 0, Value.ref 51, Value.none, Value.ref 52, Value.ref 53, Value.ref 54, Value.int 260 0, Value.int 55 0, Value.str (Str.ofString "/claim/cut.py") 261] }),
  (56, { cls := Value.type "function", data := Data.func { name := dName 8, qualname := dName 8, params := dPar 8, body := FuncBody.stmts (dBody 8), scope := dSc 8, globals := 3, closure := [], defaults := Value.none, kwdefaults := Value.none, pyModule := Value.str (Str.ofString "cpy313._pylong") 206, code := Value.ref 55 } }),
  (83, { cls := Value.type "code", data := Data.fields #[Value.str (Str.ofString "__init__") 302, Value.str (Str.ofString "TupleComp.__init__") 303, Value.str (Str.ofString "/claim/cut.py") 304, Value.int 89 0, Value.int 2 0, Value.int 0 0, Value.int 0 0, Value.int 3 0, Value.ref 78, Value.bool true, Value.int 181 0, Value.ref 79, Value.none, Value.ref 80, Value.ref 81, Value.ref 82, Value.int 307 0, Value.int 89 0, Value.str (Str.ofString "/claim/cut.py") 308] }),
  (84, { cls := Value.type "function", data := Data.func { name := (mAt 0).1, qualname := qI, params := (mAt 0).2.1, body := FuncBody.stmts ((mAt 0).2.2.1), scope := (mAt 0).2.2.2, globals := 3, closure := [], defaults := Value.none, kwdefaults := Value.none, pyModule := Value.str (Str.ofString "cpy313.pstats") 288, code := Value.ref 83 } }),
  (90, { cls := Value.type "code", data := Data.fields #[Value.str (Str.ofString "compare") 310, Value.str (Str.ofString "TupleComp.compare") 311, Value.str (Str.ofString "/claim/cut.py") 312, Value.int 92 0, Value.int 3 0, Value.int 0 0, Value.int 0 0, Value.int 3 0, Value.ref 85, Value.bool true, Value.int 181 0, Value.ref 86, Value.none, Value.ref 87, Value.ref 88, Value.ref 89, Value.int 320 0, Value.int 92 0, Value.str (Str.ofString "/claim/cut.py") 321] }),
  (91, { cls := Value.type "function", data := Data.func { name := (mAt 1).1, qualname := qC, params := (mAt 1).2.1, body := FuncBody.stmts ((mAt 1).2.2.1), scope := (mAt 1).2.2.2, globals := 3, closure := [], defaults := Value.none, kwdefaults := Value.none, pyModule := Value.str (Str.ofString "cpy313.pstats") 288, code := Value.ref 90 } }),
  (93, { cls := Value.type "dict", data := Data.dict #[{ hash := PyData.keyHash P (Str.ofString "__module__"), key := Value.str (Str.ofString "__module__") 297, val := Value.str (Str.ofString "cpy313.pstats") 288 }, { hash := PyData.keyHash P (Str.ofString "__firstlineno__"), key := Value.str (Str.ofString "__firstlineno__") 301, val := Value.int 87 300 }, { hash := PyData.keyHash P (Str.ofString "__init__"), key := Value.str (Str.ofString "__init__") 309, val := Value.ref 84 }, { hash := PyData.keyHash P (Str.ofString "compare"), key := Value.str (Str.ofString "compare") 322, val := Value.ref 91 }, { hash := PyData.keyHash P (Str.ofString "__static_attributes__"), key := Value.str (Str.ofString "__static_attributes__") 324, val := Value.ref 92 }, { hash := PyData.keyHash P (Str.ofString "__dict__"), key := Value.str (Str.ofString "__dict__") 326, val := Value.ref 95 }, { hash := PyData.keyHash P (Str.ofString "__weakref__"), key := Value.str (Str.ofString "__weakref__") 328, val := Value.ref 96 }, { hash := PyData.keyHash P (Str.ofString "__doc__"), key := Value.str (Str.ofString "__doc__") 329, val := Value.none }] 4 }),
  (94, { cls := Value.type "type", data := Data.cls { name := Str.ofString "TupleComp", bases := [Value.type "object"], mro := [Value.ref 94, Value.type "object"], ns := 93, qualname := Str.ofString "TupleComp" }, slots := #[none, none, some (Value.str (Str.ofString "TupleComp") 290), some (Value.str (Str.ofString "TupleComp") 298), some (Value.builtin "object.__new__"), some (Value.bool true)] })]
noncomputable abbrev asH : List Addr := [3, 48, 49, 55, 56, 83, 84, 90, 91, 93, 94]
theorem asH_eq (P : Params) : asH = (KH P).map (·.1) := rfl
noncomputable def vH : Program := { pw with main := { pw.main with body := [1, 2, 4, 5, 6, 7, 8, 9, 10, 12, 13, 14, 15, 17, 18, 19, 20, 21, 22].filterMap (pw.main.body[·]?) } }
noncomputable def hkH : Hook := kmHook KH asH asH_eq [51, 44]
theorem leftH : LeftO pw vH [] (fun s => xlAt vH [] s && recOk [] s) (Hook.obs hkH) (Hook.val hkH) 1902 := by
  intro w
  kernel_rfl
theorem saidH : PySem.Challenge.rw_xe0034_01.wellSaid = true := by kernel_rfl
noncomputable def dH : DefRec := ⟨dName 22, dPar 22, dBody 22, dSc 22, ⟨179, 0, 228, 84⟩⟩
noncomputable abbrev rH : OpenRow := PySem.Challenge.rw_xe0034_01.row
theorem defH : defOf vH rH.name = some (dH, []) := by kernel_rfl
theorem theDefH : rH.prog.theDef rH.name = some (dH.params, dH.body, dH.scope) := by kernel_rfl
theorem okH : (chainsOk vH && opensWell rH.prog && (frees rH.toRowW && rH.within.isEmpty)) = true := by kernel_rfl
theorem witH : rH.toRowW.promised := ⟨[.list []], by kernel_rfl, by kernel_rfl⟩
theorem hdH (walk : WalkO vH [] (PySem.W.XL vH []) hkH.says rH.toRowW dH [] fun f vs => PySem.call f vs) : PySem.Challenge.rw_xe0034_01.Holds := by
  refine holds_law saidH fun said => ?_
  exact PySem.W.holds_open (r := rH) (q := vH) (loose := []) (Xt := fun s => xlAt vH [] s && recOk [] s) (XP := PySem.W.XL vH []) (Yf := hkH.obs) (Ya := hkH.val) (YP := hkH.says) (N := 1902) leftH hkH.of hkH.keeps (fun s e => xl_of s (Bool.and_eq_true_iff.mp e).1) PySem.W.XL.keeps
    defH theDefH (by kernel_rfl) (fun s e => recFacts_of (Bool.and_eq_true_iff.mp e).2) (by kernel_rfl) said okH ⟨rfl, rfl, rfl, rfl, rfl, by kernel_rfl⟩ witH walk
end NC
end Mine
namespace Mine
noncomputable section NC
noncomputable abbrev tabsJ : List (Addr × Addr) := [(55, 51), (48, 44)]
/-- the table at P, as far as it has grown -/
noncomputable def TabJ (P : Addr) (pos : Pos) (qual : Str) (h : Heap) : Prop :=
  ∃ ps, h.get? P = some (tabObj ps) ∧ TriplesOk ps.toList ∧ (codeAmong pos ps.toList = none ∨ ∃ c' : Addr, codeAmong pos ps.toList = some (.ref c') ∧ h.CodeRec (.ref c') qual ∧ ¬ (c' = 51 ∨ c' = 44))
/-- what the call keeps -/
structure WJ (h₁ h : Heap) : Prop where
  keep : ∀ b o, (ghostOf h₁ tabsJ).get? b = some o → h.get? b = some o
  t7 : TabJ 44 n1.2.2.2.2 qual7 h
  t8 : TabJ 51 n2.2.2.2.2 qual8 h
noncomputable def bJ (mg mb : Str → Option Value) (w : World) (h₁ : Heap) : Base := ⟨pw, w, 94, WJ h₁, fun b => ∃ o, h₁.get? b = some o, mg, mb, fun b => b = 51 ∨ b = 44⟩
theorem TabJ.stable {P : Addr} {pos : Pos} {qual : Str} {h h' : Heap} (x : TabJ P pos qual h) (kP : ∀ o, h.get? P = some o → h'.get? P = some o) (k : ∀ b o, ¬ (b = 51 ∨ b = 44) → isRec o → h.get? b = some o → h'.get? b = some o) : TabJ P pos qual h' := by
  obtain ⟨ps, h1, h2, h3⟩ := x
  refine ⟨ps, kP _ h1, h2, h3.imp id fun ⟨c', a1, ⟨c, o, vs, t, e, g1, g2, g3⟩, a3⟩ => ⟨c', a1, ?_, a3⟩⟩
  cases e
  exact ⟨_, o, vs, t, rfl, k _ _ a3 ⟨vs, _, t, g2, g3⟩ g1, g2, g3⟩
section
variable {prog : Program} {loose : List Str} {mean : ExcName → Option Value} {mg mb : Str → Option Value} {w : World} {h₁ : Heap} {K : Frag}
theorem ghost_rec (hT : TabsAt tabsJ h₁) {cd : Value} {q : Str} (x : h₁.CodeRec cd q) : (ghostOf h₁ tabsJ).CodeRec cd q := by
  obtain ⟨c, o, vs, t, e, g1, g2, g3⟩ := x
  refine ⟨c, o, vs, t, e, ghost_get hT g1 (fun z => ?_), g2, g3⟩
  subst z
  cases g2
  simp at g3
theorem ghost_apart {b : Addr} {o : Obj} (e : (ghostOf h₁ tabsJ).get? b = some o) : ¬ (b = 51 ∨ b = 44) := by
  rintro (rfl | rfl)
  · rw [show (ghostOf h₁ tabsJ).get? 51 = none from hideAll_none _ (by simp [tabsJ])] at e; cases e
  · rw [show (ghostOf h₁ tabsJ).get? 44 = none from hideAll_none _ (by simp [tabsJ])] at e; cases e
theorem wJ (T : Top prog loose mean mg mb h₁) (hT : TabsAt tabsJ h₁) (KX : K.In h₁) (hnog : ∀ x ∈ usedB, nsIn K mainGlobals x = some none) (hdiv : ∃ t, nsIn K mainGlobals (Str.ofString "_DIV_LIMIT") = some (some (.int 4000 t)))
    (hsm : ∃ o, h₁.get? sysModules = some o) : WOk (WJ h₁) (fun b => ∃ o, h₁.get? b = some o) (fun b => b = 51 ∨ b = 44) mg mb := by
  have t51 : h₁.get? 51 = some (tabObj #[]) := (hT (55, 51) (by simp [tabsJ])).2
  have t44 : h₁.get? 44 = some (tabObj #[]) := (hT (48, 44) (by simp [tabsJ])).2
  refine ⟨fun h h' W k => ?_, fun h b W hb => ?_, fun b hb => ?_, fun h W => (ghost_ns hT T.g).keeps W.keep, fun h W => (ghost_ns hT T.b).keeps W.keep, fun h W => ?_, fun h W => ?_, T.builtins, fun x hx => mg_none_of KX T.g (hnog x hx), hsm, ?_⟩
  · refine ⟨fun b o e => k b o (.inl ⟨o, of_hideAll _ e⟩) (W.keep b o e), W.t7.stable (fun o e => k _ o (.inl ⟨_, t44⟩) e) fun b o _ r e => k b o (.inr r) e, W.t8.stable (fun o e => k _ o (.inl ⟨_, t51⟩) e) fun b o _ r e => k b o (.inr r) e⟩
  · obtain ⟨o, e⟩ := hb
    by_cases q : b = 51 ∨ b = 44
    · rcases q with rfl | rfl
      · obtain ⟨ps, e, _⟩ := W.t8; exact ⟨_, e⟩
      · obtain ⟨ps, e, _⟩ := W.t7; exact ⟨_, e⟩
    · refine ⟨o, W.keep b o (ghost_ne e fun z => q ?_)⟩
      simpa [tabsJ] using z
  · rcases hb with rfl | rfl
    · exact ⟨_, t51⟩
    · exact ⟨_, t44⟩
  · obtain ⟨mc, a, r⟩ := T.nolimit
    exact ⟨mc, (ghost_ns hT a).keeps W.keep, r⟩
  · obtain ⟨mc, a, r⟩ := T.nodigits
    exact ⟨mc, (ghost_ns hT a).keeps W.keep, r⟩
  · obtain ⟨t, e⟩ := hdiv
    exact ⟨t, mg_of KX T.g e⟩
theorem rec_of {x : Str} {a : Arguments} {b : List Stmt} {sc : Scope} (e : ((recsOf prog).find? fun d => d.name == x).map (fun d => (d.params, d.body, d.scope)) = some (a, b, sc)) : ∃ d ∈ recsOf prog, d.name = x ∧ d.params = a ∧ d.body = b ∧ d.scope = sc := by
  obtain ⟨d, h1, h2⟩ := Option.map_eq_some_iff.mp e
  cases h2
  exact ⟨d, List.mem_of_find?_eq_some h1, beq_iff_eq.mp (List.find?_some (p := fun d : DefRec => d.name == x) h1), rfl, rfl, rfl⟩
theorem defJ (T : Top prog loose mean mg mb h₁) (hT : TabsAt tabsJ h₁) {i : Nat} (e : ((recsOf prog).find? fun d => d.name == dName i).map (fun d => (d.params, d.body, d.scope)) = some (dPar i, dBody i, dSc i)) : ∃ f, DefOf (bJ mg mb w h₁).c0 (dName i) f (dPar i) (dBody i) (dSc i) := by
  obtain ⟨d, hd, h1, h2, h3, h4⟩ := rec_of e
  obtain ⟨a, o, pm, code, doc, g1, g2, g3, g4⟩ := T.fn d hd
  rw [h1] at g1 g4
  rw [h1, h2, h3, h4] at g3
  exact ⟨a, g1, fun h W => ⟨o, pm, code, doc, WJ.keep W _ _ (ghost_get hT g2 fun z => by rw [z] at g3; cases g3), g3, (ghost_rec hT g4).keeps (WJ.keep W)⟩⟩
theorem tabJ_grow {P : Addr} {pos : Pos} {qual : Str} {h h' : Heap} {ps : Array Value} {c' : Addr} (x : TabJ P pos qual h) (hP : h.get? P = some (tabObj ps)) (hn : codeAmong pos ps.toList = none) (hc : h'.CodeRec (.ref c') qual) (hx : ¬ (c' = 51 ∨ c' = 44))
    (hP' : h'.get? P = some (tabObj (ps ++ #[rawInt pos.line, rawInt pos.col, .ref c']))) : TabJ P pos qual h' := by
  obtain ⟨ps', e, t, _⟩ := x
  rw [hP] at e; cases e
  refine ⟨_, hP', ?_, .inr ⟨c', ?_, hc, hx⟩⟩
  · simpa using TriplesOk_snoc pos.line pos.col (.ref c') _ t
  · simpa using codeAmong_snoc _ t hn
theorem bltJ (T : Top prog loose mean mg mb h₁) (hT : TabsAt tabsJ h₁) (KX : K.In h₁) {P : Addr} (hP : P = 51 ∨ P = 44) (hm : ∀ a, nsIn K mainGlobals "__builtins__" = some (some (.ref a)) → a ≠ mainGlobals) (hb : ∃ a, nsIn K mainGlobals "__builtins__" = some (some (.ref a))) {h : Heap} (W : WJ h₁ h) : h.BuiltinsAt mg P := by
  obtain ⟨bm, ob, a1, a2, a3, a4, a5, a6⟩ := T.bmain
  have a3' : (ghostOf h₁ tabsJ).get? bm = some ob := ghost_get hT a3 (fun q => by rw [q] at a4; cases a4)
  obtain ⟨a, ha⟩ := hb
  have := mg_of KX T.g ha
  rw [a1] at this; cases this
  exact ⟨bm, ob, a1, a2, hm _ ha, fun q => ghost_apart a3' (q ▸ hP), W.keep _ _ a3', a4, a5, a6⟩
end
end NC
end Mine
set_option maxHeartbeats 4000000
namespace Mine
noncomputable section NC
section
variable {prog : Program} {loose : List Str} {mean : ExcName → Option Value} {mg mb : Str → Option Value} {w : World} {h₁ : Heap}
theorem noTabsJ (P : Params) : noTabs (KH P) = true := by kernel_rfl
theorem nogJ (P : Params) : ∀ x ∈ usedB, nsIn (KH P) mainGlobals x = some none := by
  intro x hx
  simp only [usedB, List.mem_cons, List.not_mem_nil, or_false] at hx
  rcases hx with rfl | rfl | rfl | rfl | rfl | rfl | rfl | rfl | rfl | rfl <;> kernel_rfl
theorem divJ (P : Params) : ∃ t, nsIn (KH P) mainGlobals (Str.ofString "_DIV_LIMIT") = some (some (.int 4000 t)) := ⟨208, by kernel_rfl⟩
theorem bltinsJ (P : Params) : ∃ a, nsIn (KH P) mainGlobals "__builtins__" = some (some (.ref a)) ∧ a ≠ mainGlobals := ⟨_, by with_unfolding_all rfl, by decide⟩
theorem tab7J (P : Params) : tabIn (KH P) (dName 7) = some (48, 44) := by kernel_rfl
theorem tab8J (P : Params) : tabIn (KH P) (dName 8) = some (55, 51) := by kernel_rfl
theorem hd7J (P : Params) : codeHdIn (KH P) 48 44 = true := by kernel_rfl
theorem hd8J (P : Params) : codeHdIn (KH P) 55 51 = true := by kernel_rfl
theorem def1J : ((recsOf vH).find? fun d => d.name == dName 1).map (fun d => (d.params, d.body, d.scope)) = some (dPar 1, dBody 1, dSc 1) := by kernel_rfl
theorem def2J : ((recsOf vH).find? fun d => d.name == dName 2).map (fun d => (d.params, d.body, d.scope)) = some (dPar 2, dBody 2, dSc 2) := by kernel_rfl
theorem def5J : ((recsOf vH).find? fun d => d.name == dName 5).map (fun d => (d.params, d.body, d.scope)) = some (dPar 5, dBody 5, dSc 5) := by kernel_rfl
theorem def7J : ((recsOf vH).find? fun d => d.name == dName 7).map (fun d => (d.params, d.body, d.scope)) = some (dPar 7, dBody 7, dSc 7) := by kernel_rfl
theorem def8J : ((recsOf vH).find? fun d => d.name == dName 8).map (fun d => (d.params, d.body, d.scope)) = some (dPar 8, dBody 8, dSc 8) := by kernel_rfl
theorem def9J : ((recsOf vH).find? fun d => d.name == dName 9).map (fun d => (d.params, d.body, d.scope)) = some (dPar 9, dBody 9, dSc 9) := by kernel_rfl
theorem def10J : ((recsOf vH).find? fun d => d.name == dName 10).map (fun d => (d.params, d.body, d.scope)) = some (dPar 10, dBody 10, dSc 10) := by kernel_rfl
theorem def13J : ((recsOf vH).find? fun d => d.name == dName 13).map (fun d => (d.params, d.body, d.scope)) = some (dPar 13, dBody 13, dSc 13) := by kernel_rfl
theorem def14J : ((recsOf vH).find? fun d => d.name == dName 14).map (fun d => (d.params, d.body, d.scope)) = some (dPar 14, dBody 14, dSc 14) := by kernel_rfl
theorem def15J : ((recsOf vH).find? fun d => d.name == dName 15).map (fun d => (d.params, d.body, d.scope)) = some (dPar 15, dBody 15, dSc 15) := by kernel_rfl
theorem def17J : ((recsOf vH).find? fun d => d.name == dName 17).map (fun d => (d.params, d.body, d.scope)) = some (dPar 17, dBody 17, dSc 17) := by kernel_rfl
theorem def18J : ((recsOf vH).find? fun d => d.name == dName 18).map (fun d => (d.params, d.body, d.scope)) = some (dPar 18, dBody 18, dSc 18) := by kernel_rfl
theorem def19J : ((recsOf vH).find? fun d => d.name == dName 19).map (fun d => (d.params, d.body, d.scope)) = some (dPar 19, dBody 19, dSc 19) := by kernel_rfl
theorem def20J : ((recsOf vH).find? fun d => d.name == dName 20).map (fun d => (d.params, d.body, d.scope)) = some (dPar 20, dBody 20, dSc 20) := by kernel_rfl
theorem def21J : ((recsOf vH).find? fun d => d.name == dName 21).map (fun d => (d.params, d.body, d.scope)) = some (dPar 21, dBody 21, dSc 21) := by kernel_rfl
theorem def22J : ((recsOf vH).find? fun d => d.name == dName 22).map (fun d => (d.params, d.body, d.scope)) = some (dPar 22, dBody 22, dSc 22) := by kernel_rfl
theorem seeJ (P : Params) : findIn (KH P) (.ref 94) "__setattr__" = some (some (.builtin "object.__setattr__")) := by kernel_rfl
theorem tcJ (P : Params) : nsIn (KH P) mainGlobals (Str.ofString "TupleComp") = some (some (.ref 94)) := by kernel_rfl
theorem keepJ (P : Params) : keepIn (KH P) (.ref 94) = true := by kernel_rfl
theorem makesJ (P : Params) : makesIn (KH P) 94 = true := by kernel_rfl
theorem plainJ (P : Params) : plainOver (KH P) 94 = true := by kernel_rfl
theorem takerJ (P : Params) : takerIn (KH P) 94 csl = some none := by kernel_rfl
theorem hasDJ (P : Params) : hasDictIn (KH P) 94 = true := by kernel_rfl
theorem getSJ (P : Params) : plainGet (KH P) 94 csl = true := by kernel_rfl
theorem findJ (P : Params) : findIn (KH P) (.ref 94) csl = some none := by kernel_rfl
theorem initJ (P : Params) : findIn (KH P) (.ref 94) "__init__" = some (some (.ref 84)) := by kernel_rfl
theorem cmpJ (P : Params) : findIn (KH P) (.ref 94) "compare" = some (some (.ref 91)) := by kernel_rfl
theorem tinitJ (P : Params) : typeIn (KH P) (.ref 84) = some (.type "function") := by kernel_rfl
theorem tcmpJ (P : Params) : typeIn (KH P) (.ref 91) = some (.type "function") := by kernel_rfl
theorem kcmpJ (P : Params) : keepIn (KH P) (.ref 91) = true := by kernel_rfl
theorem finitJ (P : Params) : FnAt (KH P) 84 0 qI := ⟨_, _, _, _, _, _, _, _, by with_unfolding_all rfl, by kernel_rfl⟩
theorem fcmpJ (P : Params) : FnAt (KH P) 91 1 qC := ⟨_, _, _, _, _, _, _, _, by with_unfolding_all rfl, by kernel_rfl⟩
end
end NC
end Mine
namespace Mine
noncomputable section NC
section
variable {loose : List Str} {mean : ExcName → Option Value} {mg mb : Str → Option Value} {w : World} {h₁ : Heap}
theorem bokJ (T : Top vH loose mean mg mb h₁) (hT : TabsAt tabsJ h₁) (KX : (KH w.params).In h₁) (hsm : ∃ o, h₁.get? sysModules = some o) : BOk (bJ mg mb w h₁) := by
  refine ⟨wJ T hT KX (nogJ _) (divJ _) hsm, fun i hi => ?_⟩
  simp only [List.mem_cons, List.not_mem_nil, or_false] at hi
  rcases hi with rfl | rfl | rfl | rfl | rfl | rfl | rfl | rfl | rfl | rfl | rfl | rfl | rfl | rfl | rfl
  · exact defJ T hT def1J
  · exact defJ T hT def2J
  · exact defJ T hT def5J
  · exact defJ T hT def7J
  · exact defJ T hT def8J
  · exact defJ T hT def9J
  · exact defJ T hT def10J
  · exact defJ T hT def13J
  · exact defJ T hT def14J
  · exact defJ T hT def15J
  · exact defJ T hT def17J
  · exact defJ T hT def18J
  · exact defJ T hT def19J
  · exact defJ T hT def20J
  · exact defJ T hT def21J
theorem kinJ (hT : TabsAt tabsJ h₁) (KX : (KH w.params).In h₁) {h : Heap} (W : WJ h₁ h) : (KH w.params).In h := fun a o e => W.keep a o (ghost_K hT KX (noTabsJ _) a o e)
theorem clsJ (T : Top vH loose mean mg mb h₁) (hT : TabsAt tabsJ h₁) (KX : (KH w.params).In h₁) : ClsOk (bJ mg mb w h₁).c0 (KH w.params) :=
  ⟨fun h W => kinJ hT KX W, mg_of KX T.g (tcJ _), keepJ _, makesJ _, seeJ _, plainJ _, takerJ _, hasDJ _, getSJ _, findJ _, ⟨84, initJ _, tinitJ _, finitJ _⟩, ⟨91, cmpJ _, tcmpJ _, kcmpJ _, fcmpJ _⟩⟩
theorem hdJ (T : Top vH loose mean mg mb h₁) (hT : TabsAt tabsJ h₁) (KX : (KH w.params).In h₁) {i : Nat} {c P : Addr} (ht : tabIn (KH w.params) (dName i) = some (c, P)) (hc : codeHdIn (KH w.params) c P = true) (hx : ¬ (c = 51 ∨ c = 44)) :
    ∀ h f o pm code doc, WJ h₁ h → mg (dName i) = some (.ref f) → h.get? f = some o → o.data = .func (docDef (dName i) (dPar i) (dBody i) (dSc i) pm code doc) → ∃ c, code = .ref c ∧ CodeHd h c P ∧ ¬ (c = 51 ∨ c = 44) := by
  intro h f o pm code doc W hm ho hd
  have X := kinJ hT KX W
  exact ⟨c, law_code X ((ghost_ns hT T.g).keeps W.keep) ht hm ho hd, codeHd_of_K X hc, hx⟩
theorem blt_of (T : Top vH loose mean mg mb h₁) (hT : TabsAt tabsJ h₁) (KX : (KH w.params).In h₁) {P : Addr} (hP : P = 51 ∨ P = 44) {h : Heap} (W : WJ h₁ h) : h.BuiltinsAt mg P := by
  obtain ⟨a, ha, hne⟩ := bltinsJ w.params
  refine bltJ T hT KX hP (fun b hb => ?_) ⟨a, ha⟩ W
  rw [ha] at hb; cases hb; exact hne
theorem nest7 (T : Top vH loose mean mg mb h₁) (hT : TabsAt tabsJ h₁) (KX : (KH w.params).In h₁) : NestW (bJ mg mb w h₁) 7 44 n1.2.2.2.2 qual7 := by
  refine ⟨.inr rfl, hdJ T hT KX (tab7J _) (hd7J _) (by decide), fun h W => W.t7, fun h h' c' ps W hP hn hx hc hxc hP' => ?_, fun h W => blt_of T hT KX (.inr rfl) W, by decide⟩
  have W : WJ h₁ h := W
  refine ⟨fun b o e => hx b o (fun q => ghost_apart e (.inr q)) (W.keep b o e), tabJ_grow W.t7 hP hn hc hxc hP', W.t8.stable (fun o e => hx _ o (by decide) e) fun b o q _ e => hx b o (fun z => q (.inr z)) e⟩
theorem nest8 (T : Top vH loose mean mg mb h₁) (hT : TabsAt tabsJ h₁) (KX : (KH w.params).In h₁) : NestW (bJ mg mb w h₁) 8 51 n2.2.2.2.2 qual8 := by
  refine ⟨.inl rfl, hdJ T hT KX (tab8J _) (hd8J _) (by decide), fun h W => W.t8, fun h h' c' ps W hP hn hx hc hxc hP' => ?_, fun h W => blt_of T hT KX (.inl rfl) W, by decide⟩
  have W : WJ h₁ h := W
  refine ⟨fun b o e => hx b o (fun q => ghost_apart e (.inl q)) (W.keep b o e), W.t7.stable (fun o e => hx _ o (by decide) e) fun b o q _ e => hx b o (fun z => q (.inl z)) e, tabJ_grow W.t8 hP hn hc hxc hP'⟩
theorem wj0 (hT : TabsAt tabsJ h₁) : WJ h₁ h₁ := by
  have t51 : h₁.get? 51 = some (tabObj #[]) := (hT (55, 51) (by simp [tabsJ])).2
  have t44 : h₁.get? 44 = some (tabObj #[]) := (hT (48, 44) (by simp [tabsJ])).2
  exact ⟨fun b o e => of_hideAll _ e, ⟨_, t44, trivial, .inl rfl⟩, ⟨_, t51, trivial, .inl rfl⟩⟩
/-- the call of law -/
theorem callJ (T : Top vH loose mean mg mb h₁) (hT : TabsAt tabsJ h₁) (KX : (KH w.params).In h₁) (hsm : ∃ o, h₁.get? sysModules = some o) {s₁ : Shared} (hs : s₁.heap = h₁) {fa a : Addr} {vs : List Value} {l : List Int} (hf : mg (dName 22) = some (.ref fa))
    (hL : h₁.IsList a vs.toArray) (hI : IntsAre vs l) (hl : l.length ≤ 63) {Q : Value → Shared → Prop}
    (h : ∀ s', Mine.Ext (WJ h₁) (fun b => b = 51 ∨ b = 44) s₁ s' → WJ h₁ s'.heap → Q (.bool true) s') : wpAny (model pw w) callerA (call (.ref fa) [.ref a]) Q noE s₁ := by
  subst hs
  have hb := bokJ T hT KX hsm
  obtain ⟨f, D⟩ := defJ (w := w) T hT def22J
  obtain ⟨x, f', h1, h2, h3, h4⟩ := fn_law (n := 60) hb (clsJ T hT KX) (nest7 T hT KX) (nest8 T hT KX) (Nat.le_refl _) D l hl
  have hx : some (dName 22) = some x := gs_15.symm.trans h1
  cases hx
  have hff : some (Value.ref fa) = some (Value.ref f') := hf.symm.trans h2
  cases hff
  have t51 : s₁.heap.get? 51 = some (tabObj #[]) := (hT (55, 51) (by simp [tabsJ])).2
  have t44 : s₁.heap.get? 44 = some (tabObj #[]) := (hT (48, 44) (by simp [tabsJ])).2
  have na : ¬ (a = 51 ∨ a = 44) := by
    obtain ⟨o, e, hc, _⟩ := hL
    rintro (rfl | rfl)
    · rw [t51] at e; cases e; cases hc
    · rw [t44] at e; cases e; cases hc
  refine h4 callerA (fun b => b = 51 ∨ b = 44) s₁ [.ref a] Q ⟨rfl, by decide +kernel, by decide +kernel, rfl⟩ (wj0 hT) ⟨fun b hb => hb, fun b hb => .inl hb⟩ (.cons (.lst na hL (Reps.of_ints hI)) .nil) fun v s' e r => ?_
  cases r
  exact h s' e (e.wd (wj0 hT))
theorem goodJ {cw : ClaimW} {cl : Str → Option Addr} {args : List WData} {s₁ s' : Shared} (hT : TabsAt tabsJ s₁.heap) (hg : s₁.gens = #[]) (hr : ∀ x, cw.raises args x = false) (hp : cw.post args (.bool true) args = true) (e : Mine.Ext (WJ s₁.heap) (fun b => b = 51 ∨ b = 44) s₁ s') (W : WJ s₁.heap s'.heap) :
    GoodWG cw cl mean args s₁ (.ok (.ret (.bool true))) s' := by
  have t51 := hT (55, 51) (by simp [tabsJ])
  have t44 := hT (48, 44) (by simp [tabsJ])
  have key : ∀ b o, s₁.heap.get? b = some o → asItWas s₁.heap s'.heap b o ∧ ∃ o', s'.heap.get? b = some o' := fun b o q => by
    by_cases hb : b = 51 ∨ b = 44
    · rcases hb with rfl | rfl
      · obtain ⟨ps, h1, _⟩ := W.t8
        rw [t51.2] at q; cases q
        exact ⟨.inr (.inl ⟨(t51.1.tab t51.2).isCodeTable, rfl, #[], ps, rfl, by rw [Array.empty_append]; exact h1⟩), _, h1⟩
      · obtain ⟨ps, h1, _⟩ := W.t7
        rw [t44.2] at q; cases q
        exact ⟨.inr (.inl ⟨(t44.1.tab t44.2).isCodeTable, rfl, #[], ps, rfl, by rw [Array.empty_append]; exact h1⟩), _, h1⟩
    · exact ⟨.inl (e.keep b o hb q), o, e.keep b o hb q⟩
  obtain ⟨h', t', rfl⟩ := e.same
  exact ⟨.inl ⟨_, .bool true, [], rfl, hr, .bool true, hp, fun _ => ⟨.nil, fun a ha => by cases ha⟩⟩, ⟨fun b o q => (key b o q).1, fun b o q => (key b o q).2⟩, rfl, .of_eq hg⟩
end
end NC
end Mine
theorem PySem.Challenge.cw_xe0034_01_holds : PySem.Challenge.rw_xe0034_01.Holds := by
  refine Mine.hdH ?_
  intro w s₀ s₁ mg mb G Y fa o pm cd doc dV kV ho hd hcd hD hmg hg args vals as hpre hlay hrd hwl hlo
  have KX : (Mine.KH w.params).In s₁.heap := km_in_of (e := Mine.asH_eq) Y
  have hT8 := km_tabs_of (e := Mine.asH_eq) Y
  refine Ground.open G ?_
  intro T B D TE TW
  have hT9 : TabsAt Mine.tabsJ s₁.heap := List.forall_mem_cons.mpr ⟨⟨codeHd_of_K KX (Mine.hd8J _), hT8 51 (by simp)⟩, List.forall_mem_cons.mpr ⟨⟨codeHd_of_K KX (Mine.hd7J _), hT8 44 (by simp)⟩, fun _ h => nomatch h⟩⟩
  wrow_args hpre hlay hrd hwl hlo
  rename Heap.IsList _ _ _ => hL
  rename IntsAre _ _ => hI
  rename ¬ _ => hlen
  have hsm : ∃ o, s₁.heap.get? sysModules = some o := by
    obtain ⟨mm, ⟨o, es, ep, e, _⟩, _⟩ := (T.seer (by kernel_rfl)).mods
    exact ⟨o, e⟩
  exact wpAny_mono (Mine.callJ T hT9 KX hsm rfl hmg hL hI (by omega) fun s' e W => Mine.goodJ hT9 hg (fun _ => rfl) (by kernel_rfl) e W) (fun v s' h => h) (fun e s' h => h.elim)
