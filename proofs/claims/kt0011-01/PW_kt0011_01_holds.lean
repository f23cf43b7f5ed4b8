import PyProof.Rows.All
import Wide.All
import OpenK.AllK
import Wide.FinOn
import KE.KNest
import PyProof.IsiH_list
import KE.KBoundM
import KE.KFromBytes
import KE.KBytesCut
import KE.KBytesMore
import KE.BytesK
import KE.KDflt
import KE.KxDecode
import KE.KxPercentT
import PyProof.SetRoads
import PyProof.FactsAll.set_1
import Wide.BytesFacts
import Open.FastRun
import Lean
import PySem.Challenge.RW_kt0011_01
set_option Elab.async false
section
open PySem PySem.Calls PyProof.Rows PySem.W
set_option maxRecDepth 100000
set_option linter.all false
set_option linter.unusedVariables false
namespace Mine

/-- data without sharing -/
inductive D where
  | none
  | bool (b : Bool)
  | int (i : Int)
  | str (x : Str)
  | bytes (b : Array UInt8)
  | list (ds : List D)

abbrev Ext (h h' : Heap) : Prop := ∀ b o, h.get? b = some o → h'.get? b = some o
/-- the lists that may be spoken of stand -/
abbrev Lists (ok : Addr → Prop) (h h' : Heap) : Prop := ∀ a vs, ok a → h.IsList a vs → h'.IsList a vs
theorem Ext.trans {a b c : Heap} (x : Ext a b) (y : Ext b c) : Ext a c := fun _ _ e => y _ _ (x _ _ e)
theorem Ext.lists {ok : Addr → Prop} {h h' : Heap} (x : Ext h h') : Lists ok h h' := fun _ _ _ l => l.at fun _ e => x _ _ e
/-- what is new may be spoken of -/
noncomputable def Fresh (ok : Addr → Prop) (h : Heap) : Prop := ∀ a, h.get? a = none → ok a
theorem Fresh.ext {ok : Addr → Prop} {h h' : Heap} (f : Fresh ok h) (x : Ext h h') : Fresh ok h' := fun a e => f a (by
  cases q : h.get? a with
  | none => rfl
  | some o => rw [x a o q] at e; cases e)
theorem Fresh.size {ok : Addr → Prop} {h : Heap} (f : Fresh ok h) : ok h.objs.size := f _ (by
  cases q : h.get? h.objs.size with
  | none => rfl
  | some o => exact absurd (Heap.lt_size q) (Nat.lt_irrefl _))

mutual
inductive Rd (ok : Addr → Prop) (h : Heap) : Value → D → Prop
  | none : Rd ok h .none .none
  | bool (b : Bool) : Rd ok h (.bool b) (.bool b)
  | int (i : Int) (t : Tok) : Rd ok h (.int i t) (.int i)
  | str (x : Str) (t : Tok) : Rd ok h (.str x t) (.str x)
  | bytes (b : Array UInt8) (t : Tok) : Rd ok h (.bytes b t) (.bytes b)
  | list {a : Addr} {vs : List Value} {ds : List D} : ok a → h.IsList a vs.toArray → RdAll ok h vs ds → Rd ok h (.ref a) (.list ds)
inductive RdAll (ok : Addr → Prop) (h : Heap) : List Value → List D → Prop
  | nil : RdAll ok h [] []
  | cons {v : Value} {d : D} {vs : List Value} {ds : List D} : Rd ok h v d → RdAll ok h vs ds → RdAll ok h (v :: vs) (d :: ds)
end
mutual
theorem Rd.lists {ok : Addr → Prop} {h h' : Heap} (x : Lists ok h h') : ∀ {v : Value} {d : D}, Rd ok h v d → Rd ok h' v d
  | _, _, .none => .none
  | _, _, .bool b => .bool b
  | _, _, .int i t => .int i t
  | _, _, .str s t => .str s t
  | _, _, .bytes b t => .bytes b t
  | _, _, .list k l r => .list k (x _ _ k l) (RdAll.lists x r)
theorem RdAll.lists {ok : Addr → Prop} {h h' : Heap} (x : Lists ok h h') : ∀ {vs : List Value} {ds : List D}, RdAll ok h vs ds → RdAll ok h' vs ds
  | _, _, .nil => .nil
  | _, _, .cons a r => .cons (Rd.lists x a) (RdAll.lists x r)
end
theorem Rd.ext {ok : Addr → Prop} {h h' : Heap} {v : Value} {d : D} (r : Rd ok h v d) (x : Ext h h') : Rd ok h' v d := r.lists x.lists
theorem RdAll.ext {ok : Addr → Prop} {h h' : Heap} {v : List Value} {d : List D} (r : RdAll ok h v d) (x : Ext h h') : RdAll ok h' v d := r.lists x.lists
section
variable {ok : Addr → Prop} {h : Heap} {vs ws : List Value} {ds es : List D} {v : Value} {d : D}
theorem RdAll.length (r : RdAll ok h vs ds) : vs.length = ds.length := by
  induction vs generalizing ds with
  | nil => cases r; rfl
  | cons v vs ih => cases r with | cons _ r => simp [ih r]
theorem RdAll.append (r : RdAll ok h vs ds) (q : RdAll ok h ws es) : RdAll ok h (vs ++ ws) (ds ++ es) := by
  induction vs generalizing ds with
  | nil => cases r; exact q
  | cons v vs ih => cases r with | cons a r => exact .cons a (ih r)
theorem RdAll.get (r : RdAll ok h vs ds) {k : Nat} {d : D} (e : ds[k]? = some d) : ∃ v, vs[k]? = some v ∧ Rd ok h v d := by
  induction vs generalizing ds k with
  | nil => cases r; simp at e
  | cons v vs ih =>
    cases r with
    | cons a r =>
      cases k with
      | zero => simp at e; subst e; exact ⟨v, rfl, a⟩
      | succ k => exact ih r (by simpa using e)
theorem RdAll.take (r : RdAll ok h vs ds) (n : Nat) : RdAll ok h (vs.take n) (ds.take n) := by
  induction vs generalizing ds n with
  | nil => cases r; simp; exact .nil
  | cons v vs ih =>
    cases r with
    | cons a r =>
      cases n with
      | zero => exact .nil
      | succ n => exact .cons a (ih r n)
theorem RdAll.drop (r : RdAll ok h vs ds) (n : Nat) : RdAll ok h (vs.drop n) (ds.drop n) := by
  induction vs generalizing ds n with
  | nil => cases r; simp; exact .nil
  | cons v vs ih =>
    cases r with
    | cons a r =>
      cases n with
      | zero => exact .cons a r
      | succ n => exact ih r n
theorem RdAll.snoc (r : RdAll ok h vs ds) (a : Rd ok h v d) : RdAll ok h (vs ++ [v]) (ds ++ [d]) := r.append (.cons a .nil)
theorem Rd.isList (r : Rd ok h v (.list ds)) : ∃ a vs, v = .ref a ∧ ok a ∧ h.IsList a vs.toArray ∧ RdAll ok h vs ds := by
  cases r with | list k l q => exact ⟨_, _, rfl, k, l, q⟩
theorem Rd.isInt {i : Int} (r : Rd ok h v (.int i)) : ∃ t, v = .int i t := by cases r; exact ⟨_, rfl⟩
theorem Rd.isStr {x : Str} (r : Rd ok h v (.str x)) : ∃ t, v = .str x t := by cases r; exact ⟨_, rfl⟩
theorem Rd.isBytes {x : Array UInt8} (r : Rd ok h v (.bytes x)) : ∃ t, v = .bytes x t := by cases r; exact ⟨_, rfl⟩
theorem Rd.isBool {x : Bool} (r : Rd ok h v (.bool x)) : v = .bool x := by cases r; rfl
end

mutual
theorem Rd.mono {ok ok' : Addr → Prop} {h : Heap} (x : ∀ a o, h.get? a = some o → ok a → ok' a) : ∀ {v : Value} {d : D}, Rd ok h v d → Rd ok' h v d
  | _, _, .none => .none
  | _, _, .bool b => .bool b
  | _, _, .int i t => .int i t
  | _, _, .str s t => .str s t
  | _, _, .bytes b t => .bytes b t
  | _, _, .list k l r => .list (let ⟨o, e, _⟩ := l; x _ o e k) l (RdAll.mono x r)
theorem RdAll.mono {ok ok' : Addr → Prop} {h : Heap} (x : ∀ a o, h.get? a = some o → ok a → ok' a) : ∀ {vs : List Value} {ds : List D}, RdAll ok h vs ds → RdAll ok' h vs ds
  | _, _, .nil => .nil
  | _, _, .cons a r => .cons (Rd.mono x a) (RdAll.mono x r)
end
/-! what the library's lists of ints are -/
theorem RdAll.ints {ok : Addr → Prop} {h : Heap} : ∀ {ns : List Int} {vs : List Value}, RdAll ok h vs (ns.map .int) → IntsAre vs ns
  | [], vs, r => by cases r; exact .nil
  | n :: ns, vs, r => by
    cases r with
    | cons a r => cases a; exact .cons _ _ (RdAll.ints r)
theorem RdAll.ofInts {ok : Addr → Prop} {h : Heap} : ∀ {ns : List Int} {vs : List Value}, IntsAre vs ns → RdAll ok h vs (ns.map .int)
  | _, _, .nil => .nil
  | _, _, .cons _ _ r => .cons (.int _ _) (RdAll.ofInts r)

/-! the library's trees of data, for comparisons -/
mutual
noncomputable def D.py : D → Option PyData
  | .none => some .none
  | .bool b => some (.bool b)
  | .int i => some (.int i)
  | .str x => some (.str x)
  | .bytes _ => Option.none
  | .list ds => (pys ds).map PyData.list
noncomputable def pys : List D → Option (List PyData)
  | [] => some []
  | d :: ds => match d.py, pys ds with
    | some x, some xs => some (x :: xs)
    | _, _ => Option.none
end
mutual
theorem Rd.reads {ok : Addr → Prop} {h : Heap} : ∀ {v : Value} {d : D}, Rd ok h v d → ∀ {p}, d.py = some p → ∃ as, Reads h v p as
  | _, _, .none, p, e => by simp [D.py] at e; subst e; exact ⟨_, .none⟩
  | _, _, .bool b, p, e => by simp [D.py] at e; subst e; exact ⟨_, .bool b⟩
  | _, _, .int i t, p, e => by simp [D.py] at e; subst e; exact ⟨_, .int i t⟩
  | _, _, .str s t, p, e => by simp [D.py] at e; subst e; exact ⟨_, .str s t⟩
  | _, _, .bytes b t, p, e => by simp [D.py] at e
  | _, _, .list (ds := ds) _ l r, p, e => by
    unfold D.py at e
    obtain ⟨xs, e1, rfl⟩ := Option.map_eq_some_iff.mp e
    obtain ⟨as, q⟩ := RdAll.reads r e1
    obtain ⟨o, ho, hc, n, hd⟩ := l
    exact ⟨_, .list ho hc hd (by simpa using q)⟩
theorem RdAll.reads {ok : Addr → Prop} {h : Heap} : ∀ {vs : List Value} {ds : List D}, RdAll ok h vs ds → ∀ {ps}, pys ds = some ps → ∃ as, ReadsAll h vs ps as
  | _, _, .nil, p, e => by simp [pys] at e; subst e; exact ⟨_, .nil⟩
  | _, _, .cons a r, p, e => by
    unfold pys at e
    split at e
    · rename_i x xs e1 e2
      cases e
      obtain ⟨as, q⟩ := Rd.reads a e1
      obtain ⟨bs, q'⟩ := RdAll.reads r e2
      exact ⟨_, .cons q q'⟩
    · cases e
end

end Mine
end
section
open PySem PySem.Calls PyProof.Rows PySem.W
set_option maxRecDepth 100000
set_option linter.all false
set_option linter.unusedVariables false
namespace Mine

/-- what a name is known to hold: data, or just this value -/
inductive Sl where
  | data (x : D)
  | val (u : Value)
noncomputable def Sl.At (ok : Addr → Prop) (h : Heap) : Sl → Value → Prop
  | .data x, v => Rd ok h v x
  | .val u, v => v = u
theorem Sl.At.lists {ok : Addr → Prop} {h h' : Heap} (x : Lists ok h h') {sl : Sl} {v : Value} (a : sl.At ok h v) : sl.At ok h' v := by
  cases sl with
  | data y => exact Rd.lists x a
  | val u => exact a
abbrev Ctx := List (Str × Sl)

noncomputable def VarIs (env : Env) (m cm : Str → Option Value) (x : Str) (v : Value) : Prop :=
  (env.kindOf x = some .local ∧ m x = some v) ∨ ((env.kindOf x = some .cell ∨ env.kindOf x = some .free) ∧ (∃ c, env.cells.lookup x = some c) ∧ cm x = some v)

/-- the frame at hand: its names are as the context says -/
noncomputable def Fm (ok : Addr → Prop) (env : Env) (Γ : Ctx) (h : Heap) : Prop :=
  ∃ m cm, h.Ns env.locals m ∧ (∀ n c, env.cells.lookup n = some c → h.IsCell c (cm n)) ∧ ∀ x sl, Γ.lookup x = some sl → ∃ v, VarIs env m cm x v ∧ sl.At ok h v

theorem Fm.ext {ok : Addr → Prop} {env : Env} {Γ : Ctx} {h h' : Heap} (F : Fm ok env Γ h) (x : Ext h h') : Fm ok env Γ h' :=
  let ⟨m, cm, a, b, c⟩ := F
  ⟨m, cm, a.keeps x, fun n k e => (b n k e).keeps x, fun y sl e => let ⟨v, p, q⟩ := c y sl e; ⟨v, p, q.lists (Ext.lists x)⟩⟩

noncomputable def Sub (Γ' : Ctx) (Γ : Ctx) : Prop := match Γ' with
  | [] => True
  | p :: r => Γ.lookup p.1 = some p.2 ∧ Sub r Γ
theorem Sub.of : ∀ {Γ' Γ : Ctx}, Sub Γ' Γ → ∀ x sl, Γ'.lookup x = some sl → Γ.lookup x = some sl
  | [], _, _, _, _, e => by simp at e
  | p :: r, Γ, h, x, sl, e => by
    rw [List.lookup_cons] at e
    cases hb : x == p.1 with
    | true => rw [hb] at e; cases e; rw [beq_iff_eq.mp hb]; exact h.1
    | false => rw [hb] at e; exact Sub.of h.2 x sl e
theorem Fm.sub {ok : Addr → Prop} {env : Env} {Γ Γ' : Ctx} {h : Heap} (F : Fm ok env Γ h) (hs : Sub Γ' Γ) : Fm ok env Γ' h :=
  let ⟨m, cm, a, b, c⟩ := F
  ⟨m, cm, a, b, fun y sl e => c y sl (hs.of y sl e)⟩

noncomputable def own (env : Env) : List Addr := env.locals :: env.cells.map (·.2)
/-- the heap's size where the text's top has ended -/
noncomputable def topLine : Nat := 190
structure EnvLow (env : Env) : Prop where
  low : ∀ b ∈ own env, topLine ≤ b
structure EnvOk (env : Env) : Prop where
  kind : env.scope.kind = .function
  glob : env.globals = mainGlobals
  blt : env.builtins = builtinsNs
  apart : env.cells.Pairwise fun x y => x.2 ≠ y.2
  self : ∀ p ∈ env.cells, env.cells.lookup p.1 = some p.2
  lw : EnvLow env

/-! the text's own defs, by name -/
structure FnRec where
  name : Str
  params : Arguments
  body : List Stmt
  scope : Scope
noncomputable def recOf (n : Str) : Stmt → Option FnRec
  | .FunctionDef m ps b _ _ _ sc _ _ _ => if m == n then some ⟨m, ps, b, sc⟩ else none
  | _ => none
noncomputable def fnRec (n : Str) : Option FnRec := PySem.Challenge.pw_kt0011_01.main.body.findSome? (recOf n)
noncomputable def IsFn (h : Heap) (a : Addr) (r : FnRec) (dV kV : Value) : Prop :=
  ∃ o pm cd doc, h.get? a = some o ∧ o.data = .func { docDef r.name r.params r.body r.scope pm cd doc with defaults := dV, kwdefaults := kV } ∧ h.CodeRec cd r.name
theorem IsFn.ext {h h' : Heap} {a : Addr} {r : FnRec} {dV kV : Value} (f : IsFn h a r dV kV) (x : Ext h h') : IsFn h' a r dV kV :=
  let ⟨o, pm, cd, doc, e, p, q⟩ := f; ⟨o, pm, cd, doc, x _ _ e, p, q.keeps x⟩

noncomputable def plainFns : List Str := ["read_uint1", "read_string1", "_buffer", "_truth", "escape", "_translate", "_law_stream", "_law_name", "_law_rows", "_law_pattern", "_law_parts", "_law_closed", "_law_walk", "_law_found", "_law_due"]
noncomputable def bltNames : List Str := ["len", "range", "max", "sum", "sorted", "bytes", "str", "isinstance", "type", "ValueError", "bool", "int", "float", "complex", "bytearray", "list", "tuple", "dict", "set", "frozenset", "repr"]

/-- the one table that the program's text turns: that of the code that makes a stream -/
noncomputable def tabP : Addr := 129
noncomputable def Tab (h : Heap) : Prop := ∃ ps, h.get? tabP = some (tabObj ps) ∧ (ps = #[] ∨ ∃ c', ps = #[rawInt 141, rawInt 4, .ref c'] ∧ h.CodeRec (.ref c') "_law_stream.<locals>.read")
theorem Tab.ext {h h' : Heap} (T : Tab h) (x : Ext h h') : Tab h' :=
  let ⟨ps, a, q⟩ := T; ⟨ps, x _ _ a, q.imp id fun ⟨c', e, d⟩ => ⟨c', e, d.keeps x⟩⟩
/-- the def that makes a stream, and its code -/
structure MkI (h : Heap) (mg : Str → Option Value) (c a : Addr) (o : Obj) (pm doc : Value) (r : FnRec) : Prop where
  rec_ : fnRec "_law_stream" = some r
  mg_ : mg "_law_stream" = some (.ref a)
  at_ : h.get? a = some o
  data : o.data = .func (docDef r.name r.params r.body r.scope pm (.ref c) doc)
  code : h.CodeRec (.ref c) "_law_stream"
  hd : CodeHd h c tabP
noncomputable def Mk (h : Heap) (mg : Str → Option Value) (c : Addr) : Prop := ∃ a o pm doc r, MkI h mg c a o pm doc r
theorem Mk.ext {h h' : Heap} {mg : Str → Option Value} {c : Addr} (T : Mk h mg c) (x : Ext h h') : Mk h' mg c :=
  let ⟨a, o, pm, doc, r, e1, e2, e3, e4, t, q⟩ := T; ⟨a, o, pm, doc, r, e1, e2, x _ _ e3, e4, t.keeps x, q.keeps x⟩
/-- the signs that names are made of, and the sign = -/
noncomputable def nameSigns : List Nat := (Str.ofString "ABCDEFGHIJKLMNOPQRSTUVWXYZabcdefghijklmnopqrstuvwxyz0123456789+/=").cps.toList
/-- where the class of streams lies -/
noncomputable def clsP : Addr := 69
/-- the class of streams: its __init__ -/
noncomputable def clsBody : Stmt → Option (List Stmt)
  | .ClassDef m _ _ b _ _ _ _ _ _ _ => if m == ("_Example" : Str) then some b else none
  | _ => none
noncomputable def initRec : Option FnRec := (PySem.Challenge.pw_kt0011_01.main.body.findSome? clsBody).bind fun b => b.findSome? (recOf "__init__")
structure ClsI (h : Heap) (C N : Addr) (mN : Str → Option Value) (f : Addr) (o : Obj) (pm cd doc : Value) (r : FnRec) : Prop where
  cls : ClsAt h C N mN
  init : mN "__init__" = some (.ref f)
  rec_ : initRec = some r
  at_ : h.get? f = some o
  ocls : o.cls = .type "function"
  data : o.data = .func (methDef r.name "_Example.__init__" r.params r.body r.scope pm cd doc)
  code : h.CodeRec cd "_Example.__init__"
  n1 : mN "__setattr__" = none
  n2 : mN "value" = none
  n3 : mN "read" = none
  n4 : mN "__getattribute__" = none
  n5 : mN "__getattr__" = none
structure Cls (h : Heap) (C : Addr) : Prop where
  of : ∃ N mN f o pm cd doc r, ClsI h C N mN f o pm cd doc r
theorem Cls.ext {h h' : Heap} {C : Addr} (T : Cls h C) (x : Ext h h') : Cls h' C :=
  let ⟨N, mN, f, o, pm, cd, doc, r, I⟩ := T.of; ⟨N, mN, f, o, pm, cd, doc, r, { I with cls := I.cls.keeps x, at_ := x _ _ I.at_, code := I.code.keeps x }⟩
/-- what else stands at the text's top: tables, defs with defaults, the class -/
structure More (h : Heap) (mg : Str → Option Value) : Prop where
  esc : ∃ a kvs, mg "_special_chars_map" = some (.ref a) ∧ (a == sysModules) = false ∧ (∀ prog w, h.DictOf (PySem.intKind prog w) a kvs) ∧ (∃ t, valueAt kvs 43 = some (.str ⟨#[92, 43]⟩ t)) ∧ ∀ c ∈ nameSigns, c ≠ 43 → valueAt kvs (c : Nat) = none
  b64 : ∃ t, mg "_B64" = some (.bytes (nameSigns.take 64 |>.map (·.toUInt8)).toArray t)
  enc : ∃ r a dv, fnRec "b64encode" = some r ∧ mg "b64encode" = some (.ref a) ∧ IsFn h a r (.ref dv) .none ∧ ∃ o n, h.get? dv = some o ∧ o.cls = .type "tuple" ∧ o.data = .seq #[.none] n
  b2a : ∃ r a kV, fnRec "b2a_base64" = some r ∧ mg "b2a_base64" = some (.ref a) ∧ IsFn h a r .none kV
  cls : mg "_Example" = some (.ref clsP) ∧ Cls h clsP
  bt : h.BuiltinsAt mg tabP
theorem More.ext {h h' : Heap} {mg : Str → Option Value} (T : More h mg) (x : Ext h h') : More h' mg where
  esc := let ⟨a, k, e1, e2, d, r⟩ := T.esc; ⟨a, k, e1, e2, fun p w => (d p w).keep x, r⟩
  b64 := T.b64
  enc := let ⟨r, a, dv, e1, e2, e3, o, n, e4, e5⟩ := T.enc; ⟨r, a, dv, e1, e2, e3.ext x, o, n, x _ _ e4, e5⟩
  b2a := let ⟨r, a, kV, e1, e2, e3⟩ := T.b2a; ⟨r, a, kV, e1, e2, e3.ext x⟩
  cls := ⟨T.cls.1, T.cls.2.ext x⟩
  bt := T.bt.keeps x
/-- what stands where the text's top has ended, but the table that is turned later -/
structure WdG (h : Heap) (mg mb : Str → Option Value) (P : Prop) : Prop where
  g : h.Ns mainGlobals mg
  b : h.Ns builtinsNs mb
  bt : ∀ x : Str, x ≠ "__name__" → mb x = bootBuiltins x
  free : ∀ x ∈ bltNames, mg x = none
  fns : ∀ n ∈ plainFns, ∀ r, fnRec n = some r → ∃ a, mg n = some (.ref a) ∧ IsFn h a r .none .none
  more : More h mg
  mkp : P
structure Wd0 (h : Heap) (c : Addr) : Prop where
  glob : ∃ mg mb, WdG h mg mb (Mk h mg c)
  nolimit : h.NoLimit
  nodigits : ∃ mc, h.Ns cStatics mc ∧ mc "sys.int_max_str_digits" = none
theorem Wd0.ext {h h' : Heap} {c : Addr} (W : Wd0 h c) (x : Ext h h') : Wd0 h' c where
  glob := let ⟨mg, mb, a, b, c, d, e, f, g⟩ := W.glob; ⟨mg, mb, a.keeps x, b.keeps x, c, d, fun n hn r hr => let ⟨k, p, q⟩ := e n hn r hr; ⟨k, p, q.ext x⟩, f.ext x, g.ext x⟩
  nolimit := W.nolimit.keeps x
  nodigits := let ⟨mc, a, b⟩ := W.nodigits; ⟨mc, a.keeps x, b⟩
/-- what stands of the text's own top -/
noncomputable def Wd (h : Heap) : Prop := ∃ h0 c, Wd0 h0 c ∧ (∀ b o, h0.get? b = some o → b < topLine ∧ b ≠ tabP) ∧ (∃ o, h0.get? (topLine - 1) = some o) ∧ Ext h0 h ∧ Tab h
theorem Wd.w0 {h : Heap} (W : Wd h) : ∃ c, Wd0 h c ∧ Tab h := let ⟨_, c, a, _, _, x, t⟩ := W; ⟨c, a.ext x, t⟩
theorem Wd.glob {h : Heap} (W : Wd h) : ∃ mg mb, WdG h mg mb (∃ c, Mk h mg c ∧ Tab h) :=
  let ⟨c, w, t⟩ := W.w0; let ⟨mg, mb, I⟩ := w.glob; ⟨mg, mb, { I with mkp := ⟨c, I.mkp, t⟩ }⟩
theorem Wd.nolimit {h : Heap} (W : Wd h) : h.NoLimit := let ⟨_, w, _⟩ := W.w0; w.nolimit
theorem Wd.top {h : Heap} (W : Wd h) : topLine ≤ h.objs.size := by
  obtain ⟨_, _, _, _, ⟨o, e⟩, x, _⟩ := W
  exact Nat.le_of_pred_lt (Heap.lt_size (x _ _ e))
theorem Wd.ext {h h' : Heap} (W : Wd h) (x : Ext h h') : Wd h' :=
  let ⟨h0, c, a, l, b, y, t⟩ := W; ⟨h0, c, a, l, b, y.trans x, t.ext x⟩
theorem Wd.tab {h : Heap} (W : Wd h) : ∃ o vs, h.get? tabP = some o ∧ o.data = .fields vs :=
  let ⟨_, _, _, _, _, _, ps, b, _⟩ := W; ⟨_, _, b, rfl⟩
theorem Wd.notTab {h : Heap} (W : Wd h) {x : Addr} {o : Obj} (e : h.get? x = some o) (ho : match o.data with | .fields _ => False | _ => True) : x ≠ tabP := by
  rintro rfl
  obtain ⟨o', vs, e', d⟩ := W.tab
  rw [e] at e'; cases e'
  rw [d] at ho; exact ho
/-- the ground that expressions stand on -/
structure Gd (ok : Addr → Prop) (env : Env) (Γ : Ctx) (h : Heap) : Prop where
  W : Wd h
  N : Fresh ok h
  F : Fm ok env Γ h
theorem Gd.ext {ok : Addr → Prop} {env : Env} {Γ : Ctx} {h h' : Heap} (G : Gd ok env Γ h) (x : Ext h h') : Gd ok env Γ h' := ⟨G.W.ext x, G.N.ext x, G.F.ext x⟩
theorem Gd.sub {ok : Addr → Prop} {env : Env} {Γ Γ' : Ctx} {h : Heap} (G : Gd ok env Γ h) (x : Sub Γ' Γ) : Gd ok env Γ' h := ⟨G.W, G.N, G.F.sub x⟩

/-- all that stood stands; tokens and draws may have gone on -/
noncomputable def Keeps (s s' : Shared) : Prop := ∃ h' tk dr, s' = { s with heap := h', toks := tk, drawn := dr } ∧ ∀ b o, s.heap.get? b = some o → h'.get? b = some o
theorem kp_refl (s : Shared) : Keeps s s := ⟨s.heap, s.toks, _, rfl, fun _ _ e => e⟩
theorem kp_trans {s t u : Shared} (a : Keeps s t) (b : Keeps t u) : Keeps s u := by
  obtain ⟨h1, k1, _, rfl, x⟩ := a
  obtain ⟨h2, k2, _, rfl, y⟩ := b
  exact ⟨h2, k2, _, rfl, fun b o e => y b o (x b o e)⟩
/-- the heap alone may differ -/
noncomputable def Sh (s t : Shared) : Prop := ∃ h tk dr, t = { s with heap := h, toks := tk, drawn := dr }
theorem sh_refl (s : Shared) : Sh s s := ⟨s.heap, s.toks, _, rfl⟩
theorem sh_trans {s t u : Shared} (a : Sh s t) (b : Sh t u) : Sh s u := by
  obtain ⟨_, _, _, rfl⟩ := a
  obtain ⟨_, _, _, rfl⟩ := b
  exact ⟨_, _, _, rfl⟩
theorem sh_kp {s t : Shared} (k : Keeps s t) : Sh s t := let ⟨h, tk, dr, e, _⟩ := k; ⟨h, tk, dr, e⟩
theorem kp_ext {s t : Shared} (a : Keeps s t) : Ext s.heap t.heap := by
  obtain ⟨h1, k1, _, rfl, x⟩ := a
  exact x
theorem kp_tok (s : Shared) (k : Nat) : Keeps s { s with toks := k } := ⟨s.heap, k, _, rfl, fun _ _ e => e⟩
theorem kp_push (s : Shared) (o : Obj) : Keeps s { s with heap := s.heap.push o } := ⟨_, s.toks, _, rfl, fun _ _ e => Heap.get?_push_of_some _ e⟩

/-- room for k calls more -/
structure Room (k : Nat) (A : Around) : Prop where
  hd : A.handled = none
  depth : A.depth + k < 1000
  units : A.units + 100 * k < 9900
theorem Room.le {k j : Nat} {A : Around} (r : Room k A) (h : j ≤ k) : Room j A := ⟨r.hd, by have := r.depth; omega, by have := r.units; omega⟩
theorem Room.deeper {k : Nat} {A : Around} {env : Env} (r : Room (k + 1) A) : Room k (A.deeper env) :=
  ⟨r.hd, by have := r.depth; show A.depth + 1 + k < 1000; omega, by have := r.units; show A.units + 3 + 100 * k < 9900; omega⟩

section
variable {prog : Program} {w : World}

/-- an expression that is quiet: it gives the data, and all that stood stands -/
noncomputable def Ev (prog : Program) (w : World) (A : Around) (env : Env) (Γ : Ctx) (e : Expr) (d : D) : Prop :=
  ∀ ok s E, Gd ok env Γ s.heap → wpAny (model prog w) A (eval e env) (fun v s' => Rd ok s'.heap v d ∧ Keeps s s') E s
/-- a test -/
noncomputable def Tst (prog : Program) (w : World) (A : Around) (env : Env) (Γ : Ctx) (e : Expr) (b : Bool) : Prop :=
  ∀ ok s E, Gd ok env Γ s.heap → wpAny (model prog w) A (isTrue e env (eval e env)) (fun c s' => c = b ∧ Keeps s s') E s
/-- an operation on data -/
noncomputable def Op1 (prog : Program) (w : World) (A : Around) (f : Value → Sem Value) (d d' : D) : Prop :=
  ∀ ok s E v, Fresh ok s.heap → Wd s.heap → Rd ok s.heap v d → wpAny (model prog w) A (f v) (fun u s' => Rd ok s'.heap u d' ∧ Keeps s s') E s
noncomputable def Op2 (prog : Program) (w : World) (A : Around) (f : Value → Value → Sem Value) (d1 d2 d : D) : Prop :=
  ∀ ok s E v1 v2, Fresh ok s.heap → Wd s.heap → Rd ok s.heap v1 d1 → Rd ok s.heap v2 d2 → wpAny (model prog w) A (f v1 v2) (fun u s' => Rd ok s'.heap u d ∧ Keeps s s') E s

variable {A : Around} {env : Env} {Γ : Ctx} {ok : Addr → Prop}

theorem Ev.go {e : Expr} {d : D} {s : Shared} {E : Value → Shared → Prop} {Q : Value → Shared → Prop} (h : Ev prog w A env Γ e d) (g : Gd ok env Γ s.heap)
    (k : ∀ v s', Rd ok s'.heap v d → Keeps s s' → Gd ok env Γ s'.heap → Q v s') : wpAny (model prog w) A (eval e env) Q E s :=
  wpAny_mono (h ok s E g) (fun v s' q => k v s' q.1 q.2 (g.ext (kp_ext q.2))) fun _ _ x => x
theorem Tst.go {e : Expr} {b : Bool} {s : Shared} {E : Value → Shared → Prop} {Q : Bool → Shared → Prop} (h : Tst prog w A env Γ e b) (g : Gd ok env Γ s.heap)
    (k : ∀ s', Keeps s s' → Gd ok env Γ s'.heap → Q b s') : wpAny (model prog w) A (isTrue e env (eval e env)) Q E s :=
  wpAny_mono (h ok s E g) (fun v s' q => q.1 ▸ k s' q.2 (g.ext (kp_ext q.2))) fun _ _ x => x

theorem load_of {x : Str} {v : Value} {s : Shared} {E : Value → Shared → Prop} {m cm : Str → Option Value} {Q : Value → Shared → Prop} (okE : EnvOk env) (hn : s.heap.Ns env.locals m) (hc : ∀ n c, env.cells.lookup n = some c → s.heap.IsCell c (cm n))
    (hv : VarIs env m cm x v) (hcd : (x == ("__classdict__" : Str)) = false) (h : Q v s) : wpAny (model prog w) A (loadName env x) Q E s := by
  rcases hv with ⟨k, e⟩ | ⟨k, ⟨c, ec⟩, e⟩
  · exact wpAny_loadName_local okE.kind k hn e h
  · have q := hc x c ec
    rw [e] at q
    rcases k with k | k
    · exact wpAny_loadName_cell okE.kind k ec q h
    · exact wpAny_loadName_free okE.kind k ec q h hcd

theorem ev_name {x : Str} {pos : Pos} {d : D} (okE : EnvOk env) (hx : Γ.lookup x = some (.data d)) (hd : ((x == ("__debug__" : Str)) || (x == ("__classdict__" : Str))) = false := by decide) : Ev prog w A env Γ (.Name x pos) d := by
  intro okk s E g
  obtain ⟨m, cm, hn, hc, hv⟩ := g.F
  obtain ⟨v, hv, r⟩ := hv x _ hx
  obtain ⟨h1, h2⟩ := Bool.or_eq_false_iff.mp hd
  exact wpAny_Name (load_of okE hn hc hv h2 ⟨r, kp_refl s⟩) h1
/-- a name that holds just this value -/
theorem nm_val {x : Str} {pos : Pos} {u : Value} {s : Shared} {E : Value → Shared → Prop} {Q : Value → Shared → Prop} (okE : EnvOk env) (g : Fm ok env Γ s.heap) (hx : Γ.lookup x = some (.val u)) (h : Q u s)
    (hd : ((x == ("__debug__" : Str)) || (x == ("__classdict__" : Str))) = false := by decide) : wpAny (model prog w) A (eval (.Name x pos) env) Q E s := by
  obtain ⟨m, cm, hn, hc, hv⟩ := g
  obtain ⟨v, hv, r⟩ := hv x _ hx
  obtain ⟨h1, h2⟩ := Bool.or_eq_false_iff.mp hd
  cases (show v = u from r)
  exact wpAny_Name (load_of okE hn hc hv h2 h) h1

theorem ev_int {i : Int} {k : Nat} {pos : Pos} : Ev prog w A env Γ (.Constant (.int i) k pos) (.int i) := fun _ _ _ _ => wpAny_Constant_int ⟨.int _ _, kp_tok _ _⟩
theorem ev_str {x : Str} {k : Nat} {pos : Pos} : Ev prog w A env Γ (.Constant (.str x) k pos) (.str x) := fun _ _ _ _ => wpAny_Constant_str ⟨.str _ _, kp_tok _ _⟩
theorem ev_none {k : Nat} {pos : Pos} : Ev prog w A env Γ (.Constant .none k pos) .none := fun _ _ _ _ => wpAny_Constant_none ⟨.none, kp_refl _⟩
theorem ev_bool {b : Bool} {k : Nat} {pos : Pos} : Ev prog w A env Γ (.Constant (.bool b) k pos) (.bool b) := fun _ _ _ _ => wpAny_Constant_bool ⟨.bool _, kp_refl _⟩

theorem ev_bin {l r : Expr} {op : Operator} {pos : Pos} {d1 d2 d : D} (h1 : Ev prog w A env Γ l d1) (h2 : Ev prog w A env Γ r d2) (h : Op2 prog w A (binaryOp op) d1 d2 d) : Ev prog w A env Γ (.BinOp l op r pos) d := fun ok s E g =>
  wpAny_BinOp (h1.go g fun a s1 ra k1 g1 => h2.go g1 fun b s2 rb k2 g2 => wpAny_mono (h ok s2 E a b g2.N g2.W (ra.ext (kp_ext k2)) rb) (fun _ _ q => ⟨q.1, kp_trans k1 (kp_trans k2 q.2)⟩) fun _ _ x => x)
theorem tst_cmp {l r : Expr} {op : CmpOp} {pos : Pos} {d1 d2 : D} {b : Bool} (h1 : Ev prog w A env Γ l d1) (h2 : Ev prog w A env Γ r d2) (h : Op2 prog w A (compareOp op) d1 d2 (.bool b)) (hm : behindInMarks op r = false := by with_unfolding_all rfl) :
    Tst prog w A env Γ (.Compare l [op] [r] pos) b := fun ok s E g =>
  wpAny_isTrue_Compare1 (h1.go g fun u s1 ra k1 g1 => h2.go g1 fun v s2 rb k2 g2 => wpAny_mono (h ok s2 E u v g2.N g2.W (ra.ext (kp_ext k2)) rb) (fun c s3 q => by
    cases q.1.isBool
    exact wpAny_truthy_bool ⟨rfl, kp_trans k1 (kp_trans k2 q.2)⟩) fun _ _ x => x) hm
/-- a row of tests, read from the left as far as need be -/
inductive All (prog : Program) (w : World) (A : Around) (env : Env) (Γ : Ctx) : BoolOp → List Expr → Bool → Prop
  | andNil : All prog w A env Γ .And [] true
  | orNil : All prog w A env Γ .Or [] false
  | andF {x r} : Tst prog w A env Γ x false → All prog w A env Γ .And (x :: r) false
  | andT {x r b} : Tst prog w A env Γ x true → All prog w A env Γ .And r b → All prog w A env Γ .And (x :: r) b
  | orT {x r} : Tst prog w A env Γ x true → All prog w A env Γ .Or (x :: r) true
  | orF {x r b} : Tst prog w A env Γ x false → All prog w A env Γ .Or r b → All prog w A env Γ .Or (x :: r) b
theorem all_go {op : BoolOp} {es : List Expr} {b : Bool} (h : All prog w A env Γ op es b) : ∀ ok s E, Gd ok env Γ s.heap → wpAny (model prog w) A (allTrue op es env) (fun c s' => c = b ∧ Keeps s s') E s := by
  induction h with
  | andNil => exact fun ok s E _ => wpAny_allTrue_And_nil ⟨rfl, kp_refl s⟩
  | orNil => exact fun ok s E _ => wpAny_allTrue_Or_nil ⟨rfl, kp_refl s⟩
  | andF t => exact fun ok s E g => wpAny_allTrue_And_cons (t.go g fun s' k _ => by simpa using k)
  | andT t _ ih => exact fun ok s E g => wpAny_allTrue_And_cons (t.go g fun s' k g' => by
      simp only [if_true]
      exact wpAny_mono (ih ok s' E g') (fun _ _ q => ⟨q.1, kp_trans k q.2⟩) fun _ _ x => x)
  | orT t => exact fun ok s E g => wpAny_allTrue_Or_cons (t.go g fun s' k _ => by simpa using k)
  | orF t _ ih => exact fun ok s E g => wpAny_allTrue_Or_cons (t.go g fun s' k g' => by
      simp only [Bool.false_eq_true, if_false]
      exact wpAny_mono (ih ok s' E g') (fun _ _ q => ⟨q.1, kp_trans k q.2⟩) fun _ _ x => x)
theorem tst_row {op : BoolOp} {es : List Expr} {pos : Pos} {b : Bool} (h : All prog w A env Γ op es b) : Tst prog w A env Γ (.BoolOp op es pos) b := fun ok s E g => wpAny_isTrue_BoolOp (all_go h ok s E g)
/-- both ways of a test are led: the second is asked only where the first leaves it open -/
theorem tst_and {x y : Expr} {pos : Pos} {a b : Bool} (h1 : Tst prog w A env Γ x a) (h2 : a = true → Tst prog w A env Γ y b) : Tst prog w A env Γ (.BoolOp .And [x, y] pos) (a && b) := by
  cases a with
  | false => exact tst_row (.andF h1)
  | true => cases b with
    | false => exact tst_row (.andT h1 (.andF (h2 rfl)))
    | true => exact tst_row (.andT h1 (.andT (h2 rfl) .andNil))
theorem tst_or {x y : Expr} {pos : Pos} {a b : Bool} (h1 : Tst prog w A env Γ x a) (h2 : a = false → Tst prog w A env Γ y b) : Tst prog w A env Γ (.BoolOp .Or [x, y] pos) (a || b) := by
  cases a with
  | true => exact tst_row (.orT h1)
  | false => cases b with
    | false => exact tst_row (.orF h1 (.orF (h2 rfl) .orNil))
    | true => exact tst_row (.orF h1 (.orT (h2 rfl)))
theorem tst_and3 {x y z : Expr} {pos : Pos} {a b c : Bool} (h1 : Tst prog w A env Γ x a) (h2 : a = true → Tst prog w A env Γ y b) (h3 : a = true → b = true → Tst prog w A env Γ z c) : Tst prog w A env Γ (.BoolOp .And [x, y, z] pos) (a && b && c) := by
  cases a with
  | false => exact tst_row (.andF h1)
  | true => cases b with
    | false => exact tst_row (.andT h1 (.andF (h2 rfl)))
    | true => cases c with
      | false => exact tst_row (.andT h1 (.andT (h2 rfl) (.andF (h3 rfl rfl))))
      | true => exact tst_row (.andT h1 (.andT (h2 rfl) (.andT (h3 rfl rfl) .andNil)))
theorem ev_if {t b o : Expr} {pos : Pos} {c : Bool} {d : D} (h : Tst prog w A env Γ t c) (h1 : c = true → Ev prog w A env Γ b d) (h2 : c = false → Ev prog w A env Γ o d) : Ev prog w A env Γ (.IfExp t b o pos) d := fun ok s E g =>
  wpAny_IfExp (h.go g fun s' k g' => by
    cases c with
    | true => exact (h1 rfl).go g' fun v s2 r k2 _ => ⟨r, kp_trans k k2⟩
    | false => exact (h2 rfl).go g' fun v s2 r k2 _ => ⟨r, kp_trans k k2⟩)

/-- items of a display, arguments of a call -/
inductive Evs (prog : Program) (w : World) (A : Around) (env : Env) (Γ : Ctx) : List Expr → List D → Prop
  | nil : Evs prog w A env Γ [] []
  | cons {e r d ds} : Ev prog w A env Γ e d → starEach (e :: r) env = (false, eval e env) :: starEach r env → Evs prog w A env Γ r ds → Evs prog w A env Γ (e :: r) (d :: ds)
theorem evs_go {es : List Expr} {ds : List D} (h : Evs prog w A env Γ es ds) {pos : Pos} : ∀ ok s E, Gd ok env Γ s.heap → wpAny (model prog w) A (spliced (backTo pos (starEach es env))) (fun vs s' => RdAll ok s'.heap vs ds ∧ Keeps s s') E s := by
  induction h with
  | nil => exact fun ok s E _ => wpAny_items_nil ⟨.nil, kp_refl s⟩
  | cons a he _ ih => exact fun ok s E g => wpAny_items_cons (a.go g fun v s1 r k g1 => wpAny_mono (ih ok s1 E g1) (fun vs s2 q => ⟨.cons (r.ext (kp_ext q.2)) q.1, kp_trans k q.2⟩) fun _ _ x => x) he
theorem new_list {s : Shared} {vs : List Value} {ds : List D} (N : Fresh ok s.heap) (r : RdAll ok s.heap vs ds) : Rd ok (s.heap.push { cls := .type "list", data := .seq vs.toArray }) (.ref s.heap.objs.size) (.list ds) :=
  .list N.size ⟨_, Heap.get?_push_size _ rfl, rfl, 0, rfl⟩ (r.ext fun _ _ e => Heap.get?_push_of_some _ e)
theorem ev_list {es : List Expr} {pos : Pos} {ds : List D} (h : Evs prog w A env Γ es ds) (hl : ds.length ≤ sizeLine := by size_fits) : Ev prog w A env Γ (.List es pos) (.list ds) := fun ok s E g =>
  wpAny_List (wpAny_mono (evs_go h ok s E g) (fun vs s1 q => ⟨by rw [q.1.length]; exact hl, new_list (g.N.ext (kp_ext q.2)) q.1, kp_trans q.2 (kp_push _ _)⟩) fun _ _ x => x)
end
end Mine
end
section
open PySem PySem.Calls PyProof.Rows PySem.W
set_option maxRecDepth 100000
set_option linter.all false
namespace Mine

/-- a text by its signs -/
noncomputable def S (l : List Nat) : Str := ⟨l.toArray⟩
theorem S_len (l : List Nat) : (S l).length = l.length := by simp [S, Str.length]
theorem S_cps (l : List Nat) : (S l).cps.toList = l := by simp [S]
theorem S_app (a b : List Nat) : S a ++ S b = S (a ++ b) := by
  apply Str.ext'
  show ((S a).cps ++ (S b).cps) = _
  simp [S]
theorem S_inj {a b : List Nat} (h : S a = S b) : a = b := by have := congrArg (fun x : Str => x.cps.toList) h; simpa [S] using this
section
variable {prog : Program} {w : World} {A : Around} {env : Env} {Γ : Ctx}

theorem ev_lit {x : Str} {l : List Nat} {k : Nat} {pos : Pos} (h : x = S l := by decide +kernel) : Ev prog w A env Γ (.Constant (.str x) k pos) (.str (S l)) := h ▸ ev_str

/-! ints -/
theorem op_add {a b : Int} : Op2 prog w A (binaryOp .Add) (.int a) (.int b) (.int (a + b)) := fun ok s E u v N _ ru rv => by
  cases ru; cases rv; exact P.add_int ⟨.int _ _, kp_tok _ _⟩
theorem op_sub {a b : Int} : Op2 prog w A (binaryOp .Sub) (.int a) (.int b) (.int (a - b)) := fun ok s E u v N _ ru rv => by
  cases ru; cases rv; exact P.sub_int ⟨.int _ _, kp_tok _ _⟩
theorem op_mul {a b : Int} (h : a.natAbs < 2 ^ 62) (hb : b.natAbs < 2 ^ 62) : Op2 prog w A (binaryOp .Mult) (.int a) (.int b) (.int (a * b)) := fun ok s E u v N _ ru rv => by
  cases ru; cases rv
  exact P.mul_int ⟨.int _ _, kp_tok _ _⟩ (IntMulOk.of_left (intBits_le_64 (by omega) (by omega)))
theorem op_div {a b : Int} (h0 : b ≠ 0) (h : b.natAbs < 1073741824) : Op2 prog w A (binaryOp .FloorDiv) (.int a) (.int b) (.int (a.fdiv b)) := fun ok s E u v N _ ru rv => by
  cases ru; cases rv; exact floordiv_int h0 ⟨.int _ _, kp_tok _ _⟩ (.inl (PyProof.noPylong_small h))
theorem op_mod {a b : Int} (h0 : b ≠ 0) : Op2 prog w A (binaryOp .Mod) (.int a) (.int b) (.int (a.fmod b)) := fun ok s E u v N _ ru rv => by
  cases ru; cases rv; exact mod_int' h0 ⟨.int _ _, kp_tok _ _⟩
theorem op_pow {a n : Int} (hn : 0 ≤ n) (hn2 : n ≤ 1000000) (ha : a.natAbs < 2 ^ 64) : Op2 prog w A (binaryOp .Pow) (.int a) (.int n) (.int (a ^ n.toNat)) := fun ok s E u v N _ ru rv => by
  cases ru; cases rv; exact pow_int_small hn hn2 ha ⟨.int _ _, kp_tok _ _⟩
theorem op_eqi {a b : Int} : Op2 prog w A (compareOp .Eq) (.int a) (.int b) (.bool (a == b)) := fun ok s E u v N _ ru rv => by
  cases ru; cases rv; exact P.eq_int ⟨.bool _, kp_refl _⟩
theorem op_lti {a b : Int} : Op2 prog w A (compareOp .Lt) (.int a) (.int b) (.bool (decide (a < b))) := fun ok s E u v N _ ru rv => by
  cases ru; cases rv; exact P.lt_int ⟨.bool _, kp_refl _⟩
theorem op_lei {a b : Int} : Op2 prog w A (compareOp .LtE) (.int a) (.int b) (.bool (decide (a ≤ b))) := fun ok s E u v N _ ru rv => by
  cases ru; cases rv; exact P.le_int ⟨.bool _, kp_refl _⟩
theorem op_gti {a b : Int} : Op2 prog w A (compareOp .Gt) (.int a) (.int b) (.bool (decide (a > b))) := fun ok s E u v N _ ru rv => by
  cases ru; cases rv; exact P.gt_int ⟨.bool _, kp_refl _⟩
theorem op_gei {a b : Int} : Op2 prog w A (compareOp .GtE) (.int a) (.int b) (.bool (decide (a ≥ b))) := fun ok s E u v N _ ru rv => by
  cases ru; cases rv; exact P.ge_int ⟨.bool _, kp_refl _⟩

/-! texts -/
theorem op_cat {a b : List Nat} (h : a.length + b.length ≤ sizeLine := by size_fits) : Op2 prog w A (binaryOp .Add) (.str (S a)) (.str (S b)) (.str (S (a ++ b))) := fun ok s E u v N _ ru rv => by
  cases ru; cases rv
  refine P.add_str ?_
  rw [S_len, S_len]
  by_cases ha : a = []
  · subst ha; exact ⟨.str _ _, kp_refl _⟩
  · have h1 : (a.length == 0) = false := by simpa using ha
    rw [h1]
    by_cases hb : b = []
    · subst hb
      show Rd _ _ _ _ ∧ _
      rw [List.append_nil]
      exact ⟨.str _ _, kp_refl _⟩
    · have h2 : (b.length == 0) = false := by simpa using hb
      rw [h2]
      show _ ∧ _
      rw [S_app]
      exact ⟨by rw [S_len, List.length_append]; exact h, .str _ _, kp_tok _ _⟩
theorem op_eqs {a b : List Nat} : Op2 prog w A (compareOp .Eq) (.str (S a)) (.str (S b)) (.bool (a == b)) := fun ok s E u v N _ ru rv => by
  cases ru; cases rv
  refine P.eq_str ?_
  rw [S_cps, S_cps]
  exact ⟨.bool _, kp_refl _⟩

/-! lists -/
theorem op_app {a b : List D} (h : a.length + b.length ≤ sizeLine := by size_fits) : Op2 prog w A (binaryOp .Add) (.list a) (.list b) (.list (a ++ b)) := fun ok s E u v N _ ru rv => by
  obtain ⟨l, vs, rfl, kl, hl, ra⟩ := ru.isList
  obtain ⟨b', ws, rfl, kb, hb, rb⟩ := rv.isList
  have hsz : vs.length + ws.length ≤ sizeLine := by rw [ra.length, rb.length]; exact h
  obtain ⟨⟨cls, dd, data, sl⟩, ho, hc, n, hd⟩ := id hl
  obtain ⟨⟨cls2, dd2, data2, sl2⟩, ho2, hc2, n2, hd2⟩ := id hb
  simp only at hc hd hc2 hd2
  subst hc hd hc2 hd2
  have e : vs.toArray ++ ws.toArray = (vs ++ ws).toArray := by simp
  refine concat_meets ⟨_, ho, rfl⟩ ⟨_, ho2, rfl⟩ noFill_list_add seq_list_add PySem.F.slot_list_add PySem.F.entry_list_add (PySem.F.args_list_add_2 _ _) (list_addW l b' vs.toArray ws.toArray n n2 dd dd2 sl sl2 (by simpa using hsz)) ⟨ho, ho2, ?_⟩
  rw [e]
  exact ⟨new_list N (ra.append rb), kp_push _ _⟩

theorem op_eqd {d1 d2 : D} {p1 p2 : PyData} {b : Bool} (h1 : d1.py = some p1) (h2 : d2.py = some p2) (c1 : p1.canLay0 = true) (c2 : p2.canLay0 = true) (hb : PyData.eqv p1 p2 = b) (r : Room 1 A) (hd : p2.depth ≤ 64 := by decide) :
    Op2 prog w A (compareOp .Eq) d1 d2 (.bool b) := fun ok s E u v N _ ru rv => by
  obtain ⟨as, qa⟩ := ru.reads h1
  obtain ⟨bs, qb⟩ := rv.reads h2
  refine SeqAt.compareEq_reads qa qb c1 c2 ?_ ⟨hb ▸ .bool _, kp_refl _⟩
  have := r.units
  have : min p1.depth p2.depth ≤ p2.depth := Nat.min_le_right _ _
  show _ < 9900
  omega
theorem op_ned {d1 d2 : D} {p1 p2 : PyData} {b : Bool} (h1 : d1.py = some p1) (h2 : d2.py = some p2) (c1 : p1.canLay0 = true) (c2 : p2.canLay0 = true) (hb : (!PyData.eqv p1 p2) = b) (r : Room 1 A) (hd : p2.depth ≤ 64 := by decide) :
    Op2 prog w A (compareOp .NotEq) d1 d2 (.bool b) := fun ok s E u v N _ ru rv => by
  obtain ⟨as, qa⟩ := ru.reads h1
  obtain ⟨bs, qb⟩ := rv.reads h2
  refine SeqAt.compareNe_reads qa qb c1 c2 ?_ ⟨hb ▸ .bool _, kp_refl _⟩
  have := r.units
  have : min p1.depth p2.depth ≤ p2.depth := Nat.min_le_right _ _
  show _ < 9900
  omega
theorem op_in {d : D} {ds : List D} {p : PyData} {ps : List PyData} {b : Bool} (h1 : d.py = some p) (h2 : pys ds = some ps) (c1 : p.canLay0 = true) (c2 : PyData.canLayAll0 ps = true) (hb : (ps.any fun y => PyData.eqv y p) = b) (r : Room 1 A) (hd : p.depth ≤ 64 := by decide) :
    Op2 prog w A (compareOp .In) d (.list ds) (.bool b) := fun ok s E u v N _ ru rv => by
  obtain ⟨as, qa⟩ := ru.reads h1
  obtain ⟨bs, qb⟩ := rv.reads (p := .list ps) (by unfold D.py; rw [h2]; rfl)
  refine SeqAt.in_list_reads qb qa c2 c1 ?_ ⟨hb ▸ .bool _, kp_refl _⟩
  have := r.units
  have : min (PyData.depthAll ps) p.depth ≤ p.depth := Nat.min_le_right _ _
  show _ < 9900
  omega
theorem op_notIn {d : D} {ds : List D} {p : PyData} {ps : List PyData} {b : Bool} (h1 : d.py = some p) (h2 : pys ds = some ps) (c1 : p.canLay0 = true) (c2 : PyData.canLayAll0 ps = true) (hb : (!ps.any fun y => PyData.eqv y p) = b) (r : Room 1 A) (hd : p.depth ≤ 64 := by decide) :
    Op2 prog w A (compareOp .NotIn) d (.list ds) (.bool b) := fun ok s E u v N _ ru rv => by
  obtain ⟨as, qa⟩ := ru.reads h1
  obtain ⟨bs, qb⟩ := rv.reads (p := .list ps) (by unfold D.py; rw [h2]; rfl)
  refine SeqAt.notIn_list_reads qb qa c2 c1 ?_ ⟨hb ▸ .bool _, kp_refl _⟩
  have := r.units
  have : min (PyData.depthAll ps) p.depth ≤ p.depth := Nat.min_le_right _ _
  show _ < 9900
  omega

noncomputable def isNone : D → Bool
  | .none => true
  | _ => false
theorem op_isNone {d : D} : Op2 prog w A (compareOp .Is) d .none (.bool (isNone d)) := fun ok s E u v N _ ru rv => by
  cases rv
  refine is_none ?_
  have e : (u == Value.none) = isNone d := by cases ru <;> rfl
  rw [e]
  exact ⟨.bool _, kp_refl _⟩

/-! items -/
theorem ev_item {v i : Expr} {pos : Pos} {ds : List D} {k : Int} {d : D} (hv : Ev prog w A env Γ v (.list ds)) (hi : Ev prog w A env Γ i (.int k)) (h0 : 0 ≤ k) (hk : ds[k.toNat]? = some d) (hlt : k < 2 ^ 63)
    (hs : ∀ a u, subscripted i false (.ref a) (.int k u) = operate [.ref a, .int k u] (getItem (.ref a) (.int k u)) := by intro _ _; with_unfolding_all rfl) : Ev prog w A env Γ (.Subscript v i pos) d := fun ok s E g =>
  Subscript_ (hv.go g fun o s1 r k1 g1 => hi.go g1 fun x s2 rx k2 g2 => by
    obtain ⟨t, rfl⟩ := rx.isInt
    obtain ⟨l, vs, rfl, kl, hl, ra⟩ := (r.ext (kp_ext k2)).isList
    obtain ⟨y, hy, ry⟩ := ra.get hk
    exact tail_any hl.typeIs slot_list_getitem.lookup (wpAny_getItem_list hl h0 hlt (by simpa using hy) ⟨ry, kp_trans k1 k2⟩) (hs _ _))
theorem ev_sign {v i : Expr} {pos : Pos} {l : List Nat} {k : Int} {c : Nat} (hv : Ev prog w A env Γ v (.str (S l))) (hi : Ev prog w A env Γ i (.int k)) (h0 : 0 ≤ k) (hk : l[k.toNat]? = some c) (hlt : k < 2 ^ 63)
    (hs : ∀ x t u, subscripted i false (.str x t) (.int k u) = operate [.str x t, .int k u] (getItem (.str x t) (.int k u)) := by intro _ _ _; with_unfolding_all rfl) : Ev prog w A env Γ (.Subscript v i pos) (.str (S [c])) := fun ok s E g =>
  Subscript_ (hv.go g fun o s1 r k1 g1 => hi.go g1 fun x s2 rx k2 g2 => by
    obtain ⟨t, rfl⟩ := rx.isInt
    obtain ⟨t', rfl⟩ := r.isStr
    have hl : k.toNat < l.length := (List.getElem?_eq_some_iff.mp hk).1
    refine tail_any (typeIs_str _ _ _) PySem.F.slot_str_getitem.lookup (P.getItem_str (c := c) ?_ ?_ ⟨?_, kp_trans k1 (kp_trans k2 (kp_tok _ _))⟩) (hs _ _ _)
    · have e1 : decide (k < -(2 ^ 63 : Int)) = false := decide_eq_false (by omega)
      have e2 : decide (k ≥ 2 ^ 63) = false := decide_eq_false (by omega)
      rw [e1, e2]; rfl
    · rw [S_len, seqIndex_of h0 (by omega)]
      simpa [S] using hk
    · exact .str _ _)

/-- a bound of a cut -/
inductive EvP (prog : Program) (w : World) (A : Around) (env : Env) (Γ : Ctx) : Option Expr → Option Int → Prop
  | none : EvP prog w A env Γ none none
  | some {e i} : Ev prog w A env Γ e (.int i) → EvP prog w A env Γ (some e) (some i)
theorem part_go {ok : Addr → Prop} {e : Option Expr} {k : Option Int} (h : EvP prog w A env Γ e k) {s : Shared} {E : Value → Shared → Prop} {Q : Value → Shared → Prop} (g : Gd ok env Γ s.heap)
    (q : ∀ v s', ∀ u, v = partValue (k.map fun i => (i, u)) → Keeps s s' → Gd ok env Γ s'.heap → Q v s') : wpAny (model prog w) A (evalPart e env) Q E s := by
  cases h with
  | none => exact wpAny_pure (q _ s 0 rfl (kp_refl s) g)
  | some h =>
    refine h.go g fun v s' r k g' => ?_
    obtain ⟨t, rfl⟩ := r.isInt
    exact q _ s' t rfl k g'

theorem ev_cut {v : Expr} {lo up : Option Expr} {p pos : Pos} {l r : List Nat} {a b : Option Int} (hv : Ev prog w A env Γ v (.str (S l))) (hlo : EvP prog w A env Γ lo a) (hup : EvP prog w A env Γ up b) (hr : Txt.slice (S l) a b = S r)
    (hl : l.length ≤ sizeLine := by size_fits) : Ev prog w A env Γ (.Subscript v (.Slice lo up none p) pos) (.str (S r)) := fun ok s E g =>
  Subscript_ (hv.go g fun o s1 ro k1 g1 => wpAny_Slice (part_go hlo g1 fun vl s2 ul el k2 g2 => part_go hup g2 fun vu s3 uu eu k3 g3 => wpAny_pure (by
    obtain ⟨t, rfl⟩ := ro.isStr
    subst el eu
    refine tail_any (typeIs_str _ _ _) PySem.F.slot_str_getitem.lookup (wpAny_getItem_str_slice (l := a.map fun i => (i, ul)) (u := b.map fun i => (i, uu)) (st := none) ⟨_, Heap.get?_push_size _ rfl, rfl, rfl⟩ rfl
      (post_val_or_str ?_)) (by rfl)
    have e : (if (((none : Option (Int × Tok)).map (·.1)).getD 1 == 1 && (slicePicked (S l) (a.map fun i => (i, ul)) (b.map fun i => (i, uu)) none).length == (S l).length) = true then S l
        else ⟨((slicePicked (S l) (a.map fun i => (i, ul)) (b.map fun i => (i, uu)) none).filterMap ((S l).cps[·]?)).toArray⟩) = S r := by
      rw [← hr]
      unfold Txt.slice slicePicked
      simp only [Option.map_map]
      have ea : ∀ (x : Option Int) (u : Tok), Option.map ((fun x : Int × Tok => x.1) ∘ fun i => (i, u)) x = x := fun x u => by cases x <;> rfl
      rw [ea, ea]
      rfl
    rw [e]
    exact ⟨by rw [← hr]; exact Nat.le_trans (Txt.slice_le _ _ _) (by rw [S_len]; exact hl), fun t' k => ⟨.str _ _, kp_trans k1 (kp_trans k2 (kp_trans k3 (kp_trans (kp_push _ _) (kp_tok _ _))))⟩⟩)))

theorem ev_cutl {v : Expr} {lo up : Option Expr} {p pos : Pos} {l r : List D} {a b : Option Int} (hv : Ev prog w A env Γ v (.list l)) (hlo : EvP prog w A env Γ lo a) (hup : EvP prog w A env Γ up b)
    (hr : ∀ {ok : Addr → Prop} {vs : List Value} {h : Heap}, RdAll ok h vs l → RdAll ok h (slicePick vs.toArray a b none).toList r)
    (hl : l.length ≤ sizeLine := by size_fits) : Ev prog w A env Γ (.Subscript v (.Slice lo up none p) pos) (.list r) := fun ok s E g =>
  Subscript_ (hv.go g fun o s1 ro k1 g1 => wpAny_Slice (part_go hlo g1 fun vl s2 ul el k2 g2 => part_go hup g2 fun vu s3 uu eu k3 g3 => wpAny_pure (by
    obtain ⟨x, vs, rfl, kx, hx, ra⟩ := (ro.ext (kp_ext (kp_trans k2 k3))).isList
    subst el eu
    have pa : ∀ (x : Option Int) (u : Tok), IsPart (partValue (x.map fun i => (i, u))) x := fun x u => by
      cases x with
      | none => exact .none
      | some i => exact .int i u
    refine tail_any (hx.push _).typeIs slot_list_getitem.lookup (wpAny_getItem_list_slice (hx.push _) (Heap.IsSliceOf.new ..) (pa _ _) (pa _ _) .none (by simp) ?_ (by simpa [ra.length] using hl)) (by rfl)
    have q := hr (ra.ext (fun _ _ e => Heap.get?_push_of_some _ e) : RdAll ok (s3.heap.push { cls := .type "slice", data := .fields #[partValue (a.map fun i => (i, ul)), partValue (b.map fun i => (i, uu)), .none] }) vs l)
    have q2 := new_list (ok := ok) (s := { s3 with heap := s3.heap.push { cls := .type "slice", data := .fields #[partValue (a.map fun i => (i, ul)), partValue (b.map fun i => (i, uu)), .none] } }) (g3.N.ext (fun _ _ e => Heap.get?_push_of_some _ e)) q
    exact ⟨by simpa using q2, kp_trans k1 (kp_trans k2 (kp_trans k3 (kp_trans (kp_push _ _) (kp_push _ _))))⟩)))

/-! what the cuts are -/
theorem cut_mid (l : List Nat) (a b : Nat) (hab : a ≤ b) (hb : b ≤ l.length) : Txt.slice (S l) (some (a : Int)) (some (b : Int)) = S ((l.drop a).take (b - a)) := by
  unfold Txt.slice
  have hs := StrLaws.sliced_plain (S l) hab (by rw [S_len]; exact hb)
  rw [S_cps] at hs
  split
  · rename_i h
    simp only [beq_self_eq_true, Bool.true_and, beq_iff_eq] at h
    rw [StrLaws.strSliceIndices_plain hab (by rw [S_len]; exact hb), List.length_map, List.length_range, S_len] at h
    have ha : a = 0 := by omega
    have hb' : b = l.length := by omega
    subst ha hb'
    simp
  · rw [hs]; rfl
theorem cut_to (l : List Nat) (b : Nat) (hb : b ≤ l.length) : Txt.slice (S l) none (some (b : Int)) = S (l.take b) := by
  have h := cut_mid l 0 b (Nat.zero_le _) hb
  rw [List.drop_zero, Nat.sub_zero] at h
  rw [← h]
  unfold Txt.slice
  have e : Builtin.Str.strSliceIndices none (some (b : Int)) 1 (S l).length = Builtin.Str.strSliceIndices (some ((0 : Nat) : Int)) (some (b : Int)) 1 (S l).length := by
    unfold Builtin.Str.strSliceIndices
    simp
    congr 1
  rw [e]
theorem cut_from (l : List Nat) (a : Nat) (ha : a ≤ l.length) : Txt.slice (S l) (some (a : Int)) none = S (l.drop a) := by
  have h := cut_mid l a l.length ha (Nat.le_refl _)
  rw [List.take_of_length_le (by simp)] at h
  rw [← h]
  unfold Txt.slice
  have e : Builtin.Str.strSliceIndices (some (a : Int)) none 1 (S l).length = Builtin.Str.strSliceIndices (some (a : Int)) (some (l.length : Int)) 1 (S l).length := by
    unfold Builtin.Str.strSliceIndices
    rw [S_len]
    simp
    congr 1
    omega
  rw [e]
end
end Mine
end
section
open PySem PySem.Calls PyProof.Rows PySem.W
set_option maxRecDepth 100000
set_option linter.all false
namespace Mine

/-- all but these addresses is as it was -/
noncomputable def KB (X : List Addr) (s s' : Shared) : Prop := ∃ h' tk dr, s' = { s with heap := h', toks := tk, drawn := dr } ∧ ∀ b o, b ∉ X → s.heap.get? b = some o → h'.get? b = some o
theorem sh_kb {X : List Addr} {s t : Shared} (k : KB X s t) : Sh s t := let ⟨h, tk, dr, e, _⟩ := k; ⟨h, tk, dr, e⟩
theorem KB.sh {X : List Addr} {s t : Shared} (a : Sh s t) (k : ∀ b o, b ∉ X → s.heap.get? b = some o → t.heap.get? b = some o) : KB X s t := by
  obtain ⟨h, tk, dr, rfl⟩ := a
  exact ⟨h, tk, dr, rfl, k⟩
theorem kp_sh {s t : Shared} (a : Sh s t) (k : Ext s.heap t.heap) : Keeps s t := by
  obtain ⟨h, tk, dr, rfl⟩ := a
  exact ⟨h, tk, dr, rfl, k⟩
theorem KB.refl (X : List Addr) (s : Shared) : KB X s s := ⟨s.heap, s.toks, _, rfl, fun _ _ _ e => e⟩
theorem KB.trans {X : List Addr} {s t u : Shared} (a : KB X s t) (b : KB X t u) : KB X s u := by
  obtain ⟨h1, k1, _, rfl, x⟩ := a
  obtain ⟨h2, k2, _, rfl, y⟩ := b
  exact ⟨h2, k2, _, rfl, fun b o n e => y b o n (x b o n e)⟩
theorem KB.of {X : List Addr} {s t : Shared} (a : Keeps s t) : KB X s t := by
  obtain ⟨h1, k1, _, rfl, x⟩ := a
  exact ⟨h1, k1, _, rfl, fun b o _ e => x b o e⟩
theorem KB.mono {X Y : List Addr} {s t : Shared} (a : KB X s t) (h : ∀ b ∈ X, b ∈ Y) : KB Y s t := by
  obtain ⟨h1, k1, _, rfl, x⟩ := a
  exact ⟨h1, k1, _, rfl, fun b o n e => x b o (fun q => n (h b q)) e⟩
theorem KB.keeps {X : List Addr} {s t u : Shared} (a : Keeps s t) (b : KB X t u) (h : ∀ b ∈ X, s.heap.get? b = none) : Keeps s u := by
  obtain ⟨h1, k1, _, rfl, x⟩ := a
  obtain ⟨h2, k2, _, rfl, y⟩ := b
  exact ⟨h2, k2, _, rfl, fun b o e => y b o (fun q => by rw [h b q] at e; cases e) (x b o e)⟩

/-- an object that no fact of the top speaks of -/
noncomputable def Idle (h : Heap) (x : Addr) : Prop := topLine ≤ x ∧ ∃ o, h.get? x = some o ∧ match o.data with
  | .fields vs => ∀ q t, vs[1]? ≠ some (.str q t)
  | _ => True
theorem ns_but {h h' : Heap} {x a : Addr} {m : Str → Option Value} (hk : ∀ b o, b ≠ x → h.get? b = some o → h'.get? b = some o) (hn : h.Ns a m) (ne : a ≠ x) : h'.Ns a m :=
  let ⟨o, es, ep, e, r⟩ := hn; ⟨o, es, ep, hk _ _ ne e, r⟩
theorem Idle.notCode {h : Heap} {x : Addr} {cd : Value} {q : Str} (i : Idle h x) {h' : Heap} (hk : ∀ b o, b ≠ x → h.get? b = some o → h'.get? b = some o) (c : h.CodeRec cd q) : h'.CodeRec cd q := by
  obtain ⟨a, o, vs, t, e, g, d, r⟩ := c
  refine ⟨a, o, vs, t, e, hk _ _ ?_ g, d, r⟩
  rintro rfl
  obtain ⟨_, o', e', q⟩ := i
  rw [g] at e'; cases e'
  rw [d] at q; exact q _ _ r
theorem Tab.but {h h' : Heap} {x : Addr} (T : Tab h) (i : Idle h x) (hk : ∀ b o, b ≠ x → h.get? b = some o → h'.get? b = some o) : Tab h' := by
  obtain ⟨ps, a, q⟩ := T
  have nt : tabP ≠ x := Nat.ne_of_lt (Nat.lt_of_lt_of_le (by decide) i.1)
  exact ⟨ps, hk _ _ nt a, q.imp id fun ⟨c', e, d⟩ => ⟨c', e, i.notCode hk d⟩⟩
theorem Wd.but {h h' : Heap} {x : Addr} (W : Wd h) (i : Idle h x) (hk : ∀ b o, b ≠ x → h.get? b = some o → h'.get? b = some o) : Wd h' :=
  let ⟨h0, c, a, l, b, y, t⟩ := W; ⟨h0, c, a, l, b, fun b o e => hk b o (Nat.ne_of_lt (Nat.lt_of_lt_of_le (l b o e).1 i.1)) (y b o e), t.but i hk⟩
/-- lists stand where something else is turned -/
theorem lists_but {ok : Addr → Prop} {h h' : Heap} {x : Addr} {o : Obj} (e : h.get? x = some o) (ho : match o.data with | .seq .. => False | _ => True) (hk : ∀ b o, b ≠ x → h.get? b = some o → h'.get? b = some o) : Lists ok h h' := by
  rintro a vs _ ⟨o', e', c, n, d⟩
  refine ⟨o', hk _ _ ?_ e', c, n, d⟩
  rintro rfl
  rw [e] at e'; cases e'
  rw [d] at ho; exact ho

theorem fresh_but {ok : Addr → Prop} {h h' : Heap} {x : Addr} (f : Fresh ok h) (hs : Heap.SameBut x h h') (hx : (h'.get? x).isSome = true) : Fresh ok h' := fun a e => by
  by_cases q : a = x
  · subst q; rw [e] at hx; cases hx
  · exact f a ((hs.2 a q).symm.trans e)

section
variable {prog : Program} {w : World} {A : Around} {env : Env} {Γ : Ctx} {ok : Addr → Prop}

/-- may the name be stored here? -/
inductive CanSt (env : Env) (x : Str) : Prop
  | loc : env.kindOf x = some .local → CanSt env x
  | cell {c : Addr} : env.kindOf x = some .cell → env.cells.lookup x = some c → CanSt env x

/-- the one object that a store turns -/
noncomputable def tch (env : Env) (x : Str) : Addr := match env.kindOf x with
  | some .local => env.locals
  | _ => (env.cells.lookup x).getD 0
theorem tch_own {x : Str} (cs : CanSt env x) : tch env x ∈ own env := by
  cases cs with
  | loc h => unfold tch; rw [h]; exact .head _
  | cell h e => unfold tch; rw [h, e]; exact .tail _ (List.mem_map.mpr ⟨_, mem_of_lookup e, rfl⟩)
theorem store_go {x : Str} {v : Value} {sl : Sl} {s : Shared} {E : Value → Shared → Prop} {Q : Unit → Shared → Prop} (okE : EnvOk env) (low : EnvLow env) (cs : CanSt env x) (g : Gd ok env Γ s.heap) (hv : sl.At ok s.heap v)
    (h : ∀ s', Gd ok env ((x, sl) :: Γ) s'.heap → KB [tch env x] s s' → Lists ok s.heap s'.heap → Q () s') : wpAny (model prog w) A (storeName env x v) Q E s := by
  obtain ⟨m, cm, hn, hc, hx⟩ := g.F
  have hp : (env.scope.kind == .class || (env.scope.kind == .module && env.locals != env.globals)) = false := by rw [okE.kind]; rfl
  cases cs with
  | loc hk =>
    refine wpAny_storeName_local hk hn (fun h' hn' hs' => ?_) hp
    obtain ⟨oL, es, ep, eL, dL, rL⟩ := id hn
    have kk : ∀ b o, b ≠ env.locals → s.heap.get? b = some o → h'.get? b = some o := fun b o hb e => hs'.extBut b o hb e
    have li : Lists ok s.heap h' := lists_but eL (by rw [dL]; trivial) kk
    refine h _ ⟨g.W.but ⟨low.low _ (.head _), oL, eL, by rw [dL]; trivial⟩ kk, fresh_but g.N hs' (by obtain ⟨o, _, _, e, _⟩ := hn'; rw [e]; rfl), ⟨_, cm, hn', fun n c e => ?_, fun y sy e => ?_⟩⟩ ⟨h', _, _, rfl, fun b o hb e => kk b o (fun q => hb (by unfold tch; rw [hk, q]; exact .head _)) e⟩ li
    · obtain ⟨o, eo, d⟩ := hc n c e
      refine ⟨o, kk _ _ ?_ eo, d⟩
      rintro rfl
      rw [eL] at eo; cases eo
      rw [dL] at d; cases d
    · rw [List.lookup_cons] at e
      cases hb : y == x with
      | true =>
        rw [hb] at e; cases e
        cases beq_iff_eq.mp hb
        exact ⟨v, .inl ⟨hk, by simp⟩, hv.lists li⟩
      | false =>
        rw [hb] at e
        obtain ⟨u, q, r⟩ := hx y sy e
        refine ⟨u, ?_, r.lists li⟩
        rcases q with ⟨q1, q2⟩ | q
        · exact .inl ⟨q1, by dsimp only; rw [if_neg (by simpa using hb)]; exact q2⟩
        · exact .inr q
  | @cell c hk hl =>
    refine wpAny_storeName_cell okE.kind hk hl (hc x c hl) (fun h' hc' hs' => ?_)
    obtain ⟨oc, ec, dc⟩ := hc x c hl
    have kk : ∀ b o, b ≠ c → s.heap.get? b = some o → h'.get? b = some o := fun b o hb e => hs'.extBut b o hb e
    have li : Lists ok s.heap h' := lists_but ec (by rw [dc]; trivial) kk
    have neL : env.locals ≠ c := by
      rintro q
      obtain ⟨oL, es, ep, eL, dL, rL⟩ := hn
      rw [q, ec] at eL; cases eL
      rw [dc] at dL; cases dL
    refine h _ ⟨g.W.but ⟨low.low _ (.tail _ (List.mem_map.mpr ⟨_, mem_of_lookup hl, rfl⟩)), oc, ec, by rw [dc]; trivial⟩ kk, fresh_but g.N hs' (by obtain ⟨o, e, _⟩ := hc'; rw [e]; rfl), ⟨m, fun y => if y = x then some v else cm y, ns_but kk hn neL, fun n c' e => ?_, fun y sy e => ?_⟩⟩
      ⟨h', _, _, rfl, fun b o hb e => kk b o (fun q => hb (by unfold tch; rw [hk, hl, q]; exact .head _)) e⟩ li
    · by_cases hnx : n = x
      · subst hnx
        rw [hl] at e; cases e
        simpa using hc'
      · obtain ⟨o, eo, d⟩ := hc n c' e
        dsimp only
        rw [if_neg hnx]
        exact ⟨o, kk _ _ (fun q => hnx (name_of_addr okE.apart (mem_of_lookup e) (q ▸ mem_of_lookup hl))) eo, d⟩
    · rw [List.lookup_cons] at e
      cases hb : y == x with
      | true =>
        rw [hb] at e; cases e
        cases beq_iff_eq.mp hb
        exact ⟨v, .inr ⟨.inl hk, ⟨c, hl⟩, by simp⟩, hv.lists li⟩
      | false =>
        rw [hb] at e
        obtain ⟨u, q, r⟩ := hx y sy e
        refine ⟨u, ?_, r.lists li⟩
        rcases q with q | ⟨q1, q2, q3⟩
        · exact .inl q
        · exact .inr ⟨q1, q2, by dsimp only; rw [if_neg (by simpa using hb)]; exact q3⟩

/-- a frame's own objects are no lists, and hold no fields -/
theorem own_dat {h : Heap} (okE : EnvOk env) (F : Fm ok env Γ h) {y : Addr} (hy : y ∈ own env) {o : Obj} (e : h.get? y = some o) : (∀ vs n, o.data ≠ .seq vs n) ∧ ∀ vs, o.data ≠ .fields vs := by
  obtain ⟨m, cm, hn, hc, _⟩ := F
  rcases List.mem_cons.mp hy with q | q
  · subst q
    obtain ⟨oL, es, ep, eL, dL, _⟩ := hn
    rw [e] at eL; cases eL
    rw [dL]
    exact ⟨fun _ _ z => (nomatch z), fun _ z => (nomatch z)⟩
  · obtain ⟨p, hp, rfl⟩ := List.mem_map.mp q
    obtain ⟨o', e', d'⟩ := hc p.1 p.2 (okE.self p hp)
    rw [e] at e'; cases e'
    rw [d']
    exact ⟨fun _ _ z => (nomatch z), fun _ z => (nomatch z)⟩
theorem lists_of {s s' : Shared} {ok' : Addr → Prop} (okE : EnvOk env) (F : Fm ok env Γ s.heap) (k : KB (own env) s s') : Lists ok' s.heap s'.heap := by
  obtain ⟨h', tk, _, rfl, kk⟩ := k
  rintro a vs _ ⟨o, e, c, n, d⟩
  exact ⟨o, kk a o (fun q => (own_dat okE F q e).1 _ _ d) e, c, n, d⟩
theorem lists_ofX {s s' : Shared} {X : List Addr} (okE : EnvOk env) (F : Fm ok env Γ s.heap) (na : ∀ a ∈ X, ¬ ok a) (k : KB (X ++ own env) s s') : Lists ok s.heap s'.heap := by
  obtain ⟨h', tk, _, rfl, kk⟩ := k
  rintro a vs oka ⟨o, e, c, n, d⟩
  exact ⟨o, kk a o (fun q => (List.mem_append.mp q).elim (fun q => na a q oka) fun q => (own_dat okE F q e).1 _ _ d) e, c, n, d⟩
/-- a row of statements that runs through -/
noncomputable def Ex (prog : Program) (w : World) (A : Around) (env : Env) (Γ : Ctx) (ss : List Stmt) (Γ' : Ctx) : Prop :=
  ∀ ok s E, Gd ok env Γ s.heap → wpAny (model prog w) A (execs ss env) (fun f s' => f = .next ∧ Gd ok env Γ' s'.heap ∧ KB (own env) s s') E s
/-- a row of statements that hands back data -/
noncomputable def ExR (prog : Program) (w : World) (A : Around) (env : Env) (Γ : Ctx) (ss : List Stmt) (d : D) : Prop :=
  ∀ ok s E, Gd ok env Γ s.heap → wpAny (model prog w) A (execs ss env) (fun f s' => ∃ v, f = .ret v ∧ Rd ok s'.heap v d ∧ KB (own env) s s') E s
noncomputable def Ex1 (prog : Program) (w : World) (A : Around) (env : Env) (Γ : Ctx) (st : Stmt) (Γ' : Ctx) : Prop :=
  ∀ ok s E, Gd ok env Γ s.heap → wpAny (model prog w) A (exec st env) (fun f s' => f = .next ∧ Gd ok env Γ' s'.heap ∧ KB (own env) s s') E s

theorem ex_nil : Ex prog w A env Γ [] Γ := fun ok s E g => wpAny_execs_nil ⟨rfl, g, KB.refl _ _⟩
theorem ex_cons {st : Stmt} {r : List Stmt} {Γ1 Γ2 : Ctx} (h : Ex1 prog w A env Γ st Γ1) (k : Ex prog w A env Γ1 r Γ2) : Ex prog w A env Γ (st :: r) Γ2 := fun ok s E g =>
  wpAny_execs_cons (wpAny_mono (h ok s E g) (fun f s1 q => by
    obtain ⟨rfl, g1, k1⟩ := q
    exact wpAny_mono (k ok s1 E g1) (fun f s2 q => ⟨q.1, q.2.1, k1.trans q.2.2⟩) fun _ _ x => x) fun _ _ x => x)
theorem exr_cons {st : Stmt} {r : List Stmt} {Γ1 : Ctx} {d : D} (h : Ex1 prog w A env Γ st Γ1) (k : ExR prog w A env Γ1 r d) : ExR prog w A env Γ (st :: r) d := fun ok s E g =>
  wpAny_execs_cons (wpAny_mono (h ok s E g) (fun f s1 q => by
    obtain ⟨rfl, g1, k1⟩ := q
    exact wpAny_mono (k ok s1 E g1) (fun f s2 q => let ⟨v, a, b, c⟩ := q; ⟨v, a, b, k1.trans c⟩) fun _ _ x => x) fun _ _ x => x)
theorem exr_ret {e : Expr} {pos : Pos} {r : List Stmt} {d : D} (h : Ev prog w A env Γ e d) : ExR prog w A env Γ (.Return (some e) pos :: r) d := fun ok s E g =>
  wpAny_execs_cons (wpAny_Return_some (h.go g fun v s' r k _ => ⟨v, rfl, r, KB.of k⟩))
theorem ex_sub {ss : List Stmt} {Γ1 Γ2 : Ctx} (h : Ex prog w A env Γ ss Γ1) (k : Sub Γ2 Γ1) : Ex prog w A env Γ ss Γ2 := fun ok s E g =>
  wpAny_mono (h ok s E g) (fun f s' q => ⟨q.1, q.2.1.sub k, q.2.2⟩) fun _ _ x => x
theorem ex1_assign {x : Str} {p pos : Pos} {e : Expr} {d : D} (okE : EnvOk env) (low : EnvLow env) (cs : CanSt env x) (h : Ev prog w A env Γ e d) (hs : swapsWith e (some (.Name x p)) pos.line env = pure false) :
    Ex1 prog w A env Γ (.Assign [.Name x p] e pos) ((x, .data d) :: Γ) := fun ok s E g =>
  wpAny_Assign_Name (h.go g fun v s1 r k1 g1 => store_go okE low cs g1 (sl := .data d) r fun s2 g2 k2 _ => ⟨rfl, g2, (KB.of k1).trans (k2.mono fun b hb => by rw [List.mem_singleton.mp hb]; exact tch_own cs)⟩) hs
theorem ex1_if {t : Expr} {b o : List Stmt} {pos : Pos} {c : Bool} {Γ' : Ctx} (h : Tst prog w A env Γ t c) (h1 : c = true → Ex prog w A env Γ b Γ') (h2 : c = false → Ex prog w A env Γ o Γ') : Ex1 prog w A env Γ (.If t b o pos) Γ' := fun ok s E g =>
  wpAny_If (h.go g fun s1 k g1 => by
    cases c with
    | true => exact wpAny_mono (h1 rfl ok s1 E g1) (fun f s' q => ⟨q.1, q.2.1, (KB.of k).trans q.2.2⟩) fun _ _ x => x
    | false => exact wpAny_mono (h2 rfl ok s1 E g1) (fun f s' q => ⟨q.1, q.2.1, (KB.of k).trans q.2.2⟩) fun _ _ x => x)
theorem exr_if {t : Expr} {b o r : List Stmt} {pos : Pos} {c : Bool} {d : D} (h : Tst prog w A env Γ t c) (h1 : c = true → ExR prog w A env Γ b d) (h2 : c = false → ExR prog w A env Γ (o ++ r) d) (ho : o = []) : ExR prog w A env Γ (.If t b o pos :: r) d := fun ok s E g =>
  wpAny_execs_cons (wpAny_If (h.go g fun s1 k g1 => by
    subst ho
    cases c with
    | true => exact wpAny_mono (h1 rfl ok s1 E g1) (fun f s' q => by obtain ⟨v, rfl, b, c⟩ := q; exact ⟨v, rfl, b, (KB.of k).trans c⟩) fun _ _ x => x
    | false => exact wpAny_execs_nil (wpAny_mono (h2 rfl ok s1 E g1) (fun f s' q => by obtain ⟨v, rfl, b, c⟩ := q; exact ⟨v, rfl, b, (KB.of k).trans c⟩) fun _ _ x => x)))

/-! calls of the text's own plain defs -/
/-- a def's contract: data in, data out, all that stood stands -/
noncomputable def Fn (prog : Program) (w : World) (k : Nat) (r : FnRec) (ds : List D) (d : D) : Prop :=
  ∀ (ok : Addr → Prop) (A : Around) (s : Shared) (a : Addr) (vs : List Value), Room k A → Fresh ok s.heap → Wd s.heap → IsFn s.heap a r .none .none → RdAll ok s.heap vs ds →
    codeAny (model prog w) A (.call (.ref a) ⟨vs, []⟩) (fun r s' => ∃ v, r = .ok (.ret v) ∧ Rd ok s'.heap v d ∧ Keeps s s') s

theorem args_go {f : Value} {es : List Expr} {ds : List D} {pos : Pos} (h : Evs prog w A env Γ es ds) {s : Shared} {E : Value → Shared → Prop} {Q : Args → Shared → Prop} (g : Gd ok env Γ s.heap)
    (k : ∀ vs s', RdAll ok s'.heap vs ds → Keeps s s' → Gd ok env Γ s'.heap → Q ⟨vs, []⟩ s') : wpAny (model prog w) A (evalArgs f true (backTo pos (starEach es env)) []) Q E s := by
  have q := wpAny_mono (Q' := fun vs s' => Q ⟨vs, []⟩ s') (evs_go h (pos := pos) ok s E g) (fun vs s' q => k vs s' q.1 q.2 (g.ext (kp_ext q.2))) fun _ _ x => x
  cases h with
  | nil => exact PySem.evalArgs_none (by have := k [] s .nil (kp_refl s) g; exact this)
  | cons a he r =>
    rw [he] at q ⊢
    exact evalArgs_plain q

theorem name_fn {f : Str} {p : Pos} {r : FnRec} {s : Shared} {E : Value → Shared → Prop} {Q : Value → Shared → Prop} (okE : EnvOk env) (W : Wd s.heap) (hf : fnRec f = some r) (hp : f ∈ plainFns) (hk : env.kindOf f = some .globalImplicit)
    (h : ∀ a, IsFn s.heap a r .none .none → Q (.ref a) s) (hd : (f == ("__debug__" : Str)) = false := by decide) : wpAny (model prog w) A (eval (.Name f p) env) Q E s := by
  obtain ⟨mg, mb, a1, a2, a3, a4, a5, _⟩ := W.glob
  obtain ⟨a, e, F⟩ := a5 f hp r hf
  exact Name_function_global okE.kind hk (loadGlobal_global (by rw [okE.glob]; exact a1) e (h a F)) hd
theorem name_blt {f : Str} {p : Pos} {v : Value} {s : Shared} {E : Value → Shared → Prop} {Q : Value → Shared → Prop} (okE : EnvOk env) (W : Wd s.heap) (hf : bootBuiltins f = some v) (hp : f ∈ bltNames) (hk : env.kindOf f = some .globalImplicit)
    (h : Q v s) (hn : f ≠ "__name__" := by decide) (hd : (f == ("__debug__" : Str)) = false := by decide) : wpAny (model prog w) A (eval (.Name f p) env) Q E s := by
  obtain ⟨mg, mb, a1, a2, a3, a4, a5, _⟩ := W.glob
  exact Name_function_global okE.kind hk (loadGlobal_builtin (by rw [okE.glob]; exact a1) (a4 f hp) (by rw [okE.blt]; exact a2) ((a3 f hn).trans hf) h) hd

/-- a call of a def: what its arguments are, then the call -/
theorem call_fn {f : Str} {p pos : Pos} {es : List Expr} {ds : List D} {r : FnRec} {s : Shared} {E : Value → Shared → Prop} {Q : Value → Shared → Prop} (okE : EnvOk env) (hf : fnRec f = some r) (hp : f ∈ plainFns) (hk : env.kindOf f = some .globalImplicit)
    (h : Evs prog w A env Γ es ds) (g : Gd ok env Γ s.heap)
    (q : ∀ a vs s', IsFn s'.heap a r .none .none → RdAll ok s'.heap vs ds → Keeps s s' → Gd ok env Γ s'.heap → codeAny (model prog w) A (.call (.ref a) ⟨vs, []⟩) (fun r s' => match r with | .ok (.ret v) => Q v s' | .ok _ => False | .error e => E e s') s')
    (hd : (f == ("__debug__" : Str)) = false := by decide) : wpAny (model prog w) A (eval (.Call (.Name f p) es [] pos) env) Q E s := by
  refine wpAny_Call_Name_kw (name_fn okE g.W hf hp hk (fun a F => ?_) hd)
  obtain ⟨o, pm, cd, doc, e, d, c⟩ := id F
  refine callWith_function (o := o) (args_go h g fun vs s' rv k g' => ⟨⟨kp_ext k _ _ e, d⟩, wpAny_call ?_⟩)
  exact q a vs s' (F.ext (kp_ext k)) rv k g'

theorem ev_call {f : Str} {p pos : Pos} {es : List Expr} {ds : List D} {d : D} {r : FnRec} {k : Nat} (okE : EnvOk env) (hf : fnRec f = some r) (hp : f ∈ plainFns) (hk : env.kindOf f = some .globalImplicit) (F : Fn prog w k r ds d) (room : Room k A)
    (h : Evs prog w A env Γ es ds) (hd : (f == ("__debug__" : Str)) = false := by decide) : Ev prog w A env Γ (.Call (.Name f p) es [] pos) d := fun ok s E g =>
  call_fn okE hf hp hk h g (fun a vs s' I rv k1 g' => codeAny_mono (F ok A s' a vs room g'.N g'.W I rv) fun r s2 q => by
    obtain ⟨v, rfl, rd, k2⟩ := q
    exact ⟨rd, kp_trans k1 k2⟩) hd

/-- entering a def -/
theorem fn_enter {r : FnRec} {a : Addr} {vs : List Value} {binds : List (Str × Value)} {R : Result → Shared → Prop} {s : Shared} {k : Nat} (room : Room (k + 1) A) (W : Wd s.heap) {o : Obj} {pm cd doc : Value}
    (ho : s.heap.get? a = some o) (hd : o.data = .func (docDef r.name r.params r.body r.scope pm cd doc)) (hc : s.heap.CodeRec cd r.name)
    (hb : bindArgs (docDef r.name r.params r.body r.scope pm cd doc) ⟨vs, []⟩ = pure binds)
    (hkind : ∀ n, ∀ x ∈ binds, r.scope.names.lookup x.1 = some .local ∨ (r.scope.names.lookup x.1 = some .cell ∧ ((cellsFrom n r.scope.names []).lookup x.1).isSome = true))
    (hself : ∀ n, ∀ p ∈ cellsFrom n r.scope.names [], (cellsFrom n r.scope.names []).lookup p.1 = some p.2)
    (hk : r.scope.kind = .function) (hco : r.scope.isCoroutine = false) (hgen : r.scope.isGenerator = false)
    (h : ∀ s₁ env, env = callEnvC (docDef r.name r.params r.body r.scope pm cd doc) s.heap.objs.size a → EnvOk env → EnvLow env → (∀ b ∈ own env, s.heap.get? b = none) → Keeps s s₁ → Wd s₁.heap →
      (∃ m cm, s₁.heap.Ns env.locals m ∧ (∀ n c, env.cells.lookup n = some c → s₁.heap.IsCell c (cm n)) ∧ m = bindL env.kindOf binds (fun _ => none) ∧ cm = bindC env.kindOf binds fun _ => none) →
      Room k (A.deeper env) →
      wpAny (model prog w) (A.deeper env) (execs r.body env) (fun f s' => R (.ok (.ret (match f with | .ret v => v | _ => .none))) s')
        (fun e s' => wpAny (model prog w) (A.deeper env) (leaving env e) (fun _ s'' => R (.error e) s'') (fun e' s'' => R (.error e') s'') s') s₁) :
    codeAny (model prog w) A (.call (.ref a) ⟨vs, []⟩) R s := by
  refine codeAny_call_cells (fd := docDef r.name r.params r.body r.scope pm cd doc) (by have := room.depth; show A.depth < 1000; omega) ho hd W.nolimit hc rfl hb rfl (hkind _) (fun s₁ x => ?_) hco hgen hk
  have hsz : ∀ b ∈ own (callEnvC (docDef r.name r.params r.body r.scope pm cd doc) s.heap.objs.size a), s.heap.objs.size ≤ b := by
    intro b hb
    rcases List.mem_cons.mp hb with rfl | hb
    · exact x.toInCall.fresh
    · obtain ⟨p, hp, rfl⟩ := List.mem_map.mp hb
      exact Nat.le_trans x.toInCall.fresh (Nat.le_of_lt (x.above p.1 p.2 hp))
  have hnew : ∀ b, s.heap.objs.size ≤ b → s.heap.get? b = none := fun b hb => by
    cases e : s.heap.get? b with
    | none => rfl
    | some o' => exact absurd (Heap.lt_size e) (Nat.not_lt.mpr hb)
  have kp : Keeps s s₁ := by
    obtain ⟨h', tk, e⟩ := x.toInCall.same
    subst e
    exact ⟨h', tk, _, rfl, x.toInCall.keep⟩
  have lw : EnvLow (callEnvC (docDef r.name r.params r.body r.scope pm cd doc) s.heap.objs.size a) := ⟨fun b hb => Nat.le_trans W.top (hsz b hb)⟩
  exact h s₁ _ rfl ⟨hk, rfl, rfl, x.apart, hself _, lw⟩ lw (fun b hb => hnew b (hsz b hb)) kp (W.ext (kp_ext kp)) ⟨_, _, x.toInCall.ns, x.cell, rfl, rfl⟩ room.deeper
end
end Mine
end
section
open PySem PySem.Calls PyProof.Rows PySem.W
set_option maxRecDepth 100000
set_option linter.all false
namespace Mine

theorem KB.kept {X : List Addr} {s t : Shared} (k : KB X s t) : ∀ b o, b ∉ X → s.heap.get? b = some o → t.heap.get? b = some o := by
  obtain ⟨h, tk, _, rfl, x⟩ := k; exact x
theorem KB.step {X : List Addr} {s : Shared} {h' : Heap} {k : Nat} (x : ∀ b o, b ∉ X → s.heap.get? b = some o → h'.get? b = some o) : KB X s { s with heap := h', toks := k } := ⟨_, _, _, rfl, x⟩

/-- an object of fields that is no code: an iterator -/
noncomputable def Flds (h : Heap) (x : Addr) : Prop := topLine ≤ x ∧ ∃ o vs, h.get? x = some o ∧ o.data = .fields vs ∧ ∀ q t, vs[1]? ≠ some (.str q t)
theorem Flds.idle {h : Heap} {x : Addr} (f : Flds h x) : Idle h x := let ⟨nt, o, vs, e, d, q⟩ := f; ⟨nt, o, e, by rw [d]; exact q⟩
theorem Gd.fld {ok : Addr → Prop} {env : Env} {Γ : Ctx} {h h' : Heap} {x : Addr} (g : Gd ok env Γ h) (f : Flds h x) (okx : ok x) (hk : ∀ b o, b ≠ x → h.get? b = some o → h'.get? b = some o) : Gd ok env Γ h' := by
  obtain ⟨_, o, vs, e, d, q⟩ := id f
  obtain ⟨m, cm, hn, hc, hx⟩ := g.F
  refine ⟨g.W.but f.idle hk, fun a ea => ?_, m, cm, ns_but hk hn ?_, fun n c ec => ?_, fun y sy ey => ?_⟩
  · by_cases q : a = x
    · rw [q]; exact okx
    · refine g.N a ?_
      cases z : h.get? a with
      | none => rfl
      | some o' => rw [hk a o' q z] at ea; cases ea
  · rintro rfl
    obtain ⟨oL, es, ep, eL, dL, _⟩ := hn
    rw [e] at eL; cases eL
    rw [d] at dL; cases dL
  · obtain ⟨o', e', d'⟩ := hc n c ec
    refine ⟨o', hk _ _ ?_ e', d'⟩
    rintro rfl
    rw [e] at e'; cases e'
    rw [d] at d'; cases d'
  · obtain ⟨v, a, b⟩ := hx y sy ey
    exact ⟨v, a, b.lists (lists_but e (by rw [d]; trivial) hk)⟩
theorem Flds.lists {ok : Addr → Prop} {h h' : Heap} {x : Addr} (f : Flds h x) (hk : ∀ b o, b ≠ x → h.get? b = some o → h'.get? b = some o) : Lists ok h h' := by
  obtain ⟨_, o, vs, e, d, q⟩ := f
  exact lists_but e (by rw [d]; trivial) hk
theorem mem1 {b x : Addr} : b ∉ [x] ↔ b ≠ x := by simp

/-- an iterator at I over the data ds -/
structure Iter (prog : Program) (w : World) (A : Around) (ok : Addr → Prop) (I : Addr) (ds : List D) (St : Nat → Heap → Prop) : Prop where
  next : ∀ i d (s : Shared) Q E, ds[i]? = some d → St i s.heap → (∀ v s', Rd ok s'.heap v d → St (i + 1) s'.heap → KB [I] s s' → Q (some v) s') → wpAny (model prog w) A (pyNext (.ref I)) Q E s
  stop : ∀ (s : Shared) Q E, St ds.length s.heap → (∀ s', KB [I] s s' → Q none s') → wpAny (model prog w) A (pyNext (.ref I)) Q E s
  go : ∀ i (s : Shared) Q E t v, St i s.heap → Q () s → wpAny (model prog w) A (letOwnedTupleGo t (.ref I) v) Q E s
  keep : ∀ i h h', St i h → Lists ok h h' → (∀ o, h.get? I = some o → h'.get? I = some o) → St i h'
  obj : ∀ i h, St i h → Flds h I
  self : ∀ i (s : Shared) Q E, St i s.heap → Q (.ref I) s → wpAny (model prog w) A (pyIter (.ref I)) Q E s
  okI : ok I

section
variable {prog : Program} {w : World} {A : Around} {env : Env} {Γ : Ctx} {ok : Addr → Prop}

theorem go_plain {M : Model} {E : Value → Shared → Prop} {s : Shared} {t : Expr} {I : Addr} {o : Obj} {vs : Array Value} {v : Value} {n : String} {Q : Unit → Shared → Prop} (ho : s.heap.get? I = some o) (hc : o.cls = .type n) (hd : o.data = .fields vs)
    (hn : (["enumerate", "zip", "dict_itemiterator", "dict_reverseitemiterator", "odict_iterator", "itertools.zip_longest", "itertools.pairwise"].contains n) = false) (h : Q () s) : wpAny M A (letOwnedTupleGo t (.ref I) v) Q E s := by
  have key : wpAny M A (match (Value.ref I, v) with
      | (.ref r, .ref a) => do
        let o ← load r
        match o.cls, o.data with
        | .type n, .fields vs =>
          if ["enumerate", "zip", "dict_itemiterator", "dict_reverseitemiterator", "odict_iterator", "itertools.zip_longest", "itertools.pairwise"].contains n && vs[0]? == some (rawInt a) then
            rule "for.unpacks-the-owned-tuple"
            updateField r 0 .none
        | _, _ => pure ()
      | _ => pure ()) Q E s := by
    cases v with
    | ref a =>
      refine wpAny_bind (wpAny_load ho ?_)
      rw [hc, hd]
      show wpAny _ A (if _ then _ else _) Q E s
      rw [if_neg (by rw [hn, Bool.false_and]; exact Bool.false_ne_true)]
      exact wpAny_pure h
    | _ => exact wpAny_pure h
  unfold letOwnedTupleGo
  cases t <;> first | exact wpAny_pure h | (cases v <;> first | exact wpAny_pure h | exact key)

theorem iter_list {I ax : Addr} {vs : List Value} {ds : List D} (hh : A.handled = none) (nT : topLine ≤ I) (okI : ok I) (hne : ax ≠ I) :
    Iter prog w A ok I ds (fun i h => h.IsListIter I ax i ∧ ok ax ∧ h.IsList ax vs.toArray ∧ RdAll ok h vs ds) where
  next := fun i d s Q E e st q => by
    obtain ⟨h1, h2, h3, h4⟩ := st
    obtain ⟨v, ev, rv⟩ := h4.get e
    have F : Flds s.heap I := let ⟨o, ho, hc, hd⟩ := h1; ⟨nT, o, _, ho, hd, fun q t => by simp⟩
    refine wpAny_pyNext_list_item h1 h3 (x := v) (by simpa using ev) fun h' hit' hs' => ?_
    have kk : ∀ b o, b ≠ I → s.heap.get? b = some o → h'.get? b = some o := fun b o hb e => hs'.extBut b o hb e
    have li : Lists ok s.heap h' := F.lists kk
    exact q v _ (rv.lists li) ⟨hit', h2, li _ _ h2 h3, h4.lists li⟩ (KB.step fun b o hb e => kk b o (mem1.mp hb) e)
  stop := fun s Q E st q => by
    obtain ⟨h1, h2, h3, h4⟩ := st
    have := h4.length
    refine wpAny_pyNext_list_end hh h1 h3 (by simp [← this]) fun h' he' => q _ (KB.step fun b o hb e => he' b o (mem1.mp hb) e)
  go := fun i s Q E t v st q => let ⟨⟨o, ho, hc, hd⟩, _⟩ := st; go_plain ho hc hd (by decide) q
  keep := fun i h h' st li k => let ⟨⟨o, ho, r⟩, h2, h3, h4⟩ := st; ⟨⟨o, k o ho, r⟩, h2, li _ _ h2 h3, h4.lists li⟩
  obj := fun i h st => let ⟨⟨o, ho, hc, hd⟩, _⟩ := st; ⟨nT, o, _, ho, hd, fun q t => by simp⟩
  self := fun i s Q E st q => wpAny_pyIter_listiter st.1 q
  okI := okI

theorem iter_range {I : Addr} {n : Nat} (hh : A.handled = none) (nT : topLine ≤ I) (okI : ok I) :
    Iter prog w A ok I ((List.range n).map fun i => D.int (i : Nat)) (fun i h => IsRangeIter h I (i : Nat) ((n : Int) - (i : Nat)) 1) where
  next := fun i d s Q E e st q => by
    have hi : i < n := by
      have := (List.getElem?_eq_some_iff.mp e).1
      simpa using this
    have ed : d = .int (i : Nat) := by
      simp [List.getElem?_map, List.getElem?_range, hi] at e
      exact e.symm
    subst ed
    refine wpAny_pyNext_range_item st (by omega) fun h' hit' hs' => ?_
    refine q _ _ (.int _ _) ?_ (KB.step fun b o hb e => hs'.extBut b o (mem1.mp hb) e)
    have e1 : ((i : Nat) : Int) + 1 = ((i + 1 : Nat) : Int) := by omega
    have e2 : (n : Int) - (i : Nat) - 1 = (n : Int) - ((i + 1 : Nat) : Int) := by omega
    rw [e1, e2] at hit'
    exact hit'
  stop := fun s Q E st q => by
    refine wpAny_pyNext_range_end hh st (by simp) fun h' he' => q _ (KB.step fun b o hb e => he' b o (mem1.mp hb) e)
  go := fun i s Q E t v st q => go_plain st rfl rfl (by decide) q
  keep := fun i h h' st li k => k _ st
  obj := fun i h st => ⟨nT, _, _, st, rfl, fun q t => by simp [rawInt]⟩
  self := fun i s Q E st q => wpAny_pyIter_rangeiter st q
  okI := okI

theorem iter_str {I : Addr} {l : List Nat} {t : Tok} (hh : A.handled = none) (nT : topLine ≤ I) (okI : ok I) :
    Iter prog w A ok I (l.map fun c => D.str (S [c])) (fun i h => h.IsStrIter I "str_ascii_iterator" (S l) t i) where
  next := fun i d s Q E e st q => by
    have hi : i < l.length := by
      have := (List.getElem?_eq_some_iff.mp e).1
      simpa using this
    have ed : d = .str (S [l[i]]) := by
      simp [List.getElem?_map, hi] at e
      exact e.symm
    subst ed
    refine wpAny_pyNext_ascii_item st (c := l[i]) (by simp [S, hi]) fun h' hit' hs' => ?_
    exact q _ _ (.str _ _) hit' (KB.step fun b o hb e => hs'.extBut b o (mem1.mp hb) e)
  stop := fun s Q E st q => by
    refine wpAny_pyNext_ascii_end hh st (by simp [S]) fun h' he' => q _ (KB.step fun b o hb e => he' b o (mem1.mp hb) e)
  go := fun i s Q E t v st q => let ⟨o, ho, hc, hd⟩ := st; go_plain ho hc hd (by decide) q
  keep := fun i h h' st li k => let ⟨o, ho, r⟩ := st; ⟨o, k o ho, r⟩
  obj := fun i h st => let ⟨o, ho, hc, hd⟩ := st; ⟨nT, o, _, ho, hd, fun q t => by simp⟩
  self := fun i s Q E st q => wpAny_pyIter_striter_ascii st q
  okI := okI

/-- an expression that can be gone over -/
noncomputable def EvI (prog : Program) (w : World) (A : Around) (env : Env) (Γ : Ctx) (e : Expr) (ds : List D) : Prop :=
  ∀ ok s E (Q : Value → Shared → Prop), Gd ok env Γ s.heap →
    (∀ I s', (∀ ok2 : Addr → Prop, (∀ a o, s'.heap.get? a = some o → ok a → ok2 a) → ∃ St, Iter prog w A ok2 I ds St ∧ St 0 s'.heap) → s.heap.get? I = none → Keeps s s' → Gd ok env Γ s'.heap → Q (.ref I) s') →
    wpAny (model prog w) A (eval e env) (fun v s1 => wpAny (model prog w) A (pyIter v) Q E s1) E s

theorem new_none {s s' : Shared} (k : Keeps s s') : s.heap.get? s'.heap.objs.size = none := by
  cases e : s.heap.get? s'.heap.objs.size with
  | none => rfl
  | some o => exact absurd (Heap.lt_size (kp_ext k _ _ e)) (Nat.lt_irrefl _)

theorem evi_list {e : Expr} {ds : List D} (hh : A.handled = none) (h : Ev prog w A env Γ e (.list ds)) : EvI prog w A env Γ e ds := fun ok s E Q g q =>
  h.go g fun v s1 r k1 g1 => by
    obtain ⟨a, vs, rfl, ka, hl, ra⟩ := r.isList
    have kp := kp_push s1 { cls := .type "list_iterator", data := .fields #[.ref a, .int 0 0] }
    have hne : a ≠ s1.heap.objs.size := by obtain ⟨o, ho, _⟩ := hl; exact Nat.ne_of_lt (Heap.lt_size ho)
    refine wpAny_pyIter_list hl (q _ _ (fun ok2 h2 => ⟨_, iter_list (vs := vs) hh g1.W.top (h2 _ _ (Heap.get?_push_size _ rfl) g1.N.size) hne, ⟨_, Heap.get?_push_size _ rfl, rfl, rfl⟩, h2 _ _ (Heap.get?_push_of_some _ hl.choose_spec.1) ka, hl.push _, (ra.ext (kp_ext kp)).mono h2⟩) (new_none k1) (kp_trans k1 kp) (g1.ext (kp_ext kp)))
theorem evi_str {e : Expr} {l : List Nat} (hh : A.handled = none) (h : Ev prog w A env Γ e (.str (S l))) (ha : ∀ c ∈ l, c < 128) : EvI prog w A env Γ e (l.map fun c => D.str (S [c])) := fun ok s E Q g q =>
  h.go g fun v s1 r k1 g1 => by
    obtain ⟨t, rfl⟩ := r.isStr
    have kp := kp_push s1 { cls := .type "str_ascii_iterator", data := .fields #[.str (S l) t, .int 0 0] }
    refine wpAny_pyIter_ascii (by simpa [S] using ha) (q _ _ (fun ok2 h2 => ⟨_, iter_str (t := t) hh g1.W.top (h2 _ _ (Heap.get?_push_size _ rfl) g1.N.size), _, Heap.get?_push_size _ rfl, rfl, rfl⟩) (new_none k1) (kp_trans k1 kp) (g1.ext (kp_ext kp)))
/-- range(e) -/
theorem evi_range {p pos : Pos} {e : Expr} {n : Int} (okE : EnvOk env) (hh : A.handled = none) (h : Ev prog w A env Γ e (.int n)) (hse : starEach [e] env = [(false, eval e env)]) (hlo : 0 ≤ n) (hn : n < 2 ^ 62) (hk : env.kindOf "range" = some .globalImplicit) :
    EvI prog w A env Γ (.Call (.Name "range" p) [e] [] pos) ((List.range n.toNat).map fun i => D.int (i : Nat)) := fun ok s E Q g q => by
  refine wpAny_Call_NameR (name_blt (v := .type "range") okE g.W (by kernel_rfl) (by decide) hk ?_)
  rw [hse]
  refine PySem.callWith_type rfl (Calls.evalArgs_plain (Calls.spliced_cons (h.go g fun v s1 r k1 g1 => Calls.spliced_nil ?_)))
  obtain ⟨t, rfl⟩ := r.isInt
  refine call_range_1 ?_
  refine wpAny_pyIter_range (IsRange.new ..) (small_one (by decide) (by decide) (by omega) hn) ?_
  have hsz : Builtin.Range.rangeSize 0 n 1 = (n.toNat : Int) := by rw [rangeSize_one]; split <;> omega
  rw [hsz]
  have kp : Keeps s1 _ := kp_trans (kp_push s1 { cls := .type "range", data := .fields #[.int 0 s1.toks, .int n t, .int 1 (s1.toks + 1)] }) (kp_trans (kp_tok _ (s1.toks + 1 + 1)) (kp_push _ { cls := .type "range_iterator", data := .fields #[rawInt 0, rawInt (n.toNat : Int), rawInt 1] }))
  have kq : Keeps s1 _ := kp_trans (kp_push s1 { cls := .type "range", data := .fields #[.int 0 s1.toks, .int n t, .int 1 (s1.toks + 1)] }) (kp_tok _ (s1.toks + 1 + 1))
  refine q _ _ (fun ok2 h2 => ⟨_, iter_range (n := n.toNat) hh (g1.ext (kp_ext kq)).W.top (h2 _ _ (Heap.get?_push_size _ rfl) (g1.ext (kp_ext kq)).N.size), ?_⟩) (new_none (kp_trans k1 kq)) (kp_trans k1 kp) (g1.ext (kp_ext kp))
  have e2 : ((n.toNat : Nat) : Int) - ((0 : Nat) : Int) = (n.toNat : Nat) := by omega
  rw [e2]
  exact Heap.get?_push_size _ rfl

theorem own_ne {h : Heap} (okE : EnvOk env) (F : Fm ok env Γ h) {I : Addr} (J : Flds h I) : ∀ y ∈ own env, y ≠ I := by
  rintro y hy rfl
  obtain ⟨_, o, vs, e, d, _⟩ := J
  exact (own_dat okE F hy e).2 _ d
/-- what holds ahead of a loop's turn -/
structure ForI (ok : Addr → Prop) (env : Env) (C : Nat → Ctx) (ds : List D) (St : Nat → Heap → Prop) (s : Shared) (n : Nat) (s' : Shared) (i : Nat) : Prop where
  le : i ≤ ds.length
  n_ : n = ds.length - i
  st : St i s'.heap
  g : Gd ok env (C i) s'.heap
  kk : ∀ b o, b ∉ own env → s.heap.get? b = some o → s'.heap.get? b = some o
  sh : Sh s s'
/-- a loop over data: C i is what holds before the i-th turn -/
theorem ex1_for {x : Str} {p pos : Pos} {iter : Expr} {body : List Stmt} {ds : List D} (C : Nat → Ctx) (okE : EnvOk env) (low : EnvLow env) (cs : CanSt env x) (hi : EvI prog w A env Γ iter ds) (h0 : Sub (C 0) Γ)
    (turn : ∀ i d, ds[i]? = some d → Ex prog w A env ((x, .data d) :: C i) body (C (i + 1))) (hs : ∀ v, foldedSetIterable iter env v = pure v := by intro _; rfl) :
    Ex1 prog w A env Γ (.For (.Name x p) iter body [] pos) (C ds.length) := fun ok s E g => by
  refine wpAny_For (hi ok s E _ g fun I s2 J hI k2 g2 => ?_) hs
  obtain ⟨St, J, st⟩ := J ok fun _ _ _ k => k
  have oI : ∀ {b o}, s.heap.get? b = some o → b ∉ [I] := fun {b o} e => mem1.mpr (by rintro rfl; rw [hI] at e; cases e)
  refine codeAny_forLoop (fun n s' => ∃ i, ForI ok env C ds St s n s' i) ?_ ds.length ⟨0, Nat.zero_le _, rfl, st, g2.sub h0, fun b o _ e => kp_ext k2 b o e, sh_kp k2⟩
  intro n s' Z
  obtain ⟨i, Z⟩ := Z
  have hn := Z.n_
  subst hn
  have F := J.obj _ _ Z.st
  by_cases hlt : i < ds.length
  · refine J.next i ds[i] _ _ _ (List.getElem?_eq_getElem hlt) Z.st fun v s3 rv st3 k3 => ?_
    have kk3 := k3.kept
    have g3 : Gd ok env (C i) s3.heap := Z.g.fld F J.okI fun b o hb e => kk3 b o (mem1.mpr hb) e
    refine wpAny_assign_Name (store_go okE low cs g3 (sl := .data ds[i]) rv fun s4 g4 k4 l4 => ?_)
    have neI : ∀ y ∈ own env, y ≠ I := own_ne okE g3.F (J.obj _ _ st3)
    have st4 : St (i + 1) s4.heap := J.keep _ _ _ st3 l4 fun o e => k4.kept I o (mem1.mpr (Ne.symm (neI _ (tch_own cs)))) e
    refine wpAny_mono (turn i ds[i] (List.getElem?_eq_getElem hlt) ok s4 _ g4) (fun f s5 q => ?_) fun _ _ x => x
    obtain ⟨rfl, g5, k5⟩ := q
    exact ⟨ds.length - (i + 1), Nat.sub_lt_sub_left hlt (Nat.lt_succ_self i), i + 1, hlt, rfl, J.keep _ _ _ st4 (lists_of okE g4.F k5) fun o e => k5.kept I o (fun q => neI _ q rfl) e, g5,
      fun b o hb e => k5.kept b o hb (k4.kept b o (mem1.mpr fun q => hb (q ▸ tch_own cs)) (kk3 b o (oI e) (Z.kk b o hb e))), sh_trans Z.sh (sh_trans (sh_kb k3) (sh_trans (sh_kb k4) (sh_kb k5)))⟩
  · have he : i = ds.length := Nat.le_antisymm Z.le (Nat.not_lt.mp hlt)
    subst he
    exact J.stop _ _ _ Z.st fun s3 k3 => wpAny_execs_nil ⟨rfl, Z.g.fld F J.okI fun b o hb e => k3.kept b o (mem1.mpr hb) e, KB.sh (sh_trans Z.sh (sh_kb k3)) fun b o hb e => k3.kept b o (oI e) (Z.kk b o hb e)⟩
end
end Mine
end
section
open PySem PySem.Calls PyProof.Rows PySem.W
set_option maxRecDepth 100000
set_option linter.all false
namespace Mine

theorem len1 {α} {l : List α} (h : l.length = 1) : ∃ a, l = [a] := by
  match l, h with | [a], _ => exact ⟨a, rfl⟩
theorem len2 {α} {l : List α} (h : l.length = 2) : ∃ a b, l = [a, b] := by
  match l, h with | [a, b], _ => exact ⟨a, b, rfl⟩
theorem len3 {α} {l : List α} (h : l.length = 3) : ∃ a b c, l = [a, b, c] := by
  match l, h with | [a, b, c], _ => exact ⟨a, b, c, rfl⟩
theorem len4 {α} {l : List α} (h : l.length = 4) : ∃ a b c d, l = [a, b, c, d] := by
  match l, h with | [a, b, c, d], _ => exact ⟨a, b, c, d, rfl⟩
theorem len5 {α} {l : List α} (h : l.length = 5) : ∃ a b c d e, l = [a, b, c, d, e] := by
  match l, h with | [a, b, c, d, e], _ => exact ⟨a, b, c, d, e, rfl⟩

/-- are the names apart? -/
noncomputable def nd : List Str → Bool
  | [] => true
  | x :: r => !r.contains x && nd r
theorem bindL_keep {kindOf : Str → Option NameKind} {x : Str} : ∀ {binds : List (Str × Value)} {m : Str → Option Value}, (∀ p ∈ binds, p.1 ≠ x) → bindL kindOf binds m x = m x
  | [], m, _ => rfl
  | (n, v) :: r, m, h => by
    unfold bindL
    rw [bindL_keep fun p hp => h p (.tail _ hp)]
    split
    · exact if_neg (Ne.symm (h (n, v) (.head _)))
    · rfl
theorem bindC_keep {kindOf : Str → Option NameKind} {x : Str} : ∀ {binds : List (Str × Value)} {m : Str → Option Value}, (∀ p ∈ binds, p.1 ≠ x) → bindC kindOf binds m x = m x
  | [], m, _ => rfl
  | (n, v) :: r, m, h => by
    unfold bindC
    rw [bindC_keep fun p hp => h p (.tail _ hp)]
    split
    · rfl
    · exact if_neg (Ne.symm (h (n, v) (.head _)))
theorem zip_is {ok : Addr → Prop} {h : Heap} {kindOf : Str → Option NameKind} {x : Str} : ∀ {ps : List Str} {vs : List Value} {ds : List D} {m cm : Str → Option Value} {sl : Sl}, nd ps = true → RdAll ok h vs ds →
    (ps.zip (ds.map Sl.data)).lookup x = some sl →
    ∃ v, x ∈ ps ∧ sl.At ok h v ∧ (kindOf x = some .local → bindL kindOf (ps.zip vs) m x = some v) ∧ (kindOf x ≠ some .local → bindC kindOf (ps.zip vs) cm x = some v)
  | [], _, _, _, _, _, _, _, e => by simp at e
  | p :: ps, _, _, m, cm, sl, hn, .nil, e => by simp at e
  | p :: ps, v :: vs, d :: ds, m, cm, sl, hn, .cons r rs, e => by
    unfold nd at hn
    obtain ⟨h1, h2⟩ := Bool.and_eq_true_iff.mp hn
    simp only [List.map_cons, List.zip_cons_cons, List.lookup_cons] at e
    cases hb : x == p with
    | true =>
      rw [hb] at e; cases e
      cases beq_iff_eq.mp hb
      have hne : ∀ q ∈ ps.zip vs, q.1 ≠ x := by
        rintro ⟨a, b⟩ hq rfl
        have := (List.of_mem_zip hq).1
        simp at h1
        exact h1 this
      refine ⟨v, .head _, r, fun hk => ?_, fun hk => ?_⟩
      · simp only [List.zip_cons_cons, bindL]
        rw [bindL_keep hne, if_pos hk, if_pos rfl]
      · simp only [List.zip_cons_cons, bindC]
        rw [bindC_keep hne, if_neg hk, if_pos rfl]
    | false =>
      rw [hb] at e
      obtain ⟨u, q1, q2, q3, q4⟩ := zip_is (kindOf := kindOf) (m := if kindOf p = some .local then fun y => if y = p then some v else m y else m) (cm := if kindOf p = some .local then cm else fun y => if y = p then some v else cm y) h2 rs e
      exact ⟨u, .tail _ q1, q2, q3, q4⟩

section
variable {prog : Program} {w : World}

/-- how the parameters are bound -/
structure Sig (r : FnRec) (ps : List Str) : Prop where
  bind : ∀ pm cd doc vs, vs.length = ps.length → bindArgs (docDef r.name r.params r.body r.scope pm cd doc) ⟨vs, []⟩ = pure (ps.zip vs)
  kinds : ∀ n, ∀ p ∈ ps, r.scope.names.lookup p = some .local ∨ (r.scope.names.lookup p = some .cell ∧ ((cellsFrom n r.scope.names []).lookup p).isSome = true)
  self : ∀ n, ∀ p ∈ cellsFrom n r.scope.names [], (cellsFrom n r.scope.names []).lookup p.1 = some p.2
  kind : r.scope.kind = .function
  co : r.scope.isCoroutine = false
  gen : r.scope.isGenerator = false
  apart : nd ps = true

/-- entering with data -/
theorem fn_in {r : FnRec} {ps : List Str} {ds : List D} {k : Nat} {ok : Addr → Prop} {A : Around} {s : Shared} {a : Addr} {vs : List Value} {R : Result → Shared → Prop} (sg : Sig r ps) (hlen : ds.length = ps.length) (room : Room (k + 1) A) (N : Fresh ok s.heap) (W : Wd s.heap)
    (F : IsFn s.heap a r .none .none) (rd : RdAll ok s.heap vs ds)
    (h : ∀ s₁ env pm cd doc L, env = callEnvC (docDef r.name r.params r.body r.scope pm cd doc) L a → EnvOk env → EnvLow env → (∀ b ∈ own env, s.heap.get? b = none) → Keeps s s₁ → Gd ok env (ps.zip (ds.map Sl.data)) s₁.heap → Room k (A.deeper env) →
      wpAny (model prog w) (A.deeper env) (execs r.body env) (fun f s' => R (.ok (.ret (match f with | .ret v => v | _ => .none))) s')
        (fun e s' => wpAny (model prog w) (A.deeper env) (leaving env e) (fun _ s'' => R (.error e) s'') (fun e' s'' => R (.error e') s'') s') s₁) :
    codeAny (model prog w) A (.call (.ref a) ⟨vs, []⟩) R s := by
  obtain ⟨o, pm, cd, doc, ho, hd, hc⟩ := F
  have hvl : vs.length = ps.length := rd.length.trans hlen
  have kz : ∀ n, ∀ x ∈ ps.zip vs, r.scope.names.lookup x.1 = some .local ∨ (r.scope.names.lookup x.1 = some .cell ∧ ((cellsFrom n r.scope.names []).lookup x.1).isSome = true) :=
    fun n x hx => sg.kinds n x.1 (List.of_mem_zip (show (x.1, x.2) ∈ _ from hx)).1
  refine fn_enter room W ho hd hc (sg.bind pm cd doc vs hvl) kz sg.self sg.kind sg.co sg.gen fun s₁ env he okE low hown kp W₁ hF hroom => h s₁ env pm cd doc _ he okE low hown kp ⟨W₁, N.ext (kp_ext kp), ?_⟩ hroom
  obtain ⟨m, cm, hn, hcl, rfl, rfl⟩ := hF
  refine ⟨_, _, hn, hcl, fun x sl e => ?_⟩
  obtain ⟨v, hx, q1, q2, q3⟩ := zip_is (kindOf := env.kindOf) (m := fun _ => none) (cm := fun _ => none) sg.apart rd e
  refine ⟨v, ?_, q1.lists (kp_ext kp).lists⟩
  rcases sg.kinds (s.heap.objs.size + 1) x hx with hl | ⟨hl, hs⟩
  · have hk : env.kindOf x = some .local := by rw [he]; exact hl
    exact .inl ⟨hk, q2 hk⟩
  · have hk : env.kindOf x = some .cell := by rw [he]; exact hl
    obtain ⟨c, hc⟩ := Option.isSome_iff_exists.mp hs
    exact .inr ⟨.inl hk, ⟨c, by rw [he]; exact hc⟩, q3 (by rw [hk]; decide)⟩

/-- a quiet def -/
theorem fn_of {r : FnRec} {ps : List Str} {ds : List D} {d : D} {k : Nat} (sg : Sig r ps) (hlen : ds.length = ps.length)
    (h : ∀ A env pm cd doc L a, env = callEnvC (docDef r.name r.params r.body r.scope pm cd doc) L a → EnvOk env → EnvLow env → Room k A → ExR prog w A env (ps.zip (ds.map Sl.data)) r.body d) : Fn prog w (k + 1) r ds d := by
  intro ok A s a vs room N W F rd
  refine fn_in sg hlen room N W F rd fun s₁ env pm cd doc L he okE low hown kp G hr => ?_
  refine wpAny_mono (h _ env pm cd doc L a he okE low hr ok s₁ _ G) (fun f s' q => ?_) fun _ _ x => x
  obtain ⟨v, rfl, rd, kb⟩ := q
  exact ⟨v, rfl, rd, KB.keeps kp kb hown⟩
end
end Mine
end
section
open PySem PySem.Calls PyProof.Rows PySem.W
set_option maxRecDepth 100000
set_option linter.all false
namespace Mine

/-! the cells of a block -/
theorem cells_split : ∀ (names : List (Str × NameKind)) (n : Nat) (acc : List (Str × Addr)), cellsFrom n names acc = cellsFrom n names [] ++ acc
  | [], n, acc => rfl
  | (x, k) :: r, n, acc => by
    unfold cellsFrom
    split
    · rw [cells_split r (n + 1) ((x, n) :: acc), cells_split r (n + 1) [(x, n)]]; simp
    · exact cells_split r n acc
theorem cells_new : ∀ (names : List (Str × NameKind)) (h : Heap) {x : Str} {c : Addr}, (x, c) ∈ cellsFrom h.objs.size names [] → h.objs.size ≤ c ∧ (pushCells h names).IsCell c none
  | names, h, x, c, hm => by
    have := (cellsFrom_ok names h h.objs.size [] ⟨fun _ _ hm => (nomatch hm), List.Pairwise.nil⟩ (Nat.le_refl _)).empty x c hm
    exact ⟨this.2, this.1⟩
theorem nd_app : ∀ {a b : List Str}, nd (a ++ b) = true → nd b = true
  | [], _, h => h
  | x :: a, b, h => nd_app (a := a) (by unfold nd at h; exact (Bool.and_eq_true_iff.mp h).2)
theorem nd_self {α : Type} : ∀ {l : List (Str × α)}, nd (l.map (·.1)) = true → ∀ p ∈ l, l.lookup p.1 = some p.2
  | q :: l, h, p, hp => by
    unfold nd at h
    obtain ⟨h1, h2⟩ := Bool.and_eq_true_iff.mp h
    rw [List.lookup_cons]
    rcases List.mem_cons.mp hp with rfl | hp
    · simp
    · have : (p.1 == q.1) = false := by
        simp at h1 ⊢
        rintro e
        exact h1 p.2 (by rw [← e]; exact hp)
      rw [this]
      exact nd_self h2 p hp
theorem nd_apart {cs : List (Str × Addr)} (hp : cs.Pairwise fun x y => x.2 ≠ y.2) : ∀ {l : List (Str × Addr)}, nd (l.map (·.1)) = true → (∀ p ∈ l, p ∈ cs) → l.Pairwise fun x y => x.2 ≠ y.2
  | [], _, _ => .nil
  | q :: l, h, hm => by
    unfold nd at h
    obtain ⟨h1, h2⟩ := Bool.and_eq_true_iff.mp h
    refine .cons (fun p hpl e => ?_) (nd_apart hp h2 fun p hp => hm p (.tail _ hp))
    have a := hm q (.head _)
    have b := hm p (.tail _ hpl)
    have : q.1 = p.1 := name_of_addr hp (show (q.1, q.2) ∈ cs from a) (by rw [e]; exact b)
    simp at h1
    exact h1 p.2 (by rw [this]; exact hpl)

/-- the frame of a block -/
noncomputable def blk (scope : Scope) (cl : List (Str × Addr)) (C : Addr) (env : Env) : Env := compEnvC scope (cellsFrom (C + 1) scope.names cl) C env

structure BlkOk (env : Env) (scope : Scope) (cl : List (Str × Addr)) : Prop where
  clos : closureFor scope env = pure cl
  kind : scope.kind = .function
  names : ∀ y ∈ scope.names, y.2 = .local → scope.names.lookup y.1 = some .local
  caps : ∀ p ∈ cl, env.cells.lookup p.1 = some p.2
  nd : ∀ n, nd ((cellsFrom n scope.names cl).map (·.1)) = true

/-- what is handed through to the block -/
noncomputable def Thru (env env' : Env) (Γ : Ctx) : Ctx → Prop
  | [] => True
  | p :: r => (Γ.lookup p.1 = some p.2 ∧ (env.kindOf p.1 = some .cell ∨ env.kindOf p.1 = some .free) ∧ (env'.kindOf p.1 = some .cell ∨ env'.kindOf p.1 = some .free) ∧
      ∃ c, env'.cells.lookup p.1 = some c ∧ env.cells.lookup p.1 = some c) ∧ Thru env env' Γ r
theorem Thru.of {env env' : Env} {Γ : Ctx} : ∀ {Γ' : Ctx}, Thru env env' Γ Γ' → ∀ x sl, Γ'.lookup x = some sl → Γ.lookup x = some sl ∧ (env.kindOf x = some .cell ∨ env.kindOf x = some .free) ∧ (env'.kindOf x = some .cell ∨ env'.kindOf x = some .free) ∧
      ∃ c, env'.cells.lookup x = some c ∧ env.cells.lookup x = some c
  | [], _, x, sl, e => by simp at e
  | p :: r, h, x, sl, e => by
    rw [List.lookup_cons] at e
    cases hb : x == p.1 with
    | true => rw [hb] at e; cases e; rw [beq_iff_eq.mp hb]; exact h.1
    | false => rw [hb] at e; exact Thru.of h.2 x sl e

section
variable {prog : Program} {w : World} {A : Around} {env : Env} {Γ : Ctx} {ok : Addr → Prop}

theorem new_blk {M : Model} {scope : Scope} {cl : List (Str × Addr)} {s : Shared} {E : Value → Shared → Prop} {Q : Env → Shared → Prop} {Γ' : Ctx} (okE : EnvOk env) (B : BlkOk env scope cl) (g : Gd ok env Γ s.heap) (T : ∀ C, Thru env (blk scope cl C env) Γ Γ')
    (h : ∀ cenv s', { cenv with scope := relabel scope env } = blk scope cl s.heap.objs.size env → cenv.locals = s.heap.objs.size → EnvOk (blk scope cl s.heap.objs.size env) → EnvLow (blk scope cl s.heap.objs.size env) →
      Gd ok (blk scope cl s.heap.objs.size env) Γ' s'.heap → Keeps s s' → Q cenv s') :
    wpAny M A (newFunctionEnv scope env.globals cl [] env.qual none .none (some env)) Q E s := by
  simp only [newFunctionEnv, Option.isSome_some, if_true]
  refine wpAny_bind (wpAny_alloc ?_)
  refine wpAny_bind (wpAny_layCells _ (fun name kind cells => by cases hkc : kind == NameKind.cell <;> simp [hkc]) _ _ _ _ ?_)
  rw [show ({ s with heap := s.heap.push { cls := .type "dict", data := .dict #[] } } : Shared).heap.objs.size = s.heap.objs.size + 1 from Heap.size_push ..]
  refine wpAny_bind ?_
  rw [List.forIn_nil]
  refine wpAny_pure (wpAny_pure ?_)
  have kp : Keeps s { s with heap := pushCells (s.heap.push { cls := .type "dict", data := .dict #[] }) scope.names } := ⟨_, s.toks, _, rfl, fun b o e => pushCells_keeps _ _ b o (Heap.get?_push_of_some _ e)⟩
  have hsz : (s.heap.push { cls := .type "dict", data := .dict #[] }).objs.size = s.heap.objs.size + 1 := Heap.size_push ..
  obtain ⟨m, cm, hn, hc, hx⟩ := g.F
  have mem : ∀ x c, (x, c) ∈ cellsFrom (s.heap.objs.size + 1) scope.names cl → (x, c) ∈ cl ∨ (s.heap.objs.size + 1 ≤ c ∧ (pushCells (s.heap.push { cls := .type "dict", data := .dict #[] }) scope.names).IsCell c none) := fun x c q => by
    rw [cells_split] at q
    rcases List.mem_append.mp q with q | q
    · rw [← hsz] at q ⊢
      exact .inr (cells_new _ _ q)
    · exact .inl q
  have clIn : ∀ p ∈ cl, p ∈ env.cells := fun p hp => mem_of_lookup (B.caps p hp)
  have ndn := B.nd (s.heap.objs.size + 1)
  have ndc : nd (cl.map (·.1)) = true := by rw [cells_split, List.map_append] at ndn; exact nd_app ndn
  have clLt : ∀ p ∈ cl, p.2 < s.heap.objs.size := fun p hp => (hc p.1 p.2 (B.caps p hp)).lt
  have lw : EnvLow (blk scope cl s.heap.objs.size env) := ⟨fun b hb => by
    rcases List.mem_cons.mp hb with rfl | hb
    · exact g.W.top
    · obtain ⟨p, hp, rfl⟩ := List.mem_map.mp hb
      rcases mem p.1 p.2 hp with q | ⟨q, _⟩
      · exact okE.lw.low _ (.tail _ (List.mem_map.mpr ⟨p, clIn p q, rfl⟩))
      · exact Nat.le_trans g.W.top (Nat.le_of_succ_le q)⟩
  refine h _ _ rfl rfl ⟨B.kind, okE.glob, okE.blt, ?_, nd_self ndn, lw⟩ lw ⟨g.W.ext (kp_ext kp), g.N.ext (kp_ext kp), ?_⟩ kp
  · show (cellsFrom (s.heap.objs.size + 1) scope.names cl).Pairwise _
    rw [cells_split]
    refine List.pairwise_append.mpr ⟨?_, nd_apart okE.apart ndc clIn, fun x hx y hy e => ?_⟩
    · have := (cellsFrom_ok scope.names (s.heap.push { cls := .type "dict", data := .dict #[] }) 0 [] ⟨fun _ _ hm => (nomatch hm), List.Pairwise.nil⟩ (Nat.zero_le _)).apart
      rw [hsz] at this
      exact this
    · have h1 := (cells_new (x := x.1) (c := x.2) scope.names (s.heap.push { cls := .type "dict", data := .dict #[] }) (by rw [hsz]; exact hx)).1
      have h2 := clLt y hy
      rw [hsz] at h1
      have e' : x.2 = y.2 := e
      rw [e'] at h1
      exact absurd h2 (Nat.not_lt.mpr (Nat.le_of_succ_le h1))
  · refine ⟨fun _ => none, fun n => if (blk scope cl s.heap.objs.size env).cells.lookup n = env.cells.lookup n then cm n else none, ?_, fun n c e => ?_, fun x sl e => ?_⟩
    · exact (Heap.Ns.new s.heap (.type "dict")).keeps (pushCells_keeps _ _)
    · rcases mem n c (mem_of_lookup e) with q | ⟨q, z⟩
      · have e2 := B.caps _ q
        show Heap.IsCell _ c (ite _ _ _)
        rw [if_pos (show (blk scope cl s.heap.objs.size env).cells.lookup n = env.cells.lookup n by rw [e]; exact e2.symm)]
        exact (hc n c e2).keeps (kp_ext kp)
      · show Heap.IsCell _ c (ite _ _ _)
        rw [if_neg (show ¬ (blk scope cl s.heap.objs.size env).cells.lookup n = env.cells.lookup n by
          intro e2
          rw [e] at e2
          exact absurd (hc n c e2.symm).lt (Nat.not_lt.mpr (Nat.le_of_succ_le q)))]
        exact z
    · obtain ⟨t1, t2, t3, c, t4, t5⟩ := (T s.heap.objs.size).of x sl e
      obtain ⟨v, q1, q2⟩ := hx x sl t1
      refine ⟨v, ?_, q2.lists (kp_ext kp).lists⟩
      rcases q1 with ⟨q, _⟩ | ⟨_, _, q⟩
      · rcases t2 with t2 | t2 <;> rw [q] at t2 <;> cases t2
      · refine .inr ⟨t3, ⟨c, t4⟩, ?_⟩
        dsimp only
        rw [if_pos (t4.trans t5.symm)]
        exact q

/-! targets -/
/-- all below lo stands -/
noncomputable def KL (lo : Nat) (s s' : Shared) : Prop := ∃ h' tk dr, s' = { s with heap := h', toks := tk, drawn := dr } ∧ ∀ b o, b < lo → s.heap.get? b = some o → h'.get? b = some o
theorem sh_kl {lo : Nat} {s t : Shared} (k : KL lo s t) : Sh s t := let ⟨h, tk, dr, e, _⟩ := k; ⟨h, tk, dr, e⟩
theorem KL.kept {lo : Nat} {s t : Shared} (k : KL lo s t) : ∀ b o, b < lo → s.heap.get? b = some o → t.heap.get? b = some o := by
  obtain ⟨h, tk, _, rfl, x⟩ := k; exact x
theorem KL.trans {lo : Nat} {s t u : Shared} (a : KL lo s t) (b : KL lo t u) : KL lo s u := by
  obtain ⟨h1, k1, _, rfl, x⟩ := a
  obtain ⟨h2, k2, _, rfl, y⟩ := b
  exact ⟨h2, k2, _, rfl, fun b o n e => y b o n (x b o n e)⟩
theorem KL.of {lo : Nat} {s t : Shared} (a : Keeps s t) : KL lo s t := by
  obtain ⟨h1, k1, _, rfl, x⟩ := a
  exact ⟨h1, k1, _, rfl, fun b o _ e => x b o e⟩
theorem KL.kb {lo : Nat} {X : List Addr} {s t : Shared} (a : KB X s t) (h : ∀ x ∈ X, lo ≤ x) : KL lo s t := by
  obtain ⟨h1, k1, _, rfl, x⟩ := a
  exact ⟨h1, k1, _, rfl, fun b o n e => x b o (fun q => Nat.lt_irrefl _ (Nat.lt_of_lt_of_le n (h b q))) e⟩

/-- a target takes data -/
noncomputable def Bind (prog : Program) (w : World) (A : Around) (env : Env) (Γ : Ctx) (t : Expr) (d : D) (Γ' : Ctx) : Prop :=
  ∀ ok s E Q v, Gd ok env Γ s.heap → Rd ok s.heap v d → (∀ s', Gd ok env Γ' s'.heap → KL env.locals s s' → (∀ ok' : Addr → Prop, Lists ok' s.heap s'.heap) → Q () s') → wpAny (model prog w) A (assign t env v) Q E s

theorem bind_name {x : Str} {p : Pos} {d : D} (okE : EnvOk env) (low : EnvLow env) (cs : CanSt env x) (ht : env.locals ≤ tch env x) : Bind prog w A env Γ (.Name x p) d ((x, .data d) :: Γ) := fun ok s E Q v g r q =>
  wpAny_assign_Name (store_go okE low cs g (sl := .data d) r fun s' g' k _ => q s' g' (KL.kb k fun y hy => by rw [List.mem_singleton.mp hy]; exact ht)
    fun ok' => lists_of okE g.F (k.mono fun y hy => by rw [List.mem_singleton.mp hy]; exact tch_own cs))
theorem bind_loc {x : Str} {p : Pos} {d : D} (okE : EnvOk env) (low : EnvLow env) (hk : env.kindOf x = some .local) : Bind prog w A env Γ (.Name x p) d ((x, .data d) :: Γ) :=
  bind_name okE low (.loc hk) (by unfold tch; rw [hk]; exact Nat.le_refl _)
theorem bind_cell {x : Str} {p : Pos} {d : D} {c : Addr} (okE : EnvOk env) (low : EnvLow env) (hk : env.kindOf x = some .cell) (hl : env.cells.lookup x = some c) (hc : env.locals ≤ c) : Bind prog w A env Γ (.Name x p) d ((x, .data d) :: Γ) :=
  bind_name okE low (.cell hk hl) (by unfold tch; rw [hk, hl]; exact hc)

theorem draw_of {ok : Addr → Prop} {I : Addr} {ds : List D} {St : Nat → Heap → Prop} {E : Value → Shared → Prop} (J : Iter prog w A ok I ds St) : ∀ (n i : Nat) (s : Shared) (Q : List Value → Shared → Prop), St i s.heap → i + n ≤ ds.length → I ≥ 0 →
    (∀ vs s', RdAll ok s'.heap vs ((ds.drop i).take n) → St (i + n) s'.heap → KB [I] s s' → Q vs s') → wpAny (model prog w) A (draw (.ref I) n) Q E s
  | 0, i, s, Q, st, _, _, q => by
    show wpAny _ _ (pure []) Q E s
    exact wpAny_pure (q _ _ (by rw [List.take_zero]; exact .nil) st (KB.refl _ _))
  | n + 1, i, s, Q, st, hle, _, q => by
    have hlt : i < ds.length := by omega
    show wpAny _ _ (pyNext (.ref I) >>= _) Q E s
    refine wpAny_bind (J.next i ds[i] _ _ _ (by simp [hlt]) st fun v s1 r st1 k1 => wpAny_bind (wpAny_holding (draw_of J n (i + 1) s1 _ st1 (by omega) (Nat.zero_le _) fun vs s2 rs st2 k2 => wpAny_pure (q _ _ ?_ (by rw [show i + (n + 1) = i + 1 + n by omega]; exact st2) (k1.trans k2)))))
    have hd : ds.drop i = ds[i] :: ds.drop (i + 1) := List.drop_eq_getElem_cons hlt
    rw [hd, List.take_succ_cons]
    exact .cons (r.lists ((J.obj _ _ st1).lists fun b o hb e => k2.kept b o (mem1.mpr hb) e)) rs

theorem unpack_list {l : Addr} {vs : List Value} {ds : List D} {s : Shared} {E : Value → Shared → Prop} {Q : List Value → Shared → Prop} (hh : A.handled = none) (g : Gd ok env Γ s.heap) (okl : ok l) (hl : s.heap.IsList l vs.toArray) (rd : RdAll ok s.heap vs ds)
    (q : ∀ ws s', Gd ok env Γ s'.heap → RdAll ok s'.heap ws ds → Keeps s s' → Q ws s') : wpAny (model prog w) A (unpackItems (.ref l) ds.length none) Q E s := by
  unfold unpackItems
  refine wpAny_bind ?_
  unfold notIterableAtAll
  refine wpAny_bind (wpAny_specialOf hl.typeIs slot_list_iter.lookup ?_)
  refine wpAny_pure ?_
  simp only [Bool.false_eq_true, if_false]
  have kp := kp_push s { cls := .type "list_iterator", data := .fields #[.ref l, .int 0 0] }
  have hne : l ≠ s.heap.objs.size := by obtain ⟨o, ho, _⟩ := hl; exact Nat.ne_of_lt (Heap.lt_size ho)
  have J := iter_list (prog := prog) (w := w) (A := A) (ok := ok) (I := s.heap.objs.size) (ax := l) (vs := vs) (ds := ds) hh g.W.top g.N.size hne
  refine wpAny_bind (wpAny_holding (wpAny_pyIter_list hl (wpAny_bind (wpAny_holding (draw_of J ds.length 0 _ _ ⟨⟨_, Heap.get?_push_size _ rfl, rfl, rfl⟩, okl, hl.push _, rd.ext (kp_ext kp)⟩ (by omega) (Nat.zero_le _) fun ws s1 rw1 st1 k1 => ?_)))))
  rw [List.drop_zero, List.take_length] at rw1
  rw [if_neg (by rw [rw1.length]; omega)]
  have g1 : Gd ok env Γ s1.heap := (g.ext (kp_ext kp)).fld (x := s.heap.objs.size) ⟨g.W.top, _, _, Heap.get?_push_size _ rfl, rfl, fun q t => by simp⟩ g.N.size fun b o hb e => k1.kept b o (mem1.mpr hb) e
  refine wpAny_bind (wpAny_holding (J.stop _ _ _ (by rw [Nat.zero_add] at st1; exact st1) fun s2 k2 => ?_))
  simp only [Option.isSome_none, Bool.false_eq_true, if_false]
  have F1 := J.obj _ _ st1
  refine wpAny_pure (q ws s2 (g1.fld F1 g.N.size fun b o hb e => k2.kept b o (mem1.mpr hb) e) (rw1.lists (F1.lists fun b o hb e => k2.kept b o (mem1.mpr hb) e)) ?_)
  exact KB.keeps kp (k1.trans k2) fun b hb => by rw [List.mem_singleton.mp hb]; exact new_none (kp_refl s)

end
end Mine
end
section
open PySem PySem.Calls PyProof.Rows PySem.W
set_option maxRecDepth 100000
set_option linter.all false
namespace Mine
section
variable {prog : Program} {w : World} {A : Around} {env : Env} {Γ : Ctx} {ok : Addr → Prop}

theorem bind_three {x y z : Str} {px py pz p : Pos} {k} {a b c : D} (okE : EnvOk env) (low : EnvLow env) (hh : A.handled = none) (kx : env.kindOf x = some .local) (ky : env.kindOf y = some .local) (kz : env.kindOf z = some .local) :
    Bind prog w A env Γ (.Tuple [.Name x px, .Name y py, .Name z pz] k p) (.list [a, b, c]) ((z, .data c) :: (y, .data b) :: (x, .data a) :: Γ) := by
  intro ok s E Q v g r q
  obtain ⟨l, vs, rfl, okl, hl, rd⟩ := r.isList
  rw [arm_assign_Tuple]
  refine wpAny_bind (wpAny_standAt ?_)
  have e : unpack (.ref l) (assignEach [.Name x px, .Name y py, .Name z pz] env) = (holding [.ref l] (unpackItems (.ref l) [a, b, c].length none) >>= fun items => assignInOrder [assign (.Name x px) env, assign (.Name y py) env, assign (.Name z pz) env] items) := rfl
  rw [e]
  refine wpAny_bind (wpAny_holding (unpack_list hh g okl hl rd fun ws s1 g1 r1 k1 => ?_))
  cases r1 with
  | cons ra r1 => cases r1 with
  | cons rb r1 => cases r1 with
  | cons rc r1 => cases r1 with
  | nil =>
    refine assignInOrder_cons (bind_loc okE low kx ok s1 _ _ _ g1 ra fun s2 g2 k2 l2 => ?_)
    refine assignInOrder_cons (bind_loc okE low ky ok s2 _ _ _ g2 (rb.lists (l2 _)) fun s3 g3 k3 l3 => ?_)
    refine assignInOrder_cons (bind_loc okE low kz ok s3 _ _ _ g3 ((rc.lists (l2 _)).lists (l3 _)) fun s4 g4 k4 l4 => assignInOrder_nil ?_)
    exact q s4 g4 ((KL.of k1).trans (k2.trans (k3.trans k4))) fun ok' b ws o e => l4 ok' b ws o (l3 ok' b ws o (l2 ok' b ws o ((kp_ext k1).lists (ok := ok') b ws o e)))

/-- an expression that turns no more than X -/
noncomputable def EvX (prog : Program) (w : World) (A : Around) (X : List Addr) (env : Env) (Γ : Ctx) (e : Expr) (d : D) : Prop :=
  ∀ ok s E, Gd ok env Γ s.heap → wpAny (model prog w) A (eval e env) (fun v s' => Rd ok s'.heap v d ∧ Gd ok env Γ s'.heap ∧ Lists ok s.heap s'.heap ∧ KB X s s') E s
theorem EvX.of {X : List Addr} {e : Expr} {d : D} (h : Ev prog w A env Γ e d) : EvX prog w A X env Γ e d := fun ok s E g => h.go g fun v s' r k g' => ⟨r, g', (kp_ext k).lists, KB.of k⟩
/-- the tests of a clause -/
noncomputable def TstL (prog : Program) (w : World) (A : Around) (env : Env) (Γ : Ctx) (ifs : List Expr) (b : Bool) : Prop :=
  ∀ ok s E, Gd ok env Γ s.heap → wpAny (model prog w) A (forIn ifs true fun c r => if r = true then do let ok ← isTrue c env (eval c env); pure (ForInStep.yield ok) else pure (ForInStep.yield r)) (fun c s' => c = b ∧ Keeps s s') E s
theorem tstl_nil : TstL prog w A env Γ [] true := fun ok s E g => wpAny_tests_nil ⟨rfl, kp_refl s⟩
theorem tstl_one {t : Expr} {b : Bool} (h : Tst prog w A env Γ t b) : TstL prog w A env Γ [t] b := fun ok s E g => wpAny_tests_one (h ok s E g)

theorem Gd.turn {h0 h : Heap} {X : List Addr} (g : Gd ok env Γ h0) (W : Wd h) (N : Fresh ok h) (li : Lists ok h0 h) (k : ∀ b o, b ∉ X → h0.get? b = some o → h.get? b = some o) (hX : ∀ x ∈ X, x = tabP) : Gd ok env Γ h := by
  obtain ⟨m, cm, hn, hc, hx⟩ := g.F
  refine ⟨W, N, m, cm, ?_, fun n c e => ?_, fun x sl e => let ⟨v, a, b⟩ := hx x sl e; ⟨v, a, b.lists li⟩⟩
  · obtain ⟨o, es, ep, e, d, r⟩ := id hn
    exact ⟨o, es, ep, k _ _ (fun q => g.W.notTab e (by rw [d]; trivial) (hX _ q)) e, d, r⟩
  · obtain ⟨o, e', d⟩ := hc n c e
    exact ⟨o, k _ _ (fun q => g.W.notTab e' (by rw [d]; trivial) (hX _ q)) e', d⟩
theorem Gd.acc {h h' : Heap} {a : Addr} {xs ys : Array Value} (g : Gd ok env Γ h) (hl : h.IsList a xs) (hl' : h'.IsList a ys) (na : ¬ ok a) (ta : topLine ≤ a) (hs : Heap.SameBut a h h') : Gd ok env Γ h' ∧ Lists ok h h' := by
  obtain ⟨o, ho, hc, n, hd⟩ := id hl
  have hk : ∀ b o, b ≠ a → h.get? b = some o → h'.get? b = some o := fun b o => hs.extBut b o
  have li : Lists ok h h' := fun b vs okb l => l.extBut hs.extBut (fun q => na (q ▸ okb))
  obtain ⟨m, cm, hn, hcl, hx⟩ := g.F
  refine ⟨⟨g.W.but ⟨ta, o, ho, by rw [hd]; trivial⟩ hk, fresh_but g.N hs (by obtain ⟨o, e, _⟩ := hl'; rw [e]; rfl), m, cm, ns_but hk hn ?_, fun k c e => ?_, fun x sl e => let ⟨v, p, q⟩ := hx x sl e; ⟨v, p, q.lists li⟩⟩, li⟩
  · rintro rfl
    obtain ⟨oL, es, ep, eL, dL, _⟩ := hn
    rw [ho] at eL; cases eL
    rw [hd] at dL; cases dL
  · obtain ⟨o', e', d'⟩ := hcl k c e
    refine ⟨o', hk _ _ ?_ e', d'⟩
    rintro rfl
    rw [ho] at e'; cases e'
    rw [hd] at d'; cases d'

/-- what a turn of a block does with one datum -/
noncomputable def Turn (prog : Program) (w : World) (A : Around) (X : List Addr) (env : Env) (Γ : Ctx) (target : Expr) (ifs : List Expr) (elt : Expr) (d : D) (o : Option D) : Prop :=
  ∃ Γt, Bind prog w A env Γ target d Γt ∧ Sub Γ Γt ∧ ((o = none ∧ TstL prog w A env Γt ifs false) ∨ (∃ d', o = some d' ∧ TstL prog w A env Γt ifs true ∧ EvX prog w A X env Γt elt d'))

/-- what holds ahead of a block's turn -/
structure CompI (ok : Addr → Prop) (env : Env) (Γ : Ctx) (X : List Addr) (I acc : Addr) (ds : List D) (f : D → Option D) (St : Nat → Heap → Prop) (s : Shared) (n : Nat) (s' : Shared) (i : Nat) (vs : List Value) : Prop where
  le : i ≤ ds.length
  n_ : n = ds.length - i
  st : St i s'.heap
  hl : s'.heap.IsList acc vs.toArray
  rd : RdAll ok s'.heap vs ((ds.take i).filterMap f)
  g : Gd ok env Γ s'.heap
  kk : ∀ b o, b < env.locals → b ∉ X → b ≠ I → b ≠ acc → s.heap.get? b = some o → s'.heap.get? b = some o
  li : Lists ok s.heap s'.heap
  sh : Sh s s'
theorem list_at {h h' : Heap} {a : Addr} {vs : Array Value} (l : h.IsList a vs) (k : ∀ o, h.get? a = some o → h'.get? a = some o) : h'.IsList a vs := let ⟨o, e, r⟩ := l; ⟨o, k o e, r⟩
theorem comp_loop {elt target iter : Expr} {ifs : List Expr} {scope : Scope} {pos : Pos} {ds : List D} {f : D → Option D} {X : List Addr} {I acc : Addr} {St : Nat → Heap → Prop} {s : Shared} {R : Result → Shared → Prop}
    (J : Iter prog w A ok I ds St) (na : ¬ ok acc) (ta : topLine ≤ acc) (hX : ∀ x ∈ X, x = tabP) (hI : I < env.locals) (ha : acc < env.locals) (hIa : I ≠ acc) (hsz : ds.length ≤ sizeLine)
    (turn : ∀ d ∈ ds, Turn prog w A X env Γ target ifs elt d (f d)) (st : St 0 s.heap) (hl : s.heap.IsList acc #[]) (g : Gd ok env Γ s.heap)
    (hR : ∀ vs s', s'.heap.IsList acc vs.toArray → RdAll ok s'.heap vs (ds.filterMap f) → Gd ok env Γ s'.heap → (∀ b o, b < env.locals → b ∉ X → b ≠ I → b ≠ acc → s.heap.get? b = some o → s'.heap.get? b = some o) → Lists ok s.heap s'.heap →
      Sh s s' → R (.ok .next) s') :
    codeAny (model prog w) A (.compLoop (.ListComp elt [⟨target, iter, ifs, 0⟩] scope pos) 0 (.ref I) (.ref acc) env) R s := by
  refine codeAny_loop rfl (fun n s' => ∃ i vs, CompI ok env Γ X I acc ds f St s n s' i vs) (fun n s' hI' => ?_) ds.length
    ⟨0, [], Nat.zero_le _, rfl, st, hl, by rw [List.take_zero]; exact .nil, g, fun _ _ _ _ _ _ e => e, fun _ _ _ l => l, sh_refl s⟩
  show wpAny _ A ((compTurn (.ListComp elt [⟨target, iter, ifs, 0⟩] scope pos) 0 (.ref I) (.ref acc) env).onRaise (fun x => do noteFrame x env; theTreesLotGoes x)) _ _ s'
  refine wpAny_noted ?_
  rw [compTurn_list]
  obtain ⟨i, vs, Z⟩ := hI'
  have hn := Z.n_
  subst hn
  have F := J.obj _ _ Z.st
  have nIX : I ∉ X := fun q => by
    have h1 := F.1
    rw [hX _ q] at h1
    exact absurd h1 (by decide)
  have naX : acc ∉ X := fun q => by
    obtain ⟨o, ho, _, _, hd⟩ := Z.hl
    exact Z.g.W.notTab ho (by rw [hd]; trivial) (hX _ q)
  refine wpAny_bind (wpAny_standAt (wpAny_bind ?_))
  by_cases hlt : i < ds.length
  · refine J.next i ds[i] _ _ _ (List.getElem?_eq_getElem hlt) Z.st fun v s1 rv st1 k1 => ?_
    have kk1 : ∀ b o, b ≠ I → s'.heap.get? b = some o → s1.heap.get? b = some o := fun b o hb e => k1.kept b o (mem1.mpr hb) e
    have li1 := F.lists (ok := ok) kk1
    have g1 : Gd ok env Γ s1.heap := Z.g.fld F J.okI kk1
    have hl1 : s1.heap.IsList acc vs.toArray := list_at Z.hl fun o e => kk1 _ _ (Ne.symm hIa) e
    refine wpAny_bind (J.go _ s1 _ _ _ _ st1 ?_)
    obtain ⟨Γt, hb, hsub, hturn⟩ := turn ds[i] (List.getElem_mem hlt)
    refine wpAny_bind (hb ok s1 _ _ _ g1 rv fun s2 g2 k2 l2 => ?_)
    have st2 := J.keep _ _ _ st1 (l2 ok) fun o e => k2.kept I o hI e
    have hl2 : s2.heap.IsList acc vs.toArray := list_at hl1 fun o e => k2.kept _ _ ha e
    have li2 : Lists ok s.heap s2.heap := fun a ws o e => l2 ok a ws o (li1 a ws o (Z.li a ws o e))
    have rd2 : RdAll ok s2.heap vs ((ds.take i).filterMap f) := (Z.rd.lists li1).lists (l2 ok)
    have kk2 : ∀ b o, b < env.locals → b ∉ X → b ≠ I → b ≠ acc → s.heap.get? b = some o → s2.heap.get? b = some o := fun b o a1 a2 a3 a4 e => k2.kept b o a1 (kk1 b o a3 (Z.kk b o a1 a2 a3 a4 e))
    have sh2 : Sh s s2 := sh_trans Z.sh (sh_trans (sh_kb k1) (sh_kl k2))
    have hlen : (ds.take i).length ≤ ds.length := by rw [List.length_take]; exact Nat.min_le_right _ _
    have hsv : vs.length ≤ sizeLine := Nat.le_trans (by rw [rd2.length]; exact List.length_filterMap_le _ _) (Nat.le_trans hlen hsz)
    have htake : ∀ o, f ds[i] = o → (ds.take (i + 1)).filterMap f = (ds.take i).filterMap f ++ o.toList := fun o e => by
      rw [List.take_add_one, List.getElem?_eq_getElem hlt, List.filterMap_append]
      simp only [Option.toList_some, List.filterMap_cons, List.filterMap_nil, e]
      cases o <;> rfl
    have hdn : ds.length - (i + 1) < ds.length - i := Nat.sub_lt_sub_left hlt (Nat.lt_succ_self i)
    rcases hturn with ⟨e0, ht⟩ | ⟨d', e0, ht, hev⟩
    · refine wpAny_bind (wpAny_mono (ht ok s2 _ g2) (fun c s3 q => ?_) fun _ _ x => x)
      obtain ⟨rfl, k3⟩ := q
      have x3 := kp_ext k3
      refine wpAny_pure ⟨rfl, ds.length - (i + 1), hdn, i + 1, vs, hlt, rfl, J.keep _ _ _ st2 x3.lists (fun o e => x3 _ _ e), list_at hl2 fun o e => x3 _ _ e, ?_, (g2.ext x3).sub hsub, fun b o a1 a2 a3 a4 e => x3 b o (kk2 b o a1 a2 a3 a4 e), fun a ws o e => x3.lists (ok := ok) a ws o (li2 a ws o e), sh_trans sh2 (sh_kp k3)⟩
      rw [htake _ e0, Option.toList_none, List.append_nil]; exact rd2.ext x3
    · refine wpAny_bind (wpAny_mono (ht ok s2 _ g2) (fun c s3 q => ?_) fun _ _ x => x)
      obtain ⟨rfl, k3⟩ := q
      have x3 := kp_ext k3
      simp only [if_true]
      refine wpAny_bind (wpAny_bind (wpAny_mono (hev ok s3 _ (g2.ext x3)) (fun y s4 q => ?_) fun _ _ x => x))
      obtain ⟨ry, g4, l4, k4⟩ := q
      have hl4 : s4.heap.IsList acc vs.toArray := list_at hl2 fun o e => k4.kept _ _ naX (x3 _ _ e)
      have st4 : St (i + 1) s4.heap := J.keep _ _ _ (J.keep _ _ _ st2 x3.lists fun o e => x3 _ _ e) l4 fun o e => k4.kept _ _ nIX e
      refine wpAny_bind (wpAny_list_append hl4 (fun h5 hl5 hs5 => wpAny_pure (wpAny_pure ?_)) hsv)
      have hl5' : h5.IsList acc (vs ++ [y]).toArray := by
        have : (vs ++ [y]).toArray = vs.toArray.push y := by simp
        rw [this]; exact hl5
      obtain ⟨g5, l5⟩ := g4.acc hl4 hl5 na ta hs5
      refine ⟨rfl, ds.length - (i + 1), hdn, i + 1, vs ++ [y], hlt, rfl, J.keep _ _ _ st4 l5 (fun o e => hs5.extBut _ _ hIa e), hl5', ?_, g5.sub hsub, fun b o a1 a2 a3 a4 e => hs5.extBut _ _ a4 (k4.kept b o a2 (x3 b o (kk2 b o a1 a2 a3 a4 e))),
        fun a ws o e => l5 a ws o (l4 a ws o (x3.lists (ok := ok) a ws o (li2 a ws o e))), sh_trans sh2 (sh_trans (sh_kp k3) (sh_trans (sh_kb k4) ⟨_, _, _, rfl⟩))⟩
      rw [htake _ e0]
      exact (((rd2.ext x3).lists l4).lists l5).snoc (ry.lists l5)
  · have he : i = ds.length := Nat.le_antisymm Z.le (Nat.not_lt.mp hlt)
    subst he
    refine J.stop _ _ _ Z.st fun s1 k1 => wpAny_pure ?_
    have kk1 : ∀ b o, b ≠ I → s'.heap.get? b = some o → s1.heap.get? b = some o := fun b o hb e => k1.kept b o (mem1.mpr hb) e
    have li1 := F.lists (ok := ok) kk1
    have rd' := Z.rd
    rw [List.take_length] at rd'
    exact hR vs s1 (list_at Z.hl fun o e => kk1 _ _ (Ne.symm hIa) e) (rd'.lists li1) (Z.g.fld F J.okI kk1) (fun b o a1 a2 a3 a4 e => kk1 b o a3 (Z.kk b o a1 a2 a3 a4 e)) (fun a ws o e => li1 a ws o (Z.li a ws o e)) (sh_trans Z.sh (sh_kb k1))

/-- a block over lists: what it gives -/
structure LcI (prog : Program) (w : World) (A : Around) (X : List Addr) (env : Env) (Γ : Ctx) (elt target iter : Expr) (ifs : List Expr) (scope : Scope) (out : List D) (cl : List (Str × Addr)) (ds : List D) (f : D → Option D) (Γ' : Ctx) : Prop where
  B : BlkOk env scope cl
  hi : EvI prog w A env Γ iter ds
  T : ∀ C, Thru env (blk scope cl C env) Γ Γ'
  hX : ∀ x ∈ X, x = tabP
  hsz : ds.length ≤ sizeLine
  turn : ∀ C, EnvOk (blk scope cl C env) → EnvLow (blk scope cl C env) → ∀ d ∈ ds, Turn prog w A X (blk scope cl C env) Γ' target ifs elt d (f d)
  out_ : out = ds.filterMap f
  hs : ∀ x, foldedSetIterable iter env x = pure x
structure Lc (prog : Program) (w : World) (A : Around) (X : List Addr) (env : Env) (Γ : Ctx) (elt target iter : Expr) (ifs : List Expr) (scope : Scope) (out : List D) : Prop where
  of : ∃ cl ds f Γ', LcI prog w A X env Γ elt target iter ifs scope out cl ds f Γ'

theorem comp_go {X : List Addr} {elt target iter : Expr} {ifs : List Expr} {scope : Scope} {out : List D} {pos p : Pos} {s : Shared} {E : Value → Shared → Prop} {use : Option (Value → Sem Unit)} {Q : Value → Shared → Prop} (okE : EnvOk env)
    (L : Lc prog w A X env Γ elt target iter ifs scope out) (g : Gd ok env Γ s.heap)
    (k : ∀ acc C s', Rd ok s'.heap (.ref acc) (.list out) → Gd ok env Γ s'.heap → KB X s s' → Lists ok s.heap s'.heap → s.heap.get? C = none → topLine ≤ C → (∃ m, s'.heap.Ns C m) → compPost (model prog w) A E use Q (.ref acc) C (.ok .next) s') :
    wpAny (model prog w) A (comprehension (.ListComp elt [⟨target, iter, ifs, 0⟩] scope pos) scope env p (newList []) false (eval iter env) use) Q E s := by
  obtain ⟨cl, ds, f, Γ', B, hi, T, hX, hsz, turn, rfl, hs⟩ := L.of
  refine wpAny_comprehension_free rfl hs B.clos B.kind B.names (hi ok s E _ g fun I s2 J hI k2 g2 => ?_)
  refine wpAny_newObj_type ?_
  have kp := kp_push s2 { cls := .type "list", dict := none, data := .seq ([] : List Value).toArray }
  have ext := kp_ext kp
  have okc : ∀ a o, s2.heap.get? a = some o → ok a → (ok a ∧ a ≠ s2.heap.objs.size) := fun a o e h => ⟨h, Nat.ne_of_lt (Heap.lt_size e)⟩
  obtain ⟨St, J, st⟩ := J _ okc
  have g3 : Gd (fun a => ok a ∧ a ≠ s2.heap.objs.size) env Γ (s2.heap.push { cls := .type "list", dict := none, data := .seq ([] : List Value).toArray }) := by
    refine ⟨g2.W.ext ext, fun a e => ⟨g2.N.ext ext a e, ?_⟩, ?_⟩
    · rintro rfl
      rw [Heap.get?_push_size _ rfl] at e; cases e
    · obtain ⟨m, cm, a, b, c⟩ := g2.F
      refine ⟨m, cm, a.keeps ext, fun n k e => (b n k e).keeps ext, fun y sl e => ?_⟩
      obtain ⟨v, p, q⟩ := c y sl e
      refine ⟨v, p, ?_⟩
      cases sl with
      | data d => exact (Rd.mono okc q).ext ext
      | val u => exact q
  have hIlt : I < s2.heap.objs.size := by
    obtain ⟨_, o, _, e, _⟩ := J.obj _ _ st
    exact Heap.lt_size e
  refine new_blk (s := { s2 with heap := s2.heap.push { cls := .type "list", dict := none, data := .seq ([] : List Value).toArray } }) okE B g3 T fun cenv s4 he hC okE' low' g4 k4 => ?_
  have hsz2 : ({ s2 with heap := s2.heap.push { cls := .type "list", dict := none, data := .seq ([] : List Value).toArray } } : Shared).heap.objs.size = s2.heap.objs.size + 1 := Heap.size_push ..
  have x4 := kp_ext k4
  rw [he]
  have st4 : St 0 s4.heap := J.keep _ _ _ st (Ext.lists fun b o e => x4 _ _ (ext _ _ e)) fun o e => x4 _ _ (ext _ _ e)
  have hCf : s.heap.get? cenv.locals = none := by
    rw [hC]
    cases e : s.heap.get? ({ s2 with heap := s2.heap.push { cls := .type "list", dict := none, data := .seq ([] : List Value).toArray } } : Shared).heap.objs.size with
    | none => rfl
    | some o => exact absurd (Heap.lt_size (kp_ext kp _ _ (kp_ext k2 _ _ e))) (Nat.lt_irrefl _)
  have hloop : codeAny (model prog w) A (.compLoop (.ListComp elt [⟨target, iter, ifs, 0⟩] scope pos) 0 (.ref I) (.ref s2.heap.objs.size) (blk scope cl ({ s2 with heap := s2.heap.push { cls := .type "list", dict := none, data := .seq ([] : List Value).toArray } } : Shared).heap.objs.size env))
      (compPost (model prog w) A E use Q (.ref s2.heap.objs.size) cenv.locals) s4 := by
    refine comp_loop J (fun q => q.2 rfl) g2.W.top hX ?_ ?_ (Nat.ne_of_lt hIlt) hsz (turn _ okE' low') st4 (let z := x4 _ _ (Heap.get?_push_size _ rfl); ⟨_, z, rfl, 0, rfl⟩) g4 fun vs s5 hl5 rd5 g5 kk5 li5 sh5 => ?_
    · show I < _
      rw [hsz2]; exact Nat.lt_succ_of_lt hIlt
    · show s2.heap.objs.size < _
      rw [hsz2]; exact Nat.lt_succ_self _
    · have N5 : Fresh ok s5.heap := fun a e => (g5.N a e).1
      have k5 : ∀ b o, b ∉ X → s2.heap.get? b = some o → b ≠ I → s5.heap.get? b = some o := fun b o hb e hbI =>
        kk5 b o (by show b < _; rw [hsz2]; exact Nat.lt_succ_of_lt (Heap.lt_size e)) hb hbI (Nat.ne_of_lt (Heap.lt_size e)) (x4 _ _ (ext _ _ e))
      have ks : ∀ b o, b ∉ X → s.heap.get? b = some o → s5.heap.get? b = some o := fun b o hb e => k5 b o hb (kp_ext k2 _ _ e) (by rintro rfl; rw [hI] at e; cases e)
      have li : Lists ok s.heap s5.heap := fun a ws oka l => by
        have l2 := (kp_ext k2).lists (ok := ok) a ws oka l
        have hne : a ≠ s2.heap.objs.size := by obtain ⟨o, e, _⟩ := l2; exact Nat.ne_of_lt (Heap.lt_size e)
        exact li5 a ws ⟨oka, hne⟩ ((Ext.lists (ok := ok) fun b o e => x4 _ _ (ext _ _ e)) a ws oka l2)
      refine k _ _ s5 (.list g2.N.size hl5 (rd5.mono fun a o _ q => q.1)) (g.turn g5.W N5 li ks hX) (KB.sh (sh_trans (sh_kp k2) (sh_trans (sh_kp kp) (sh_trans (sh_kp k4) sh5))) ks) li hCf (by rw [hC]; exact (g2.W.ext ext).top) ?_
      rw [hC]
      obtain ⟨m, cm, hn, _⟩ := g5.F
      exact ⟨m, hn⟩
  exact codeAny_compStart_list hloop (J.self 0 _ _ _ st4 hloop)

theorem dict_off {C : Addr} {s s' : Shared} {h' : Heap} {Γ2 : Ctx} (g : Gd ok env Γ s.heap) (g' : Gd ok env Γ2 s'.heap) (hC : s.heap.get? C = none) (hn : ∃ m, s'.heap.Ns C m) (hs : Heap.SameBut C s'.heap h') (ta : topLine ≤ C) (hsome : (h'.get? C).isSome = true ∨ ok C) : Gd ok env Γ2 h' ∧ ∀ ok' : Addr → Prop, Lists ok' s'.heap h' := by
  obtain ⟨m1, o, es, ep, e, d, r⟩ := hn
  have hk : ∀ b o, b ≠ C → s'.heap.get? b = some o → h'.get? b = some o := fun b o => hs.extBut b o
  have ne : ∀ {a : Addr} {m}, s.heap.Ns a m → C ≠ a := fun {a m} n => by
    rintro rfl
    obtain ⟨o, _, _, e, _⟩ := n
    rw [hC] at e; cases e
  have li : ∀ ok' : Addr → Prop, Lists ok' s'.heap h' := fun ok' => lists_but e (by rw [d]; trivial) hk
  obtain ⟨m0, cm0, hn0, hc0, hx0⟩ := g.F
  obtain ⟨m, cm, hn, hc, hx⟩ := g'.F
  refine ⟨⟨g'.W.but ⟨ta, o, e, by rw [d]; trivial⟩ hk, fun a ea => ?_, m, cm, ns_but hk hn (Ne.symm (ne hn0)), fun n c ec => ?_, fun x sl ex => let ⟨v, p, q⟩ := hx x sl ex; ⟨v, p, q.lists (li _)⟩⟩, li⟩
  · by_cases q : a = C
    · subst q; exact g.N a hC
    · refine g'.N a ?_
      cases z : s'.heap.get? a with
      | none => rfl
      | some o' => rw [hk a o' q z] at ea; cases ea
  · obtain ⟨o', e', d'⟩ := hc n c ec
    refine ⟨o', hk _ _ ?_ e', d'⟩
    rintro rfl
    rw [e] at e'; cases e'
    rw [d] at d'; cases d'

theorem evx_lc {X : List Addr} {elt target iter : Expr} {ifs : List Expr} {scope : Scope} {out : List D} {pos : Pos} (okE : EnvOk env) (L : Lc prog w A X env Γ elt target iter ifs scope out) :
    EvX prog w A X env Γ (.ListComp elt [⟨target, iter, ifs, 0⟩] scope pos) (.list out) := fun ok s E g => by
  rw [eval_ListComp]
  refine comp_go (use := none) okE L g fun acc C s' r g' k' l' hC tC hn => ?_
  obtain ⟨m, hm⟩ := id hn
  refine ⟨m, hm, fun h' hs => ?_⟩
  obtain ⟨g2, l2⟩ := dict_off g g' hC hn hs tC (.inr (g.N _ hC))
  refine ⟨r.lists (l2 ok), g2, fun a ws o e => l2 ok a ws o (l' a ws o e), ?_⟩
  obtain ⟨h1, t1, _, rfl, kk⟩ := k'
  exact ⟨h', t1, _, rfl, fun b o hb e => hs.extBut b o (by rintro rfl; rw [hC] at e; cases e) (kk b o hb e)⟩
theorem ev_lc {elt target iter : Expr} {ifs : List Expr} {scope : Scope} {out : List D} {pos : Pos} (okE : EnvOk env) (L : Lc prog w A [] env Γ elt target iter ifs scope out) :
    Ev prog w A env Γ (.ListComp elt [⟨target, iter, ifs, 0⟩] scope pos) (.list out) := fun ok s E g =>
  wpAny_mono (evx_lc okE L ok s E g) (fun v s' q => ⟨q.1, by obtain ⟨h', tk, _, rfl, kk⟩ := q.2.2.2; exact ⟨h', tk, _, rfl, fun b o e => kk b o (by simp) e⟩⟩) fun _ _ x => x

/-- a statement that turns no more than X and the frame -/
noncomputable def ExX1 (prog : Program) (w : World) (A : Around) (X : List Addr) (env : Env) (Γ : Ctx) (st : Stmt) (Γ' : Ctx) : Prop :=
  ∀ ok s E, Gd ok env Γ s.heap → wpAny (model prog w) A (exec st env) (fun f s' => f = .next ∧ Gd ok env Γ' s'.heap ∧ KB (X ++ own env) s s') E s
theorem exx1_lc {X : List Addr} {y : Str} {py : Pos} {elt target iter : Expr} {ifs : List Expr} {scope : Scope} {out : List D} {pos spos : Pos} (okE : EnvOk env) (low : EnvLow env) (hy : env.kindOf y = some .local)
    (L : Lc prog w A X env Γ elt target iter ifs scope out) (hsw : swapsWith (.ListComp elt [⟨target, iter, ifs, 0⟩] scope pos) (some (.Name y py)) spos.line env = pure true) :
    ExX1 prog w A X env Γ (.Assign [.Name y py] (.ListComp elt [⟨target, iter, ifs, 0⟩] scope pos) spos) ((y, .data (.list out)) :: Γ) := fun ok s E g => by
  rw [exec_Assign_Name_used _ _ _ _ hsw]
  refine wpAny_bind (wpAny_standAt (wpAny_bind ?_))
  show wpAny _ A (do let _ ← comprehension (.ListComp elt [⟨target, iter, ifs, 0⟩] scope pos) scope env _ (newList []) false (eval iter env) (some (assign (.Name y py) env))) _ _ s
  refine wpAny_bind (wpAny_mono (comp_go (use := some (assign (.Name y py) env)) (Q := fun _ s' => Gd ok env ((y, .data (.list out)) :: Γ) s'.heap ∧ KB (X ++ own env) s s') okE L g fun acc C s' r g' k' l' hC tC hn => ?_) (fun _ s' hq => wpAny_pure (wpAny_pure ⟨rfl, hq⟩)) fun _ _ e => e)
  show wpAny _ A (assign (.Name y py) env (.ref acc)) _ _ _
  refine wpAny_assign_Name (store_go okE low (.loc hy) g' (sl := .data (.list out)) r fun s2 g2 k2 l2 => ?_)
  have hCL : C ≠ env.locals := by
    rintro rfl
    obtain ⟨m, cm, ⟨o, _, _, e, _⟩, _⟩ := g.F
    rw [hC] at e; cases e
  have hn2 : ∃ m, s2.heap.Ns C m := by
    obtain ⟨m, o, es, ep, e, r⟩ := hn
    exact ⟨m, o, es, ep, k2.kept _ _ (by unfold tch; rw [hy]; exact mem1.mpr hCL) e, r⟩
  obtain ⟨m, hm⟩ := id hn2
  refine ⟨m, hm, fun h' hs => ?_⟩
  obtain ⟨g3, l3⟩ := dict_off g g2 hC hn2 hs tC (.inr (g.N _ hC))
  refine ⟨g3, ?_⟩
  obtain ⟨h1, t1, _, rfl, kk⟩ := k'
  obtain ⟨h2, t2, _, rfl, kk2⟩ := k2
  refine ⟨h', t2, _, rfl, fun b o hb e => hs.extBut b o (by rintro rfl; rw [hC] at e; cases e) (kk2 b o (fun q => ?_) (kk b o (fun q => hb (List.mem_append.mpr (.inl q))) e))⟩
  exact hb (List.mem_append.mpr (.inr (by rw [List.mem_singleton.mp q]; exact tch_own (.loc hy))))
theorem ex1_lc {y : Str} {py : Pos} {elt target iter : Expr} {ifs : List Expr} {scope : Scope} {out : List D} {pos spos : Pos} (okE : EnvOk env) (low : EnvLow env) (hy : env.kindOf y = some .local)
    (L : Lc prog w A [] env Γ elt target iter ifs scope out) (hsw : swapsWith (.ListComp elt [⟨target, iter, ifs, 0⟩] scope pos) (some (.Name y py)) spos.line env = pure true) :
    Ex1 prog w A env Γ (.Assign [.Name y py] (.ListComp elt [⟨target, iter, ifs, 0⟩] scope pos) spos) ((y, .data (.list out)) :: Γ) := exx1_lc (X := []) okE low hy L hsw
end
end Mine
end
section
open PySem PySem.Calls PyProof.Rows PySem.W
set_option maxRecDepth 100000
set_option linter.all false
set_option maxHeartbeats 4000000
set_option profiler true
set_option profiler.threshold 1000
namespace Mine
section
variable {prog : Program} {w : World} {A : Around} {env : Env} {Γ : Ctx} {ok : Addr → Prop}

/-- a built-in function of one argument -/
theorem ev_blt {f : Str} {id : String} {p pos : Pos} {e : Expr} {d d' : D} (okE : EnvOk env) (hf : bootBuiltins f = some (.builtin id)) (hp : f ∈ bltNames) (hk : env.kindOf f = some .globalImplicit) (h : Ev prog w A env Γ e d) (hse : starEach [e] env = [(false, eval e env)])
    (op : Op1 prog w A (fun v => call (.builtin id) [v]) d d') (hn : f ≠ "__name__" := by decide) (hd : (f == ("__debug__" : Str)) = false := by decide) : Ev prog w A env Γ (.Call (.Name f p) [e] [] pos) d' := fun ok s E g => by
  refine wpAny_Call_NameR (name_blt okE g.W hf hp hk ?_ hn hd)
  rw [hse]
  refine Calls.callWith_builtin rfl (Calls.evalArgs_plain (Calls.spliced_cons (h.go g fun v s1 r k1 g1 => Calls.spliced_nil (wpAny_mono (op ok s1 E v g1.N g1.W r) (fun u s2 q => ⟨q.1, kp_trans k1 q.2⟩) fun _ _ x => x))))
theorem ev_typ {f : Str} {T : String} {p pos : Pos} {e : Expr} {d d' : D} (okE : EnvOk env) (hf : bootBuiltins f = some (.type T)) (hp : f ∈ bltNames) (hk : env.kindOf f = some .globalImplicit) (h : Ev prog w A env Γ e d) (hse : starEach [e] env = [(false, eval e env)])
    (op : Op1 prog w A (fun v => call (.type T) [v]) d d') (hn : f ≠ "__name__" := by decide) (hd : (f == ("__debug__" : Str)) = false := by decide) : Ev prog w A env Γ (.Call (.Name f p) [e] [] pos) d' := fun ok s E g => by
  refine wpAny_Call_NameR (name_blt okE g.W hf hp hk ?_ hn hd)
  rw [hse]
  refine PySem.callWith_type rfl (Calls.evalArgs_plain (Calls.spliced_cons (h.go g fun v s1 r k1 g1 => Calls.spliced_nil (wpAny_mono (op ok s1 E v g1.N g1.W r) (fun u s2 q => ⟨q.1, kp_trans k1 q.2⟩) fun _ _ x => x))))

theorem op_len {ds : List D} (h : ds.length < 2 ^ 62 := by omega) : Op1 prog w A (fun v => call (.builtin "len") [v]) (.list ds) (.int ds.length) := fun ok s E v N W r => by
  obtain ⟨a, vs, rfl, ka, hl, ra⟩ := r.isList
  refine len_list hl (by simp [ra.length]; omega) ?_
  have e : (vs.toArray.size : Int) = ds.length := by simp [ra.length]
  rw [e]
  exact ⟨.int _ _, kp_tok _ _⟩
theorem op_lens {l : List Nat} (h : l.length < 2 ^ 62 := by omega) : Op1 prog w A (fun v => call (.builtin "len") [v]) (.str (S l)) (.int l.length) := fun ok s E v N W r => by
  obtain ⟨t, rfl⟩ := r.isStr
  refine len_str (by rw [S_len]; omega) ?_
  rw [S_len]
  exact ⟨.int _ _, kp_tok _ _⟩
theorem ev_len {p pos : Pos} {e : Expr} {ds : List D} (okE : EnvOk env) (hk : env.kindOf "len" = some .globalImplicit) (h : Ev prog w A env Γ e (.list ds)) (hse : starEach [e] env = [(false, eval e env)]) (hl : ds.length < 2 ^ 62 := by omega) :
    Ev prog w A env Γ (.Call (.Name "len" p) [e] [] pos) (.int ds.length) := ev_blt okE (id := "len") (by kernel_rfl) (by decide) hk h hse (op_len hl)
theorem ev_lens {p pos : Pos} {e : Expr} {l : List Nat} (okE : EnvOk env) (hk : env.kindOf "len" = some .globalImplicit) (h : Ev prog w A env Γ e (.str (S l))) (hse : starEach [e] env = [(false, eval e env)]) (hl : l.length < 2 ^ 62 := by omega) :
    Ev prog w A env Γ (.Call (.Name "len" p) [e] [] pos) (.int l.length) := ev_blt okE (id := "len") (by kernel_rfl) (by decide) hk h hse (op_lens hl)

/-! parts of patterns -/
inductive Pt where
  | star
  | any
  | ch (c : Nat)
  deriving DecidableEq
noncomputable def anyT : List Nat := [97, 110, 121]
noncomputable def partD : Pt → D
  | .star => .none
  | .any => .str (S anyT)
  | .ch c => .str (S (if c = 43 then [92, 43] else [c]))
noncomputable def toPt (c : Nat) : Pt := if c = 42 then .star else if c = 63 then .any else .ch c

theorem ev_part {x1 x2 x3 y2 y3 : Str} {k1 k2 k3 l1 l2 l3 : Nat} {p1 p2 p3 q1 q2 q3 dp ap pos : Pos} {e e' : Expr} {c : Nat} (he : Ev prog w A env Γ e (.str (S [c]))) (he' : Ev prog w A env Γ e' (.str (S [c]))) (hse : starEach [e, e'] env = [(false, eval e env), (false, eval e' env)]) (hline : (ap.endLine == pos.line) = true)
    (h1 : x1 = S [42] := by decide +kernel) (h2 : x2 = S [63] := by decide +kernel) (h3 : x3 = S [43] := by decide +kernel) (g2 : y2 = S anyT := by decide +kernel) (g3 : y3 = S [92, 43] := by decide +kernel) :
    Ev prog w A env Γ (.Call (.Attribute (.Dict [some (.Constant (.str x1) k1 p1), some (.Constant (.str x2) k2 p2), some (.Constant (.str x3) k3 p3)] [.Constant .none l1 q1, .Constant (.str y2) l2 q2, .Constant (.str y3) l3 q3] dp) "get" ap) [e, e'] [] pos) (partD (toPt c)) := fun ok s E g => by
  subst h1 h2 h3 g2 g3
  skip
  refine wpAny_Call_method2_late (by rfl) hline (by rw [hse]; rfl) ?_
  refine wpAny_Dict_walk (knd := PySem.strKind prog w) rfl rfl (by simp) (show 3 ≤ 15 by decide) ?_
  have kp := kp_push s { cls := .type "dict", data := .dict #[] }
  have d0 : (s.heap.push { cls := .type "dict", data := .dict #[] }).DictOf (PySem.strKind prog w) s.heap.objs.size [] := Heap.DictOf.new ..
  refine pairTrees_cons_walk (wpAny_Constant_str (wpAny_Constant_none (pairTrees_cons_walk (wpAny_Constant_str (wpAny_Constant_str (pairTrees_cons_walk (wpAny_Constant_str (wpAny_Constant_str (pairTrees_nil_walk ?_)))))))))
  refine display_done_str rfl (show ([S [42], S [63], S [43]] : List Str).Nodup by decide +kernel) d0 fun h' hd hs => ?_
  have k1 : Keeps s { s with heap := h', toks := s.toks + 1 + 1 + 1 + 1 + 1 + 3 } := ⟨h', _, _, rfl, fun b o e => hs.extBut b o (Nat.ne_of_lt (Heap.lt_size e)) (Heap.get?_push_of_some _ e)⟩
  have ne : (s.heap.objs.size == sysModules) = false := by
    have := g.W.top
    have h2 : s.heap.objs.size ≠ 1 := by
      intro q
      rw [q] at this
      exact absurd this (by decide)
    exact beq_eq_false_iff_ne.mpr h2
  refine ⟨"dict", "dict.get", F.plainAttrs_dict, F.slot_dict_get, F.type_dict_get, hd.mapOf.typeIs, hd.mapOf.noDict, wpAny_dict_get2 (knd := PySem.strKind prog w) ne ?_⟩
  have g1 := g.ext (kp_ext k1)
  refine he.go g1 fun v s2 rv k2 g2 => he'.go g2 fun u s3 ru k3 g3 => ?_
  obtain ⟨t, rfl⟩ := rv.isStr
  refine ⟨S [c], _, by simp [PySem.strKind, Value.isStrOf], (hd.keep (kp_ext (kp_trans k2 k3))).mapOf, ?_⟩
  refine ⟨?_, kp_trans k1 (kp_trans k2 (kp_trans k3 (kp_tok _ _)))⟩
  have ei : ∀ a : Nat, (S [a] = S [c]) ↔ a = c := fun a => ⟨fun q => by have := S_inj q; simpa using this, fun q => by rw [q]⟩
  unfold toPt valueAt
  simp only [strPairs, List.find?_cons, List.find?_nil, ei]
  by_cases c1 : c = 42
  · subst c1; simp; exact .none
  · by_cases c2 : c = 63
    · subst c2; simp; exact .str _ _
    · by_cases c3 : c = 43
      · subst c3; simp; exact .str _ _
      · have e1 : ¬ 42 = c := fun q => c1 q.symm
        have e2 : ¬ 63 = c := fun q => c2 q.symm
        have e3 : ¬ 43 = c := fun q => c3 q.symm
        simp [c1, c2, e1, e2, e3, partD, c3]
        exact ru
end
end Mine
end
section
open PySem PySem.Calls PyProof.Rows PySem.W
set_option maxRecDepth 100000
set_option linter.all false
namespace Mine

/-- plain small data: none, ints, texts -/
noncomputable def flat : D → Bool
  | .none => true
  | .int _ => true
  | .str x => PyData.strOk x
  | _ => false
noncomputable def dEq : D → D → Bool
  | .none, .none => true
  | .int a, .int b => a == b
  | .str a, .str b => a == b
  | _, _ => false
noncomputable def flatPy : D → PyData
  | .int i => .int i
  | .str x => .str x
  | _ => .none
theorem flat_py : ∀ {d : D}, flat d = true → d.py = some (flatPy d) ∧ (flatPy d).canLay0 = true ∧ (flatPy d).depth = 0
  | .none, _ => ⟨rfl, rfl, by simp [flatPy, PyData.depth]⟩
  | .int _, _ => ⟨rfl, rfl, by simp [flatPy, PyData.depth]⟩
  | .str x, h => ⟨rfl, by simp only [flatPy, PyData.canLay0]; exact h, by simp [flatPy, PyData.depth]⟩
theorem flat_eqv : ∀ {a b : D}, flat a = true → flat b = true → PyData.eqv (flatPy a) (flatPy b) = dEq a b
  | .none, .none, _, _ => rfl
  | .none, .int _, _, _ => rfl
  | .none, .str _, _, _ => rfl
  | .int _, .none, _, _ => rfl
  | .int _, .int _, _, _ => by simp [flatPy, PyData.eqv, dEq]
  | .int _, .str _, _, _ => rfl
  | .str _, .none, _, _ => rfl
  | .str _, .int _, _, _ => rfl
  | .str _, .str _, _, _ => by simp [flatPy, PyData.eqv, dEq]
theorem flat_pys : ∀ {ds : List D}, (∀ d ∈ ds, flat d = true) → pys ds = some (ds.map flatPy) ∧ PyData.canLayAll0 (ds.map flatPy) = true ∧ PyData.depthAll (ds.map flatPy) = 0
  | [], _ => ⟨rfl, rfl, rfl⟩
  | d :: ds, h => by
    obtain ⟨a1, a2, a3⟩ := flat_py (h d (.head _))
    obtain ⟨b1, b2, b3⟩ := flat_pys fun x hx => h x (.tail _ hx)
    refine ⟨?_, ?_, ?_⟩
    · unfold pys; rw [a1, b1]; rfl
    · simp [PyData.canLayAll0, a2, b2]
    · simp [PyData.depthAll, a3, b3]
theorem flat_any : ∀ {ds : List D} {d : D}, flat d = true → (∀ d ∈ ds, flat d = true) → ((ds.map flatPy).any fun y => PyData.eqv y (flatPy d)) = ds.any fun y => dEq y d
  | [], _, _, _ => rfl
  | x :: ds, d, h, hs => by
    simp only [List.map_cons, List.any_cons]
    rw [flat_eqv (hs x (.head _)) h, flat_any h fun y hy => hs y (.tail _ hy)]

section
variable {prog : Program} {w : World} {A : Around} {env : Env} {Γ : Ctx} {ok : Addr → Prop}
theorem Ev.to {e : Expr} {d d' : D} (h : Ev prog w A env Γ e d) (q : d = d') : Ev prog w A env Γ e d' := q ▸ h
theorem op_inF {d : D} {ds : List D} (h : flat d = true) (hs : ∀ x ∈ ds, flat x = true) (r : Room 1 A) : Op2 prog w A (compareOp .In) d (.list ds) (.bool (ds.any fun y => dEq y d)) :=
  op_in (flat_py h).1 (flat_pys hs).1 (flat_py h).2.1 (flat_pys hs).2.1 (flat_any h hs) r (by rw [(flat_py h).2.2]; decide)
theorem op_notInF {d : D} {ds : List D} (h : flat d = true) (hs : ∀ x ∈ ds, flat x = true) (r : Room 1 A) : Op2 prog w A (compareOp .NotIn) d (.list ds) (.bool (!ds.any fun y => dEq y d)) :=
  op_notIn (flat_py h).1 (flat_pys hs).1 (flat_py h).2.1 (flat_pys hs).2.1 (by rw [flat_any h hs]) r (by rw [(flat_py h).2.2]; decide)
/-- lists of flat data, compared -/
noncomputable def dEqs : List D → List D → Bool
  | [], [] => true
  | x :: xs, y :: ys => dEq x y && dEqs xs ys
  | _, _ => false
theorem flat_eqvs : ∀ {a b : List D}, (∀ d ∈ a, flat d = true) → (∀ d ∈ b, flat d = true) → PyData.eqvAll (a.map flatPy) (b.map flatPy) = dEqs a b
  | [], [], _, _ => rfl
  | [], _ :: _, _, _ => rfl
  | _ :: _, [], _, _ => rfl
  | x :: a, y :: b, h, k => by
    simp only [List.map_cons, PyData.eqvAll, dEqs]
    rw [flat_eqv (h x (.head _)) (k y (.head _)), flat_eqvs (fun z hz => h z (.tail _ hz)) fun z hz => k z (.tail _ hz)]
theorem op_eqL {a b : List D} (h1 : ∀ d ∈ a, flat d = true) (h2 : ∀ d ∈ b, flat d = true) (r : Room 1 A) : Op2 prog w A (compareOp .Eq) (.list a) (.list b) (.bool (dEqs a b)) := by
  refine op_eqd (p1 := .list (a.map flatPy)) (p2 := .list (b.map flatPy)) (by unfold D.py; rw [(flat_pys h1).1]; rfl) (by unfold D.py; rw [(flat_pys h2).1]; rfl) (flat_pys h1).2.1 (flat_pys h2).2.1 (by rw [PyData.eqv]; exact flat_eqvs h1 h2) r ?_
  show PyData.depthAll _ + 1 ≤ 64
  rw [(flat_pys h2).2.2]
  decide
theorem op_neL {a b : List D} (h1 : ∀ d ∈ a, flat d = true) (h2 : ∀ d ∈ b, flat d = true) (r : Room 1 A) : Op2 prog w A (compareOp .NotEq) (.list a) (.list b) (.bool (!dEqs a b)) := by
  refine op_ned (p1 := .list (a.map flatPy)) (p2 := .list (b.map flatPy)) (by unfold D.py; rw [(flat_pys h1).1]; rfl) (by unfold D.py; rw [(flat_pys h2).1]; rfl) (flat_pys h1).2.1 (flat_pys h2).2.1 (by rw [PyData.eqv, flat_eqvs h1 h2]) r ?_
  show PyData.depthAll _ + 1 ≤ 64
  rw [(flat_pys h2).2.2]
  decide

/-! ints and signs -/
noncomputable def natD (k : Nat) : D := .int (k : Nat)
theorem strOk_S {l : List Nat} (h : ∀ c ∈ l, c < 1114112) : PyData.strOk (S l) = true := by
  show (l.toArray.all fun c => decide (c < 1114112)) = true
  simp
  exact h
theorem any_nat {ns : List Nat} {k : Nat} : ((ns.map natD).any fun y => dEq y (natD k)) = ns.contains k := by
  induction ns with
  | nil => rfl
  | cons n ns ih =>
    simp only [List.map_cons, List.any_cons, ih, List.contains_cons]
    have e : dEq (natD n) (natD k) = (k == n) := by
      show ((n : Int) == (k : Int)) = (k == n)
      rw [Bool.eq_iff_iff, beq_iff_eq, beq_iff_eq]
      omega
    rw [e]
theorem flat_nats {ns : List Nat} : ∀ x ∈ ns.map natD, flat x = true := fun x hx => by
  obtain ⟨n, _, rfl⟩ := List.mem_map.mp hx; rfl
theorem op_inN {ns : List Nat} {k : Nat} (r : Room 1 A) : Op2 prog w A (compareOp .In) (.int (k : Nat)) (.list (ns.map natD)) (.bool (ns.contains k)) := by
  rw [← any_nat]; exact op_inF (d := natD k) rfl flat_nats r
theorem op_notInN {ns : List Nat} {k : Nat} (r : Room 1 A) : Op2 prog w A (compareOp .NotIn) (.int (k : Nat)) (.list (ns.map natD)) (.bool (!ns.contains k)) := by
  rw [← any_nat]; exact op_notInF (d := natD k) rfl flat_nats r
end
end Mine
end
section
open PySem PySem.Calls PyProof.Rows PySem.W
set_option maxRecDepth 100000
set_option linter.all false
set_option maxHeartbeats 1000000
namespace Mine
noncomputable def appObj (a : Addr) : Obj := { cls := .type "builtin_function_or_method", data := .fields #[.builtin "list.append", .ref a] }
theorem slot_md_get : Slot "method_descriptor" "__get__" "method_descriptor.__get__" :=
  .of (owner := "method_descriptor") (n := "__get__") (by rw [typeLookup_type, builtinLookup_eq_fast]; kernel_rfl) (by decide +kernel) (by decide +kernel) (by decide +kernel)
    (by first | exact .inl (by decide +kernel) | exact .inr (by decide +kernel)) (by rw [isSubtype_type]; kernel_rfl)
theorem entry_md_get : entryFor table "method_descriptor.__get__" = some Builtin.«method_descriptor.__get__» := entryFor_of_tree (by kernel_rfl)
theorem args_md_get (a b c : Value) : argsOk "method_descriptor.__get__" ⟨[a, b, c], []⟩ := by unfold argsOk; kernel_rfl
theorem type_append : typeOf (.builtin "list.append") = pure (.type "method_descriptor") := by show builtinType _ = _; rw [builtinType_eq_fast]; kernel_rfl
theorem md_set : typeLookup (.type "method_descriptor") "__set__" = pure none := by rw [typeLookup_type, builtinLookup_eq_fast]; kernel_rfl
theorem md_del : typeLookup (.type "method_descriptor") "__delete__" = pure none := by rw [typeLookup_type, builtinLookup_eq_fast]; kernel_rfl

theorem owner_append : (".".intercalate ("list.append".cutAt '.').dropLast) = "list" := by first | rfl | decide +kernel
theorem sub_append : isSubtype (.type "list") (.type (".".intercalate ("list.append".cutAt '.').dropLast)) = pure true := by rw [owner_append, isSubtype_type]; kernel_rfl
theorem lk_append : typeLookup (.type "list") "append" = pure (some (.builtin "list.append")) := slot_list_append.lookup

section
variable {prog : Program} {w : World} {A : Around} {E : Value → Shared → Prop} {h : Heap} {g : Array GenState} {d : Drawn} {t : Nat} {os : OsState} {a : Addr} {o : Obj}
theorem app_get {R : Result → Shared → Prop} (hx : h.get? a = some o) (hc : o.cls = .type "list") (hq : R (.ok (.ret (.ref h.objs.size))) ⟨h.push (appObj a), g, d, t, os⟩) :
    codeAny (model prog w) A (.call (.builtin "method_descriptor.__get__") ⟨[.builtin "list.append", .ref a, .type "list"], []⟩) R ⟨h, g, d, t, os⟩ := by
  have hT : (⟨h, g, d, t, os⟩ : Shared).TypeIs (.ref a) "list" := ⟨_, hx, hc⟩
  have hT5 : (⟨h, g, d, t, os⟩ : Shared).TypeIs (.builtin "list.append") "method_descriptor" := type_append
  have f8 := sub_append
  refine codeAny_call_builtin slot_md_get.plain entry_md_get (slot_md_get.check _ _ _ _ _ _ _ _ hT5 (args_md_get _ _ _) ?_)
  repeat (any_goals (first | assumption | wp_step))
theorem app_entry {tk : Tok} {xs : Array Value} {n : Nat} {Q : Fin → Shared → Prop} (hx : h.get? a = some { cls := .type "list", data := .seq xs n }) (hq : Q (.done (.ret (.ref h.objs.size))) ⟨h.push (appObj a), g, d, t, os⟩) :
    wpAny (model prog w) A (Builtin.«object.__getattribute__» ⟨[.ref a, .str "append" tk], []⟩) Q E ⟨h, g, d, t, os⟩ := by
  have hT : (⟨h, g, d, t, os⟩ : Shared).TypeIs (.ref a) "list" := ⟨_, hx, rfl⟩
  have hT5 : (⟨h, g, d, t, os⟩ : Shared).TypeIs (.builtin "list.append") "method_descriptor" := type_append
  have f4 := lk_append
  have f5 := type_append
  have f6 := slot_md_get.lookup
  have f7 := md_set
  have f9 := md_del
  repeat (any_goals (first | assumption | wp_step))
  refine app_get hx rfl ?_
  repeat (any_goals (first | assumption | wp_step))
theorem app_call {tk : Tok} {xs : Array Value} {n : Nat} {R : Result → Shared → Prop} (hx : h.get? a = some { cls := .type "list", data := .seq xs n }) (hq : R (.ok (.ret (.ref h.objs.size))) ⟨h.push (appObj a), g, d, t, os⟩) :
    codeAny (model prog w) A (.call (.builtin "list.__getattribute__") ⟨[.ref a, .str "append" tk], []⟩) R ⟨h, g, d, t, os⟩ :=
  codeAny_call_builtin F.slot_list_getattribute.plain F.entry_list_ga (F.slot_list_getattribute.check _ _ _ _ _ _ _ _ (show (⟨h, g, d, t, os⟩ : Shared).TypeIs (.ref a) "list" from ⟨_, hx, rfl⟩) (F.args_list_getattribute_2 _ _) (app_entry hx hq))
theorem app_attr {xs : Array Value} {n : Nat} {Q : Value → Shared → Prop} (hx : h.get? a = some { cls := .type "list", data := .seq xs n }) (hq : Q (.ref h.objs.size) ⟨h.push (appObj a), g, d, t + 1, os⟩) :
    wpAny (model prog w) A (getAttr (.ref a) "append" true) Q E ⟨h, g, d, t, os⟩ := by
  have hT : (⟨h, g, d, t + 1, os⟩ : Shared).TypeIs (.ref a) "list" := ⟨_, hx, rfl⟩
  have f2 := F.slot_list_getattribute.lookup
  have f3 := F.slot_list_getattribute.bind (.ref a)
  unfold getAttr
  repeat (any_goals (first | assumption | wp_step))
  exact app_call hx (handed_on rfl hq)

theorem callWith_app {M : Model} {s : Shared} {pos : Pos} {u : Addr} {first : List Value} {args : List (Bool × Sem Value)} {Q : Value → Shared → Prop} (hplain : args.any (·.1) = false)
    (h : wpAny M A (evalArgs (.ref u) true args []) (fun x s₁ => s₁.heap.get? u = some (appObj a) ∧ wpAny M A (call (.ref u) (first ++ x.pos) x.kw) Q E s₁) E s) : wpAny M A (callWith pos (.ref u) first args []) Q E s := by
  unfold callWith
  refine wpAny_bind (wpAny_holding (wpAny_mono h (fun x s₁ h₁ => wpAny_bind (wpAny_standAt ?_)) fun _ _ x => x))
  obtain ⟨ho, hcall⟩ := h₁
  simp only [hplain, List.any_nil, Bool.or_false]
  refine wpAny_bind (m := keeperOf (.ref u)) ?_
  unfold keeperOf
  refine wpAny_bind (wpAny_load ho ?_)
  simp only [appObj, show (Value.type "builtin_function_or_method" != Value.type "method") = true by decide, show (Value.type "builtin_function_or_method" == Value.type "builtin_function_or_method" || Value.type "builtin_function_or_method" == Value.type "method-wrapper") = true by decide, if_true]
  refine wpAny_pure ?_
  exact wpAny_bind (wpAny_mono hcall (fun r s₂ hr => wpAny_bind (wpAny_holding (wpAny_point (wpAny_pure hr)))) fun _ _ x => x)
theorem sig_app : ∃ sg, Manifest.signature? "list.append" = some sg := Option.isSome_iff_exists.mp (by decide +kernel)
theorem chk_app (a x : Value) : (match Manifest.signature? "list.append" with | some sg => Bind.checkArgs "list.append" { sg with full := s!"{Bind.lastOf "list"}.{Bind.lastOf "list.append"}" } ⟨[a, x], []⟩ | none => pure ()) = pure () := by
  rw [signature?_of (id := "list.append") (n := ['d', 'n', 'e', 'p', 'p', 'a']) (o := ['t', 's', 'i', 'l']) (by kernel_rfl) F.owner_list]; kernel_rfl
theorem check_app {M : Model} {s : Shared} {x : Value} {xs : Array Value} {n : Nat} {Q : Unit → Shared → Prop} (hx : s.heap.get? a = some { cls := .type "list", data := .seq xs n }) (hQ : Q () s) : wpAny M A (checkBoundCall "list.append" ⟨[.ref a, x], []⟩) Q E s := by
  have hT : s.TypeIs (.ref a) "list" := ⟨_, hx, rfl⟩
  have k := (show builtinKind "list.append" = some .method by decide +kernel)
  have hv : Manifest.varargsMethods.contains "list.append" = false := by decide +kernel
  have f1 : isSubtype (.type "list") (.type "module") = pure false := by rw [isSubtype_type]; kernel_rfl
  have f2 : isSubtype (.type "list") (.type "type") = pure false := by rw [isSubtype_type]; kernel_rfl
  unfold checkBoundCall
  obtain ⟨sg, hs⟩ := sig_app
  have hc := chk_app (.ref a) x
  rw [hs] at hc
  rw [hs, k]
  dsimp only at hc ⊢
  rw [hv]
  refine wpAny_bind (wpAny_isInstance hT f1 ?_)
  refine wpAny_bind ?_
  refine (show wpAny M A (isType (.ref a)) _ E s from ?_)
  unfold isType
  refine wpAny_bind (wpAny_loadPart hx (wpAny_pure ?_))
  simp only [Bool.false_eq_true, if_false]
  refine wpAny_bind (wpAny_typeOf hT ?_)
  show wpAny M A (Bind.checkArgs "list.append" _ _) Q E s
  exact wpAny_of_eq hc hQ
theorem quiet_app {as : Args} : (Code.builtin "list.append" as).quiet = true := Code.quiet_builtin _ (by decide +kernel)
theorem call_app {s : Shared} {u : Addr} {x : Value} {items : Array Value} {Q : Value → Shared → Prop} (ho : s.heap.get? u = some (appObj a)) (hl : s.heap.PlainList a items)
    (hQ : ∀ h', h'.PlainList a (items.push x) → Heap.SameBut a s.heap h' → Q .none { s with heap := h' }) (hsz : items.size ≤ sizeLine) : wpAny (model prog w) A (call (.ref u) [x]) Q E s := by
  refine wpAny_call (codeAny_of_tree ?_)
  show wpAny _ A.in1 (callAny (.ref u) ⟨[x], []⟩) _ _ s
  simp only [callAny]
  refine wpAny_bind (wpAny_load ho ?_)
  simp only [appObj, show (Value.type "builtin_function_or_method" == Value.type "method" || Value.type "builtin_function_or_method" == Value.type "builtin_function_or_method" || Value.type "builtin_function_or_method" == Value.type "method-wrapper") = true by decide, if_true]
  refine KFB.if_so (by decide) ?_
  refine wpAny_bind (check_app hl.choose_spec ?_)
  refine wpAny_bind (wpAny_pure (wpAny_pure ?_))
  refine ⟨quiet_app, codeAny_builtin entry_list_append ?_⟩
  obtain ⟨n, e⟩ := id hl
  show wpAny _ _ (updateSeq a (·.push x) >>= fun _ => ret .none) _ _ s
  refine wpAny_bind ?_
  refine wpAny_updateSeq e rfl (wpAny_pure (hQ _ ⟨n + 1, ?_⟩ (Heap.SameBut.update ..)))
  rw [Heap.get?_update_self _ e (by rw [Obj.mapSeq_push_plain]; rfl), Obj.mapSeq_push_plain]
end
end Mine
end
section
open PySem PySem.Calls PyProof.Rows PySem.W
set_option maxRecDepth 100000
set_option linter.all false
namespace Mine
variable {prog : Program} {w : World}

noncomputable def alpha : List Nat := (Str.ofString "ABCDEFGHIJKLMNOPQRSTUVWXYZabcdefghijklmnopqrstuvwxyz0123456789+/").cps.toList
noncomputable def alph (i : Nat) : Nat := alpha.getD i 0
noncomputable def nameOf (x : Nat) : List Nat := [alph (x / 4 % 64), alph (x % 4 * 16), 61, 61]
theorem alpha_len : alpha.length = 64 := by decide +kernel
theorem alpha_at {i : Nat} (h : i < 64) : alpha[i]? = some (alph i) := by
  unfold alph
  rw [List.getD_eq_getElem?_getD]
  have : i < alpha.length := by rw [alpha_len]; exact h
  rw [List.getElem?_eq_getElem this]; rfl

theorem f_name {x : Nat} (hx : x < 256) : ∃ r, fnRec "_law_name" = some r ∧ Fn prog w 1 r [natD x] (.str (S (nameOf x))) := by
  refine ⟨_, rfl, fn_of (ps := ["x"]) ⟨fun pm cd doc vs h => by obtain ⟨a, rfl⟩ := len1 h; rfl, fun n p hp => by simp only [List.mem_singleton] at hp; subst hp; exact .inl rfl, fun n p hp => by simp [cellsFrom] at hp, rfl, rfl, rfl, rfl⟩ rfl fun A env pm cd doc L a he okE low room => ?_⟩
  refine exr_cons (ex1_assign okE low (.loc (by rw [he]; rfl)) (ev_lit (l := alpha)) (by rw [he]; rfl)) ?_
  have e1 : (((x : Nat) : Int).fdiv 4).fmod 64 = ((x / 4 % 64 : Nat) : Int) := by
    rw [Int.fdiv_eq_ediv_of_nonneg _ (by decide), Int.fmod_eq_emod_of_nonneg _ (by decide)]; rfl
  have e2 : (((x : Nat) : Int).fmod 4) * 16 = ((x % 4 * 16 : Nat) : Int) := by
    rw [Int.fmod_eq_emod_of_nonneg _ (by decide)]; rfl
  have e3 : ((x : Nat) : Int).fmod 4 = ((x % 4 : Nat) : Int) := by
    rw [Int.fmod_eq_emod_of_nonneg _ (by decide)]; rfl
  refine exr_ret (ev_bin (ev_bin (ev_sign (k := ((x / 4 % 64 : Nat) : Int)) (c := alph (x / 4 % 64)) (ev_name okE rfl) ((ev_bin (ev_bin (ev_name okE rfl) ev_int (op_div (by decide) (by decide))) ev_int (op_mod (by decide))).to (by rw [e1])) (by omega) ?_ (by omega))
    (ev_sign (k := ((x % 4 * 16 : Nat) : Int)) (c := alph (x % 4 * 16)) (ev_name okE rfl) ((ev_bin (ev_bin (ev_name okE rfl) ev_int (op_mod (by decide))) ev_int (op_mul ?_ (by decide))).to (by rw [e2])) (by omega) ?_ (by omega)) (op_cat (show 1 + 1 ≤ sizeLine by decide))) (ev_lit (l := [61, 61])) (op_cat (show 2 + 2 ≤ sizeLine by decide)))
  · exact alpha_at (Nat.mod_lt _ (by decide))
  · rw [e3]; omega
  · exact alpha_at (show x % 4 * 16 < 64 by omega)
end Mine
end
section
open PySem PySem.Calls PyProof.Rows PySem.W
set_option maxRecDepth 100000
set_option linter.all false
set_option maxHeartbeats 4000000
namespace Mine
section
variable {prog : Program} {w : World} {A : Around} {env : Env} {Γ : Ctx}

theorem evi_rangeN {p pos : Pos} {e : Expr} {n : Nat} (okE : EnvOk env) (hh : A.handled = none) (h : Ev prog w A env Γ e (.int (n : Nat))) (hse : starEach [e] env = [(false, eval e env)]) (hn : n < 2 ^ 62) (hk : env.kindOf "range" = some .globalImplicit) :
    EvI prog w A env Γ (.Call (.Name "range" p) [e] [] pos) ((List.range n).map natD) := evi_range okE hh h hse (by omega) (by omega) hk
theorem rng_at {n i : Nat} {d : D} (h : ((List.range n).map natD)[i]? = some d) : d = natD i ∧ i < n := by
  rw [List.getElem?_map] at h
  obtain ⟨k, e, rfl⟩ := Option.map_eq_some_iff.mp h
  have := List.getElem?_eq_some_iff.mp e
  obtain ⟨hlt, e2⟩ := this
  simp at e2 hlt
  subst e2
  exact ⟨rfl, hlt⟩
end

variable {prog : Program} {w : World}

noncomputable def closedStep (parts : List Pt) (places : List Nat) (k : Nat) : List Nat := places ++ (if (isNone (partD (parts.getD k .any)) && places.contains k && !places.contains (k + 1)) = true then [k + 1] else [])
noncomputable def closedTo (parts : List Pt) (places : List Nat) (i : Nat) : List Nat := (List.range i).foldl (closedStep parts) places
noncomputable def closedF (parts : List Pt) (places : List Nat) : List Nat := closedTo parts places parts.length
theorem closedTo_succ (parts : List Pt) (places : List Nat) (i : Nat) : closedTo parts places (i + 1) = closedStep parts (closedTo parts places i) i := by
  unfold closedTo; rw [List.range_succ, List.foldl_append]; rfl
theorem closedTo_len (parts : List Pt) (places : List Nat) (i : Nat) : (closedTo parts places i).length ≤ places.length + i := by
  induction i with
  | zero => exact Nat.le_refl _
  | succ i ih =>
    rw [closedTo_succ]
    unfold closedStep
    split
    · simp; omega
    · simp; omega
noncomputable def partsL (parts : List Pt) : D := .list (parts.map partD)
noncomputable def natsL (ns : List Nat) : D := .list (ns.map natD)

theorem f_closed {parts : List Pt} {places : List Nat} (hp : parts.length < 1000) (hq : places.length < 1000) : ∃ r, fnRec "_law_closed" = some r ∧ Fn prog w 2 r [partsL parts, natsL places] (natsL (closedF parts places)) := by
  refine ⟨_, rfl, fn_of (ps := ["parts", "places"]) ⟨fun pm cd doc vs h => by obtain ⟨a, b, rfl⟩ := len2 h; rfl, fun n p hp => by simp only [List.mem_cons, List.not_mem_nil, or_false] at hp; rcases hp with rfl | rfl <;> exact .inl rfl, fun n p hp => by simp [cellsFrom] at hp, rfl, rfl, rfl, rfl⟩ rfl fun A env pm cd doc L a he okE low room => ?_⟩
  refine exr_cons (ex1_for (fun i => [("places", .data (natsL (closedTo parts places i))), ("parts", .data (partsL parts))]) okE low (.loc (by rw [he]; rfl))
    (evi_rangeN okE room.hd (ev_len okE (by rw [he]; rfl) (ev_name okE rfl) (by rfl) (by simp; omega)) (by rfl) (by simp; omega) (by rw [he]; rfl)) ⟨rfl, rfl, trivial⟩ (fun i d hd => ?_) (by intro _; rfl)) ?_
  · obtain ⟨rfl, hi⟩ := rng_at hd
    have hi' : i < parts.length := by simpa using hi
    refine ex_sub (ex_cons (ex1_assign (d := natsL (closedTo parts places (i + 1))) okE low (.loc (by rw [he]; rfl)) ?_ (by rw [he]; rfl)) ex_nil) ⟨rfl, rfl, trivial⟩
    refine (ev_bin (ev_name okE rfl) (ev_if (c := isNone (partD (parts.getD i .any)) && (closedTo parts places i).contains i && !(closedTo parts places i).contains (i + 1)) (d := natsL (if (isNone (partD (parts.getD i .any)) && (closedTo parts places i).contains i && !(closedTo parts places i).contains (i + 1)) = true then [i + 1] else []))
      (tst_and3 (tst_cmp (ev_item (ev_name okE rfl) (ev_name okE rfl) (by omega) ?_ (by omega)) ev_none op_isNone) (fun _ => tst_cmp (ev_name okE rfl) (ev_name okE rfl) (op_inN room)) fun _ _ => tst_cmp (ev_bin (ev_name okE rfl) ev_int op_add) (ev_name okE rfl) (op_notInN room)) ?_ ?_) (op_app ?_)).to ?_
    · show (parts.map partD)[i]? = _
      rw [List.getElem?_map, List.getElem?_eq_getElem hi', List.getD_eq_getElem?_getD, List.getElem?_eq_getElem hi']; rfl
    · intro hc
      rw [if_pos hc]
      exact ev_list (.cons (ev_bin (ev_name okE rfl) ev_int op_add) (by rfl) .nil)
    · intro hc
      rw [if_neg (by rw [hc]; exact Bool.false_ne_true)]
      exact ev_list .nil
    · have := closedTo_len parts places i
      simp only [List.length_map]
      split
      · simp only [List.length_cons, List.length_nil]; show _ ≤ sizeLine; have : 2001 ≤ sizeLine := by decide
        omega
      · simp only [List.length_nil]; show _ ≤ sizeLine; have : 2001 ≤ sizeLine := by decide
        omega
    · rw [closedTo_succ]
      show D.list (_ ++ _) = D.list ((closedStep parts _ i).map natD)
      unfold closedStep
      rw [List.map_append]
  · refine exr_ret ((ev_name okE rfl).to ?_)
    show natsL (closedTo parts places ((List.range (parts.map partD).length).map natD).length) = _
    simp [closedF]
end Mine
end
section
open PySem PySem.Calls PyProof.Rows PySem.W
set_option maxRecDepth 100000
set_option linter.all false
set_option maxHeartbeats 8000000
namespace Mine
section
variable {prog : Program} {w : World} {A : Around} {env : Env} {Γ : Ctx}
theorem ev_neg {e : Expr} {pos : Pos} {i : Int} (h : Ev prog w A env Γ e (.int i)) : Ev prog w A env Γ (.UnaryOp .USub e pos) (.int (-i)) := fun ok s E g =>
  PySem.wpAny_UnaryOp (h.go g fun v s' r k _ => by
    obtain ⟨t, rfl⟩ := r.isInt
    exact PyProof.Rows.neg_int ⟨.int _ _, kp_trans k (kp_tok _ _)⟩)
theorem RdAll.lastOnly {ok : Addr → Prop} {h : Heap} {vs : List Value} {l : List D} (r : RdAll ok h vs l) : RdAll ok h (slicePick vs.toArray (some (-1)) none none).toList (l.drop (l.length - 1)) := by
  have e : slicePick vs.toArray (some (-1)) none none = slicePick vs.toArray (some ((vs.length - 1 : Nat) : Int)) none none := by
    unfold slicePick sliceBounds
    simp only [Option.getD_none]
    have hs : vs.toArray.size = vs.length := by simp
    rw [hs]
    have : (if (-1 : Int) < 0 then (-1 : Int) + (vs.length : Nat) else -1) = -1 + (vs.length : Nat) := by simp
    have h2 : ¬ ((vs.length - 1 : Nat) : Int) < 0 := by omega
    simp only [this, h2, if_false]
    have h3 : max 0 (min (-1 + (vs.length : Int)) vs.length) = max 0 (min ((vs.length - 1 : Nat) : Int) vs.length) := by
      cases vs.length with
      | zero => decide
      | succ n => rw [show -1 + ((n + 1 : Nat) : Int) = ((n : Nat) : Int) from by rw [Int.add_comm, Int.natCast_add]; exact Int.add_neg_cancel_right (n : Int) 1]; rfl
    simp only [show (1 : Int) > 0 by decide, if_true, h3]
  rw [e, slicePick_from', r.length.symm]
  simpa using r.drop (vs.length - 1)
theorem RdAll.upto {ok : Addr → Prop} {h : Heap} {vs : List Value} {l : List D} (r : RdAll ok h vs l) (k : Nat) : RdAll ok h (slicePick vs.toArray none (some (k : Int)) none).toList (l.take k) := by
  rw [slicePick_upto']
  simpa using r.take k
end

variable {prog : Program} {w : World}

noncomputable def partStep (ps : List Pt) (c : Nat) : List Pt := ps ++ (if (([c] == [42]) && (ps.drop (ps.length - 1) == [.star])) = true then [] else [toPt c])
noncomputable def partsF (pat : List Nat) : List Pt := pat.foldl partStep []
theorem partsF_take (pat : List Nat) (i : Nat) (hi : i < pat.length) : partsF (pat.take (i + 1)) = partStep (partsF (pat.take i)) pat[i] := by
  unfold partsF
  rw [List.take_add_one, List.getElem?_eq_getElem hi, List.foldl_append]; rfl
theorem partsF_len (pat : List Nat) : (partsF pat).length ≤ pat.length := by
  have : ∀ (l : List Nat) (a : List Pt), (l.foldl partStep a).length ≤ a.length + l.length := by
    intro l
    induction l with
    | nil => intro a; exact Nat.le_refl _
    | cons c l ih =>
      intro a
      refine Nat.le_trans (ih _) ?_
      unfold partStep
      split <;> simp <;> omega
  have := this pat []
  simp at this; exact this
theorem flat_part (p : Pt) (h : ∀ x, p = .ch x → x < 1114112) : flat (partD p) = true := by
  cases p with
  | star => rfl
  | any => exact strOk_S (by decide)
  | ch c => 
    refine strOk_S ?_
    split
    · decide
    · intro x hx; rw [List.mem_singleton.mp hx]; exact h c rfl
theorem dEqs_star : ∀ l : List Pt, dEqs (l.map partD) [.none] = (l == [.star])
  | [] => rfl
  | [.star] => rfl
  | [.any] => rfl
  | [.ch _] => rfl
  | a :: b :: l => by
    have : ((a :: b :: l) == [Pt.star]) = false := by simp
    rw [this]
    simp only [List.map_cons, dEqs, Bool.and_false]
theorem toPt_ok {c : Nat} (h : c < 128) : ∀ x, toPt c = .ch x → x < 1114112 := fun x e => by
  unfold toPt at e
  split at e
  · cases e
  · split at e
    · cases e
    · cases e; omega
theorem partsF_ok : ∀ (pat : List Nat), (∀ c ∈ pat, c < 128) → ∀ p ∈ partsF pat, ∀ x, p = .ch x → x < 1114112 := by
  have : ∀ (l : List Nat) (a : List Pt), (∀ c ∈ l, c < 128) → (∀ p ∈ a, ∀ x, p = .ch x → x < 1114112) → ∀ p ∈ l.foldl partStep a, ∀ x, p = .ch x → x < 1114112 := by
    intro l
    induction l with
    | nil => intro a _ h; exact h
    | cons c l ih =>
      intro a hl h
      refine ih _ (fun x hx => hl x (.tail _ hx)) ?_
      intro p hp
      unfold partStep at hp
      rcases List.mem_append.mp hp with hp | hp
      · exact h p hp
      · split at hp
        · cases hp
        · rw [List.mem_singleton.mp hp]; exact toPt_ok (hl c (.head _))
  intro pat h
  exact this pat [] h (by simp)

theorem ev_one {A : Around} {env : Env} {Γ : Ctx} {e : Expr} {pos : Pos} {p : Pt} (h : Ev prog w A env Γ e (partD p)) (hs : starEach [e] env = [(false, eval e env)]) : Ev prog w A env Γ (.List [e] pos) (.list [partD p]) := ev_list (.cons h hs .nil)
theorem f_parts {pat : List Nat} (hp : pat.length < 1000) (ha : ∀ c ∈ pat, c < 128) : ∃ r, fnRec "_law_parts" = some r ∧ Fn prog w 2 r [.str (S pat)] (partsL (partsF pat)) := by
  refine ⟨_, rfl, fn_of (ps := ["pattern"]) ⟨fun pm cd doc vs h => by obtain ⟨a, rfl⟩ := len1 h; rfl, fun n p hp => by simp only [List.mem_cons, List.not_mem_nil, or_false] at hp; rcases hp with rfl; exact .inl rfl, fun n p hp => by simp [cellsFrom] at hp, rfl, rfl, rfl, rfl⟩ rfl fun A env pm cd doc L a he okE low room => ?_⟩
  refine exr_cons (ex1_assign okE low (.loc (by rw [he]; rfl)) (ev_list .nil) (by rw [he]; rfl)) ?_
  refine exr_cons (ex1_for (fun i => [("parts", .data (partsL (partsF (pat.take i)))), ("pattern", .data (.str (S pat)))]) okE low (.loc (by rw [he]; rfl))
    (evi_str room.hd (ev_name okE rfl) ha) ⟨rfl, rfl, trivial⟩ (fun i d hd => ?_) (by intro _; rfl)) ?_
  · rw [List.getElem?_map] at hd
    obtain ⟨c, hc, rfl⟩ := Option.map_eq_some_iff.mp hd
    obtain ⟨hi, rfl⟩ := List.getElem?_eq_some_iff.mp hc
    refine ex_sub (ex_cons (ex1_assign (d := partsL (partsF (pat.take (i + 1)))) okE low (.loc (by rw [he]; rfl)) ?_ (by rw [he]; rfl)) ex_nil) ⟨rfl, rfl, trivial⟩
    have hlen : (partsF (pat.take i)).length ≤ i := Nat.le_trans (partsF_len _) (by rw [List.length_take]; exact Nat.min_le_left _ _)
    refine (ev_bin (ev_name okE rfl) (ev_if (c := ([pat[i]] == [42]) && ((partsF (pat.take i)).drop ((partsF (pat.take i)).length - 1) == [.star])) (d := partsL (if (([pat[i]] == [42]) && ((partsF (pat.take i)).drop ((partsF (pat.take i)).length - 1) == [.star])) = true then [] else [toPt pat[i]]))
      (tst_and (tst_cmp (ev_name okE rfl) (ev_lit (l := [42])) op_eqs) (fun _ => tst_cmp (ev_cutl (r := ((partsF (pat.take i)).drop ((partsF (pat.take i)).length - 1)).map partD) (ev_name okE rfl) (.some (ev_neg ev_int)) .none ?_ ?_) (ev_list (.cons ev_none (by rfl) .nil)) ?_)) ?_ ?_) (op_app ?_)).to ?_
    · intro ok vs h r
      have := r.lastOnly
      rw [List.length_map] at this
      rw [List.map_drop]
      exact this
    · rw [List.length_map]; have : 2001 ≤ sizeLine := by decide
      omega
    · have h := op_eqL (prog := prog) (w := w) (A := A) (a := ((partsF (pat.take i)).drop ((partsF (pat.take i)).length - 1)).map partD) (b := [.none]) (fun d hd => by obtain ⟨p, _, rfl⟩ := List.mem_map.mp hd; exact flat_part p (partsF_ok _ (fun c hc => ha c (List.mem_of_mem_take hc)) p (List.mem_of_mem_drop (by assumption)))) (fun d hd => by rw [List.mem_singleton.mp hd]; rfl) room
      have e : dEqs (((partsF (pat.take i)).drop ((partsF (pat.take i)).length - 1)).map partD) [.none] = ((partsF (pat.take i)).drop ((partsF (pat.take i)).length - 1) == [.star]) := dEqs_star _
      rw [e] at h
      exact h
    · intro hc; rw [if_pos hc]; exact ev_list .nil
    · intro hc
      rw [if_neg (by rw [hc]; exact Bool.false_ne_true)]
      show Ev prog w A env _ _ (D.list [partD (toPt pat[i])])
      refine ev_one ?_ ?_
      · exact ev_part (c := pat[i]) (ev_name okE rfl) (ev_name okE rfl) (by rfl) (by rfl)
      · rfl
    · have : 2001 ≤ sizeLine := by decide
      simp only [List.length_map]
      split
      · simp only [List.length_nil]; omega
      · simp only [List.length_cons, List.length_nil]; omega
    · rw [partsF_take pat i hi]
      show D.list (_ ++ _) = D.list ((partStep _ _).map partD)
      unfold partStep
      rw [List.map_append]
  · refine exr_ret ((ev_name okE rfl).to ?_)
    simp
end Mine
end
section
open PySem PySem.Calls PyProof.Rows PySem.W
set_option maxRecDepth 100000
set_option linter.all false
set_option maxHeartbeats 1000000
namespace Mine
section
variable {prog : Program} {w : World} {A : Around} {env : Env} {Γ : Ctx}

theorem rev_idx (n : Nat) : Builtin.Str.strSliceIndices none none (-1) n = (List.range n).map fun i => n - 1 - i := by
  unfold Builtin.Str.strSliceIndices sliceRange
  simp
  cases n with
  | zero => rfl
  | succ n =>
    have h : (-1 : Int) < ((n + 1 : Nat) : Int) - 1 := by omega
    have e : ((n + 1 : Nat) : Int) - 1 = (n : Int) := by omega
    rw [if_pos h]
    have e2 : (((n + 1 : Nat) : Int)).toNat = n + 1 := by omega
    rw [e2]
    apply List.map_congr_left
    intro k hk
    have : k < n + 1 := by simpa using hk
    have e3 : ((n + 1 : Nat) : Int) - 1 + -(k : Int) = (n : Int) - (k : Int) := by rw [e]; exact Int.sub_eq_add_neg.symm
    have e4 : ((n : Int) - (k : Int)).toNat = n + 1 - 1 - k := Int.toNat_sub n k
    first | exact (congrArg Int.toNat e3).trans e4 | omega
theorem rev_pick (l : List Nat) : ((slicePicked (S l) none none (some (-1, 0))).filterMap ((S l).cps[·]?)) = l.reverse := by
  show (Builtin.Str.strSliceIndices none none (-1) (S l).length).filterMap _ = _
  rw [rev_idx, S_len, List.filterMap_map]
  have : ∀ k ≤ l.length, (List.range k).filterMap (((S l).cps[·]?) ∘ fun i => l.length - 1 - i) = (l.drop (l.length - k)).reverse := by
    intro k
    induction k with
    | zero => intro _; simp
    | succ k ih =>
      intro hk
      rw [List.range_succ, List.filterMap_append, ih (by omega)]
      have hlt : l.length - 1 - k < l.length := by omega
      have e1 : l.length - (k + 1) = l.length - 1 - k := by rw [Nat.add_comm k 1, Nat.sub_add_eq]
      have e2 : l.length - k = l.length - 1 - k + 1 := by rw [← e1, Nat.sub_add_eq, Nat.sub_add_cancel (Nat.sub_pos_of_lt hk)]
      rw [e1, e2, List.drop_eq_getElem_cons hlt, List.reverse_cons]
      congr 1
      simp [S, hlt]
  rw [this _ (Nat.le_refl _)]
  simp

theorem ev_rev {v e : Expr} {p pos : Pos} {l : List Nat} (hv : Ev prog w A env Γ v (.str (S l))) (he : Ev prog w A env Γ e (.int (-1))) (hl : l.length ≤ sizeLine := by size_fits) : Ev prog w A env Γ (.Subscript v (.Slice none none (some e) p) pos) (.str (S l.reverse)) := fun ok s E g =>
  Subscript_ (hv.go g fun o s1 ro k1 g1 => wpAny_Slice (part_go .none g1 fun vl s2 ul el k2 g2 => part_go .none g2 fun vu s3 uu eu k3 g3 => part_go (.some he) g3 fun vs s4 us es k4 g4 => (by
    obtain ⟨t, rfl⟩ := ro.isStr
    subst el eu es
    refine tail_any (typeIs_str _ _ _) PySem.F.slot_str_getitem.lookup (wpAny_getItem_str_slice (l := (none : Option Int).map fun i => (i, ul)) (u := (none : Option Int).map fun i => (i, uu)) (st := (some (-1) : Option Int).map fun i => (i, us)) ⟨_, Heap.get?_push_size _ rfl, rfl, rfl⟩ rfl
      (post_val_or_str ?_)) (by rfl)
    have e : (if (((((some (-1) : Option Int).map fun i => (i, us)) : Option (Int × Tok)).map (·.1)).getD 1 == 1 && (slicePicked (S l) ((none : Option Int).map fun i => (i, ul)) ((none : Option Int).map fun i => (i, uu)) ((some (-1) : Option Int).map fun i => (i, us))).length == (S l).length) = true then S l
        else ⟨((slicePicked (S l) ((none : Option Int).map fun i => (i, ul)) ((none : Option Int).map fun i => (i, uu)) ((some (-1) : Option Int).map fun i => (i, us))).filterMap ((S l).cps[·]?)).toArray⟩) = S l.reverse := by
      rw [if_neg (by simp)]
      show S ((slicePicked (S l) none none (some (-1, 0))).filterMap ((S l).cps[·]?)) = _
      rw [rev_pick]
    rw [e]
    exact ⟨by rw [S_len, List.length_reverse]; exact hl, fun t' k => ⟨.str _ _, kp_trans k1 (kp_trans k2 (kp_trans k3 (kp_trans k4 (kp_trans (kp_push _ _) (kp_tok _ _)))))⟩⟩)))

noncomputable def maxN (ns : List Nat) : Nat := ns.foldl max 0
theorem maxN_go : ∀ (ns : List Nat) (a : Nat), a ≤ ns.foldl max a ∧ (∀ n ∈ ns, n ≤ ns.foldl max a) ∧ (ns.foldl max a = a ∨ ns.foldl max a ∈ ns)
  | [], a => ⟨Nat.le_refl _, by simp, .inl rfl⟩
  | n :: ns, a => by
    obtain ⟨h1, h2, h3⟩ := maxN_go ns (max a n)
    refine ⟨by simp only [List.foldl_cons]; omega, fun m hm => ?_, ?_⟩
    · simp only [List.foldl_cons]
      rcases List.mem_cons.mp hm with rfl | hm
      · omega
      · exact h2 m hm
    · simp only [List.foldl_cons]
      rcases h3 with h3 | h3
      · rw [h3]
        by_cases h : a ≤ n
        · exact .inr (by rw [Nat.max_eq_right h]; exact .head _)
        · exact .inl (Nat.max_eq_left (by omega))
      · exact .inr (.tail _ h3)
theorem maxN_ge {ns : List Nat} {n : Nat} (h : n ∈ ns) : n ≤ maxN ns := (maxN_go ns 0).2.1 n h
theorem maxN_mem {ns : List Nat} (h : ns ≠ []) : maxN ns ∈ ns := by
  rcases (maxN_go ns 0).2.2 with e | e
  · obtain ⟨n, r, rfl⟩ := List.exists_cons_of_ne_nil h
    have := maxN_ge (ns := n :: r) (.head _)
    have e0 : maxN (n :: r) = 0 := e
    have : n = 0 := by omega
    rw [e0, this]; exact .head _
  · exact e
theorem op_max {ns : List Nat} (hh : A.handled = none) (hne : ns ≠ []) : Op1 prog w A (fun v => call (.builtin "max") [v]) (natsL ns) (.int (maxN ns : Nat)) := fun ok s E v N W r => by
  obtain ⟨a, vs, rfl, ka, hl, ra⟩ := r.isList
  have hI : IntsAre vs (ns.map fun n => ((n : Nat) : Int)) := RdAll.ints (by rw [List.map_map]; exact ra)
  obtain ⟨xs, hx⟩ := hI.allInts.items
  have hn := hI.numsOf
  have hlen := hI.length
  have hx' : vs.toArray = intItems xs := hx
  have hvs : vs = (intItems xs).toList := by rw [← hx']
  rw [hx'] at hl
  have hsz : xs.size = ns.length := by
    have : (intItems xs).toList.length = ns.length := by rw [← hvs]; simpa using hlen
    simpa [intItems] using this
  have hpos : 0 < xs.size := by rw [hsz]; exact List.length_pos_iff.mpr hne
  have hnum : ∀ j, numAt xs j = (ns.getD j 0 : Nat) := fun j => by
    rw [numAt_eq, ← nums_intItems, ← hvs, hn, List.getD_eq_getElem?_getD, List.getD_eq_getElem?_getD, List.getElem?_map]
    cases ns[j]? <;> rfl
  refine max_intList hh hl hpos fun v h' tk hv hk => ?_
  obtain ⟨t, rfl⟩ := intItems_at hv
  obtain ⟨h1, h2⟩ := argBest_gt (numAt xs) (xs.size - 1)
  refine ⟨?_, ⟨h', tk, _, rfl, hk⟩⟩
  have e : numAt xs (argBest (fun i j => decide (numAt xs i > numAt xs j)) (xs.size - 1)) = (maxN ns : Nat) := by
    have hlt : argBest (fun i j => decide (numAt xs i > numAt xs j)) (xs.size - 1) < ns.length := by omega
    generalize argBest (fun i j => decide (numAt xs i > numAt xs j)) (xs.size - 1) = b at *
    refine Int.le_antisymm ?_ ?_
    · rw [hnum, List.getD_eq_getElem?_getD, List.getElem?_eq_getElem hlt]
      have := maxN_ge (ns := ns) (List.getElem_mem hlt)
      show ((ns[b] : Nat) : Int) ≤ _
      omega
    · obtain ⟨j, hj, e⟩ := List.getElem_of_mem (maxN_mem hne)
      have h3 := h2 j (by omega)
      rw [hnum j, List.getD_eq_getElem?_getD, List.getElem?_eq_getElem hj] at h3
      rw [← e]
      exact h3
  rw [e]
  exact .int _ _
end
end Mine
end
section
open PySem PySem.Calls PyProof.Rows PySem.W
set_option maxRecDepth 100000
set_option linter.all false
set_option maxHeartbeats 1000000
namespace Mine

structure Row where
  name : List Nat
  k : Nat
  many : Nat
noncomputable def rowD (r : Row) : D := .list [.str (S r.name), natD r.k, natD r.many]
noncomputable def rowsL (rs : List Row) : D := .list (rs.map rowD)
noncomputable def strL (ls : List (List Nat)) : D := .list (ls.map fun l => .str (S l))
noncomputable def leafNames (rs : List Row) : List (List Nat) := (rs.filter fun r => r.many == 0).map (·.name)
noncomputable def leafF : D → Option D
  | .list [.str x, _, .int m] => if m = 0 then some (.str x) else none
  | _ => none
theorem leafF_row (r : Row) : leafF (rowD r) = if r.many = 0 then some (.str (S r.name)) else none := by
  show (if ((r.many : Nat) : Int) = 0 then _ else _) = _
  by_cases h : r.many = 0
  · rw [if_pos h, if_pos (by omega)]
  · rw [if_neg h, if_neg (by omega)]
theorem leaf_out (rs : List Row) : (rs.map rowD).filterMap leafF = (leafNames rs).map fun l => D.str (S l) := by
  induction rs with
  | nil => rfl
  | cons r rs ih =>
    rw [List.map_cons, List.filterMap_cons, leafF_row, ih]
    unfold leafNames
    by_cases h : r.many = 0
    · simp [h]
    · simp [h]

section
variable {prog : Program} {w : World} {A : Around} {env : Env} {Γ : Ctx}
/-- the names of the leaves -/
theorem lc_leaves {p1 p2 p3 p4 p5 p6 p7 tp cp : Pos} {k0 c0 : Nat} {rs : List Row} {scope : Scope} (hh : A.handled = none) (hl : rs.length ≤ 2000) (h : Ev prog w A env Γ (.Name "rows" p1) (rowsL rs)) (B : BlkOk env scope [])
    (kn : scope.names.lookup (Str.ofString "name") = some .local) (kk : scope.names.lookup (Str.ofString "k") = some .local) (km : scope.names.lookup (Str.ofString "many") = some .local) :
    Lc prog w A [] env Γ (.Name "name" p2) (.Tuple [.Name "name" p3, .Name "k" p4, .Name "many" p5] k0 tp) (.Name "rows" p1) [.Compare (.Name "many" p6) [.Eq] [.Constant (.int 0) c0 p7] cp] scope ((leafNames rs).map fun l => D.str (S l)) := by
  refine ⟨[], rs.map rowD, leafF, [], B, evi_list hh h, fun C => trivial, by simp, Nat.le_trans (by simpa using hl) (show 2000 ≤ sizeLine by decide), fun C okE' low' d hd => ?_, (leaf_out rs).symm, by intro _; rfl⟩
  obtain ⟨r, hr, rfl⟩ := List.mem_map.mp hd
  refine ⟨_, bind_three okE' low' hh (lookup_relabel_local kn) (lookup_relabel_local kk) (lookup_relabel_local km), trivial, ?_⟩
  rw [leafF_row]
  have ht : Tst prog w A (blk scope [] C env) [("many", .data (natD r.many)), ("k", .data (natD r.k)), ("name", .data (.str (S r.name)))] (.Compare (.Name "many" p6) [.Eq] [.Constant (.int 0) c0 p7] cp) (((r.many : Nat) : Int) == 0) :=
    tst_cmp (ev_name okE' rfl) ev_int op_eqi
  by_cases hm : r.many = 0
  · rw [if_pos hm]
    refine .inr ⟨_, rfl, tstl_one ?_, EvX.of (ev_name okE' rfl)⟩
    have e : (((r.many : Nat) : Int) == 0) = true := by simp [hm]
    rw [e] at ht; exact ht
  · rw [if_neg hm]
    refine .inl ⟨rfl, tstl_one ?_⟩
    have e : (((r.many : Nat) : Int) == 0) = false := by simp [hm]
    rw [e] at ht; exact ht
end
end Mine
end
section
open PySem PySem.Calls PyProof.Rows PySem.W
set_option maxRecDepth 100000
set_option linter.all false
set_option maxHeartbeats 1000000
namespace Mine

noncomputable def starsF (ends : List Nat) (n : Nat) : List Nat := (List.range (n + 1)).filter fun k => !ends.isEmpty && decide (k ≤ maxN ends)
noncomputable def hitF (name : List Nat) (sign k : Nat) : Bool := decide (0 < k) && ((63 == sign) || (name.getD (k - 1) 0 == sign))
noncomputable def stepF (name ends : List Nat) (sign : Nat) : List Nat := if sign = 42 then starsF ends name.length else (ends.filter (hitF name sign)).map (· - 1)
noncomputable def endsTo (name pat : List Nat) (i : Nat) : List Nat := (pat.reverse.take i).foldl (stepF name) [name.length]
noncomputable def endsF (name pat : List Nat) : List Nat := endsTo name pat pat.length
theorem endsTo_succ (name pat : List Nat) (i : Nat) (hi : i < pat.reverse.length) : endsTo name pat (i + 1) = stepF name (endsTo name pat i) pat.reverse[i] := by
  unfold endsTo
  rw [List.take_add_one, List.getElem?_eq_getElem hi, List.foldl_append]; rfl
theorem step_le {name ends : List Nat} {sign : Nat} (h : ∀ k ∈ ends, k ≤ name.length) : ∀ k ∈ stepF name ends sign, k ≤ name.length := by
  intro k hk
  unfold stepF at hk
  split at hk
  · have := (List.mem_filter.mp hk).1
    simp at this; omega
  · obtain ⟨j, hj, rfl⟩ := List.mem_map.mp hk
    have := h j (List.mem_filter.mp hj).1
    omega
theorem endsTo_le (name pat : List Nat) : ∀ i, ∀ k ∈ endsTo name pat i, k ≤ name.length := by
  intro i
  unfold endsTo
  generalize pat.reverse.take i = l
  have : ∀ (l : List Nat) (e : List Nat), (∀ k ∈ e, k ≤ name.length) → ∀ k ∈ l.foldl (stepF name) e, k ≤ name.length := by
    intro l
    induction l with
    | nil => intro e h; exact h
    | cons c l ih => intro e h; exact ih _ (step_le h)
  exact this l _ (by simp)
theorem step_len {name ends : List Nat} {sign : Nat} (h : ends.length ≤ name.length + 1) : (stepF name ends sign).length ≤ name.length + 1 := by
  unfold stepF
  split
  · exact Nat.le_trans (List.length_filter_le _ _) (by simp)
  · rw [List.length_map]; exact Nat.le_trans (List.length_filter_le _ _) h
theorem endsTo_len (name pat : List Nat) : ∀ i, (endsTo name pat i).length ≤ name.length + 1 := by
  intro i
  unfold endsTo
  generalize pat.reverse.take i = l
  have : ∀ (l : List Nat) (e : List Nat), e.length ≤ name.length + 1 → (l.foldl (stepF name) e).length ≤ name.length + 1 := by
    intro l
    induction l with
    | nil => intro e h; exact h
    | cons c l ih => intro e h; exact ih _ (step_len h)
  exact this l _ (by simp)
noncomputable def dueF (rows : List Row) (pat : List Nat) : List (List Nat) := (leafNames rows).filter fun n => (endsF n pat).contains 0

noncomputable def intP (p : Int → Bool) : D → Option D
  | .int i => if p i then some (.int i) else none
  | _ => none
theorem intP_nats (p : Int → Bool) (ns : List Nat) : (ns.map natD).filterMap (intP p) = (ns.filter fun k => p (k : Nat)).map natD := by
  induction ns with
  | nil => rfl
  | cons n ns ih =>
    rw [List.map_cons, List.filterMap_cons, ih, List.filter_cons]
    have e : intP p (natD n) = if p (n : Nat) then some (natD n) else none := rfl
    rw [e]
    cases p (n : Nat) <;> rfl
noncomputable def intM (p : Int → Bool) : D → Option D
  | .int i => if p i then some (.int (i - 1)) else none
  | _ => none
theorem intM_nats (p : Nat → Bool) (hp : ∀ k, p k = true → 0 < k) (ns : List Nat) : (ns.map natD).filterMap (intM fun i => p i.toNat) = ((ns.filter p).map (· - 1)).map natD := by
  induction ns with
  | nil => rfl
  | cons n ns ih =>
    rw [List.map_cons, List.filterMap_cons, ih, List.filter_cons]
    have e : intM (fun i => p i.toNat) (natD n) = if p n then some (.int ((n : Nat) - 1)) else none := rfl
    rw [e]
    cases h : p n with
    | true =>
      have := hp n h
      have e : D.int (((n : Nat) : Int) - 1) = natD (n - 1) := by show D.int _ = D.int _; congr 1; omega
      simp [e]
    | false => rfl
theorem dEq_sign (a b : Nat) : dEq (.str (S [a])) (.str (S [b])) = (a == b) := by
  show (S [a] == S [b]) = (a == b)
  rw [Bool.eq_iff_iff, beq_iff_eq, beq_iff_eq]
  exact ⟨fun q => by have := S_inj q; simpa using this, fun q => by rw [q]⟩
theorem flat_str {l : List Nat} (h : ∀ c ∈ l, c < 128) : flat (.str (S l)) = true := strOk_S fun c hc => Nat.lt_trans (h c hc) (by decide)

variable {prog : Program} {w : World}
theorem turn_of {A : Around} {env : Env} {Γ Γt : Ctx} {X : List Addr} {target elt : Expr} {ifs : List Expr} {d d' : D} {b : Bool} {o : Option D} (hb : Bind prog w A env Γ target d Γt) (hs : Sub Γ Γt) (ht : TstL prog w A env Γt ifs b)
    (he : b = true → EvX prog w A X env Γt elt d') (ho : o = if b = true then some d' else none) : Turn prog w A X env Γ target ifs elt d o := by
  refine ⟨Γt, hb, hs, ?_⟩
  cases b with
  | true => exact .inr ⟨d', by simpa using ho, ht, he rfl⟩
  | false => exact .inl ⟨by simpa using ho, ht⟩
theorem dEqs_nil : ∀ l : List D, dEqs l [] = l.isEmpty
  | [] => rfl
  | _ :: _ => rfl
theorem f_due {rows : List Row} {pat : List Nat} (hr : rows.length ≤ 2000) (hp : pat.length ≤ 1000) (ha : ∀ c ∈ pat, c < 128) (hn : ∀ r ∈ rows, r.name.length ≤ 1000 ∧ ∀ c ∈ r.name, c < 128) :
    ∃ r, fnRec "_law_due" = some r ∧ Fn prog w 2 r [rowsL rows, .str (S pat)] (strL (dueF rows pat)) := by
  refine ⟨_, rfl, fn_of (ps := ["rows", "pattern"]) ⟨fun pm cd doc vs h => by obtain ⟨a, b, rfl⟩ := len2 h; rfl, fun n p hp => by simp only [List.mem_cons, List.not_mem_nil, or_false] at hp; rcases hp with rfl | rfl <;> exact .inl rfl, fun n p hp => nd_self (by rfl) p hp, rfl, rfl, rfl, rfl⟩ rfl fun A env pm cd doc L a he okE low room => ?_⟩
  have nl : ∀ n ∈ leafNames rows, n.length ≤ 1000 ∧ ∀ c ∈ n, c < 128 := fun n hm => by
    obtain ⟨r, hr, rfl⟩ := List.mem_map.mp hm
    exact hn r (List.mem_filter.mp hr).1
  have nlen : (leafNames rows).length ≤ 2000 := by
    unfold leafNames; rw [List.length_map]; exact Nat.le_trans (List.length_filter_le _ _) hr
  refine exr_cons (ex1_assign okE low (.loc (by rw [he]; rfl)) (ev_list .nil) (by rw [he]; rfl)) ?_
  refine exr_cons (ex1_for (fun i => [("due", .data (strL (((leafNames rows).take i).filter fun n => (endsF n pat).contains 0))), ("pattern", .data (.str (S pat))), ("rows", .data (rowsL rows))]) okE low (.cell (by rw [he]; rfl) (by rw [he]; rfl))
    (evi_list room.hd (ev_lc okE (lc_leaves room.hd hr (ev_name okE rfl) ⟨by rw [he]; with_unfolding_all rfl, rfl, by decide, by simp, by intro n; rfl⟩ rfl rfl rfl))) ⟨rfl, rfl, rfl, trivial⟩ (fun i d hd => ?_) (by intro _; rfl)) ?_
  · rw [List.getElem?_map] at hd
    obtain ⟨name, hnm, rfl⟩ := Option.map_eq_some_iff.mp hd
    obtain ⟨hi, rfl⟩ := List.getElem?_eq_some_iff.mp hnm
    obtain ⟨hnl, hna⟩ := nl _ (List.getElem_mem hi)
    generalize hname : (leafNames rows)[i] = name at *
    have hs : ∀ c ∈ pat.reverse, c < 128 := fun c hc => ha c (by simpa using hc)
    refine ex_cons (ex1_assign (d := natsL (endsTo name pat 0)) okE low (.cell (by rw [he]; rfl) (by rw [he]; rfl)) ((ev_list (.cons (ev_lens okE (by rw [he]; rfl) (ev_name okE rfl) (by rfl) (by omega)) (by rfl) .nil)).to ?_) (by rw [he]; rfl)) ?_
    · rfl
    refine ex_cons (ex1_for (fun j => [("ends", .data (natsL (endsTo name pat j))), ("name", .data (.str (S name))), ("due", .data (strL (((leafNames rows).take i).filter fun n => (endsF n pat).contains 0))), ("pattern", .data (.str (S pat))), ("rows", .data (rowsL rows))]) okE low (.cell (by rw [he]; rfl) (by rw [he]; rfl))
      (evi_str room.hd (ev_rev (ev_name okE rfl) (ev_neg ev_int) (Nat.le_trans hp (by decide))) hs) ⟨rfl, rfl, rfl, rfl, rfl, trivial⟩ (fun j d hd => ?_) (by intro _; rfl)) ?_
    · rw [List.getElem?_map] at hd
      obtain ⟨sign, hsign, rfl⟩ := Option.map_eq_some_iff.mp hd
      obtain ⟨hj, rfl⟩ := List.getElem?_eq_some_iff.mp hsign
      have hsa := hs _ (List.getElem_mem hj)
      generalize hsg : pat.reverse[j] = sign at *
      have hle := endsTo_le name pat j
      have hel := endsTo_len name pat j
      have hsucc := endsTo_succ name pat j hj
      rw [hsg] at hsucc
      generalize endsTo name pat j = ends at *
      refine ex_sub (ex_cons (ex1_lc (out := (starsF ends name.length).map natD) okE low (by rw [he]; rfl) ?_ (by rw [he]; rfl)) (ex_cons (ex1_assign (d := natsL (stepF name ends sign)) okE low (.cell (by rw [he]; rfl) (by rw [he]; rfl))
        (ev_if (c := ([sign] == [42])) (tst_cmp (ev_name okE rfl) (ev_lit (l := [42])) op_eqs) ?_ ?_) (by rw [he]; rfl)) ex_nil)) ⟨?_, rfl, rfl, rfl, rfl, trivial⟩
      · refine ⟨_, (List.range (name.length + 1)).map natD, intP (fun i => !ends.isEmpty && decide (i ≤ (maxN ends : Nat))), [("ends", .data (natsL ends))], ⟨by rw [he]; with_unfolding_all rfl, rfl, by decide, by rw [he]; intro p hp; simp only [List.mem_singleton] at hp; subst hp; rfl, by intro n; rfl⟩,
          evi_rangeN okE room.hd (ev_bin (ev_lens okE (by rw [he]; rfl) (ev_name okE rfl) (by rfl) (by omega)) ev_int op_add) (by rfl) (by omega) (by rw [he]; rfl), fun C => ⟨⟨rfl, .inl (by rw [he]; rfl), .inl (by rw [he]; rfl), ⟨_, rfl, by rw [he]; rfl⟩⟩, trivial⟩, by simp,
          by rw [List.length_map, List.length_range]; exact Nat.le_trans (by omega) (show 1001 ≤ sizeLine by decide), fun C okE' low' d hd => ?_, ?_, by intro _; rfl⟩
        · obtain ⟨k, hk, rfl⟩ := List.mem_map.mp hd
          refine turn_of (b := !dEqs (ends.map natD) [] && decide (((k : Nat) : Int) ≤ (maxN ends : Nat))) (bind_loc okE' low' (by rfl)) ⟨rfl, trivial⟩
            (tstl_one (tst_and (tst_cmp (ev_name okE' rfl) (ev_list .nil) (op_neL flat_nats (by simp) room)) fun hne => tst_cmp (ev_name okE' rfl) (ev_blt okE' (by kernel_rfl) (by decide) (by rfl) (ev_name okE' rfl) (by rfl) (op_max room.hd ?_)) op_lei)) (fun _ => EvX.of (ev_name okE' rfl)) ?_
          · rintro rfl; simp [dEqs] at hne
          · rw [dEqs_nil, List.isEmpty_map]
            rfl
        · rw [intP_nats]
          unfold starsF
          congr 1
          apply List.filter_congr
          intro k hk
          congr 1
          rw [decide_eq_decide]; omega
      · intro hc
        refine (ev_name okE rfl).to ?_
        have : sign = 42 := by simpa using hc
        unfold stepF; rw [if_pos this]; rfl
      · intro hc
        have hne : ¬ sign = 42 := by simpa using hc
        have e : natsL (stepF name ends sign) = .list (((ends.map natD).filterMap (intM fun i => hitF name sign i.toNat))) := by
          rw [intM_nats _ (fun k h => by unfold hitF at h; simp at h; exact h.1)]
          unfold stepF; rw [if_neg hne]; rfl
        rw [e]
        refine ev_lc okE ⟨_, ends.map natD, _, [("name", .data (.str (S name))), ("sign", .data (.str (S [sign])))], ⟨by rw [he]; with_unfolding_all rfl, rfl, by decide, by rw [he]; intro p hp; simp only [List.mem_cons, List.not_mem_nil, or_false] at hp; rcases hp with rfl | rfl <;> rfl, by intro n; rfl⟩,
          evi_list room.hd (ev_name okE rfl), fun C => ⟨⟨rfl, .inl (by rw [he]; rfl), .inl (by rw [he]; rfl), ⟨_, rfl, by rw [he]; rfl⟩⟩, ⟨rfl, .inl (by rw [he]; rfl), .inl (by rw [he]; rfl), ⟨_, rfl, by rw [he]; rfl⟩⟩, trivial⟩, by simp,
          by rw [List.length_map]; exact Nat.le_trans (by omega) (show 1001 ≤ sizeLine by decide), fun C okE' low' d hd => ?_, rfl, by intro _; rfl⟩
        obtain ⟨k, hk, rfl⟩ := List.mem_map.mp hd
        have hkl := hle k hk
        have hce : ∀ hk0 : 0 < k, name[(((k : Nat) : Int) - 1).toNat]? = some (name.getD (k - 1) 0) := fun hk0 => by
          have e1 : (((k : Nat) : Int) - 1).toNat = k - 1 := Int.toNat_sub k 1
          have hlt : k - 1 < name.length := by omega
          rw [e1, List.getD_eq_getElem?_getD, List.getElem?_eq_getElem hlt]; rfl
        refine turn_of (b := decide (((k : Nat) : Int) > 0) && [D.str (S [63]), .str (S [name.getD (k - 1) 0])].any fun y => dEq y (.str (S [sign]))) (bind_loc okE' low' (by rfl)) ⟨rfl, rfl, trivial⟩
          (tstl_one (tst_and (tst_cmp (ev_name okE' rfl) ev_int op_gti) fun hk0 => tst_cmp (ev_name okE' rfl) (ev_list (.cons (ev_lit (l := [63])) (by rfl) (.cons (ev_sign (ev_name okE' rfl) (ev_bin (ev_name okE' rfl) ev_int op_sub) ?_ (hce ?_) ?_) (by rfl) .nil))) (op_inF (flat_str (by simpa using hsa)) ?_ room)))
          (fun _ => EvX.of (ev_bin (ev_name okE' rfl) ev_int op_sub)) ?_
        · simp at hk0; omega
        · simp at hk0; omega
        · omega
        · intro x hx
          simp only [List.mem_cons, List.not_mem_nil, or_false] at hx
          rcases hx with rfl | rfl
          · exact flat_str (by decide)
          · refine flat_str ?_
            intro c hc
            rw [List.mem_singleton.mp hc, List.getD_eq_getElem?_getD]
            cases q : name[k - 1]? with
            | none => decide
            | some c' => exact hna c' (List.mem_of_getElem? q)
        · show (if hitF name sign k = true then some (D.int (((k : Nat) : Int) - 1)) else none) = _
          unfold hitF
          simp only [List.any_cons, List.any_nil, dEq_sign, Bool.or_false]
          have : decide (((k : Nat) : Int) > 0) = decide (0 < k) := by rw [decide_eq_decide]; omega
          rw [this]
      · rw [hsucc]; rfl
    refine ex_sub (ex_cons (ex1_assign (d := strL (((leafNames rows).take (i + 1)).filter fun n => (endsF n pat).contains 0)) okE low (.loc (by rw [he]; rfl)) ((ev_bin (ev_name okE rfl) (ev_if (c := (endsF name pat).contains 0) (d := strL (if (endsF name pat).contains 0 = true then [name] else []))
      (tst_cmp ev_int (ev_name okE ?_) (op_inN room)) ?_ ?_) (op_app ?_)).to ?_) (by rw [he]; rfl)) ex_nil) ⟨rfl, rfl, rfl, trivial⟩
    · show some (Sl.data (natsL (endsTo name pat ((pat.reverse.map fun c => D.str (S [c])).length)))) = _
      rw [List.length_map, List.length_reverse]; rfl
    · intro hc
      rw [if_pos hc]
      exact ev_list (.cons (ev_name okE rfl) (by rfl) .nil)
    · intro hc
      rw [if_neg (by rw [hc]; exact Bool.false_ne_true)]
      exact ev_list .nil
    · simp only [List.length_map]
      have h1 := List.length_filter_le (fun n => (endsF n pat).contains 0) ((leafNames rows).take i)
      have h2 : ((leafNames rows).take i).length ≤ 2000 := by rw [List.length_take]; omega
      have h3 : (if (endsF name pat).contains 0 = true then [name] else []).length ≤ 1 := by split <;> simp
      exact Nat.le_trans (Nat.add_le_add (Nat.le_trans h1 h2) h3) (by decide)
    · rw [List.take_add_one, List.getElem?_eq_getElem hi, hname, List.filter_append]
      show D.list (_ ++ _) = D.list _
      rw [List.map_append]
      congr 2
      simp only [Option.toList_some, List.filter_cons, List.filter_nil]
  · refine exr_ret ((ev_name okE rfl).to ?_)
    simp [dueF]
end Mine
end
section
open PySem PySem.Calls PyProof.Rows PySem.W
set_option maxRecDepth 100000
set_option linter.all false
set_option maxHeartbeats 1000000
namespace Mine

noncomputable def strsS (ls : List (List Nat)) : List Str := ls.map S
theorem RdAll.strs {ok : Addr → Prop} {h : Heap} : ∀ {ls : List (List Nat)} {vs : List Value}, RdAll ok h vs (ls.map fun l => D.str (S l)) → StrsAre vs (strsS ls)
  | [], vs, r => by cases r; exact .nil
  | n :: ns, vs, r => by
    cases r with
    | cons a r => cases a; exact .cons _ _ (RdAll.strs r)
theorem join_flat : ∀ ls : List (List Nat), Str.join (S []) (strsS ls) = S ls.flatten
  | [] => rfl
  | [l] => by simp [strsS, Str.join]
  | l :: m :: r => by
    have ih := join_flat (m :: r)
    show S l ++ S [] ++ Str.join (S []) (strsS (m :: r)) = _
    rw [ih, S_app, S_app]; simp
theorem strs_total : ∀ ls : List (List Nat), ((strsS ls).map (·.length)).sum = ls.flatten.length
  | [] => rfl
  | l :: r => by
    have ih := strs_total r
    show (S l).length + ((strsS r).map (·.length)).sum = _
    rw [ih, S_len]; simp
section
variable {prog : Program} {w : World} {A : Around} {env : Env} {Γ : Ctx}
theorem ev_join {x e : Expr} {ap pos : Pos} {ls : List (List Nat)} (hx : Ev prog w A env Γ x (.str (S []))) (h : Ev prog w A env Γ e (strL ls)) (hb : attributeBase x "join" env (eval x env) = eval x env) (hse : starEach [e] env = [(false, eval e env)]) (hline : (ap.endLine == pos.line) = true)
    (hl : ls.flatten.length ≤ 1000000) : Ev prog w A env Γ (.Call (.Attribute x "join" ap) [e] [] pos) (.str (S ls.flatten)) := fun ok s E g => by
  refine wpAny_Call_method1_late hb hline (by rw [hse]; rfl) ?_
  refine hx.go g fun v s1 r1 k1 g1 => ?_
  obtain ⟨t, rfl⟩ := r1.isStr
  refine ⟨"str", "str.join", F.plainAttrs_str, F.slot_str_join, F.type_str_join, typeIs_str _ _ _, (fun _ e => nomatch e), ?_⟩
  refine Calls.callWith_builtin rfl (Calls.evalArgs_plain (Calls.spliced_cons (h.go g1 fun v s2 r2 k2 g2 => Calls.spliced_nil ?_)))
  obtain ⟨a, vs, rfl, ka, hl2, ra⟩ := r2.isList
  have hi := ra.strs
  show wpAny (model prog w) A (call (.builtin "str.join") [.str (S []) t, .ref a]) _ _ _
  refine join_list hl2 (by simpa using hi) (by rw [strs_total, S_len, List.length_nil, Nat.mul_zero, Nat.add_zero]; exact Nat.le_trans hl (by decide)) fun t' k => ?_
  have e : Txt.join (S []) (strsS ls) = S ls.flatten := (StrLaws.glued_eq_join _ _).trans (join_flat ls)
  rw [e]
  exact ⟨.str _ _, kp_trans k1 (kp_trans k2 (kp_tok _ _))⟩
end

noncomputable def chunk (leaf : List Nat) (j : Nat) : List Nat := (leaf.drop (4 * j)).take 4
noncomputable def pieceF (name : List Nat) : Nat → List Nat
  | 0 => name
  | 1 => name.take 1 ++ [63, 61, 61]
  | 2 => [63] ++ name.drop 1
  | _ => [42]
noncomputable def digitF (total : Int) (j : Nat) : Nat := ((total.fdiv ((4 : Int) ^ j)).fmod 4).toNat
noncomputable def pickF (leaves : List (List Nat)) (total : Int) : List Nat := leaves.getD (total.fmod (leaves.length : Nat)).toNat []
noncomputable def patF (leaf : List Nat) (total : Int) : List Nat := ((List.range (leaf.length / 4)).map fun j => pieceF (chunk leaf j) (digitF total j)).flatten

theorem lt4 : ∀ {n : Nat}, n < 4 → n = 0 ∨ n = 1 ∨ n = 2 ∨ n = 3
  | 0, _ => .inl rfl
  | 1, _ => .inr (.inl rfl)
  | 2, _ => .inr (.inr (.inl rfl))
  | 3, _ => .inr (.inr (.inr rfl))
  | n + 4, h => absurd h (Nat.not_lt.mpr (Nat.le_add_left 4 n))
variable {prog : Program} {w : World}
theorem f_pattern {leaves : List (List Nat)} {total : Int} (hne : leaves ≠ []) (hlen : leaves.length ≤ 2000) (hl : ∀ l ∈ leaves, l.length ≤ 48 ∧ l.length % 4 = 0) :
    ∃ r, fnRec "_law_pattern" = some r ∧ Fn prog w 2 r [strL leaves, .int total] (.str (S (patF (pickF leaves total) total))) := by
  refine ⟨_, rfl, fn_of (ps := ["leaves", "total"]) ⟨fun pm cd doc vs h => by obtain ⟨a, b, rfl⟩ := len2 h; rfl, fun n p hp => by simp only [List.mem_cons, List.not_mem_nil, or_false] at hp; rcases hp with rfl | rfl <;> first | exact .inl rfl | exact .inr ⟨rfl, rfl⟩, fun n p hp => nd_self (by rfl) p hp, rfl, rfl, rfl, rfl⟩ rfl fun A env pm cd doc L a he okE low room => ?_⟩
  have hpos : 0 < leaves.length := List.length_pos_iff.mpr hne
  have hm0 : 0 ≤ total.fmod (leaves.length : Nat) := Int.fmod_nonneg_of_pos _ (by omega)
  have hm1 : total.fmod (leaves.length : Nat) < (leaves.length : Nat) := Int.fmod_lt_of_pos _ (by omega)
  have hlt : (total.fmod (leaves.length : Nat)).toNat < leaves.length := by omega
  have hpick : leaves[(total.fmod (leaves.length : Nat)).toNat]? = some (pickF leaves total) := by
    unfold pickF
    rw [List.getD_eq_getElem?_getD, List.getElem?_eq_getElem hlt]; rfl
  obtain ⟨h48, h4⟩ := hl _ (List.mem_of_getElem? hpick)
  generalize hleaf : pickF leaves total = leaf at *
  refine exr_cons (ex1_assign (d := .str (S leaf)) okE low (.cell (by rw [he]; rfl) (by rw [he]; rfl)) (ev_item (ev_name okE rfl) ((ev_bin (ev_name okE rfl) (ev_len okE (by rw [he]; rfl) (ev_name okE rfl) (by rfl) (by rw [List.length_map]; omega)) (op_mod ?_)).to (d' := .int (total.fmod (leaves.length : Nat))) ?_) hm0 ?_ (by omega)) (by rw [he]; rfl)) ?_
  · rw [List.length_map]; omega
  · rw [List.length_map]
  · rw [List.getElem?_map, hpick]; rfl
  refine exr_cons (ex1_assign (d := strL ((List.range (leaf.length / 4)).map (chunk leaf))) okE low (.cell (by rw [he]; rfl) (by rw [he]; rfl)) (ev_lc okE ?_) (by rw [he]; rfl)) ?_
  · refine ⟨_, (List.range (leaf.length / 4)).map natD, fun d => match d with | .int i => some (.str (S (chunk leaf i.toNat))) | _ => none, [("leaf", .data (.str (S leaf)))], ⟨by rw [he]; with_unfolding_all rfl, rfl, by decide, by rw [he]; intro p hp; simp only [List.mem_singleton] at hp; subst hp; rfl, by intro n; rfl⟩,
      evi_rangeN okE room.hd ((ev_bin (ev_lens okE (by rw [he]; rfl) (ev_name okE rfl) (by rfl) (by omega)) ev_int (op_div (by decide) (by decide))).to ?_) (by rfl) (by omega) (by rw [he]; rfl), fun C => ⟨⟨rfl, .inl (by rw [he]; rfl), .inl (by rw [he]; rfl), ⟨_, rfl, by rw [he]; rfl⟩⟩, trivial⟩, by simp,
      by rw [List.length_map, List.length_range]; exact Nat.le_trans (by omega) (show 1001 ≤ sizeLine by decide), fun C okE' low' d hd => ?_, ?_, by intro _; rfl⟩
    · rw [Int.fdiv_eq_ediv_of_nonneg _ (by decide)]; rfl
    · obtain ⟨j, hj, rfl⟩ := List.mem_map.mp hd
      have hj' : j < leaf.length / 4 := by simpa using hj
      have hcut := cut_mid leaf (4 * j) (4 * j + 4) (Nat.le_add_right _ _) (Nat.le_trans (Nat.mul_le_mul_left 4 hj') (Nat.mul_div_le _ _))
      have e4 : 4 * j + 4 - 4 * j = 4 := Nat.add_sub_cancel_left _ _
      rw [e4] at hcut
      refine turn_of (b := true) (bind_loc okE' low' (by rfl)) ⟨rfl, trivial⟩ tstl_nil (fun _ => EvX.of (ev_cut (r := chunk leaf j) (ev_name okE' rfl) (.some (ev_bin ev_int (ev_name okE' rfl) (op_mul ?_ ?_))) (.some (ev_bin (ev_bin ev_int (ev_name okE' rfl) (op_mul ?_ ?_)) ev_int op_add)) ?_ (Nat.le_trans h48 (by decide)))) rfl
      · decide
      · omega
      · decide
      · omega
      · exact hcut
    · generalize leaf.length / 4 = n
      rw [List.map_map, List.filterMap_map]
      induction List.range n with
      | nil => rfl
      | cons a l ih => 
        rw [List.filterMap_cons, List.map_cons, ← ih]; rfl
  refine exr_ret ((ev_join (ls := (List.range (leaf.length / 4)).map fun j => pieceF (chunk leaf j) (digitF total j)) (ev_lit (l := [])) (ev_lc okE ?_) (by rfl) (by rfl) (by rfl) ?_).to rfl)
  · refine ⟨_, (List.range (leaf.length / 4)).map natD, fun d => match d with | .int i => some (.str (S (pieceF (chunk leaf i.toNat) (digitF total i.toNat)))) | _ => none, [("names", .data (strL ((List.range (leaf.length / 4)).map (chunk leaf)))), ("total", .data (.int total))], ⟨by rw [he]; with_unfolding_all rfl, rfl, by decide, by rw [he]; intro p hp; simp only [List.mem_cons, List.not_mem_nil, or_false] at hp; rcases hp with rfl | rfl <;> rfl, by intro n; rfl⟩,
      evi_rangeN okE room.hd ((ev_len okE (by rw [he]; rfl) (ev_name okE rfl) (by rfl) ?_).to ?_) (by rfl) (by omega) (by rw [he]; rfl), fun C => ⟨⟨rfl, .inl (by rw [he]; rfl), .inl (by rw [he]; rfl), ⟨_, rfl, by rw [he]; rfl⟩⟩, ⟨rfl, .inl (by rw [he]; rfl), .inl (by rw [he]; rfl), ⟨_, rfl, by rw [he]; rfl⟩⟩, trivial⟩, by simp,
      by rw [List.length_map, List.length_range]; exact Nat.le_trans (by omega) (show 1001 ≤ sizeLine by decide), fun C okE' low' d hd => ?_, ?_, by intro _; rfl⟩
    · rw [List.length_map, List.length_map, List.length_range]; omega
    · rw [List.length_map, List.length_map, List.length_range]
    · obtain ⟨j, hj, rfl⟩ := List.mem_map.mp hd
      have hj' : j < leaf.length / 4 := by simpa using hj
      have hj12 : j < 12 := by omega
      have hp12 : ∀ j < 12, ((4 : Int) ^ j).natAbs < 1073741824 ∧ ((4 : Int) ^ j) ≠ 0 := by decide
      obtain ⟨hp1, hp2⟩ := hp12 j hj12
      have hch : (((List.range (leaf.length / 4)).map (chunk leaf)).map fun l => D.str (S l))[((j : Nat) : Int).toNat]? = some (.str (S (chunk leaf j))) := by
        show (((List.range (leaf.length / 4)).map (chunk leaf)).map fun l => D.str (S l))[j]? = _
        rw [List.getElem?_map, List.getElem?_map, List.getElem?_range hj']; rfl
      have hcl : (chunk leaf j).length = 4 := by unfold chunk; rw [List.length_take, List.length_drop]; exact Nat.min_eq_left (Nat.le_sub_of_add_le (by rw [Nat.add_comm]; exact Nat.le_trans (Nat.mul_le_mul_left 4 hj') (Nat.mul_div_le _ _)))
      have hd0 : 0 ≤ (total.fdiv ((4 : Int) ^ j)).fmod 4 := Int.fmod_nonneg_of_pos _ (by decide)
      have hd1 : (total.fdiv ((4 : Int) ^ j)).fmod 4 < 4 := Int.fmod_lt_of_pos _ (by decide)
      have c1 := cut_to (chunk leaf j) 1 (by omega)
      have c2 := cut_from (chunk leaf j) 1 (by omega)
      refine turn_of (b := true) (bind_loc okE' low' (by rfl)) ⟨rfl, rfl, trivial⟩ tstl_nil (fun _ => EvX.of (ev_item (k := (total.fdiv ((4 : Int) ^ j)).fmod 4)
        (ds := [.str (S (chunk leaf j)), .str (S ((chunk leaf j).take 1 ++ [63, 61, 61])), .str (S ([63] ++ (chunk leaf j).drop 1)), .str (S [42])])
        (ev_list (.cons (ev_item (ev_name okE' rfl) (ev_name okE' rfl) (by omega) hch (by omega)) (by rfl)
          (.cons (ev_bin (ev_cut (ev_item (ev_name okE' rfl) (ev_name okE' rfl) (by omega) hch (by omega)) .none (.some ev_int) c1 (by rw [hcl]; decide)) (ev_lit (l := [63, 61, 61])) (op_cat ?_)) (by rfl)
          (.cons (ev_bin (ev_lit (l := [63])) (ev_cut (ev_item (ev_name okE' rfl) (ev_name okE' rfl) (by omega) hch (by omega)) (.some ev_int) .none c2 (by rw [hcl]; decide)) (op_cat ?_)) (by rfl)
          (.cons (ev_lit (l := [42])) (by rfl) .nil)))))
        (ev_bin (ev_bin (ev_name okE' rfl) (ev_bin ev_int (ev_name okE' rfl) (op_pow (by omega) (by omega) (by decide))) (op_div hp2 hp1)) ev_int (op_mod (by decide))) hd0 ?_ (by omega))) rfl
      · rw [List.length_take]; exact Nat.le_trans (Nat.add_le_add (Nat.min_le_left _ _) (Nat.le_refl _)) (by decide)
      · rw [List.length_drop, hcl]; decide
      · show _ = some (D.str (S (pieceF (chunk leaf j) (digitF total j))))
        unfold digitF
        generalize (total.fdiv ((4 : Int) ^ j)).fmod 4 = q at hd0 hd1
        obtain ⟨n, rfl⟩ := Int.eq_ofNat_of_zero_le hd0
        have : n = 0 ∨ n = 1 ∨ n = 2 ∨ n = 3 := lt4 (Int.ofNat_lt.mp hd1)
        rcases this with rfl | rfl | rfl | rfl <;> rfl
    · generalize leaf.length / 4 = n
      rw [List.map_map, List.filterMap_map]
      induction List.range n with
      | nil => rfl
      | cons a l ih => 
        rw [List.filterMap_cons, List.map_cons, ← ih]; rfl
  · have : ∀ (l : List Nat), (l.map fun j => pieceF (chunk leaf j) (digitF total j)).flatten.length ≤ l.length * 7 := by
      intro l
      induction l with
      | nil => simp
      | cons a l ih =>
        rw [List.map_cons, List.flatten_cons, List.length_append, List.length_cons]
        have : (pieceF (chunk leaf a) (digitF total a)).length ≤ 7 := by
          have hc : (chunk leaf a).length ≤ 4 := by unfold chunk; rw [List.length_take]; omega
          unfold pieceF
          split
          · omega
          · simp; omega
          · simp; omega
          · simp
        omega
    have := this (List.range (leaf.length / 4))
    rw [List.length_range] at this
    omega
end Mine
end
section
open PySem PySem.Calls PyProof.Rows PySem.W
set_option maxRecDepth 100000
set_option linter.all false
set_option maxHeartbeats 1000000
namespace Mine

/-- a wood: who hangs where, and the names -/
structure Wood where
  n : Nat
  below : List (List Nat)
  names : List (List Nat)
noncomputable def Wood.kids (t : Wood) (p : Nat) : List Nat := t.below.getD p []
noncomputable def Wood.nm (t : Wood) (k : Nat) : List Nat := t.names.getD k []
structure Wood.Ok (t : Wood) : Prop where
  small : t.n ≤ 10
  bl : t.below.length = t.n + 1
  nl : t.names.length = t.n
  up : ∀ p, (t.kids p).Pairwise (· < ·)
  rng : ∀ p, ∀ k ∈ t.kids p, p ≤ k ∧ k < t.n
  nm4 : ∀ k, (t.nm k).length ≤ 4
noncomputable def rowsF (t : Wood) : Nat → Nat → List Nat → List Row
  | 0, _, _ => []
  | f + 1, p, front => (t.kids p).flatMap fun k => ⟨front ++ t.nm k, k, (t.kids (k + 1)).length⟩ :: rowsF t f (k + 1) (front ++ t.nm k)
theorem pow_sum {n : Nat} : ∀ {l : List Nat} {p : Nat}, l.Pairwise (· < ·) → (∀ k ∈ l, p ≤ k ∧ k < n) → (l.map fun k => 2 ^ (n - (k + 1))).sum + 1 ≤ 2 ^ (n - p)
  | [], p, _, _ => by simp; exact Nat.one_le_two_pow
  | k :: l, p, hp, h => by
    obtain ⟨h1, h2⟩ := List.pairwise_cons.mp hp
    obtain ⟨a, b⟩ := h k (.head _)
    have ih := pow_sum (n := n) (l := l) (p := k + 1) h2 fun j hj => ⟨h1 j hj, (h j (.tail _ hj)).2⟩
    rw [List.map_cons, List.sum_cons]
    have e : 2 ^ (n - k) = 2 * 2 ^ (n - (k + 1)) := by
      rw [show n - k = (n - (k + 1)) + 1 from by rw [Nat.sub_add_eq, Nat.sub_add_cancel (Nat.sub_pos_of_lt b)], Nat.pow_succ, Nat.mul_comm]
    have m : 2 ^ (n - k) ≤ 2 ^ (n - p) := Nat.pow_le_pow_right (by decide) (Nat.sub_le_sub_left a n)
    omega
theorem rowsF_len {t : Wood} (ok : t.Ok) : ∀ (f p : Nat) (front : List Nat), (rowsF t f p front).length + 1 ≤ 2 ^ (t.n - p)
  | 0, p, front => by simp [rowsF]; exact Nat.one_le_two_pow
  | f + 1, p, front => by
    unfold rowsF
    rw [List.length_flatMap]
    refine Nat.le_trans (Nat.succ_le_succ ?_) (pow_sum (ok.up p) (ok.rng p))
    have : ∀ l : List Nat, (l.map fun k => (⟨front ++ t.nm k, k, (t.kids (k + 1)).length⟩ :: rowsF t f (k + 1) (front ++ t.nm k) : List Row).length).sum ≤ (l.map fun k => 2 ^ (t.n - (k + 1))).sum := by
      intro l
      induction l with
      | nil => simp
      | cons k l ih =>
        rw [List.map_cons, List.map_cons, List.sum_cons, List.sum_cons]
        have := rowsF_len ok f (k + 1) (front ++ t.nm k)
        rw [List.length_cons]
        omega
    exact this _
theorem rowsF_len' {t : Wood} (ok : t.Ok) (f p : Nat) (front : List Nat) : (rowsF t f p front).length ≤ 1023 := by
  have h1 := rowsF_len ok f p front
  have h2 : 2 ^ (t.n - p) ≤ 2 ^ 10 := Nat.pow_le_pow_right (by decide) (by have := ok.small; omega)
  omega
theorem take_flat_len {t : Wood} (ok : t.Ok) (f p : Nat) (front : List Nat) (i : Nat) : (((t.kids p).take i).flatMap fun k => (⟨front ++ t.nm k, k, (t.kids (k + 1)).length⟩ :: rowsF t f (k + 1) (front ++ t.nm k) : List Row)).length ≤ 1023 := by
  have h1 := rowsF_len' ok (f + 1) p front
  unfold rowsF at h1
  refine Nat.le_trans ?_ h1
  conv => rhs; rw [← List.take_append_drop i (t.kids p)]
  rw [List.flatMap_append, List.length_append]
  omega

noncomputable def belowD (t : Wood) : D := .list (t.below.map natsL)

variable {prog : Program} {w : World}
theorem f_rows {t : Wood} (ok : t.Ok) : ∃ r, fnRec "_law_rows" = some r ∧ ∀ f p front, t.n + 1 ≤ f + p → p ≤ t.n → front.length ≤ 4 * p → Fn prog w (f + 1) r [belowD t, natD p, .str (S front), strL t.names] (rowsL (rowsF t f p front)) := by
  refine ⟨_, rfl, fun f => ?_⟩
  induction f with
  | zero => intro p front h1 h2; omega
  | succ f ih =>
  intro p front h1 h2 h3
  refine fn_of (ps := ["below", "place", "front", "names"]) ⟨fun pm cd doc vs h => by obtain ⟨a, b, c, d, rfl⟩ := len4 h; rfl, fun n p hp => by simp only [List.mem_cons, List.not_mem_nil, or_false] at hp; rcases hp with rfl | rfl | rfl | rfl <;> exact .inl rfl, fun n p hp => nd_self (by rfl) p hp, rfl, rfl, rfl, rfl⟩ rfl fun A env pm cd doc L a he okE low room => ?_
  have hsm := ok.small
  have hbl := ok.bl
  have hnl := ok.nl
  have hat : ∀ q, q ≤ t.n → t.below[q]? = some (t.kids q) := fun q hq => by
    unfold Wood.kids
    rw [List.getD_eq_getElem?_getD, List.getElem?_eq_getElem (by omega)]; rfl
  have hnm : ∀ q, q < t.n → t.names[q]? = some (t.nm q) := fun q hq => by
    unfold Wood.nm
    rw [List.getD_eq_getElem?_getD, List.getElem?_eq_getElem (by omega)]; rfl
  refine exr_cons (ex1_assign okE low (.loc (by rw [he]; rfl)) (ev_list .nil) (by rw [he]; rfl)) ?_
  refine exr_cons (ex1_for (fun i => [("rows", .data (rowsL (((t.kids p).take i).flatMap fun k => (⟨front ++ t.nm k, k, (t.kids (k + 1)).length⟩ :: rowsF t f (k + 1) (front ++ t.nm k) : List Row)))), ("below", .data (belowD t)), ("place", .data (natD p)), ("front", .data (.str (S front))), ("names", .data (strL t.names))]) okE low (.loc (by rw [he]; rfl))
    (evi_list (ds := (t.kids p).map natD) (by exact room.hd) (ev_item (ev_name okE rfl) (ev_name okE rfl) (by omega) ?_ (by omega))) ⟨rfl, rfl, rfl, rfl, rfl, trivial⟩ (fun i d hd => ?_) (by intro _; rfl)) ?_
  · show (t.below.map natsL)[p]? = _
    rw [List.getElem?_map, hat p h2]; rfl
  · rw [List.getElem?_map] at hd
    obtain ⟨k, hk, rfl⟩ := Option.map_eq_some_iff.mp hd
    obtain ⟨hi, hke⟩ := List.getElem?_eq_some_iff.mp hk
    have hmem : k ∈ t.kids p := hke ▸ List.getElem_mem hi
    obtain ⟨hpk, hkn⟩ := ok.rng p k hmem
    have hfr : (front ++ t.nm k).length ≤ 4 * (k + 1) := by
      have := ok.nm4 k
      rw [List.length_append]; omega
    have hname : ∀ {Γ' : Ctx}, List.lookup (Str.ofString "front") Γ' = some (Sl.data (.str (S front))) → List.lookup (Str.ofString "names") Γ' = some (Sl.data (strL t.names)) → List.lookup (Str.ofString "k") Γ' = some (Sl.data (natD k)) → ∀ {q1 q2 q3 q4 q5 : Pos}, Ev prog w A env Γ' (.BinOp (.Name "front" q1) .Add (.Subscript (.Name "names" q2) (.Name "k" q3) q4) q5) (.str (S (front ++ t.nm k))) := by
      intro Γ' g1 g2 g3 q1 q2 q3 q4 q5
      refine ev_bin (ev_name okE g1) (ev_item (ev_name okE g2) (ev_name okE g3) (by omega) ?_ (by omega)) (op_cat (by have := ok.nm4 k; exact Nat.le_trans (show _ ≤ 1000 by omega) (by decide)))
      show (t.names.map fun l => D.str (S l))[k]? = _
      rw [List.getElem?_map, hnm k hkn]; rfl
    refine ex_sub (ex_cons (ex1_assign (d := rowsL (((t.kids p).take (i + 1)).flatMap fun k => (⟨front ++ t.nm k, k, (t.kids (k + 1)).length⟩ :: rowsF t f (k + 1) (front ++ t.nm k) : List Row))) okE low (.loc (by rw [he]; rfl)) ?_ (by rw [he]; rfl)) ex_nil) ⟨rfl, rfl, rfl, rfl, rfl, trivial⟩
    have hrec := ih (k + 1) (front ++ t.nm k) (by omega) (by omega) hfr
    refine (ev_bin (ev_bin (ev_name okE rfl) (ev_list (.cons (ev_list (.cons (hname rfl rfl rfl) (by rfl) (.cons (ev_name okE rfl) (by rfl) (.cons (ev_len (ds := (t.kids (k + 1)).map natD) okE (by rw [he]; rfl) (ev_item (ev_name okE rfl) (ev_bin (ev_name okE rfl) ev_int op_add) (by omega) ?_ (by omega)) (by rfl) ?_) (by rfl) .nil)))) (by rfl) .nil)) (op_app ?_))
      (ev_call okE rfl (by decide) (by rw [he]; rfl) hrec room (.cons (ev_name okE rfl) (by rfl) (.cons (ev_bin (ev_name okE rfl) ev_int op_add) (by rfl) (.cons (hname rfl rfl rfl) (by rfl) (.cons (ev_name okE rfl) (by rfl) .nil))))) (op_app ?_)).to ?_
    · show (t.below.map natsL)[k + 1]? = _
      rw [List.getElem?_map, hat (k + 1) (by omega)]; rfl
    · rw [List.length_map]
      have h1 : (t.kids (k + 1)).length ≤ 1023 := by
        have := rowsF_len' ok (f + 1) (k + 1) []
        unfold rowsF at this
        rw [List.length_flatMap] at this
        have h2 : ∀ l : List Nat, l.length ≤ (l.map fun k => (⟨[] ++ t.nm k, k, (t.kids (k + 1)).length⟩ :: rowsF t f (k + 1) ([] ++ t.nm k) : List Row).length).sum := by
          intro l
          induction l with
          | nil => simp
          | cons x l ih => rw [List.map_cons, List.sum_cons, List.length_cons, List.length_cons]; omega
        exact Nat.le_trans (h2 _) this
      omega
    · have := take_flat_len ok f p front i
      refine Nat.le_trans ?_ (show 5000 ≤ sizeLine by decide)
      simp only [List.length_map, List.length_cons, List.length_nil]
      omega
    · have h1 := take_flat_len ok f p front i
      have h2 := rowsF_len' ok f (k + 1) (front ++ t.nm k)
      refine Nat.le_trans ?_ (show 5000 ≤ sizeLine by decide)
      simp only [List.length_append, List.length_map, List.length_cons, List.length_nil]
      omega
    · rw [List.take_add_one, hk, List.flatMap_append]
      show D.list _ = D.list _
      rw [List.map_append, List.append_assoc]
      congr 2
      simp [rowD, natD]
  · refine exr_ret ((ev_name okE rfl).to ?_)
    rw [List.length_map, List.take_length]; rfl
end Mine
end
section
open PySem PySem.Calls PyProof.Rows PySem.W
set_option maxRecDepth 100000
set_option linter.all false
set_option maxHeartbeats 1000000
namespace Mine
section
variable {prog : Program} {w : World} {A : Around} {E : Value → Shared → Prop} {s : Shared}
theorem sub_key_lookup : isSubtype (.type "KeyError") (.type "LookupError") = pure true := by rw [isSubtype_type]; kernel_rfl
theorem tl_miss {a : Addr} {kvs : List (Int × Value)} {c : Nat} {Q : Builtin.Str.Mapped → Shared → Prop} (hh : A.handled = none) (hm : s.heap.DictOf (PySem.intKind prog w) a kvs) (hs : (a == sysModules) = false) (hv : valueAt kvs (c : Nat) = none)
    (h : ∀ s', Keeps s s' → Q .keep s') : wpAny (model prog w) A (Builtin.Str.tableLookup (.ref a) c) Q E s := by
  unfold Builtin.Str.tableLookup
  refine wpAny_bind (wpAny_attempt (wpAny_bind (wpAny_mkInt ?_)))
  refine wpAny_getItem_missing_of (knd := PySem.intKind prog w) (k := (c : Nat)) (by simp [PySem.intKind, Value.isInt]) hs hh (hm.mapOf) hv fun h' e N => ?_
  obtain ⟨ob, t, e1, e2, e3⟩ := N.there
  refine wpAny_bind (wpAny_isInstance (T := "KeyError") (b := true) ⟨_, e1, e2⟩ sub_key_lookup ?_)
  simp only [if_true]
  refine wpAny_bind (wpAny_rule (wpAny_pure (h _ ⟨h', _, _, rfl, N.keeps⟩)))
theorem tl_hit {a : Addr} {kvs : List (Int × Value)} {c : Nat} {x : Str} {t : Tok} {Q : Builtin.Str.Mapped → Shared → Prop} (hm : s.heap.DictOf (PySem.intKind prog w) a kvs) (hs : (a == sysModules) = false) (hv : valueAt kvs (c : Nat) = some (.str x t))
    (h : ∀ s', Keeps s s' → Q (.text x) s') : wpAny (model prog w) A (Builtin.Str.tableLookup (.ref a) c) Q E s := by
  unfold Builtin.Str.tableLookup
  refine wpAny_bind (wpAny_attempt (wpAny_bind (wpAny_mkInt ?_)))
  refine wpAny_getItem_of (knd := PySem.intKind prog w) (k := (c : Nat)) (by simp [PySem.intKind, Value.isInt]) (hm.mapOf) hv ?_
  refine wpAny_bind (wpAny_of_eq (a := none) (by rfl) ?_)
  refine wpAny_bind (wpAny_of_eq (a := some x) (by rfl) ?_)
  exact wpAny_pure (h _ ⟨_, _, _, rfl, fun _ _ e => e⟩)
theorem tr_one {a : Addr} {kvs : List (Int × Value)} {c : Nat} {t : Tok} {Q : Value → Shared → Prop} (hc : c < 128) (hh : A.handled = none) (hm : s.heap.DictOf (PySem.intKind prog w) a kvs) (hs : (a == sysModules) = false)
    (hv : (c = 43 ∧ ∃ t, valueAt kvs 43 = some (.str (S [92, 43]) t)) ∨ (c ≠ 43 ∧ valueAt kvs (c : Nat) = none)) (h : ∀ s' u, Keeps s s' → Q (.str (S (if c = 43 then [92, 43] else [c])) u) s') :
    wpAny (model prog w) A (call (.builtin "str.translate") [.str (S [c]) t, .ref a]) Q E s := by
  refine wpAny_call_entry F.slot_str_translate (typeIs_str _ _ _) F.entry_str_translate ?_ (F.args_str_translate_2 _ _)
  unfold Builtin.«str.translate»
  have e1 : Builtin.Str.strOneArg "translate" ⟨[.str (S [c]) t, .ref a], []⟩ = pure (.str (S [c]) t, S [c], .ref a) := by rfl
  refine wpAny_bind (wpAny_of_eq e1 ?_)
  dsimp only
  have e2 : (S [c]).cps.all (fun x => decide (x < 128)) = true := by simp [S, hc]
  have e3 : ((S [c]).length == 0) = false := rfl
  have e4 : (S [c]).cps = #[c] := rfl
  rw [e2, e3, e4]
  simp only [Bool.false_eq_true, if_false]
  rw [← Array.forIn_toList]
  show wpAny (model prog w) A.in1 ((forIn [c] _ _) >>= _) _ _ s
  rw [List.forIn_cons]
  have hl : List.lookup c ([] : List (Nat × Option Nat)) = none := rfl
  refine wpAny_bind ?_
  refine wpAny_bind ?_
  rw [if_neg (show ¬ (Builtin.Str.tooLong 0 = true) by decide)]
  rw [if_pos rfl]
  rcases hv with ⟨rfl, u, hv⟩ | ⟨hc43, hv⟩
  · refine wpAny_bind (tl_hit hm hs hv fun s1 k1 => ?_)
    refine wpAny_bind (wpAny_pure ?_)
    refine wpAny_bind (wpAny_rule ?_)
    refine wpAny_bind (tl_hit (hm.keep (kp_ext k1)) hs hv fun s2 k2 => ?_)
    refine wpAny_pure ?_
    refine wpAny_pure ?_
    refine KFB.if_not (by rfl) ?_
    have e5 : (List.foldl (fun (acc : Array Nat) (p : Str) => acc ++ p.cps) #[] [S [92, 43]]) = (S [92, 43]).cps := by simp [S]
    show wpAny (model prog w) A.in1 (retStr ⟨List.foldl (fun (acc : Array Nat) (p : Str) => acc ++ p.cps) #[] [S [92, 43]]⟩) _ _ _
    rw [e5]
    refine wpAny_bind (wpAny_mkStr (wpAny_pure ⟨_, rfl, ?_⟩))
    have := h _ s2.toks (kp_trans k1 (kp_trans k2 (kp_tok _ (s2.toks + 1))))
    exact this
  · refine wpAny_bind (tl_miss hh hm hs hv fun s1 k1 => ?_)
    refine wpAny_bind (wpAny_pure ?_)
    refine wpAny_pure ?_
    refine wpAny_pure ?_
    refine KFB.if_not (by rfl) ?_
    have e5 : (List.foldl (fun (acc : Array Nat) (p : Str) => acc ++ p.cps) #[] [S [c]]) = (S [c]).cps := by simp [S]
    show wpAny (model prog w) A.in1 (retStr ⟨List.foldl (fun (acc : Array Nat) (p : Str) => acc ++ p.cps) #[] [S [c]]⟩) _ _ _
    rw [e5]
    refine wpAny_bind (wpAny_mkStr (wpAny_pure ⟨_, rfl, ?_⟩) (show 1 ≤ sizeLine by decide))
    have := h _ s1.toks (kp_trans k1 (kp_tok _ (s1.toks + 1)))
    rw [if_neg hc43] at this
    exact this
end

variable {prog : Program} {w : World}
theorem sign_lt : ∀ c ∈ nameSigns, c < 128 := by decide +kernel
theorem f_escape {c : Nat} (hc : c ∈ nameSigns) : ∃ r, fnRec "escape" = some r ∧ Fn prog w 2 r [.str (S [c])] (.str (S (if c = 43 then [92, 43] else [c]))) := by
  refine ⟨_, rfl, fn_of (ps := ["pattern"]) ⟨fun pm cd doc vs h => by obtain ⟨a, rfl⟩ := len1 h; rfl, fun n p hp => by simp only [List.mem_cons, List.not_mem_nil, or_false] at hp; rcases hp with rfl; exact .inl rfl, fun n p hp => nd_self (by rfl) p hp, rfl, rfl, rfl, rfl⟩ rfl fun A env pm cd doc L a he okE low room => ?_⟩
  intro ok s E g
  refine wpAny_execs_cons (wpAny_If (wpAny_isTrue_value ?_))
  refine wpAny_Call_NameR (name_blt okE g.W (v := .builtin "isinstance") (by kernel_rfl) (by decide) (by rw [he]; rfl) ?_)
  refine Calls.callWith_builtin rfl (Calls.evalArgs_plain (Calls.spliced_cons ((ev_name (d := .str (S [c])) okE rfl).go g fun v s1 r1 k1 g1 => Calls.spliced_cons (name_blt okE g1.W (v := .type "str") (by kernel_rfl) (by decide) (by rw [he]; rfl) (Calls.spliced_nil ?_)))))
  obtain ⟨t, rfl⟩ := r1.isStr
  refine IsiPair.str_str (wpAny_truthy_bool ?_)
  refine wpAny_execs_cons (wpAny_Return_some ?_)
  refine wpAny_Call_method1_late (by rfl) (by rfl) (by rfl) ?_
  refine (ev_name (d := .str (S [c])) okE rfl).go g1 fun v s2 r2 k2 g2 => ?_
  obtain ⟨t2, rfl⟩ := r2.isStr
  refine ⟨"str", "str.translate", F.plainAttrs_str, F.slot_str_translate, F.type_str_translate, typeIs_str _ _ _, (fun _ e => nomatch e), ?_⟩
  obtain ⟨mg, mb, a1, a2, a3, a4, a5, a6, _⟩ := g2.W.glob
  obtain ⟨a', kvs, e1, e2, e3, e4, e5⟩ := a6.esc
  refine Calls.callWith_builtin rfl (Calls.evalArgs_plain (Calls.spliced_cons (Name_function_global okE.kind (by rw [he]; rfl) (loadGlobal_global (by rw [okE.glob]; exact a1) e1 (Calls.spliced_nil ?_)) (by decide))))
  refine tr_one (sign_lt c hc) room.hd (e3 prog w) e2 ?_ fun s3 u k3 => ?_
  · by_cases h : c = 43
    · exact .inl ⟨h, e4⟩
    · exact .inr ⟨h, e5 c hc h⟩
  · exact ⟨_, rfl, .str _ _, KB.of (kp_trans k1 (kp_trans k2 k3))⟩
end Mine
end
section
open PySem PySem.Calls PyProof.Rows PySem.W
set_option maxRecDepth 100000
set_option linter.all false
set_option maxHeartbeats 1000000
namespace Mine
/-- a list under way, and its bound method append -/
noncomputable def pinOk (o : Obj) : Prop := o.cls ≠ .type "list" ∧ match o.data with | .dict .. => False | .cell _ => False | _ => True
noncomputable def AccI (ok : Addr → Prop) (acc : Addr) (u : List (Addr × Obj)) (ds : List D) (h : Heap) : Prop := ∃ vs, h.PlainList acc vs.toArray ∧ RdAll ok h vs ds ∧ ∀ p ∈ u, h.get? p.1 = some p.2 ∧ pinOk p.2
section
variable {prog : Program} {w : World} {A : Around} {env : Env} {Γ Γ' Γ'' : Ctx} {ok : Addr → Prop} {acc : Addr} {u : List (Addr × Obj)} {ds ds' ds'' : List D} {pos pos' : Pos}
theorem AccI.ext {h h' : Heap} (a : AccI ok acc u ds h) (x : Ext h h') : AccI ok acc u ds h' := let ⟨vs, p, r, q⟩ := a; ⟨vs, p.at fun _ e => x _ _ e, r.ext x, fun y hy => ⟨x _ _ (q y hy).1, (q y hy).2⟩⟩
theorem AccI.kb {s s' : Shared} (okE : EnvOk env) (F : Fm ok env Γ s.heap) (a : AccI ok acc u ds s.heap) (k : KB (own env) s s') : AccI ok acc u ds s'.heap := by
  obtain ⟨vs, ⟨n, p⟩, r, q⟩ := a
  have li := lists_of (ok' := ok) okE F k
  obtain ⟨m, cm, hn, hc, _⟩ := F
  have off : ∀ x o, s.heap.get? x = some o → (match o.data with | .dict .. => False | .cell _ => False | _ => True) → x ∉ own env := by
    intro x o e d hx
    rcases List.mem_cons.mp hx with rfl | hx
    · obtain ⟨oL, es, ep, eL, dL, _⟩ := hn
      rw [e] at eL; cases eL
      rw [dL] at d; exact d
    · obtain ⟨p, hp, rfl⟩ := List.mem_map.mp hx
      obtain ⟨o', e', d'⟩ := hc p.1 p.2 (okE.self p hp)
      rw [e] at e'; cases e'
      rw [d'] at d; exact d
  exact ⟨vs, ⟨n, k.kept _ _ (off _ _ p trivial) p⟩, r.lists li, fun y hy => ⟨k.kept _ _ (off _ _ (q y hy).1 (q y hy).2.2) (q y hy).1, (q y hy).2⟩⟩

noncomputable def ExA (prog : Program) (w : World) (A : Around) (env : Env) (acc : Addr) (u : List (Addr × Obj)) (Γ : Ctx) (ds : List D) (ss : List Stmt) (Γ' : Ctx) (ds' : List D) : Prop :=
  ∀ ok s E, ¬ ok acc → topLine ≤ acc → Gd ok env Γ s.heap → AccI ok acc u ds s.heap → wpAny (model prog w) A (execs ss env) (fun f s' => f = .next ∧ Gd ok env Γ' s'.heap ∧ AccI ok acc u ds' s'.heap ∧ KB (acc :: own env) s s') E s
noncomputable def TstA (prog : Program) (w : World) (A : Around) (env : Env) (acc : Addr) (u : List (Addr × Obj)) (Γ : Ctx) (ds : List D) (e : Expr) (b : Bool) : Prop :=
  ∀ ok s E, Gd ok env Γ s.heap → AccI ok acc u ds s.heap → wpAny (model prog w) A (isTrue e env (eval e env)) (fun c s' => c = b ∧ Keeps s s') E s
theorem TstA.of {e : Expr} {b : Bool} (h : Tst prog w A env Γ e b) : TstA prog w A env acc u Γ ds e b := fun ok s E g _ => h ok s E g
theorem exa_nil : ExA prog w A env acc u Γ ds [] Γ ds := fun ok s E na ta g a => wpAny_execs_nil ⟨rfl, g, a, KB.refl _ _⟩
theorem exa_sub {ss : List Stmt} (h : ExA prog w A env acc u Γ ds ss Γ' ds') (k : Sub Γ'' Γ') : ExA prog w A env acc u Γ ds ss Γ'' ds' := fun ok s E na ta g a =>
  wpAny_mono (h ok s E na ta g a) (fun f s' q => ⟨q.1, q.2.1.sub k, q.2.2⟩) fun _ _ x => x
theorem exa_one {st : Stmt} {r : List Stmt} (okE : EnvOk env) (h : Ex1 prog w A env Γ st Γ') (k : ExA prog w A env acc u Γ' ds r Γ'' ds'') : ExA prog w A env acc u Γ ds (st :: r) Γ'' ds'' := fun ok s E na ta g a =>
  wpAny_execs_cons (wpAny_mono (h ok s E g) (fun f s1 q => by
    obtain ⟨rfl, g1, k1⟩ := q
    exact wpAny_mono (k ok s1 E na ta g1 (a.kb okE g.F k1)) (fun f s2 q => ⟨q.1, q.2.1, q.2.2.1, (k1.mono fun b hb => .tail _ hb).trans q.2.2.2⟩) fun _ _ x => x) fun _ _ x => x)
theorem exa_if {t : Expr} {b o : List Stmt} {pos : Pos} {c : Bool} (h : TstA prog w A env acc u Γ ds t c) (h1 : c = true → ExA prog w A env acc u Γ ds b Γ' ds') (h2 : c = false → ExA prog w A env acc u Γ ds o Γ' ds') :
    ExA prog w A env acc u Γ ds [.If t b o pos] Γ' ds' := fun ok s E na ta g a =>
  wpAny_execs_cons (wpAny_If (wpAny_mono (h ok s E g a) (fun c' s1 q => by
    obtain ⟨rfl, k⟩ := q
    have x := kp_ext k
    cases c' with
    | true => exact wpAny_mono (h1 rfl ok s1 E na ta (g.ext x) (a.ext x)) (fun f s' q => by obtain ⟨rfl, q1, q2, q3⟩ := q; exact wpAny_execs_nil ⟨rfl, q1, q2, (KB.of k).trans q3⟩) fun _ _ x => x
    | false => exact wpAny_mono (h2 rfl ok s1 E na ta (g.ext x) (a.ext x)) (fun f s' q => by obtain ⟨rfl, q1, q2, q3⟩ := q; exact wpAny_execs_nil ⟨rfl, q1, q2, (KB.of k).trans q3⟩) fun _ _ x => x) fun _ _ x => x))
theorem exa_add {v : Addr} {e : Expr} {p cp pos : Pos} {d : D} (okE : EnvOk env) (hu : (v, appObj acc) ∈ u) (hx : List.lookup (Str.ofString "add") Γ = some (.val (.ref v))) (h : Ev prog w A env Γ e d) (hse : starEach [e] env = [(false, eval e env)]) (hsz : ds.length ≤ sizeLine)
    (hi : interactive env = false) (hs : swapsWith (.Call (.Name "add" p) [e] [] cp) none pos.line env = pure false) : ExA prog w A env acc u Γ ds [.Expr (.Call (.Name "add" p) [e] [] cp) pos] Γ (ds ++ [d]) := fun ok s E na ta g a => by
  refine wpAny_execs_cons (wpAny_Expr_any ?_ hi hs)
  refine wpAny_Call_NameR (nm_val okE g.F hx ?_)
  rw [hse]
  refine callWith_app (a := acc) rfl (Calls.evalArgs_plain (Calls.spliced_cons (h.go g fun v' s1 r k g1 => Calls.spliced_nil ?_)))
  obtain ⟨vs, pl, rd, q⟩ := a.ext (kp_ext k)
  refine ⟨(q _ hu).1, call_app (q _ hu).1 pl (fun h' pl' sb => ?_) (by rw [List.size_toArray, rd.length]; exact hsz)⟩
  obtain ⟨g2, l2⟩ := g1.acc pl.isList pl'.isList na ta sb
  have hu' : ∀ y ∈ u, y.1 ≠ acc := by
    rintro y hy rfl
    obtain ⟨n, e⟩ := pl
    have q' := congrArg Obj.cls (Option.some.inj (e.symm.trans (q y hy).1))
    exact (q y hy).2.1 q'.symm
  refine wpAny_execs_nil ⟨rfl, g2, ⟨vs ++ [v'], ?_, (rd.snoc r).lists l2, fun y hy => ⟨sb.extBut _ _ (hu' y hy) (q y hy).1, (q y hy).2⟩⟩, (KB.of k).trans ⟨h', s1.toks, _, rfl, fun b o hb e => sb.extBut b o (fun z => hb (by rw [z]; exact .head _)) e⟩⟩
  have e : (vs ++ [v']).toArray = vs.toArray.push v' := by simp
  rw [e]; exact pl'

theorem tsta_res {p : Pos} (okE : EnvOk env) (hx : List.lookup (Str.ofString "res") Γ = some (.val (.ref acc))) (hsz : ds.length < 2 ^ 62) : TstA prog w A env acc u Γ ds (.UnaryOp .Not (.Name "res" p) pos) ds.isEmpty := fun ok s E g a => by
  refine wpAny_isTrue_Not (wpAny_isTrue_value (nm_val okE g.F hx ?_))
  obtain ⟨vs, pl, rd, q⟩ := a
  refine wpAny_truthy_list pl.isList (by have := rd.length; simp; omega) ?_
  have e : (!(!vs.toArray.isEmpty)) = ds.isEmpty := by
    have := rd.length
    cases vs <;> cases ds <;> simp_all
  rw [e]
  exact ⟨rfl, kp_tok _ _⟩
theorem tsta_last {p p2 p3 p4 pos : Pos} {k0 : Nat} (okE : EnvOk env) (hx : List.lookup (Str.ofString "res") Γ = some (.val (.ref acc))) (hst : List.lookup (Str.ofString "STAR") Γ = some (.data .none)) (hne : ds ≠ []) (hsz : ds.length < 2 ^ 62) :
    TstA prog w A env acc u Γ ds (.Compare (.Subscript (.Name "res" p) (.UnaryOp .USub (.Constant (.int 1) k0 p2) p3) p4) [.IsNot] [.Name "STAR" pos] pos') (!isNone (ds.getLast hne)) := fun ok s E g a => by
  refine wpAny_isTrue_Compare1 (Subscript_ (nm_val okE g.F hx ((ev_neg ev_int).go g fun v s1 r k g1 => ?_))) (by with_unfolding_all rfl)
  obtain ⟨t, rfl⟩ := r.isInt
  obtain ⟨vs, pl, rd, q⟩ := a.ext (kp_ext k)
  have hlen := rd.length
  have hpos : 0 < ds.length := List.length_pos_iff.mpr hne
  obtain ⟨x, hx2, rx⟩ := rd.get (k := ds.length - 1) (d := ds.getLast hne) (by rw [List.getLast_eq_getElem, List.getElem?_eq_getElem])
  refine tail_any pl.isList.typeIs slot_list_getitem.lookup (wpAny_getItem_list_neg pl.isList (by decide) (by rw [List.size_toArray]; omega) (by decide) (x := x) ?_ ?_) (by with_unfolding_all rfl)
  · rw [List.size_toArray]
    have e : (-1 + (vs.length : Int)).toNat = ds.length - 1 := by rw [hlen, Int.add_comm]; exact Int.toNat_sub ds.length 1
    rw [e]; simpa using hx2
  · refine (ev_name okE hst).go g1 fun v s2 r2 k2 g2 => ?_
    cases r2
    refine isnot_none_gen (wpAny_truthy_bool ⟨?_, kp_trans k k2⟩)
    congr 1
    generalize ds.getLast hne = dl at rx
    cases rx <;> rfl
end

variable {prog : Program} {w : World}
theorem assign_pair_swap {A : Around} {env : Env} {s : Shared} {E : Value → Shared → Prop} {Q : Flow → Shared → Prop} {x y : Str} {px py tp tp2 pos : Pos} {k k2 : Nat} {e1 e2 : Expr} (hh : A.handled = none) (hse : starEach [e1, e2] env = [(false, eval e1 env), (false, eval e2 env)])
    (hsw : swapsWithSole [.Tuple [.Name x px, .Name y py] k tp] (.Tuple [e1, e2] k2 tp2) pos.line env = pure false) (hw : swappedStores [.Tuple [.Name x px, .Name y py] k tp] (.Tuple [e1, e2] k2 tp2) env = pure (some [x, y]))
    (h : wpAny (model prog w) A (eval e1 env) (fun v1 s1 => wpAny (model prog w) A (eval e2 env) (fun v2 s2 => ∀ s3, Keeps s2 s3 → wpAny (model prog w) A (storeName env y v2) (fun _ s4 => wpAny (model prog w) A (storeName env x v1) (fun _ => Q .next) E s4) E s3) E s1) E s) :
    wpAny (model prog w) A (exec (.Assign [.Tuple [.Name x px, .Name y py] k tp] (.Tuple [e1, e2] k2 tp2) pos) env) Q E s := by
  refine PyProof.Rows.Assign_Tuple_swapped (elts := [.Name x px, .Name y py]) (k := k) (tpos := tp) (value := .Tuple [e1, e2] k2 tp2) (pos := pos) (env := env) (names := [x, y]) ?_ hsw hw
  refine PySem.wpAny_Tuple ?_
  rw [hse]
  refine Calls.spliced_cons (wpAny_mono h (fun v1 s1 h1 => ?_) fun _ _ x => x)
  refine Calls.spliced_cons (wpAny_mono h1 (fun v2 s2 h2 => ?_) fun _ _ x => x)
  refine Calls.spliced_nil ?_
  refine ⟨show 2 ≤ sizeLine by decide, ?_⟩
  have hT : (s2.heap.push { cls := .type "tuple", data := .seq [v1, v2].toArray }).IsTuple s2.heap.objs.size #[v1, v2] := ⟨_, Heap.get?_push_size _ rfl, rfl, 0, rfl⟩
  have e2 : [x, y].length = (#[v1, v2] : Array Value).size := rfl
  rw [e2]
  refine PySem.wpAny_unpackItems_tuple (s := { s2 with heap := s2.heap.push { cls := .type "tuple", data := .seq [v1, v2].toArray } }) hh hT fun h' hx => ?_
  have kp : Keeps s2 { s2 with heap := h' } := ⟨h', s2.toks, _, rfl, fun b o e => hx b o (by
    show b ≠ (s2.heap.push _).objs.size
    rw [Heap.size_push]; exact Nat.ne_of_lt (Nat.lt_succ_of_lt (Heap.lt_size e))) (Heap.get?_push_of_some _ e)⟩
  have h3 := h2 _ kp
  show wpAny (model prog w) A (assignInOrder [bindName env y, bindName env x] [v2, v1]) _ _ _
  refine assignInOrder_cons (bindName_ (wpAny_mono h3 (fun _ s4 h4 => ?_) fun _ _ x => x))
  exact assignInOrder_cons (bindName_ (wpAny_mono h4 (fun _ s5 h5 => assignInOrder_nil h5) fun _ _ x => x))
end Mine
end
section
open PySem PySem.Calls PyProof.Rows PySem.W
set_option maxRecDepth 100000
set_option linter.all false
set_option maxHeartbeats 1000000
namespace Mine
section
variable {prog : Program} {w : World} {A : Around} {env : Env} {Γ Γ' Γ'' : Ctx} {ok : Addr → Prop} {acc : Addr} {u : List (Addr × Obj)} {ds ds' ds'' : List D} {pos pos' : Pos}
theorem ExA.go {ss : List Stmt} {s : Shared} {E : Value → Shared → Prop} (h : ExA prog w A env acc u Γ ds ss Γ' ds') (na : ¬ ok acc) (ta : topLine ≤ acc) (g : Gd ok env Γ s.heap) (a : AccI ok acc u ds s.heap) :
    wpAny (model prog w) A (execs ss env) (fun f s' => f = .next ∧ Gd ok env Γ' s'.heap ∧ AccI ok acc u ds' s'.heap ∧ KB (acc :: own env) s s') E s := h ok s E na ta g a
theorem tsta_or {x y : Expr} {a b : Bool} (h1 : TstA prog w A env acc u Γ ds x a) (h2 : a = false → TstA prog w A env acc u Γ ds y b) : TstA prog w A env acc u Γ ds (.BoolOp .Or [x, y] pos) (a || b) := fun ok s E g ac => by
  refine wpAny_isTrue_BoolOp (wpAny_allTrue_Or_cons (wpAny_mono (h1 ok s E g ac) (fun c s1 q => ?_) fun _ _ x => x))
  obtain ⟨rfl, k⟩ := q
  cases c with
  | true => simpa using k
  | false =>
    simp only [Bool.false_eq_true, if_false]
    refine wpAny_allTrue_Or_cons (wpAny_mono (h2 rfl ok s1 E (g.ext (kp_ext k)) (ac.ext (kp_ext k))) (fun c s2 q => ?_) fun _ _ x => x)
    obtain ⟨rfl, k2⟩ := q
    cases c with
    | true => simpa using kp_trans k k2
    | false =>
      simp only [Bool.false_eq_true, if_false]
      exact wpAny_allTrue_Or_nil ⟨rfl, kp_trans k k2⟩
end
variable {prog : Program} {w : World}

theorem app_attrS {A : Around} {E : Value → Shared → Prop} {a : Addr} {xs : Array Value} {n : Nat} {s : Shared} {Q : Value → Shared → Prop} (hx : s.heap.get? a = some { cls := .type "list", data := .seq xs n }) (hq : Q (.ref s.heap.objs.size) { s with heap := s.heap.push (appObj a), toks := s.toks + 1 }) :
    wpAny (model prog w) A (getAttr (.ref a) "append" true) Q E s := by
  obtain ⟨h, g, d, t, os⟩ := s
  exact app_attr hx hq
theorem isNone_part (p : Pt) : isNone (partD p) = (p == .star) := by cases p <;> rfl
theorem last_star (ps : List Pt) : (ps.drop (ps.length - 1) == [Pt.star]) = match ps.getLast? with | some .star => true | _ => false := by
  rcases List.eq_nil_or_concat ps with rfl | ⟨l, a, rfl⟩
  · rfl
  · rw [List.concat_eq_append]
    have e : (l ++ [a]).length - 1 = l.length := by simp
    rw [e, List.drop_left, List.getLast?_append]
    cases a <;> rfl
noncomputable def patSigns : List Nat := 42 :: 63 :: nameSigns
theorem sign_plain : ∀ c ∈ nameSigns, c ≠ 42 ∧ c ≠ 63 ∧ c ≠ 91 := by decide +kernel

theorem f_translate {pat : List Nat} (hp : pat.length < 1000) (ha : ∀ c ∈ pat, c ∈ patSigns) : ∃ r, fnRec "_translate" = some r ∧ Fn prog w 4 r [.str (S pat), .none, .str (S anyT)] (partsL (partsF pat)) := by
  refine ⟨_, rfl, fn_of (ps := ["pat", "STAR", "QUESTION_MARK"]) ⟨fun pm cd doc vs h => by obtain ⟨a, b, c, rfl⟩ := len3 h; rfl, fun n p hp => by simp only [List.mem_cons, List.not_mem_nil, or_false] at hp; rcases hp with rfl | rfl | rfl <;> exact .inl rfl, fun n p hp => nd_self (by rfl) p hp, rfl, rfl, rfl, rfl⟩ rfl fun A env pm cd doc L a he okE low room => ?_⟩
  intro ok s E g
  -- res = []
  refine wpAny_execs_cons (wpAny_Assign_Name (wpAny_List ?_) (by rw [he]; rfl))
  refine wpAny_items_nil ⟨show 0 ≤ sizeLine by decide, ?_⟩
  have kp := kp_push s { cls := .type "list", data := .seq ([] : List Value).toArray }
  have ext := kp_ext kp
  have tacc := g.W.top
  generalize hacc : s.heap.objs.size = acc at *
  have hnew : s.heap.get? acc = none := by rw [← hacc]; exact new_none (kp_refl s)
  have okc : ∀ a o, s.heap.get? a = some o → ok a → (ok a ∧ a ≠ acc) := fun a o e h => ⟨h, by rintro rfl; rw [hnew] at e; cases e⟩
  have oka : ok acc := g.N _ hnew
  have hat : (s.heap.push { cls := .type "list", data := .seq ([] : List Value).toArray }).get? acc = some { cls := .type "list", data := .seq ([] : List Value).toArray } := by rw [← hacc]; exact Heap.get?_push_size _ rfl
  have g1 : Gd (fun a => ok a ∧ a ≠ acc) env [("pat", .data (.str (S pat))), ("STAR", .data .none), ("QUESTION_MARK", .data (.str (S anyT)))] (s.heap.push { cls := .type "list", data := .seq ([] : List Value).toArray }) := by
    refine ⟨g.W.ext ext, fun a e => ⟨g.N.ext ext a e, ?_⟩, ?_⟩
    · rintro rfl
      rw [hat] at e; cases e
    · obtain ⟨m, cm, a, b, c⟩ := g.F
      refine ⟨m, cm, a.keeps ext, fun n k e => (b n k e).keeps ext, fun y sl e => ?_⟩
      obtain ⟨v, p, q⟩ := c y sl e
      refine ⟨v, p, ?_⟩
      cases sl with
      | data d => exact (Rd.mono okc q).ext ext
      | val u => exact q
  generalize hs1 : ({ s with heap := s.heap.push { cls := .type "list", data := .seq ([] : List Value).toArray } } : Shared) = s1 at *
  have hat' : s1.heap.get? acc = some { cls := .type "list", data := .seq ([] : List Value).toArray } := by rw [← hs1]; exact hat
  have g1' : Gd (fun a => ok a ∧ a ≠ acc) env [("pat", .data (.str (S pat))), ("STAR", .data .none), ("QUESTION_MARK", .data (.str (S anyT)))] s1.heap := by rw [← hs1]; exact g1
  refine store_go okE low (.loc (by rw [he]; rfl)) g1' (sl := .val (.ref acc)) rfl fun s2 g2 k2 l2 => ?_
  have off : ∀ (s' : Shared) Γ', Gd (fun a => ok a ∧ a ≠ acc) env Γ' s'.heap → ∀ x o, s'.heap.get? x = some o → (match o.data with | .dict .. => False | _ => True) → x ≠ env.locals := by
    rintro s' Γ' g' x o e d rfl
    obtain ⟨m, cm, ⟨oL, es, ep, eL, dL, _⟩, _⟩ := g'.F
    rw [e] at eL; cases eL
    rw [dL] at d; exact d
  have t1 : tch env "res" = env.locals := by unfold tch; rw [he]; rfl
  have t2 : tch env "add" = env.locals := by unfold tch; rw [he]; rfl
  have hp2 : s2.heap.get? acc = some { cls := .type "list", data := .seq ([] : List Value).toArray } := k2.kept _ _ (by rw [t1]; exact mem1.mpr (off _ _ g1' _ _ hat' trivial)) hat'
  -- add = res.append
  refine wpAny_execs_cons (wpAny_Assign_Name (PyProof.Rows.Attribute_name (nm_val okE g2.F rfl (app_attrS hp2 ?_))) (by rw [he]; rfl))
  have kpa : Keeps s2 { s2 with heap := s2.heap.push (appObj acc), toks := s2.toks + 1 } := ⟨_, _, _, rfl, fun _ _ e => Heap.get?_push_of_some _ e⟩
  have hu := Heap.get?_push_size s2.heap (o := appObj acc) rfl
  have hunew : s2.heap.get? s2.heap.objs.size = none := new_none (kp_refl s2)
  generalize hus : s2.heap.objs.size = u at *
  generalize hs3 : ({ s2 with heap := s2.heap.push (appObj acc), toks := s2.toks + 1 } : Shared) = s3 at *
  have hu3 : s3.heap.get? u = some (appObj acc) := by rw [← hs3]; exact hu
  have g3 := g2.ext (kp_ext kpa)
  refine store_go okE low (.loc (by rw [he]; rfl)) g3 (sl := .val (.ref u)) rfl fun s4 g4 k4 l4 => ?_
  have ac4 : AccI (fun a => ok a ∧ a ≠ acc) acc [(u, appObj acc)] ((partsF (pat.take 0)).map partD) s4.heap := by
    refine ⟨[], ⟨0, k4.kept _ _ (by rw [t2]; exact mem1.mpr (off _ _ g3 _ _ (kp_ext kpa _ _ hp2) trivial)) (kp_ext kpa _ _ hp2)⟩, .nil, fun y hy => by rw [List.mem_singleton.mp hy]; exact ⟨k4.kept _ _ (by rw [t2]; exact mem1.mpr (off _ _ g3 _ _ hu3 trivial)) hu3, by simp [appObj], trivial⟩⟩
  have kall : KB (acc :: own env) s s4 := by
    refine (KB.of kp).trans ((k2.mono fun b hb => ?_).trans ((KB.of kpa).trans (k4.mono fun b hb => ?_)))
    · rw [List.mem_singleton.mp hb, t1]; exact .tail _ (.head _)
    · rw [List.mem_singleton.mp hb, t2]; exact .tail _ (.head _)
  -- i, n = 0, len(pat)
  refine wpAny_execs_cons (assign_pair_swap room.hd (by rfl) (by rfl) (by rw [he]; rfl) ?_)
  refine (ev_int (i := 0)).go g4 fun v1 s5 r5 k5 g5 => (ev_lens (l := pat) okE (by rw [he]; rfl) (ev_name okE rfl) (by rfl) (by omega)).go g5 fun v2 s6 r6 k6 g6 s7 k7 => ?_
  have g7 := g6.ext (kp_ext k7)
  refine store_go okE low (.loc (by rw [he]; rfl)) g7 (sl := .data (natD pat.length)) (r6.ext (kp_ext k7)) fun s8 g8 k8 l8 => ?_
  have t3 : tch env "n" = env.locals := by unfold tch; rw [he]; rfl
  have t4 : tch env "i" = env.locals := by unfold tch; rw [he]; rfl
  refine store_go okE low (.loc (by rw [he]; rfl)) g8 (sl := .data (natD 0)) ((r5.ext (kp_ext (kp_trans k6 k7))).lists l8) fun s9 g9 k9 l9 => ?_
  have own1 : ∀ b ∈ [tch env "n"], b ∈ own env := fun b hb => by rw [List.mem_singleton.mp hb, t3]; exact .head _
  have own2 : ∀ b ∈ [tch env "i"], b ∈ own env := fun b hb => by rw [List.mem_singleton.mp hb, t4]; exact .head _
  have ac9 : AccI (fun a => ok a ∧ a ≠ acc) acc [(u, appObj acc)] ((partsF (pat.take 0)).map partD) s9.heap :=
    (((ac4.ext (kp_ext (kp_trans k5 (kp_trans k6 k7)))).kb okE g7.F (k8.mono own1)).kb okE g8.F (k9.mono own2))
  have kall9 : KB (acc :: own env) s s9 := kall.trans ((KB.of (kp_trans k5 (kp_trans k6 k7))).trans ((k8.mono fun b hb => .tail _ (own1 b hb)).trans (k9.mono fun b hb => .tail _ (own2 b hb))))
  let C : Nat → Ctx := fun i => [("i", .data (natD i)), ("n", .data (natD pat.length)), ("add", .val (.ref u)), ("res", .val (.ref acc)), ("pat", .data (.str (S pat))), ("STAR", .data .none), ("QUESTION_MARK", .data (.str (S anyT)))]
  have nacc : ¬ (ok acc ∧ acc ≠ acc) := fun q => q.2 rfl
  refine wpAny_execs_cons (wpAny_While (codeAny_whileLoop (fun m s' => ∃ i, i ≤ pat.length ∧ m = pat.length - i ∧ Gd (fun a => ok a ∧ a ≠ acc) env (C i) s'.heap ∧ AccI (fun a => ok a ∧ a ≠ acc) acc [(u, appObj acc)] ((partsF (pat.take i)).map partD) s'.heap ∧ KB (acc :: own env) s s') ?_ pat.length
    ⟨0, Nat.zero_le _, rfl, g9.sub ⟨rfl, rfl, rfl, rfl, rfl, rfl, rfl, trivial⟩, ac9, kall9⟩))
  rintro m s' ⟨i, hi, rfl, g', ac', k'⟩
  refine (tst_cmp (b := decide (((i : Nat) : Int) < (pat.length : Nat))) (ev_name okE rfl) (ev_name okE rfl) op_lti).go g' fun s10 k10 g10 => ?_
  have ac10 := ac'.ext (kp_ext k10)
  have k10' := k'.trans (KB.of k10)
  by_cases hlt : i < pat.length
  · have e : decide (((i : Nat) : Int) < (pat.length : Nat)) = true := by simpa using hlt
    rw [e]
    simp only [if_true]
    refine wpAny_mono (ExA.go (Γ' := C (i + 1)) (ds' := (partsF (pat.take (i + 1))).map partD) ?_ nacc tacc g10 ac10) (fun f s11 q => ?_) fun _ _ x => x
    · have hx := ha _ (List.getElem_mem hlt)
      have hsucc := partsF_take pat i hlt
      have hget : pat[((i : Nat) : Int).toNat]? = some pat[i] := by
        show pat[i]? = _
        exact List.getElem?_eq_getElem hlt
      have hpl : (partsF (pat.take i)).length ≤ 1000 := Nat.le_trans (partsF_len _) (by rw [List.length_take]; omega)
      rw [hsucc]
      generalize hxx : pat[i] = x at *
      generalize partsF (pat.take i) = ps at *
      have hlk1 : ps.length < 2 ^ 62 := by omega
      refine exa_one okE (ex1_assign (d := .str (S [x])) okE low (.loc (by rw [he]; rfl)) (ev_sign (ev_name okE rfl) (ev_name okE rfl) (by omega) hget (by omega)) (by rw [he]; rfl)) (exa_one okE (ex1_assign (d := natD (i + 1)) okE low (.loc (by rw [he]; rfl)) ((ev_bin (ev_name okE rfl) ev_int op_add).to rfl) (by rw [he]; rfl)) (exa_sub (exa_if (Γ' := ("i", .data (natD (i + 1))) :: ("c", .data (.str (S [x]))) :: C i) (c := ([x] == [42])) (TstA.of (tst_cmp (ev_name okE rfl) (ev_lit (l := [42])) op_eqs)) ?_ ?_) ⟨rfl, rfl, rfl, rfl, rfl, rfl, rfl, trivial⟩))
      · intro hc
        have hc42 : x = 42 := by simpa using hc
        refine exa_if (c := !(ps.drop (ps.length - 1) == [.star])) ?_ (fun hb => ?_) fun hb => ?_
        · have e1 : (!(ps.drop (ps.length - 1) == [.star])) = ((ps.map partD).isEmpty || (!(ps.drop (ps.length - 1) == [.star]))) := by
            cases ps <;> rfl
          rw [e1]
          refine tsta_or (tsta_res okE rfl (by rw [List.length_map]; exact hlk1)) fun hne => ?_
          have hne' : ps.map partD ≠ [] := by intro q; rw [q] at hne; cases hne
          have hps : ps ≠ [] := by rintro rfl; exact hne' rfl
          have e2 : (!(ps.drop (ps.length - 1) == [.star])) = !isNone ((ps.map partD).getLast hne') := by
            rw [last_star, List.getLast_map, isNone_part, List.getLast?_eq_some_getLast hps]
            cases ps.getLast hps <;> rfl
          rw [e2]
          exact tsta_last okE rfl rfl hne' (by rw [List.length_map]; exact hlk1)
        · have e : (partStep ps x).map partD = ps.map partD ++ [.none] := by
            unfold partStep
            rw [if_neg (by rw [hc42]; simpa using hb), List.map_append, hc42]; rfl
          rw [e]
          exact exa_add okE (.head _) rfl (ev_name okE rfl) (by rfl) (by rw [List.length_map]; exact Nat.le_trans hpl (by decide)) (by rw [he]; rfl) (by rfl)
        · have e : (partStep ps x).map partD = ps.map partD := by
            unfold partStep
            rw [if_pos (by rw [hc42]; simpa using hb), List.append_nil]
          rw [e]
          exact exa_nil
      · intro hc
        have hc42 : ¬ x = 42 := by simpa using hc
        have e0 : (partStep ps x).map partD = ps.map partD ++ [partD (toPt x)] := by
          unfold partStep
          rw [if_neg (by simp [hc42]), List.map_append]; rfl
        rw [e0]
        refine exa_if (c := ([x] == [63])) (TstA.of (tst_cmp (ev_name okE rfl) (ev_lit (l := [63])) op_eqs)) (fun hb => ?_) fun hb => ?_
        · have hc63 : x = 63 := by simpa using hb
          have e : partD (toPt x) = .str (S anyT) := by rw [hc63]; rfl
          rw [e]
          exact exa_add okE (.head _) rfl (ev_name okE rfl) (by rfl) (by rw [List.length_map]; exact Nat.le_trans hpl (by decide)) (by rw [he]; rfl) (by rfl)
        · have hc63 : ¬ x = 63 := by simpa using hb
          have hn : x ∈ nameSigns := by
            rcases List.mem_cons.mp hx with h | h
            · exact absurd h hc42
            · rcases List.mem_cons.mp h with h | h
              · exact absurd h hc63
              · exact h
          obtain ⟨_, _, h91⟩ := sign_plain x hn
          have e : partD (toPt x) = .str (S (if x = 43 then [92, 43] else [x])) := by
            unfold toPt; rw [if_neg hc42, if_neg hc63]; rfl
          rw [e]
          refine exa_if (c := ([x] == [91])) (TstA.of (tst_cmp (ev_name okE rfl) (ev_lit (l := [91])) op_eqs)) (fun hz => absurd (by simpa using hz) h91) fun hz => ?_
          obtain ⟨r2, hr2, F2⟩ := f_escape (prog := prog) (w := w) hn
          exact exa_add okE (.head _) rfl (ev_call okE hr2 (by decide) (by rw [he]; rfl) F2 (room.le (by decide)) (.cons (ev_name okE rfl) (by rfl) .nil)) (by rfl) (by rw [List.length_map]; exact Nat.le_trans hpl (by decide)) (by rw [he]; rfl) (by rfl)
    · obtain ⟨rfl, q1, q2, q3⟩ := q
      exact ⟨pat.length - (i + 1), Nat.sub_lt_sub_left hlt (Nat.lt_succ_self i), i + 1, hlt, rfl, q1, q2, k10'.trans q3⟩
  · have e : decide (((i : Nat) : Int) < (pat.length : Nat)) = false := by simpa using hlt
    have hie : i = pat.length := by omega
    subst hie
    rw [e]
    simp only [Bool.false_eq_true, if_false]
    refine wpAny_execs_nil ?_
    refine wpAny_execs_cons (wpAny_Assert_new room.hd ((tst_cmp (b := true) (ev_name okE rfl) (ev_name okE rfl) (by have h := op_eqi (prog := prog) (w := w) (A := A) (a := (pat.length : Nat)) (b := (pat.length : Nat)); rw [beq_self_eq_true] at h; exact h)).go g10 fun s11 k11 g11 => ?_))
    simp only [if_true]
    refine wpAny_execs_cons (wpAny_Return_some (nm_val okE g11.F rfl ⟨_, rfl, ?_, ?_⟩))
    · obtain ⟨vs, pl, rd, q⟩ := ac10.ext (kp_ext k11)
      rw [List.take_length] at rd
      exact .list oka pl.isList (rd.mono fun a o _ q => q.1)
    · have kz := k10'.trans (KB.of k11)
      obtain ⟨hz, tz, _, rfl, kk⟩ := kz
      exact ⟨hz, tz, _, rfl, fun b o hb e => kk b o (fun q => by
        rcases List.mem_cons.mp q with rfl | q
        · rw [hnew] at e; cases e
        · exact hb q) e⟩
end Mine
end
section
open PySem PySem.Calls PyProof.Rows PySem.W
set_option maxRecDepth 100000
set_option linter.all false
set_option maxHeartbeats 1000000
namespace Mine
/-- octets -/
noncomputable def By (l : List Nat) : Array UInt8 := (l.map (·.toUInt8)).toArray
noncomputable def small (l : List Nat) : Prop := ∀ c ∈ l, c < 256
theorem By_size (l : List Nat) : (By l).size = l.length := by simp [By]
theorem By_app (a b : List Nat) : By a ++ By b = By (a ++ b) := by simp [By]
theorem By_at {l : List Nat} {i c : Nat} (h : l[i]? = some c) : (By l)[i]? = some c.toUInt8 := by simp [By, h]
theorem By_mk (l : List Nat) : byteArr (l.map fun n => ((n : Nat) : Int)) = By l := by
  unfold byteArr By
  rw [List.map_map]
  rfl
theorem toNat_of {c : Nat} (h : c < 256) : (c.toUInt8).toNat = c := by
  rw [Nat.toUInt8, UInt8.toNat_ofNat']
  exact Nat.mod_eq_of_lt h
section
variable {prog : Program} {w : World} {A : Around} {env : Env} {Γ : Ctx} {ok : Addr → Prop}
theorem op_addby {a b : List Nat} (h : a.length + b.length ≤ 16777216) : Op2 prog w A (binaryOp .Add) (.bytes (By a)) (.bytes (By b)) (.bytes (By (a ++ b))) := fun ok s E u v N _ ru rv => by
  obtain ⟨t, rfl⟩ := ru.isBytes
  obtain ⟨t', rfl⟩ := rv.isBytes
  refine KBy.add_bytes (by rw [By_size, By_size]; exact h) fun t2 k => ?_
  rw [By_app]
  exact ⟨.bytes _ _, kp_tok _ _⟩
theorem op_mkbytes {l : List Nat} (hh : A.handled = none) (hs : small l) (hl : l.length ≤ sizeLine) : Op1 prog w A (fun v => call (.type "bytes") [v]) (natsL l) (.bytes (By l)) := fun ok s E v N _ r => by
  obtain ⟨a, vs, rfl, ka, h, ra⟩ := r.isList
  have hi : IntsAre vs (l.map fun n => ((n : Nat) : Int)) := RdAll.ints (by rw [List.map_map]; exact ra)
  refine call_bytes_ints h hi (fun n hn => ?_) (by rw [ra.length, List.length_map]; exact hl) hh fun h' t k hk => ?_
  · obtain ⟨m, hm, rfl⟩ := List.mem_map.mp hn
    have := hs m hm
    omega
  · rw [By_mk]
    exact ⟨.bytes _ _, ⟨h', k, _, rfl, hk⟩⟩
theorem ev_bitem {v i : Expr} {pos : Pos} {l : List Nat} {k : Int} {c : Nat} (hv : Ev prog w A env Γ v (.bytes (By l))) (hi : Ev prog w A env Γ i (.int k)) (h0 : 0 ≤ k) (hk : l[k.toNat]? = some c) (hc : c < 256) (hl : l.length ≤ 1000000)
    (hs : ∀ x t u, subscripted i false (.bytes x t) (.int k u) = operate [.bytes x t, .int k u] (getItem (.bytes x t) (.int k u)) := by intro _ _ _; with_unfolding_all rfl) : Ev prog w A env Γ (.Subscript v i pos) (natD c) := fun ok s E g =>
  Subscript_ (hv.go g fun o s1 r k1 g1 => hi.go g1 fun x s2 rx k2 g2 => by
    obtain ⟨t, rfl⟩ := rx.isInt
    obtain ⟨t', rfl⟩ := r.isBytes
    have hlt : k.toNat < l.length := (List.getElem?_eq_some_iff.mp hk).1
    refine tail_any (PySem.W.typeIs_bytes _ _ _) FB.slot_bytes_getitem.lookup (getItem_gives (PySem.W.typeIs_bytes _ _ _) (by decide) FB.slot_bytes_getitem FB.entry_bytes_getitem (FB.args_bytes_getitem_2 _ _) (gives_bytes_getitem _ k t' t c.toUInt8 ?_ ?_) ?_) (hs _ _ _)
    · simp only [Builtin.Bytes.fitsIndex, Bool.and_eq_true, decide_eq_true_eq]; omega
    · rw [By_size, seqIndex_of h0 (by omega)]
      exact By_at hk
    · have e := toNat_of hc
      refine ⟨?_, kp_trans k1 (kp_trans k2 (kp_tok _ _))⟩
      show Rd _ _ (.int (c.toUInt8.toNat : Nat) _) (natD c)
      rw [e]
      exact .int _ _)
theorem By_toList (l : List Nat) : (By l).toList = l.map (·.toUInt8) := by simp [By]
theorem bcut_to (l : List Nat) (k : Nat) : KBy.picked (By l) none (some (k : Int)) = By (l.take k) := by
  rw [KBc.picked_eq, By_toList, By_size]
  simp only [Option.elim]
  rw [clipAt_nat, List.drop_zero, Nat.sub_zero, ← List.map_take]
  unfold By
  congr 2
  rw [List.take_eq_take_iff]
  exact Nat.min_eq_left (Nat.min_le_right _ _)
theorem bcut_from (l : List Nat) (k : Nat) : KBy.picked (By l) (some (k : Int)) none = By (l.drop k) := by
  rw [KBc.picked_eq, By_toList, By_size]
  simp only [Option.elim]
  rw [clipAt_nat, ← List.map_drop, ← List.map_take]
  unfold By
  congr 2
  rw [List.take_of_length_le (by rw [List.length_drop]; exact Nat.le_refl _)]
  by_cases h : k ≤ l.length
  · rw [Nat.min_eq_left h]
  · rw [Nat.min_eq_right (by omega), List.drop_of_length_le (Nat.le_refl _), List.drop_of_length_le (by omega)]
theorem ev_bcut {v : Expr} {lo up : Option Expr} {p pos : Pos} {l r : List Nat} {a b : Option Int} (hv : Ev prog w A env Γ v (.bytes (By l))) (hlo : EvP prog w A env Γ lo a) (hup : EvP prog w A env Γ up b) (hr : KBy.picked (By l) a b = By r) (hl : r.length ≤ sizeLine) :
    Ev prog w A env Γ (.Subscript v (.Slice lo up none p) pos) (.bytes (By r)) := fun ok s E g =>
  Subscript_ (hv.go g fun o s1 ro k1 g1 => wpAny_Slice (part_go hlo g1 fun vl s2 ul el k2 g2 => part_go hup g2 fun vu s3 uu eu k3 g3 => wpAny_pure (by
    obtain ⟨t, rfl⟩ := ro.isBytes
    subst el eu
    have pa : ∀ (x : Option Int) (u : Tok), IsPart (partValue (x.map fun i => (i, u))) x := fun x u => by
      cases x with
      | none => exact .none
      | some i => exact .int i u
    refine tail_any (PySem.W.typeIs_bytes _ _ _) FB.slot_bytes_getitem.lookup (getItem_meets (PySem.W.typeIs_bytes _ _ _) (by decide) FB.slot_bytes_getitem FB.entry_bytes_getitem (FB.args_bytes_getitem_2 _ _) (KBc.meets_slice2 (By l) t _ (pa a ul) (pa b uu)) ⟨Heap.IsSliceOf.new _ _ _ _, ?_, ?_⟩) (by rfl)
    · rw [hr, By_size]; exact hl
    · intro t' k
      rw [hr]
      exact ⟨.bytes _ _, kp_trans k1 (kp_trans k2 (kp_trans k3 (kp_trans (kp_push _ _) (kp_tok _ _))))⟩)))

theorem iter_bytes {I : Addr} {l : List Nat} {t : Tok} (hh : A.handled = none) (nT : topLine ≤ I) (okI : ok I) (hs : small l) :
    Iter prog w A ok I (l.map natD) (fun i h => KBw.IsBytesIter h I (By l) t i) where
  next := fun i d s Q E e st q => by
    rw [List.getElem?_map] at e
    obtain ⟨c, hc, rfl⟩ := Option.map_eq_some_iff.mp e
    have hlt := hs c (List.mem_of_getElem? hc)
    refine KBw.next_item st (By_at hc) fun h' hit' hs' => ?_
    refine q _ _ ?_ hit' (KB.step fun b o hb e => hs'.extBut b o (mem1.mp hb) e)
    rw [toNat_of hlt]
    exact .int _ _
  stop := fun s Q E st q => by
    refine KBw.next_end hh st (by simp [By]) fun h' he' => q _ (KB.step fun b o hb e => he' b o (mem1.mp hb) e)
  go := fun i s Q E t v st q => let ⟨o, ho, hc, hd⟩ := st; go_plain ho hc hd (by decide) q
  keep := fun i h h' st li k => let ⟨o, ho, r⟩ := st; ⟨o, k o ho, r⟩
  obj := fun i h st => let ⟨o, ho, hc, hd⟩ := st; ⟨nT, o, _, ho, hd, fun q t => by simp⟩
  self := fun i s Q E st q => KBw.pyIter_self st q
  okI := okI
theorem evi_bytes {e : Expr} {l : List Nat} (hh : A.handled = none) (h : Ev prog w A env Γ e (.bytes (By l))) (hs : small l) : EvI prog w A env Γ e (l.map natD) := fun ok s E Q g q =>
  h.go g fun v s1 r k1 g1 => by
    obtain ⟨t, rfl⟩ := r.isBytes
    have kp := kp_push s1 { cls := .type "bytes_iterator", data := .fields #[.bytes (By l) t, .int 0 0] }
    refine KBw.pyIter_bytes (q _ _ (fun ok2 h2 => ⟨_, iter_bytes (t := t) hh g1.W.top (h2 _ _ (Heap.get?_push_size _ rfl) g1.N.size) hs, _, Heap.get?_push_size _ rfl, rfl, rfl⟩) (new_none k1) (kp_trans k1 kp) (g1.ext (kp_ext kp)))
end
end Mine
end
section
open PySem PySem.Calls PyProof.Rows PySem.W
set_option maxRecDepth 100000
set_option linter.all false
set_option maxHeartbeats 1000000
namespace Mine
variable {prog : Program} {w : World}
section
variable {A : Around} {env : Env} {Γ : Ctx}
/-- t is T, for a name that holds a type -/
theorem tst_isT {x f : Str} {T U : String} {p q pos : Pos} (okE : EnvOk env) (hx : List.lookup x Γ = some (.val (.type T))) (hf : bootBuiltins f = some (.type U)) (hp : f ∈ bltNames) (hk : env.kindOf f = some .globalImplicit)
    (hm : behindInMarks .Is (.Name f q) = false := by with_unfolding_all rfl) (h1 : ((x == ("__debug__" : Str)) || (x == ("__classdict__" : Str))) = false := by decide) (hn : f ≠ "__name__" := by decide) (hd : (f == ("__debug__" : Str)) = false := by decide) :
    Tst prog w A env Γ (.Compare (.Name x p) [.Is] [.Name f q] pos) (Value.type T == Value.type U) := fun ok s E g =>
  wpAny_isTrue_Compare1 (nm_val okE g.F hx (name_blt okE g.W hf hp hk (by
    show wpAny (model prog w) A (pure (Value.bool (Value.type T == Value.type U))) _ _ _
    exact wpAny_pure (wpAny_truthy_bool ⟨rfl, kp_refl s⟩)) hn hd) h1) hm
/-- t = type(x) -/
theorem ex1_type {t : Str} {e : Expr} {T : String} {p q cp pos : Pos} {d : D} (okE : EnvOk env) (low : EnvLow env) (cs : CanSt env t) (hk : env.kindOf "type" = some .globalImplicit) (h : Ev prog w A env Γ e d) (hse : starEach [e] env = [(false, eval e env)])
    (hT : ∀ (ok : Addr → Prop) (s : Shared) v, Rd ok s.heap v d → s.TypeIs v T) (hnb : (Value.type T == Value.type "builtin_function_or_method") = false) (hs : swapsWith (.Call (.Name "type" q) [e] [] cp) (some (.Name t p)) pos.line env = pure false) :
    Ex1 prog w A env Γ (.Assign [.Name t p] (.Call (.Name "type" q) [e] [] cp) pos) ((t, .val (.type T)) :: Γ) := fun ok s E g => by
  refine wpAny_Assign_Name (wpAny_Call_NameR (name_blt okE g.W (v := .type "type") (by kernel_rfl) (by decide) hk ?_)) hs
  rw [hse]
  refine PySem.callWith_type rfl (Calls.evalArgs_plain (Calls.spliced_cons (h.go g fun v s1 r k1 g1 => Calls.spliced_nil (call_type_of (hT ok s1 v r) hnb ?_))))
  exact store_go okE low cs g1 (sl := .val (.type T)) rfl fun s2 g2 k2 _ => ⟨rfl, g2, (KB.of k1).trans (k2.mono fun b hb => by rw [List.mem_singleton.mp hb]; exact tch_own cs)⟩
end

theorem f_buffer {l : List Nat} : ∃ r, fnRec "_buffer" = some r ∧ Fn prog w 2 r [.bytes (By l)] (.bytes (By l)) := by
  refine ⟨_, rfl, fn_of (ps := ["data"]) ⟨fun pm cd doc vs h => by obtain ⟨a, rfl⟩ := len1 h; rfl, fun n p hp => by simp only [List.mem_cons, List.not_mem_nil, or_false] at hp; rcases hp with rfl; exact .inl rfl, fun n p hp => nd_self (by rfl) p hp, rfl, rfl, rfl, rfl⟩ rfl fun A env pm cd doc L a he okE low room => ?_⟩
  refine exr_cons (ex1_type (T := "bytes") okE low (.loc (by rw [he]; rfl)) (by rw [he]; rfl) (ev_name okE rfl) (by rfl) (fun ok s v r => by obtain ⟨t, rfl⟩ := r.isBytes; exact PySem.W.typeIs_bytes _ _ _) (by decide) (by rfl)) ?_
  exact exr_if (c := true) (tst_isT (T := "bytes") (U := "bytes") okE rfl (by kernel_rfl) (by decide) (by rw [he]; rfl)) (fun _ => exr_ret (ev_name okE rfl)) (fun h => by cases h) rfl
theorem f_truth : ∃ r, fnRec "_truth" = some r ∧ Fn prog w 2 r [.bool false] (.bool false) := by
  refine ⟨_, rfl, fn_of (ps := ["x"]) ⟨fun pm cd doc vs h => by obtain ⟨a, rfl⟩ := len1 h; rfl, fun n p hp => by simp only [List.mem_cons, List.not_mem_nil, or_false] at hp; rcases hp with rfl; exact .inl rfl, fun n p hp => nd_self (by rfl) p hp, rfl, rfl, rfl, rfl⟩ rfl fun A env pm cd doc L a he okE low room => ?_⟩
  refine exr_cons (ex1_type (T := "bool") okE low (.loc (by rw [he]; rfl)) (by rw [he]; rfl) (ev_name okE rfl) (by rfl) (fun ok s v r => by cases r.isBool; exact PySem.typeIs_bool _ _) (by decide) (by rfl)) ?_
  refine exr_if (c := true) (tst_row (.orF (tst_cmp (ev_name okE rfl) ev_none op_isNone) (.orT (tst_isT (T := "bool") (U := "bool") okE rfl (by kernel_rfl) (by decide) (by rw [he]; rfl))))) (fun _ => exr_ret (ev_if (c := false) ?_ (fun h => by cases h) fun _ => ev_bool)) (fun h => by cases h) rfl
  exact fun ok s E g => wpAny_isTrue_value ((ev_name (d := .bool false) okE rfl).go g fun v s1 r k g1 => by cases r.isBool; exact wpAny_truthy_bool ⟨rfl, k⟩)
end Mine
end
section
open PySem PySem.Calls PyProof.Rows PySem.W
set_option maxRecDepth 100000
set_option linter.all false
set_option maxHeartbeats 1000000
namespace Mine
variable {prog : Program} {w : World}

/-- entering any def of no cells of its own -/
theorem enterN {A : Around} {fd : FuncData} {body : List Stmt} {args : Args} {binds : List (Str × Value)} {a : Addr} {o : Obj} {R : Result → Shared → Prop} {s : Shared} {k : Nat} (room : Room (k + 1) A) (W : Wd s.heap) (ho : s.heap.get? a = some o) (hd : o.data = .func fd) (hc : s.heap.CodeRec fd.code fd.qualname)
    (hbody : fd.body = .stmts body) (hbind : BindsTo s fd args binds) (hcell : ∀ x ∈ fd.scope.names, x.2 ≠ .cell) (hloc : ∀ x ∈ binds, fd.scope.names.lookup x.1 = some .local)
    (hglob : fd.globals = mainGlobals) (hblt : fd.builtins = builtinsNs) (hap : fd.closure.Pairwise fun x y => x.2 ≠ y.2) (hself : ∀ p ∈ fd.closure, fd.closure.lookup p.1 = some p.2) (hlow : ∀ p ∈ fd.closure, topLine ≤ p.2)
    (hk : fd.scope.kind = .function) (hco : fd.scope.isCoroutine = false) (hgen : fd.scope.isGenerator = false)
    (h : ∀ s₁ env, env = callEnv fd s.heap.objs.size a → EnvOk env → EnvLow env → s.heap.get? env.locals = none → Keeps s s₁ → Wd s₁.heap → s₁.heap.Ns env.locals (fun x => binds.reverse.lookup x) → Room k (A.deeper env) →
      wpAny (model prog w) (A.deeper env) (execs body env) (fun f s' => R (.ok (.ret (match f with | .ret v => v | _ => .none))) s')
        (fun e s' => wpAny (model prog w) (A.deeper env) (leaving env e) (fun _ s'' => R (.error e) s'') (fun e' s'' => R (.error e') s'') s') s₁) :
    codeAny (model prog w) A (.call (.ref a) args) R s := by
  refine codeAny_call_function (by have := room.depth; show A.depth < 1000; omega) ho hd hco hgen hbody hc (hbind _ _ _ _ ?_)
  refine wpAny_newFunctionEnv hcell hloc (fun h₀ hns₀ hsb₀ => ?_) hk
  have kp : Keeps s { s with heap := h₀, toks := s.toks + binds.length } := ⟨h₀, _, _, rfl, fun b o e => hsb₀.extBut b o (Nat.ne_of_lt (Heap.lt_size e)) (Heap.get?_push_of_some _ e)⟩
  refine ⟨W.nolimit.keeps (kp_ext kp), codeAny_func ?_⟩
  have lw : EnvLow (callEnv fd s.heap.objs.size a) := ⟨fun b hb => by
    rcases List.mem_cons.mp hb with rfl | hb
    · exact W.top
    · obtain ⟨p, hp, rfl⟩ := List.mem_map.mp hb
      exact hlow p hp⟩
  exact h _ _ rfl ⟨hk, hglob, hblt, hap, hself, lw⟩ lw (new_none (kp_refl s)) kp (W.ext (kp_ext kp)) hns₀ room.deeper

open Classical in
/-- names with data in a frame of locals -/
theorem fm_of {ok : Addr → Prop} {env : Env} {h : Heap} {m : Str → Option Value} {Γ : Ctx} (hn : h.Ns env.locals m) (hc : ∀ n c, env.cells.lookup n = some c → ∃ v, h.IsCell c v) (hx : ∀ x sl, Γ.lookup x = some sl → env.kindOf x = some .local ∧ ∃ v, m x = some v ∧ sl.At ok h v) : Fm ok env Γ h := by
  refine ⟨m, fun n => match env.cells.lookup n with | some c => if q : ∃ v, h.IsCell c v then q.choose else none | none => none, hn, fun n c e => ?_, fun x sl e => ?_⟩
  · have q := hc n c e
    simp only [e]
    rw [dif_pos q]
    exact q.choose_spec
  · obtain ⟨k, v, e1, e2⟩ := hx x sl e
    exact ⟨v, .inl ⟨k, e1⟩, e2⟩

end Mine
end
section
open PySem PySem.Calls PyProof.Rows PySem.W
set_option maxRecDepth 100000
set_option linter.all false
set_option maxHeartbeats 1000000
namespace Mine
abbrev Sp := (Addr → Prop) → Heap → Prop
/-- what speaks of the addresses Y alone (and of lists) -/
noncomputable def Stab (Y : List Addr) (P : Sp) : Prop := ∀ ok h h', P ok h → Lists ok h h' → (∀ b ∈ Y, ∀ o, h.get? b = some o → h'.get? b = some o) → P ok h'
noncomputable def There (Y : List Addr) (h : Heap) : Prop := ∀ b ∈ Y, ∃ o, h.get? b = some o
theorem There.keep {Y : List Addr} {h h' : Heap} (t : There Y h) (k : ∀ b ∈ Y, ∀ o, h.get? b = some o → h'.get? b = some o) : There Y h' := fun b hb => let ⟨o, e⟩ := t b hb; ⟨o, k b hb o e⟩
/-- a raised error with a text -/
structure IsErr (e : Value) (msg : List Nat) (h : Heap) : Prop where
  of : ∃ a o vs tp ot n u, e = .ref a ∧ topLine ≤ a ∧ h.get? a = some o ∧ o.cls = .type "ValueError" ∧ o.data = .fields vs ∧ vs[0]? = some (.ref tp) ∧ h.get? tp = some ot ∧ ot.cls = .type "tuple" ∧ ot.data = .seq #[.str (S msg) u] n
section
variable {prog : Program} {w : World} {A : Around} {env : Env} {Γ Γ1 Γ2 : Ctx} {X Y : List Addr} {P P1 P2 : Sp} {er : Option (List Nat)}

/-- what runs through or raises, and turns X beside the frame -/
noncomputable def Out (env : Env) (X Y : List Addr) (Γ : Ctx) (P : Sp) (m : Flow → Shared → Prop) (E : Value → Shared → Prop) (ok : Addr → Prop) (s : Shared) (er : Option (List Nat)) : Prop :=
  (∀ s', er = none → Gd ok env Γ s'.heap → P ok s'.heap → There Y s'.heap → KB (X ++ own env) s s' → m .next s') ∧
  (∀ e s' msg, er = some msg → IsErr e msg s'.heap → Wd s'.heap → Fresh ok s'.heap → P ok s'.heap → There Y s'.heap → KB (X ++ own env) s s' → E e s')
theorem Out.after {env : Env} {X Y : List Addr} {Γ : Ctx} {P : Sp} {m : Flow → Shared → Prop} {E : Value → Shared → Prop} {ok : Addr → Prop} {s s1 : Shared} {er : Option (List Nat)} (o : Out env X Y Γ P m E ok s er) (k : KB (X ++ own env) s s1) : Out env X Y Γ P m E ok s1 er :=
  ⟨fun s' e g p t k' => o.1 s' e g p t (k.trans k'), fun e s' msg em ie w f p t k' => o.2 e s' msg em ie w f p t (k.trans k')⟩
noncomputable def ExO (prog : Program) (w : World) (A : Around) (env : Env) (X Y : List Addr) (Γ : Ctx) (P : Sp) (ss : List Stmt) (Γ' : Ctx) (P' : Sp) (er : Option (List Nat)) : Prop :=
  ∀ ok s (Q : Flow → Shared → Prop) E, PassesOwn (model prog w) A env E → (∀ a ∈ X, ¬ ok a) → Gd ok env Γ s.heap → P ok s.heap → There Y s.heap → Out env X Y Γ' P' Q E ok s er → wpAny (model prog w) A (execs ss env) Q E s
noncomputable def ExO1 (prog : Program) (w : World) (A : Around) (env : Env) (X Y : List Addr) (Γ : Ctx) (P : Sp) (st : Stmt) (Γ' : Ctx) (P' : Sp) (er : Option (List Nat)) : Prop :=
  ∀ ok s (Q : Flow → Shared → Prop) E, PassesOwn (model prog w) A env E → (∀ a ∈ X, ¬ ok a) → Gd ok env Γ s.heap → P ok s.heap → There Y s.heap → Out env X Y Γ' P' Q E ok s er → wpAny (model prog w) A (exec st env) Q E s

theorem stab_kb {ok : Addr → Prop} {s s' : Shared} (st : Stab Y P) (off : ∀ a ∈ Y, a ∉ own env) (okE : EnvOk env) (F : Fm ok env Γ s.heap) (p : P ok s.heap) (k : KB (own env) s s') : P ok s'.heap :=
  st ok _ _ p (lists_of okE F k) fun b hb o e => k.kept b o (off b hb) e
theorem stab_ext {ok : Addr → Prop} {h h' : Heap} (st : Stab Y P) (p : P ok h) (x : Ext h h') : P ok h' := st ok _ _ p x.lists fun b _ o e => x b o e
theorem There.ext {h h' : Heap} (t : There Y h) (x : Ext h h') : There Y h' := t.keep fun b _ o e => x b o e
theorem There.kb {s s' : Shared} (t : There Y s.heap) (off : ∀ a ∈ Y, a ∉ own env) (k : KB (own env) s s') : There Y s'.heap := t.keep fun b hb o e => k.kept b o (off b hb) e

theorem exo_nil : ExO prog w A env X Y Γ P [] Γ P none := fun ok s Q E hE na g p t o => wpAny_execs_nil (o.1 s rfl g p t (KB.refl _ _))
theorem exo_cons {st : Stmt} {r : List Stmt} (h : ExO1 prog w A env X Y Γ P st Γ1 P1 none) (k : ExO prog w A env X Y Γ1 P1 r Γ2 P2 er) : ExO prog w A env X Y Γ P (st :: r) Γ2 P2 er := fun ok s Q E hE na g p t o =>
  wpAny_execs_cons (h ok s _ E hE na g p t ⟨fun s1 _ g1 p1 t1 k1 => k ok s1 Q E hE na g1 p1 t1 (o.after k1), fun e s' m em => by cases em⟩)
theorem exo_sub {ss : List Stmt} (h : ExO prog w A env X Y Γ P ss Γ1 P1 er) (k : Sub Γ2 Γ1) : ExO prog w A env X Y Γ P ss Γ2 P1 er := fun ok s Q E hE na g p t o =>
  h ok s Q E hE na g p t ⟨fun s1 e g1 => o.1 s1 e (g1.sub k), o.2⟩
theorem exo1_of {st : Stmt} (sb : Stab Y P) (off : ∀ a ∈ Y, a ∉ own env) (okE : EnvOk env) (h : Ex1 prog w A env Γ st Γ1) : ExO1 prog w A env X Y Γ P st Γ1 P none := fun ok s Q E hE na g p t o =>
  wpAny_mono (h ok s E g) (fun f s1 z => by
    obtain ⟨rfl, g1, k1⟩ := z
    exact o.1 s1 rfl g1 (stab_kb sb off okE g.F p k1) (t.kb off k1) (k1.mono fun b hb => List.mem_append.mpr (.inr hb))) fun _ _ x => x
theorem exo1_if {tt : Expr} {b o : List Stmt} {pos : Pos} {c : Bool} (sb : Stab Y P) (h : Tst prog w A env Γ tt c) (h1 : c = true → ExO prog w A env X Y Γ P b Γ1 P1 er) (h2 : c = false → ExO prog w A env X Y Γ P o Γ1 P1 er) :
    ExO1 prog w A env X Y Γ P (.If tt b o pos) Γ1 P1 er := fun ok s Q E hE na g p t oo =>
  wpAny_If (h.go g fun s1 k g1 => by
    have x := kp_ext k
    cases c with
    | true => exact h1 rfl ok s1 Q E hE na g1 (stab_ext sb p x) (t.ext x) (oo.after (KB.of k))
    | false => exact h2 rfl ok s1 Q E hE na g1 (stab_ext sb p x) (t.ext x) (oo.after (KB.of k)))

/-- what holds ahead of a loop's turn -/
structure ForO (ok : Addr → Prop) (env : Env) (X Y : List Addr) (C : Nat → Ctx) (PP : Nat → Sp) (ds : List D) (St : Nat → Heap → Prop) (s : Shared) (n : Nat) (s' : Shared) (i : Nat) : Prop where
  le : i ≤ ds.length
  n_ : n = ds.length - i
  st : St i s'.heap
  g : Gd ok env (C i) s'.heap
  p : PP i ok s'.heap
  t : There Y s'.heap
  kb : KB (X ++ own env) s s'
/-- a loop over data -/
theorem exo1_for {x : Str} {p pos : Pos} {iter : Expr} {body : List Stmt} {ds : List D} (C : Nat → Ctx) (PP : Nat → Sp) (okE : EnvOk env) (low : EnvLow env) (cs : CanSt env x) (sb : ∀ i, Stab Y (PP i)) (off : ∀ a ∈ Y, a ∉ own env) (hXY : ∀ a ∈ X, a ∈ Y)
    (hi : EvI prog w A env Γ iter ds) (h0 : Sub (C 0) Γ) (hP0 : P = PP 0)
    (turn : ∀ i d, ds[i]? = some d → ExO prog w A env X Y ((x, .data d) :: C i) (PP i) body (C (i + 1)) (PP (i + 1)) none) (hs : ∀ v, foldedSetIterable iter env v = pure v := by intro _; rfl) :
    ExO1 prog w A env X Y Γ P (.For (.Name x p) iter body [] pos) (C ds.length) (PP ds.length) none := fun ok s Q E hE na g pp t oo => by
  subst hP0
  refine wpAny_For (hi ok s E _ g fun I s2 J hI k2 g2 => ?_) hs
  obtain ⟨St, J, st⟩ := J ok fun _ _ _ k => k
  have IY : ∀ b ∈ Y, b ≠ I := fun b q z => by obtain ⟨o, e⟩ := t b q; rw [z, hI] at e; cases e
  have oI : ∀ {b o}, s.heap.get? b = some o → b ≠ I := fun {b o} e => by rintro rfl; rw [hI] at e; cases e
  refine codeAny_forLoop (fun n s' => ∃ i, ForO ok env X Y C PP ds St s n s' i) ?_ ds.length ⟨0, Nat.zero_le _, rfl, st, g2.sub h0, stab_ext (sb 0) pp (kp_ext k2), t.ext (kp_ext k2), KB.of k2⟩
  intro n s' Z
  obtain ⟨i, Z⟩ := Z
  have hn := Z.n_
  subst hn
  have F := J.obj _ _ Z.st
  by_cases hlt : i < ds.length
  · refine J.next i ds[i] _ _ _ (List.getElem?_eq_getElem hlt) Z.st fun v s3 rv st3 k3 => ?_
    have kb3 : ∀ b o, b ≠ I → s'.heap.get? b = some o → s3.heap.get? b = some o := fun b o hb e => k3.kept b o (mem1.mpr hb) e
    have g3 : Gd ok env (C i) s3.heap := Z.g.fld F J.okI kb3
    have p3 : PP i ok s3.heap := sb i ok _ _ Z.p (F.lists kb3) fun b hb o e => kb3 b o (IY b hb) e
    have t3 : There Y s3.heap := Z.t.keep fun b hb o e => kb3 b o (IY b hb) e
    refine wpAny_assign_Name (store_go okE low cs g3 (sl := .data ds[i]) rv fun s4 g4 k4 l4 => ?_)
    have k4o : KB (own env) s3 s4 := k4.mono fun b hb => by rw [List.mem_singleton.mp hb]; exact tch_own cs
    have neI : ∀ y ∈ own env, y ≠ I := own_ne okE g3.F (J.obj _ _ st3)
    have st4 : St (i + 1) s4.heap := J.keep _ _ _ st3 l4 fun o e => k4o.kept I o (fun q => neI _ q rfl) e
    have kk : ∀ b o, b ∉ X ++ own env → s.heap.get? b = some o → s4.heap.get? b = some o := fun b o hb e => k4o.kept b o (fun q => hb (List.mem_append.mpr (.inr q))) (kb3 b o (oI e) (Z.kb.kept b o hb e))
    have kbs4 : KB (X ++ own env) s s4 := KB.sh (sh_trans (sh_kb Z.kb) (sh_trans (sh_kb k3) (sh_kb k4))) kk
    refine wpAny_passesOwn hE (turn i ds[i] (List.getElem?_eq_getElem hlt) ok s4 _ _ hE na g4 (stab_kb (sb i) off okE g3.F p3 k4o) (t3.kb off k4o) ⟨fun s5 _ g5 p5 t5 k5 => ?_, fun e s' msg em => nomatch em⟩)
    exact ⟨ds.length - (i + 1), Nat.sub_lt_sub_left hlt (Nat.lt_succ_self i), i + 1, hlt, rfl, J.keep _ _ _ st4 (lists_ofX okE g4.F na k5) fun o e => k5.kept I o (fun q => (List.mem_append.mp q).elim (fun q => IY _ (hXY _ q) rfl) fun q => neI _ q rfl) e, g5, p5, t5, kbs4.trans k5⟩
  · have he : i = ds.length := Nat.le_antisymm Z.le (Nat.not_lt.mp hlt)
    subst he
    refine J.stop _ _ _ Z.st fun s3 k3 => wpAny_execs_nil ?_
    have kb3 : ∀ b o, b ≠ I → s'.heap.get? b = some o → s3.heap.get? b = some o := fun b o hb e => k3.kept b o (mem1.mpr hb) e
    exact oo.1 s3 rfl (Z.g.fld F J.okI kb3) (sb _ ok _ _ Z.p (F.lists kb3) fun b hb o e => kb3 b o (IY b hb) e) (Z.t.keep fun b hb o e => kb3 b o (IY b hb) e) (KB.sh (sh_trans (sh_kb Z.kb) (sh_kb k3)) fun b o hb e => kb3 b o (oI e) (Z.kb.kept b o hb e))
end
end Mine
end
section
open PySem PySem.Calls PyProof.Rows PySem.W
set_option maxRecDepth 100000
set_option linter.all false
set_option maxHeartbeats 1000000
namespace Mine
/-- a list under way -/
noncomputable def AccP (acc : Addr) (ds : List D) : Sp := fun ok h => ∃ vs, h.PlainList acc vs.toArray ∧ RdAll ok h vs ds
theorem AccP.stab {Y : List Addr} {acc : Addr} {ds : List D} (h : acc ∈ Y) : Stab Y (AccP acc ds) := fun ok h1 h2 ⟨vs, p, r⟩ li k => ⟨vs, p.at fun o e => k acc h o e, r.lists li⟩
section
variable {prog : Program} {w : World} {A : Around} {env : Env} {Γ Γ1 Γ2 : Ctx} {X Y : List Addr} {P P1 P2 : Sp} {er : Option (List Nat)} {acc : Addr} {ds : List D}
/-- out.append(e) -/
theorem exo1_app {x : Str} {e : Expr} {p ap cp pos : Pos} {d : D} (okE : EnvOk env) (hX : acc ∈ X) (hY : ∀ b ∈ Y, b = acc) (hYa : acc ∈ Y) (ta : topLine ≤ acc) (hx : List.lookup x Γ = some (.val (.ref acc))) (h : Ev prog w A env Γ e d) (hse : starEach [e] env = [(false, eval e env)]) (hsz : ds.length ≤ sizeLine) (hline : (ap.endLine == cp.line) = true)
    (hb : attributeBase (.Name x p) "append" env (eval (.Name x p) env) = eval (.Name x p) env) (hi : interactive env = false) (hs : swapsWith (.Call (.Attribute (.Name x p) "append" ap) [e] [] cp) none pos.line env = pure false)
    (hd : ((x == ("__debug__" : Str)) || (x == ("__classdict__" : Str))) = false := by decide) :
    ExO1 prog w A env X Y Γ (AccP acc ds) (.Expr (.Call (.Attribute (.Name x p) "append" ap) [e] [] cp) pos) Γ (AccP acc (ds ++ [d])) none := fun ok s Q E hE na g a t o => by
  refine wpAny_Expr_any ?_ hi hs
  refine wpAny_Call_method1_late hb hline (by rw [hse]; rfl) ?_
  refine nm_val okE g.F hx ?_ hd
  obtain ⟨vs, pl, rd⟩ := id a
  refine ⟨"list", "list.append", F.plainAttrs_list, slot_list_append, type_append, pl.isList.typeIs, (fun a' e => by cases e; exact ⟨_, pl.choose_spec, rfl⟩), ?_⟩
  refine Calls.callWith_builtin rfl (Calls.evalArgs_plain (Calls.spliced_cons (h.go g fun v s1 r k g1 => Calls.spliced_nil ?_)))
  have x1 := kp_ext k
  have pl1 := pl.at fun o e => x1 _ o e
  have rd1 := rd.ext x1
  show wpAny (model prog w) A (call (.builtin "list.append") [.ref acc, v]) _ _ _
  refine wpAny_list_append_plain pl1 (fun h' pl' sb => ?_) (by rw [List.size_toArray, rd.length]; exact hsz)
  obtain ⟨g2, l2⟩ := g1.acc pl1.isList pl'.isList (na _ hX) ta sb
  refine o.1 _ rfl g2 ⟨vs ++ [v], ?_, (rd1.snoc r).lists l2⟩ (fun b hb => ?_) ((KB.of k).trans ⟨h', s1.toks, _, rfl, fun b o hb e => sb.extBut b o (fun z => hb (by rw [z]; exact List.mem_append.mpr (.inl hX))) e⟩)
  · have e : (vs ++ [v]).toArray = vs.toArray.push v := by simp
    rw [e]; exact pl'
  · rw [hY b hb]
    obtain ⟨n, e⟩ := pl'
    exact ⟨_, e⟩
/-- x = []: a list is under way -/
theorem acc_start {ok : Addr → Prop} {x : Str} {p lp pos : Pos} {s : Shared} {E : Value → Shared → Prop} {Q : Flow → Shared → Prop} (okE : EnvOk env) (low : EnvLow env) (cs : CanSt env x) (hs : swapsWith (.List [] lp) (some (.Name x p)) pos.line env = pure false) (g : Gd ok env Γ s.heap)
    (h : ∀ acc s', topLine ≤ acc → s.heap.get? acc = none → ok acc → Gd (fun a => ok a ∧ a ≠ acc) env ((x, .val (.ref acc)) :: Γ) s'.heap → AccP acc [] (fun a => ok a ∧ a ≠ acc) s'.heap → There [acc] s'.heap → KB (acc :: own env) s s' → acc ∉ own env → Q .next s') :
    wpAny (model prog w) A (exec (.Assign [.Name x p] (.List [] lp) pos) env) Q E s := by
  refine wpAny_Assign_Name (wpAny_List ?_) hs
  refine wpAny_items_nil ⟨show 0 ≤ sizeLine by decide, ?_⟩
  have kp := kp_push s { cls := .type "list", data := .seq ([] : List Value).toArray }
  have ext := kp_ext kp
  have hnew : s.heap.get? s.heap.objs.size = none := new_none (kp_refl s)
  have okc : ∀ a o, s.heap.get? a = some o → ok a → (ok a ∧ a ≠ s.heap.objs.size) := fun a o e h => ⟨h, by rintro rfl; rw [hnew] at e; cases e⟩
  have hat : (s.heap.push { cls := .type "list", data := .seq ([] : List Value).toArray }).get? s.heap.objs.size = some { cls := .type "list", data := .seq ([] : List Value).toArray } := Heap.get?_push_size _ rfl
  have g1 : Gd (fun a => ok a ∧ a ≠ s.heap.objs.size) env Γ (s.heap.push { cls := .type "list", data := .seq ([] : List Value).toArray }) := by
    refine ⟨g.W.ext ext, fun a e => ⟨g.N.ext ext a e, ?_⟩, ?_⟩
    · rintro rfl
      rw [hat] at e; cases e
    · obtain ⟨m, cm, a, b, c⟩ := g.F
      refine ⟨m, cm, a.keeps ext, fun n k e => (b n k e).keeps ext, fun y sl e => ?_⟩
      obtain ⟨v, p, q⟩ := c y sl e
      refine ⟨v, p, ?_⟩
      cases sl with
      | data d => exact (Rd.mono okc q).ext ext
      | val u => exact q
  have off : s.heap.objs.size ∉ own env := fun hb => by
    obtain ⟨m, cm, hn, hc, _⟩ := g.F
    rcases List.mem_cons.mp hb with q | q
    · obtain ⟨o, _, _, e, _⟩ := hn
      rw [← q, hnew] at e; cases e
    · obtain ⟨p, hp, q⟩ := List.mem_map.mp q
      obtain ⟨o, e, _⟩ := hc p.1 p.2 (okE.self p hp)
      rw [q, hnew] at e; cases e
  refine store_go (s := { s with heap := s.heap.push { cls := .type "list", data := .seq ([] : List Value).toArray } }) okE low cs g1 (sl := .val (.ref s.heap.objs.size)) rfl fun s2 g2 k2 l2 => ?_
  have hat2 := k2.kept _ _ (mem1.mpr fun q => off (by rw [q]; exact tch_own cs)) hat
  exact h _ s2 g.W.top hnew (g.N _ hnew) g2 ⟨[], ⟨0, hat2⟩, .nil⟩ (fun b hb => by rw [List.mem_singleton.mp hb]; exact ⟨_, hat2⟩) ((KB.of kp).trans (k2.mono fun b hb => by rw [List.mem_singleton.mp hb]; exact .tail _ (tch_own cs))) off
end
end Mine
end
section
open PySem PySem.Calls PyProof.Rows PySem.W
set_option maxRecDepth 100000
set_option linter.all false
set_option maxHeartbeats 1000000
namespace Mine
section
variable {prog : Program} {w : World} {A : Around} {env : Env} {Γ Γ1 Γ2 : Ctx} {X Y : List Addr} {P P1 P2 : Sp} {er : Option (List Nat)} {acc : Addr} {ds : List D}
theorem op_band {a b c : Int} (h : Builtin.bitAnd a b = c) : Op2 prog w A (binaryOp .BitAnd) (.int a) (.int b) (.int c) := fun ok s E u v N _ ru rv => by
  cases ru; cases rv; subst h; exact and_int ⟨.int _ _, kp_tok _ _⟩
theorem op_bor {a b c : Int} (h : Builtin.bitOr a b = c) : Op2 prog w A (binaryOp .BitOr) (.int a) (.int b) (.int c) := fun ok s E u v N _ ru rv => by
  cases ru; cases rv; subst h; exact or_int ⟨.int _ _, kp_tok _ _⟩
theorem op_shl {a n : Int} (hn : 0 ≤ n) (hn2 : n ≤ 1000000) (ha : a.natAbs < 2 ^ 64) : Op2 prog w A (binaryOp .LShift) (.int a) (.int n) (.int (a * 2 ^ n.toNat)) := fun ok s E u v N _ ru rv => by
  cases ru; cases rv; exact lshift_int_small hn hn2 ha ⟨.int _ _, kp_tok _ _⟩
theorem op_shr {a n : Int} (hn : 0 ≤ n) : Op2 prog w A (binaryOp .RShift) (.int a) (.int n) (.int (a.fdiv (2 ^ n.toNat))) := fun ok s E u v N _ ru rv => by
  cases ru; cases rv; exact rshift_int hn ⟨.int _ _, kp_tok _ _⟩
theorem alpha_signs : alpha = nameSigns.take 64 := by decide +kernel
theorem alpha_small : small alpha := by
  have : ∀ c ∈ alpha, c < 256 := by decide +kernel
  exact this
theorem ev_b64 {p : Pos} (okE : EnvOk env) (hk : env.kindOf "_B64" = some .globalImplicit) : Ev prog w A env Γ (.Name "_B64" p) (.bytes (By alpha)) := fun ok s E g => by
  obtain ⟨mg, mb, a1, a2, a3, a4, a5, a6, _⟩ := g.W.glob
  obtain ⟨t, e⟩ := a6.b64
  refine Name_function_global okE.kind hk (loadGlobal_global (by rw [okE.glob]; exact a1) e ⟨?_, kp_refl s⟩) (by decide)
  rw [alpha_signs]
  exact .bytes _ _

/-- a while loop of n turns -/
theorem exo1_while {tt : Expr} {body : List Stmt} {pos : Pos} (C : Nat → Ctx) (PP : Nat → Sp) (n : Nat) (sb : ∀ i, Stab Y (PP i)) (h0 : Sub (C 0) Γ) (hP0 : P = PP 0)
    (go : ∀ i, i < n → Tst prog w A env (C i) tt true) (stop : Tst prog w A env (C n) tt false) (turn : ∀ i, i < n → ExO prog w A env X Y (C i) (PP i) body (C (i + 1)) (PP (i + 1)) none) :
    ExO1 prog w A env X Y Γ P (.While tt body [] pos) (C n) (PP n) none := fun ok s Q E hE na g pp t oo => by
  subst hP0
  refine wpAny_While (codeAny_whileLoop (fun m s' => ∃ i, i ≤ n ∧ m = n - i ∧ Gd ok env (C i) s'.heap ∧ PP i ok s'.heap ∧ There Y s'.heap ∧ KB (X ++ own env) s s') ?_ n ⟨0, Nat.zero_le _, rfl, g.sub h0, pp, t, KB.refl _ _⟩)
  rintro m s' ⟨i, hi, rfl, g', p', t', k'⟩
  by_cases hlt : i < n
  · refine (go i hlt).go g' fun s1 k1 g1 => ?_
    have x := kp_ext k1
    simp only [if_true]
    refine wpAny_passesOwn hE (turn i hlt ok s1 _ _ hE na g1 (stab_ext (sb i) p' x) (t'.ext x) ⟨fun s2 _ g2 p2 t2 k2 => ?_, fun e s2 msg em => by cases em⟩)
    exact ⟨n - (i + 1), by omega, i + 1, hlt, rfl, g2, p2, t2, k'.trans ((KB.of k1).trans k2)⟩
  · have he : i = n := by omega
    subst he
    refine stop.go g' fun s1 k1 g1 => ?_
    have x := kp_ext k1
    simp only [Bool.false_eq_true, if_false]
    exact wpAny_execs_nil (oo.1 s1 rfl g1 (stab_ext (sb i) p' x) (t'.ext x) (k'.trans (KB.of k1)))
end
end Mine
end
section
open PySem PySem.Calls PyProof.Rows PySem.W
set_option maxRecDepth 100000
set_option linter.all false
set_option maxHeartbeats 1000000
namespace Mine
variable {prog : Program} {w : World}
theorem fm_two {ok : Addr → Prop} {env : Env} {h : Heap} {x y : Str} {u v : Value} {d e : Sl} (hn : h.Ns env.locals (fun z => [(x, u), (y, v)].reverse.lookup z)) (hc : env.cells = []) (hxy : (x == y) = false) (kx : env.kindOf x = some .local) (ky : env.kindOf y = some .local) (rd : d.At ok h u) (re : e.At ok h v) :
    Fm ok env [(x, d), (y, e)] h := by
  refine fm_of hn (fun n c q => by rw [hc] at q; cases q) fun z sl q => ?_
  rw [List.lookup_cons] at q
  cases hb : z == x with
  | true =>
    rw [hb] at q; cases q
    cases beq_iff_eq.mp hb
    exact ⟨kx, u, by simp [List.lookup_cons, hxy], rd⟩
  | false =>
    rw [hb] at q
    dsimp only at q
    rw [List.lookup_cons] at q
    cases hb2 : z == y with
    | true =>
      rw [hb2] at q; cases q
      cases beq_iff_eq.mp hb2
      exact ⟨ky, v, by simp [List.lookup_cons], re⟩
    | false => rw [hb2] at q; cases q

theorem noCell {names : List (Str × NameKind)} (h : names.all (fun x => x.2 != .cell) = true) : ∀ x ∈ names, x.2 ≠ .cell := fun x hx q => by
  have := List.all_eq_true.mp h x hx
  rw [q] at this
  cases this
theorem bits_and : ∀ x < 256, Builtin.bitAnd (Builtin.bitOr (0 * 2 ^ (8 : Int).toNat) ((x : Nat) : Int)) 65535 = ((x : Nat) : Int) := by decide +kernel
theorem bits_hi : ∀ x < 256, Builtin.bitAnd (((x : Nat) : Int).fdiv (2 ^ ((8 : Int) - 6).toNat)) 63 = ((x / 4 % 64 : Nat) : Int) := by decide +kernel
theorem bits_lo : ∀ x < 256, Builtin.bitAnd ((x : Nat) : Int) 3 = ((x % 4 : Nat) : Int) := by decide +kernel
theorem alph_small {i : Nat} (h : i < 64) : alph i < 256 := alpha_small _ (List.mem_of_getElem? (alpha_at h))
theorem f_b2a {x : Nat} (hx : x < 256) : ∃ r, fnRec "b2a_base64" = some r ∧ ∀ (ok : Addr → Prop) (A : Around) (s : Shared) (a : Addr) (kV v : Value), Room 3 A → Fresh ok s.heap → Wd s.heap → IsFn s.heap a r .none kV → Rd ok s.heap v (.bytes (By [x])) →
    codeAny (model prog w) A (.call (.ref a) ⟨[v], [("newline", .bool false)]⟩) (fun r s' => ∃ u, r = .ok (.ret u) ∧ Rd ok s'.heap u (.bytes (By (nameOf x))) ∧ Keeps s s') s := by
  refine ⟨_, rfl, fun ok A s a kV v room N W F rv => ?_⟩
  obtain ⟨o, pm, cd, doc, ho, hd, hc⟩ := F
  refine enterN (binds := [("data", v), ("newline", .bool false)]) room W ho hd hc rfl (.of_eq (by rfl)) (noCell (by rfl)) (by intro y hy; simp only [List.mem_cons, List.not_mem_nil, or_false] at hy; rcases hy with rfl | rfl <;> rfl) rfl rfl .nil (by intro p hp; cases hp) (by intro p hp; cases hp) rfl rfl rfl fun s₁ env he okE low hnew kp W1 hns hroom => ?_
  refine wpAny_noRaise ?_
  have g : Gd ok env [("data", .data (.bytes (By [x]))), ("newline", .data (.bool false))] s₁.heap := ⟨W1, N.ext (kp_ext kp), fm_two hns (by rw [he]; rfl) (by decide) (by rw [he]; rfl) (by rw [he]; rfl) (rv.ext (kp_ext kp)) (.bool false)⟩
  generalize hA : A.deeper env = A1 at hroom ⊢
  obtain ⟨rb, hrb, Fb⟩ := f_buffer (prog := prog) (w := w) (l := [x])
  obtain ⟨rt, hrt, Ft⟩ := f_truth (prog := prog) (w := w)
  refine wpAny_execs_cons (wpAny_mono (ex1_assign (d := .bytes (By [x])) okE low (.loc (by rw [he]; rfl)) (ev_call okE hrb (by decide) (by rw [he]; rfl) Fb hroom (.cons (ev_name okE rfl) (by rfl) .nil)) (by rw [he]; rfl) ok s₁ _ g) (fun f s2 q => ?_) fun _ _ x => x)
  obtain ⟨rfl, g2, k2⟩ := q
  refine wpAny_execs_cons (wpAny_mono (ex1_assign (d := .bool false) okE low (.loc (by rw [he]; rfl)) (ev_call okE hrt (by decide) (by rw [he]; rfl) Ft hroom (.cons (ev_name okE rfl) (by rfl) .nil)) (by rw [he]; rfl) ok s2 _ g2) (fun f s3 q => ?_) fun _ _ x => x)
  obtain ⟨rfl, g3, k3⟩ := q
  refine wpAny_execs_cons (acc_start okE low (.loc (by rw [he]; rfl)) (by rfl) g3 fun acc s4 ta hfr oka g4 a4 t4 k4 off => ?_)
  have na : ∀ a ∈ [acc], ¬ (ok a ∧ a ≠ acc) := fun a ha q => q.2 (List.mem_singleton.mp ha)
  have offs : ∀ a ∈ [acc], a ∉ own env := fun a ha => by rw [List.mem_singleton.mp ha]; exact off
  have sbA : ∀ ds, Stab [acc] (AccP acc ds) := fun ds => AccP.stab (.head _)
  let Γ1 : Ctx := [("out", .val (.ref acc)), ("newline", .data (.bool false)), ("bin_data", .data (.bytes (By [x])))]
  let C : Nat → Ctx := fun i => if i = 0 then ("leftbits", .data (.int 0)) :: ("leftchar", .data (.int 0)) :: Γ1 else ("leftbits", .data (.int 2)) :: ("leftchar", .data (natD x)) :: Γ1
  have hi64 : x / 4 % 64 < 64 := Nat.mod_lt _ (by decide)
  have hlo64 : x % 4 * 16 < 64 := by omega
  refine wpAny_execs_cons (exo1_of (X := [acc]) (sbA []) offs okE (ex1_assign okE low (.loc (by rw [he]; rfl)) (ev_int (i := 0)) (by rfl)) _ s4 _ _ .never na g4 a4 t4 ⟨fun s5 _ g5 a5 t5 k5 => ?_, fun e s' m em => by cases em⟩)
  refine wpAny_execs_cons (exo1_of (X := [acc]) (sbA []) offs okE (ex1_assign okE low (.loc (by rw [he]; rfl)) (ev_int (i := 0)) (by rfl)) _ s5 _ _ .never na g5 a5 t5 ⟨fun s6 _ g6 a6 t6 k6 => ?_, fun e s' m em => by cases em⟩)
  refine wpAny_execs_cons (exo1_for C (fun i => AccP acc (if i = 0 then [] else [natD (alph (x / 4 % 64))])) okE low (.loc (by rw [he]; rfl)) (fun i => sbA _) offs (fun a h => h) (evi_bytes (l := [x]) hroom.hd (ev_name okE rfl) (by intro c hc; rw [List.mem_singleton.mp hc]; exact hx)) ⟨rfl, rfl, rfl, rfl, rfl, trivial⟩ rfl (fun i d hdd => ?_) (by intro _; rfl) _ s6 _ _ .never na g6 a6 t6 ⟨fun s7 _ g7 a7 t7 k7 => ?_, fun e s' m em => by cases em⟩)
  · have hi0 : i = 0 := by have := (List.getElem?_eq_some_iff.mp hdd).1; simpa using this
    subst hi0
    have hdx : d = natD x := by simpa using hdd.symm
    subst hdx
    let Cw : Nat → Ctx := fun j => if j = 0 then ("leftbits", .data (.int 8)) :: ("leftchar", .data (natD x)) :: Γ1 else ("leftbits", .data (.int 2)) :: ("leftchar", .data (natD x)) :: Γ1
    refine exo_sub (Γ1 := Cw 1) (exo_cons (exo1_of (sbA _) offs okE (ex1_assign (d := natD x) okE low (.loc (by rw [he]; rfl)) (ev_bin (ev_bin (ev_bin (ev_name okE rfl) ev_int (op_shl (by decide) (by decide) (by decide))) (ev_name okE rfl) (op_bor rfl)) ev_int (op_band (bits_and x hx))) (by rfl)))
      (exo_cons (exo1_of (sbA _) offs okE (ex1_assign (d := .int 8) okE low (.loc (by rw [he]; rfl)) (ev_bin (ev_name okE rfl) ev_int op_add) (by rfl)))
      (exo_cons (exo1_while Cw (fun j => AccP acc (if j = 0 then [] else [natD (alph (x / 4 % 64))])) 1 (fun j => sbA _) ⟨rfl, rfl, rfl, rfl, rfl, trivial⟩ rfl (fun j hj => ?_) ?_ (fun j hj => ?_)) exo_nil))) ⟨rfl, rfl, rfl, rfl, rfl, trivial⟩
    · have hj0 : j = 0 := by omega
      subst hj0
      exact tst_cmp (b := decide ((8 : Int) ≥ 6)) (ev_name okE rfl) ev_int op_gei
    · exact tst_cmp (b := decide ((2 : Int) ≥ 6)) (ev_name okE rfl) ev_int op_gei
    · have hj0 : j = 0 := by omega
      subst hj0
      refine exo_cons (exo1_app okE (.head _) (fun b hb => List.mem_singleton.mp hb) (.head _) ta rfl (ev_bitem (l := alpha) (c := alph (x / 4 % 64)) (ev_b64 okE (by rw [he]; rfl)) (ev_bin (ev_bin (ev_name okE rfl) (ev_bin (ev_name okE rfl) ev_int op_sub) (op_shr (by decide))) ev_int (op_band (bits_hi x hx))) (by omega) (alpha_at hi64) (alph_small hi64) (by rw [alpha_len]; decide)) (by rfl) (show 0 ≤ sizeLine by decide) (by rfl) (by rfl) (by rw [he]; rfl) (by rfl)) ?_
      refine exo_sub (exo_cons (exo1_of (sbA _) offs okE (ex1_assign (d := .int 2) okE low (.loc (by rw [he]; rfl)) (ev_bin (ev_name okE rfl) ev_int op_sub) (by rfl))) exo_nil) ⟨rfl, rfl, rfl, rfl, rfl, trivial⟩
  · have four : [natD (alph (x / 4 % 64))] ++ [natD (alph (x % 4 * 16))] ++ [natD 61] ++ [natD 61] = (nameOf x).map natD := rfl
    refine wpAny_execs_cons (exo1_if (er := none) (Γ1 := C 1) (P1 := AccP acc ((nameOf x).map natD)) (c := ((2 : Int) == 2)) (sbA _) (tst_cmp (ev_name okE rfl) ev_int op_eqi) (fun _ => ?_) (fun h => by cases h) _ s7 _ _ .never na g7 a7 t7 ⟨fun s8 _ g8 a8 t8 k8 => ?_, fun e s' m em => by cases em⟩)
    · rw [← four]
      refine exo_cons (exo1_app okE (.head _) (fun b hb => List.mem_singleton.mp hb) (.head _) ta rfl (ev_bitem (l := alpha) (c := alph (x % 4 * 16)) (ev_b64 okE (by rw [he]; rfl)) ((ev_bin (ev_bin (ev_name okE rfl) ev_int (op_band (bits_lo x hx))) ev_int (op_shl (by decide) (by decide) ?_)).to (d' := .int ((x % 4 * 16 : Nat) : Int)) ?_) (by omega) (alpha_at hlo64) (alph_small hlo64) (by rw [alpha_len]; decide)) (by rfl) (show 1 ≤ sizeLine by decide) (by rfl) (by rfl) (by rw [he]; rfl) (by rfl)) ?_
      · omega
      · show D.int (((x % 4 : Nat) : Int) * 16) = _
        congr 1
      · exact exo_cons (exo1_app okE (.head _) (fun b hb => List.mem_singleton.mp hb) (.head _) ta rfl ev_int (by rfl) (show 2 ≤ sizeLine by decide) (by rfl) (by rfl) (by rw [he]; rfl) (by rfl)) (exo_cons (exo1_app okE (.head _) (fun b hb => List.mem_singleton.mp hb) (.head _) ta rfl ev_int (by rfl) (show 3 ≤ sizeLine by decide) (by rfl) (by rfl) (by rw [he]; rfl) (by rfl)) exo_nil)
    · have hnl : Tst prog w A1 env (C 1) (.Name "newline" ⟨55, 7, 55, 14⟩) false := fun ok s E g => wpAny_isTrue_value ((ev_name (d := .bool false) okE rfl).go g fun v s1 r k g1 => by cases r.isBool; exact wpAny_truthy_bool ⟨rfl, k⟩)
      refine wpAny_execs_cons (exo1_if (er := none) (Γ1 := C 1) (P1 := AccP acc ((nameOf x).map natD)) (c := false) (sbA _) hnl (fun h => by cases h) (fun _ => exo_nil) _ s8 _ _ .never na g8 a8 t8 ⟨fun s9 _ g9 a9 t9 k9 => ?_, fun e s' m em => by cases em⟩)
      refine wpAny_execs_cons (wpAny_Return_some (wpAny_Call_NameR (name_blt okE g9.W (v := .type "bytes") (by kernel_rfl) (by decide) (by rw [he]; rfl) ?_)))
      refine PySem.callWith_type rfl (Calls.evalArgs_plain (Calls.spliced_cons (nm_val okE g9.F rfl (Calls.spliced_nil ?_))))
      obtain ⟨vs, pl, rd⟩ := a9
      have hint : IntsAre vs ((nameOf x).map fun n => ((n : Nat) : Int)) := RdAll.ints (by rw [List.map_map]; exact rd)
      have hsm : small (nameOf x) := by
        intro c hc
        simp only [nameOf, List.mem_cons, List.not_mem_nil, or_false] at hc
        rcases hc with rfl | rfl | rfl | rfl
        · exact alph_small hi64
        · exact alph_small hlo64
        · decide
        · decide
      refine call_bytes_ints pl.isList hint (fun n hn => ?_) (by rw [rd.length]; exact (show 4 ≤ sizeLine by decide)) hroom.hd fun h' t k hk => ?_
      · obtain ⟨m, hm, rfl⟩ := List.mem_map.mp hn
        have := hsm m hm
        omega
      · rw [By_mk]
        refine ⟨_, rfl, .bytes _ _, ?_⟩
        have kall : KB (acc :: own env) s₁ s9 := ((KB.mono (k2.trans k3) fun b hb => .tail _ hb).trans (k4.trans (k5.trans (k6.trans (k7.trans (k8.trans k9))))))
        have kfin : KB (acc :: own env) s₁ { s9 with heap := h', toks := k } := kall.trans ⟨h', k, _, rfl, fun b o _ e => hk b o e⟩
        refine KB.keeps kp kfin fun b hb => ?_
        rcases List.mem_cons.mp hb with rfl | hb
        · cases e : s.heap.get? b with
          | none => rfl
          | some o =>
            have := (KB.trans k2 k3).kept b o off (kp_ext kp b o e)
            rw [hfr] at this; cases this
        · rcases List.mem_cons.mp hb with rfl | hb
          · exact hnew
          · rw [he] at hb; cases hb
end Mine
end
section
open PySem PySem.Calls PyProof.Rows PySem.W
set_option maxRecDepth 100000
set_option linter.all false
set_option maxHeartbeats 1000000
namespace Mine
variable {prog : Program} {w : World}
theorem ExR.go {A : Around} {env : Env} {Γ : Ctx} {ss : List Stmt} {d : D} {ok : Addr → Prop} {s : Shared} {E : Value → Shared → Prop} (h : ExR prog w A env Γ ss d) (g : Gd ok env Γ s.heap) : wpAny (model prog w) A (execs ss env) (fun f s' => ∃ v, f = .ret v ∧ Rd ok s'.heap v d ∧ KB (own env) s s') E s := h ok s E g
theorem op_isNotNone {A : Around} {d : D} : Op2 prog w A (compareOp .IsNot) d .none (.bool (!isNone d)) := fun ok s E u v N _ ru rv => by
  cases rv
  refine isnot_none_gen ?_
  have e : (u == Value.none) = isNone d := by cases ru <;> rfl
  rw [e]
  exact ⟨.bool _, kp_refl _⟩
theorem ev_b2a {A : Around} {env : Env} {Γ : Ctx} {x : Nat} {e : Expr} {p pos kp q : Pos} {k0 : Nat} (hx : x < 256) (okE : EnvOk env) (room : Room 3 A) (hk : env.kindOf "b2a_base64" = some .globalImplicit) (h : Ev prog w A env Γ e (.bytes (By [x]))) (hse : starEach [e] env = [(false, eval e env)]) :
    Ev prog w A env Γ (.Call (.Name "b2a_base64" p) [e] [⟨some "newline", .Constant (.bool false) k0 q, kp⟩] pos) (.bytes (By (nameOf x))) := fun ok s E g => by
  obtain ⟨mg, mb, a1, a2, a3, a4, a5, a6, _⟩ := g.W.glob
  obtain ⟨r, a, kV, e1, e2, F⟩ := a6.b2a
  obtain ⟨r', e1', hf⟩ := f_b2a (prog := prog) (w := w) hx
  cases Option.some.inj (e1.symm.trans e1')
  refine wpAny_Call_Name_kw (Name_function_global okE.kind hk (loadGlobal_global (by rw [okE.glob]; exact a1) e2 ?_) (by decide))
  obtain ⟨o, pm, cd, doc, ho, hd, hc⟩ := id F
  refine callWith_function_kw (o := o) (fd := { docDef r.name r.params r.body r.scope pm cd doc with defaults := .none, kwdefaults := kV }) ?_
  rw [hse]
  refine evalArgs_kw (by rfl) (Calls.spliced_cons (h.go g fun v s1 r1 k1 g1 => Calls.spliced_nil ?_))
  refine wpAny_evalAll_cons (wpAny_bind (wpAny_Constant_bool (wpAny_bind (wpAny_standAt (wpAny_pure (wpAny_evalAll_nil ?_))))))
  refine ⟨⟨kp_ext k1 _ _ ho, hd⟩, wpAny_call ?_⟩
  exact codeAny_mono (hf ok A s1 a kV v room g1.N g1.W (F.ext (kp_ext k1)) r1) fun rr s2 q => by
    obtain ⟨u, rfl, ru, k2⟩ := q
    exact ⟨ru, kp_trans k1 k2⟩

theorem ev_enc {A : Around} {env : Env} {Γ : Ctx} {x : Nat} {e : Expr} {p pos : Pos} (hx : x < 256) (okE : EnvOk env) (room : Room 4 A) (hk : env.kindOf "b64encode" = some .globalImplicit) (h : Ev prog w A env Γ e (.bytes (By [x]))) (hse : starEach [e] env = [(false, eval e env)]) :
    Ev prog w A env Γ (.Call (.Name "b64encode" p) [e] [] pos) (.bytes (By (nameOf x))) := fun ok s E g => by
  obtain ⟨mg, mb, a1, a2, a3, a4, a5, a6, _⟩ := g.W.glob
  obtain ⟨r, a, dv, e1, e2, F, ot, nt, ht, hct, hdt⟩ := a6.enc
  obtain ⟨r', e1'⟩ : ∃ r, fnRec "b64encode" = some r := ⟨_, rfl⟩
  refine wpAny_Call_Name_kw (Name_function_global okE.kind hk (loadGlobal_global (by rw [okE.glob]; exact a1) e2 ?_) (by decide))
  obtain ⟨o, pm, cd, doc, ho, hd, hc⟩ := id F
  refine callWith_function (o := o) (fd := { docDef r.name r.params r.body r.scope pm cd doc with defaults := .ref dv, kwdefaults := .none }) ?_
  rw [hse]
  refine Calls.evalArgs_plain (Calls.spliced_cons (h.go g fun v s1 r1 k1 g1 => Calls.spliced_nil ⟨⟨kp_ext k1 _ _ ho, hd⟩, wpAny_call ?_⟩))
  have hr : fnRec "b64encode" = some _ := rfl
  cases Option.some.inj (e1.symm.trans hr)
  refine enterN (binds := [("s", v), ("altchars", .none)]) room g1.W (kp_ext k1 _ _ ho) hd (hc.keeps (kp_ext k1)) rfl (.of_defaults (T := dv) (items := #[.none]) rfl (kp_ext k1 _ _ ht) hdt (by rfl) (by rfl)) (noCell (by rfl)) (by intro y hy; simp only [List.mem_cons, List.not_mem_nil, or_false] at hy; rcases hy with rfl | rfl <;> rfl) rfl rfl .nil (by intro p hp; cases hp) (by intro p hp; cases hp) rfl rfl rfl fun s₁ env2 he okE2 low hnew kp W1 hns hroom => ?_
  refine wpAny_noRaise ?_
  have g2 : Gd ok env2 [("s", .data (.bytes (By [x]))), ("altchars", .data .none)] s₁.heap := ⟨W1, g1.N.ext (kp_ext kp), fm_two hns (by rw [he]; rfl) (by decide) (by rw [he]; rfl) (by rw [he]; rfl) (r1.ext (kp_ext kp)) .none⟩
  generalize hA : A.deeper env2 = A1 at hroom ⊢
  refine wpAny_mono (ExR.go (d := .bytes (By (nameOf x))) ?_ g2) (fun f s' q => ?_) fun _ _ x => x
  · refine exr_cons (ex1_assign (d := .bytes (By (nameOf x))) okE2 low (.loc (by rw [he]; rfl)) (ev_b2a hx okE2 hroom (by rw [he]; rfl) (ev_name okE2 rfl) (by rfl)) (by rw [he]; rfl)) (exr_if (c := false) ?_ (fun h => by cases h) (fun _ => exr_ret (ev_name okE2 rfl)) rfl)
    exact tst_cmp (ev_name (d := .none) okE2 rfl) ev_none (op_isNotNone)
  · obtain ⟨u, rfl, ru, kb⟩ := q
    refine ⟨ru, kp_trans k1 (KB.keeps kp kb fun b hb => ?_)⟩
    rcases List.mem_cons.mp hb with rfl | hb
    · exact hnew
    · rw [he] at hb; cases hb
end Mine
end
section
open PySem PySem.Calls PyProof.Rows PySem.W
set_option maxRecDepth 100000
set_option linter.all false
set_option maxHeartbeats 1000000
namespace Mine
/-- one of the class of streams -/
structure InstO (st dx : Addr) (mA : Str → Option Value) (h : Heap) (o : Obj) : Prop where
  at_ : h.get? st = some o
  cls : o.cls = .ref clsP
  ncl : ∀ c, o.data ≠ .cls c
  dict : o.dict = some dx
  ne : dx ≠ st
  ns : h.Ns1 dx mA
noncomputable def InstP (st dx : Addr) (mA : Str → Option Value) (h : Heap) : Prop := ∃ o, InstO st dx mA h o
theorem InstP.inst {st dx : Addr} {mA : Str → Option Value} {h : Heap} (I : InstP st dx mA h) : h.Inst st clsP mA := let ⟨o, a, b, c, d, e, f⟩ := I; ⟨o, a, b, c, .inr ⟨dx, d, e, f⟩⟩
theorem no_value : typeLookup (.type "object") "value" = pure none := by rw [typeLookup_type, builtinLookup_eq_fast]; kernel_rfl
theorem no_read : typeLookup (.type "object") "read" = pure none := by rw [typeLookup_type, builtinLookup_eq_fast]; kernel_rfl
section
variable {prog : Program} {w : World} {A : Around} {E : Value → Shared → Prop} {s : Shared} {st dx : Addr} {mA : Str → Option Value}
theorem Wd.clsE {h : Heap} (W : Wd h) {P : Prop} (k : ∀ (N : Addr) (mN : Str → Option Value) (nm q : Str) (bs : List Value) (sn : List Str) (sub : List Value) (col : Option Bool) (dd : Option Addr) (k0 k1 k2 k3 k5 : Option Value),
    h.get? clsP = some (excClassObj nm q clsP N bs [.type "object"] true sn sub false col dd k0 k1 k2 k3 k5 "object.__new__") → h.Ns N mN → (mN "__setattr__" = none ∧ mN "value" = none ∧ mN "read" = none ∧ mN "__getattribute__" = none ∧ mN "__getattr__" = none) → P) : P := by
  obtain ⟨mg, mb, I⟩ := W.glob
  obtain ⟨N, mN, f, o, pm, cd, doc, r, J⟩ := I.more.cls.2.of
  obtain ⟨nm, q', bs, sn, sub, col, dd, k0, k1, k2, k3, k5, hC⟩ := J.cls.obj
  exact k _ _ _ _ _ _ _ _ _ _ _ _ _ _ hC J.cls.ns ⟨J.n1, J.n2, J.n3, J.n4, J.n5⟩
theorem get_value {v : Value} {expr : Bool} {Q : Value → Shared → Prop} (W : Wd s.heap) (I : InstP st dx mA s.heap) (hv : mA "value" = some v) (hh : handedOut v = pure v) (q : Q v { s with toks := s.toks + 1 }) : wpAny (model prog w) A (getAttr (.ref st) "value" expr) Q E s := by
  obtain ⟨hh', g, d, t, os⟩ := s
  exact W.clsE fun N mN nm q' bs sn sub col dd k0 k1 k2 k3 k5 hC hN n => load_attr hC hN n.2.2.2.1 n.2.1 no_value I.inst hv hh q
theorem set_attr {name : Str} {v : Value} {Q : Unit → Shared → Prop} (W : Wd s.heap) (I : InstP st dx mA s.heap) (hw : Within mA ["value", "read"]) (t1 : topLine ≤ st) (t2 : topLine ≤ dx) (hs : ∀ c' : Addr, s.heap.get? tabP = some (tabObj #[rawInt 141, rawInt 4, .ref c']) → c' ≠ st) (hn : name = "value" ∨ name = "read")
    (q : ∀ s', InstP st dx (fun y => if y = name then some v else mA y) s'.heap → KB [st, dx] s s' → Wd s'.heap → Q () s') : wpAny (model prog w) A (setAttr (.ref st) name v) Q E s := by
  obtain ⟨hh', g, d, t, os⟩ := s
  refine W.clsE fun N mN nm q' bs sn sub col dd k0 k1 k2 k3 k5 hC hN n => ?_
  obtain ⟨os1, es1, ec1, ed1, edx, ene, ens⟩ := id I
  have hxC : st ≠ clsP := by
    rintro rfl
    exact ed1 _ (by cases Option.some.inj (es1.symm.trans hC); rfl)
  have hna : mN name = none := by rcases hn with rfl | rfl; exact n.2.1; exact n.2.2.1
  have hB : typeLookup (.type "object") name = pure none := by rcases hn with rfl | rfl; exact no_value; exact no_read
  refine store_attr PySem.F.store_object hC hN n.1 hna hB hxC I.inst (fun h' tk' I' hk hsame => ?_) hw (show 2 ≤ sizeLine by decide)
  obtain ⟨o1, f1, f2, f3, f4, f5⟩ := hsame _ es1
  have kk : ∀ b o, b ∉ [st, dx] → hh'.get? b = some o → h'.get? b = some o := fun b o hb e => hk b o (fun z => hb (by rw [z]; exact .head _)) (fun o₀ d' e0 ed => by
    cases Option.some.inj (es1.symm.trans e0)
    cases Option.some.inj (edx.symm.trans ed)
    exact fun z => hb (by rw [z]; exact .tail _ (.head _))) e
  obtain ⟨o2, e2', _, _, hd2⟩ := I'
  cases Option.some.inj (f1.symm.trans e2')
  have hdd := f5 dx edx
  have ns' : h'.Ns1 dx (fun y => if y = name then some v else mA y) := by
    rcases hd2 with ⟨z, _⟩ | ⟨d2, z1, z2, z3⟩
    · rw [hdd] at z; cases z
    · cases Option.some.inj (hdd.symm.trans z1); exact z3
  refine q ⟨h', g, d, tk', os⟩ ⟨o1, f1, f2.trans ec1, fun c z => ed1 c (f3.symm.trans z), hdd, ene, ns'⟩ ⟨h', tk', _, rfl, kk⟩ ?_
  obtain ⟨h0, c0, w0, l0, b0, y0, T⟩ := W
  obtain ⟨ps, tp, tq⟩ := T
  have low : ∀ b, b < topLine → b ∉ [st, dx] := fun b hb z => by
    simp only [List.mem_cons, List.not_mem_nil, or_false] at z
    rcases z with rfl | rfl
    · exact absurd t1 (Nat.not_le.mpr hb)
    · exact absurd t2 (Nat.not_le.mpr hb)
  refine ⟨h0, c0, w0, l0, b0, fun b o e => kk b o (low b (l0 b o e).1) (y0 b o e), ps, kk _ _ (low _ (by decide)) tp, tq.imp id fun ⟨c', e, cr⟩ => ⟨c', e, ?_⟩⟩
  obtain ⟨ca, co, cvs, ct, ce, cg, cdt, cr⟩ := cr
  refine ⟨ca, co, cvs, ct, ce, kk _ _ (fun z => ?_) cg, cdt, cr⟩
  simp only [List.mem_cons, List.not_mem_nil, or_false] at z
  rcases z with rfl | rfl
  · exact hs _ (by rw [tp, e, ce]) rfl
  · obtain ⟨o3, es3, ep3, e3', d3, _⟩ := ens
    cases Option.some.inj (cg.symm.trans e3')
    rw [d3] at cdt; cases cdt
end
end Mine
end
section
open PySem PySem.Calls PyProof.Rows PySem.W
set_option maxRecDepth 100000
set_option linter.all false
namespace Mine
theorem assign_attr {M : Model} {A : Around} {E : Value → Shared → Prop} {s : Shared} {env : Env} {o : Expr} {attr : Str} {pos : Pos} {v : Value} {Q : Unit → Shared → Prop}
    (h : wpAny M A (eval o env) (fun ov s₂ => wpAny M A (setAttr ov attr v) (fun _ => Q ()) E s₂) E s) : wpAny M A (assign (.Attribute o attr pos) env v) Q E s := fun Γ p hΓ => by
  rw [arm_assign_Attribute]
  simp only [Sem.wp_bind', Sem.wp_holding, Sem.wp_cmd_standAt, Sem.wp_release, Sem.wp_pure']
  exact Sem.wp_mono M Γ _ (fun ov _ s₂ h₂ => h₂ Γ _ hΓ) (fun _ _ _ h' => h') _ _ (h Γ _ hΓ)
end Mine
end
section
open PySem PySem.Calls PyProof.Rows PySem.W
set_option maxRecDepth 100000
set_option linter.all false
set_option maxHeartbeats 1000000
namespace Mine
variable {prog : Program} {w : World}
noncomputable def readRec : Option FnRec := (fnRec "_law_stream").bind fun r => r.body.findSome? (recOf "read")
/-- where the parts of a stream lie -/
structure Sm where
  st : Addr
  dx : Addr
  rf : Addr
  cc : Addr
  cr : Addr
noncomputable def Sm.Y (m : Sm) : List Addr := [m.st, m.dx, m.rf, m.cc, m.cr, tabP]
noncomputable def Sm.X (m : Sm) : List Addr := [m.st, m.dx]
/-- a stream that holds the octets B -/
structure StrmI (m : Sm) (B : List Nat) (h : Heap) (mA : Str → Option Value) (o : Obj) (pm doc ctv : Value) (r : FnRec) (t : Tok) (oc : Obj) (vs : Array Value) (tq : Tok) : Prop where
  inst : InstP m.st m.dx mA h
  within : Within mA ["value", "read"]
  tab : h.get? tabP = some (tabObj #[rawInt 141, rawInt 4, .ref m.cr]) ∧ m.cr ≠ m.st
  val : mA "value" = some (.bytes (By B) t)
  read : mA "read" = some (.ref m.rf)
  rec_ : readRec = some r
  rat : h.get? m.rf = some o
  rcls : o.cls = .type "function"
  rdata : o.data = .func (kdv_fn r.name "_law_stream.<locals>.read" r.params (.stmts r.body) r.scope [("stream", m.cc)] .none doc pm (.ref m.cr) ctv)
  cat : h.get? m.cr = some oc
  cdata : oc.data = .fields vs
  cname : vs[1]? = some (.str "_law_stream.<locals>.read" tq)
  cell : h.IsCell m.cc (some (.ref m.st)) ∧ m.cc ≠ m.st
/-- a stream that holds the octets B -/
noncomputable def Strm (m : Sm) (B : List Nat) : Sp := fun _ h => ∃ mA o pm doc ctv r t oc vs tq, StrmI m B h mA o pm doc ctv r t oc vs tq
theorem Strm.E {m : Sm} {B : List Nat} {ok : Addr → Prop} {h : Heap} {P : Prop} (S : Strm m B ok h) (k : ∀ mA o pm doc ctv r t oc vs tq, StrmI m B h mA o pm doc ctv r t oc vs tq → P) : P :=
  let ⟨_, _, _, _, _, _, _, _, _, _, I⟩ := S; k _ _ _ _ _ _ _ _ _ _ I
theorem Strm.code {m : Sm} {B : List Nat} {ok : Addr → Prop} {h : Heap} (S : Strm m B ok h) : h.CodeRec (.ref m.cr) "_law_stream.<locals>.read" :=
  S.E fun _ _ _ _ _ _ _ oc vs tq Z => ⟨_, oc, vs, tq, rfl, Z.cat, Z.cdata, Z.cname⟩
theorem Strm.stab {m : Sm} {B : List Nat} {Y : List Addr} (hY : ∀ a ∈ m.Y, a ∈ Y) : Stab Y (Strm m B) := by
  rintro ok h h' ⟨mA, o, pm, doc, ctv, r, t, oc, vs, tq, ⟨o1, a1, a2, a3, a4, a5, a6⟩, b, c, d, e, f, g, g2, i, j, j2, j3, ⟨⟨oc2, k1, k2⟩, kne⟩⟩ _ k
  have y1 := k m.st (hY _ (by simp [Sm.Y]))
  have y2 := k m.dx (hY _ (by simp [Sm.Y]))
  have y3 := k m.rf (hY _ (by simp [Sm.Y]))
  have y4 := k m.cc (hY _ (by simp [Sm.Y]))
  have y5 := k m.cr (hY _ (by simp [Sm.Y]))
  exact ⟨mA, o, pm, doc, ctv, r, t, oc, vs, tq, ⟨o1, y1 _ a1, a2, a3, a4, a5, a6.at fun o e => y2 o e⟩, b, ⟨k tabP (hY _ (by simp [Sm.Y])) _ c.1, c.2⟩, d, e, f, y3 _ g, g2, i, y5 _ j, j2, j3, ⟨oc2, y4 _ k1, k2⟩, kne⟩
theorem bcut_go {A : Around} {env : Env} {Γ : Ctx} {ok : Addr → Prop} {s : Shared} {E : Value → Shared → Prop} {Q : Value → Shared → Prop} {v : Expr} {lo up : Option Expr} {p pos : Pos} {l r : List Nat} {a b : Option Int}
    (hv : wpAny (model prog w) A (eval v env) (fun o s1 => ∃ t, o = .bytes (By l) t ∧ Gd ok env Γ s1.heap ∧ Keeps s s1) E s) (hlo : EvP prog w A env Γ lo a) (hup : EvP prog w A env Γ up b) (hr : KBy.picked (By l) a b = By r) (hl : r.length ≤ sizeLine)
    (q : ∀ t s', Gd ok env Γ s'.heap → Keeps s s' → Q (.bytes (By r) t) s') : wpAny (model prog w) A (eval (.Subscript v (.Slice lo up none p) pos) env) Q E s :=
  Subscript_ (wpAny_mono hv (fun o s1 z => by
    obtain ⟨t, rfl, g1, k1⟩ := z
    exact wpAny_Slice (part_go hlo g1 fun vl s2 ul el k2 g2 => part_go hup g2 fun vu s3 uu eu k3 g3 => wpAny_pure (by
      subst el eu
      have pa : ∀ (x : Option Int) (u : Tok), IsPart (partValue (x.map fun i => (i, u))) x := fun x u => by
        cases x with
        | none => exact .none
        | some i => exact .int i u
      have kp := kp_push s3 { cls := .type "slice", data := .fields #[partValue (a.map fun i => (i, ul)), partValue (b.map fun i => (i, uu)), .none] }
      refine tail_any (PySem.W.typeIs_bytes _ _ _) FB.slot_bytes_getitem.lookup (getItem_meets (PySem.W.typeIs_bytes _ _ _) (by decide) FB.slot_bytes_getitem FB.entry_bytes_getitem (FB.args_bytes_getitem_2 _ _) (KBc.meets_slice2 (By l) t _ (pa a ul) (pa b uu)) ⟨Heap.IsSliceOf.new _ _ _ _, ?_, ?_⟩) (by rfl)
      · rw [hr, By_size]; exact hl
      · intro t' k
        rw [hr]
        exact q _ _ (g3.ext fun b o e => kp_ext kp b o e) (kp_trans k1 (kp_trans k2 (kp_trans k3 (kp_trans (kp_push _ _) (kp_tok _ _))))))) ) fun _ _ x => x)
theorem tab_one {m : Sm} {h : Heap} (x : h.get? tabP = some (tabObj #[rawInt 141, rawInt 4, .ref m.cr]) ∧ m.cr ≠ m.st) : ∀ c' : Addr, h.get? tabP = some (tabObj #[rawInt 141, rawInt 4, .ref c']) → c' ≠ m.st := fun c' e => by
  have e2 := congrArg (fun o : Obj => o.data) (Option.some.inj (x.1.symm.trans e))
  injection e2 with e3
  have e4 := congrArg (fun v : Array Value => v[2]?) e3
  simp at e4
  rw [← e4]; exact x.2
/-- read(size) -/
theorem f_read {m : Sm} {B : List Nat} {k : Nat} {ok : Addr → Prop} {A : Around} {s : Shared} {u : Tok} (room : Room 1 A) (W : Wd s.heap) (N : Fresh ok s.heap) (S0 : Strm m B ok s.heap) (hlow : ∀ a ∈ [m.st, m.dx, m.cc], topLine ≤ a) (hB : B.length ≤ 100000) :
    codeAny (model prog w) A (.call (.ref m.rf) ⟨[.int (k : Nat) u], []⟩) (fun r s' => ∃ t, r = .ok (.ret (.bytes (By (B.take k)) t)) ∧ Strm m (B.drop k) ok s'.heap ∧ Wd s'.heap ∧ KB m.X s s') s := by
  refine S0.E fun mA o pm doc ctv r t oc vs tq Z0 => ?_
  have hr := Z0.rec_
  have hr' : readRec = some _ := rfl
  cases Option.some.inj (hr.symm.trans hr')
  refine enterN (k := 0) (binds := [("size", .int (k : Nat) u)]) room W Z0.rat Z0.rdata S0.code rfl (.of_eq (by rfl)) (noCell (by rfl)) (by intro y hy; simp only [List.mem_cons, List.not_mem_nil, or_false] at hy; rcases hy with rfl; rfl) rfl rfl (.cons (fun y hy => by cases hy) .nil) (by intro p hp; rw [List.mem_singleton.mp hp]; rfl) (by intro p hp; rw [List.mem_singleton.mp hp]; exact hlow _ (by simp)) rfl rfl rfl fun s₁ env he okE low hnew kp W1 hns hroom => ?_
  refine wpAny_noRaise ?_
  have S1 : Strm m B ok s₁.heap := stab_ext (Strm.stab fun a h => h) S0 (kp_ext kp)
  generalize hA : A.deeper env = A1 at hroom ⊢
  have hcells : env.cells = [(Str.ofString "stream", m.cc)] := by rw [he]; rfl
  have g : Gd ok env [("size", .data (.int (k : Nat)))] s₁.heap := by
    refine ⟨W1, N.ext (kp_ext kp), fm_of hns (fun n c q => ?_) fun z sl q => ?_⟩
    · rw [hcells] at q
      have : c = m.cc := by
        rw [List.lookup_cons] at q
        split at q
        · cases q; rfl
        · cases q
      rw [this]
      exact ⟨_, S1.E fun _ _ _ _ _ _ _ _ _ _ Z => Z.cell.1⟩
    · rw [List.lookup_cons] at q
      cases hb : z == Str.ofString "size" with
      | true => rw [hb] at q; cases q; cases beq_iff_eq.mp hb; exact ⟨by rw [he]; rfl, _, rfl, .int _ _⟩
      | false => rw [hb] at q; cases q
  -- given, stream.value = (stream.value[:size], stream.value[size:])
  have val : ∀ (s2 : Shared) (E : Value → Shared → Prop) (p1 p2 : Pos), Gd ok env [("size", .data (.int (k : Nat)))] s2.heap → Strm m B ok s2.heap →
      wpAny (model prog w) A1 (eval (.Attribute (.Name "stream" p1) "value" p2) env) (fun o s3 => ∃ t, o = .bytes (By B) t ∧ Gd ok env [("size", .data (.int (k : Nat)))] s3.heap ∧ Keeps s2 s3) E s2 := by
    intro s2 E p1 p2 g2 S2
    refine S2.E fun mA2 _ _ _ _ _ t2 _ _ _ Z2 => ?_
    refine PyProof.Rows.Attribute_name (wpAny_Name (wpAny_loadName_free okE.kind (by rw [he]; rfl) (by rw [hcells]; rfl) Z2.cell.1 (get_value g2.W Z2.inst Z2.val rfl ⟨_, rfl, g2.ext fun b o e => e, kp_tok _ _⟩) (by decide)) (by decide))
  refine wpAny_execs_cons (PyProof.Rows.Assign_Tuple (PySem.wpAny_Tuple ?_) (by rfl) (by rw [he]; rfl))
  refine Calls.spliced_cons (bcut_go (val s₁ _ _ _ g S1) .none (.some (ev_name okE rfl)) (bcut_to B k) (by rw [List.length_take]; exact Nat.le_trans (Nat.min_le_right _ _) (Nat.le_trans hB (by decide))) fun t1 s2 g2 k2 => ?_)
  have S2 := stab_ext (Strm.stab (m := m) (B := B) fun a h => h) S1 (kp_ext k2)
  refine Calls.spliced_cons (bcut_go (val s2 _ _ _ g2 S2) (.some (ev_name okE rfl)) .none (bcut_from B k) (by rw [List.length_drop]; exact Nat.le_trans (Nat.sub_le _ _) (Nat.le_trans hB (by decide))) fun t2 s3 g3 k3 => Calls.spliced_nil ⟨show 2 ≤ sizeLine by decide, ?_⟩)
  have hT : (s3.heap.push { cls := .type "tuple", data := .seq [Value.bytes (By (B.take k)) t1, Value.bytes (By (B.drop k)) t2].toArray }).IsTuple s3.heap.objs.size #[Value.bytes (By (B.take k)) t1, Value.bytes (By (B.drop k)) t2] := ⟨_, Heap.get?_push_size _ rfl, rfl, 0, rfl⟩
  refine PySem.wpAny_assign_Tuple (s := { s3 with heap := s3.heap.push { cls := .type "tuple", data := .seq [Value.bytes (By (B.take k)) t1, Value.bytes (By (B.drop k)) t2].toArray } }) hroom.hd hT (by rfl) (by rfl) fun h' hx => ?_
  have kp3 : Keeps s3 { s3 with heap := h' } := ⟨h', s3.toks, _, rfl, fun b o e => hx b o (by
    show b ≠ (s3.heap.push _).objs.size
    rw [Heap.size_push]; exact Nat.ne_of_lt (Nat.lt_succ_of_lt (Heap.lt_size e))) (Heap.get?_push_of_some _ e)⟩
  have g4 : Gd ok env [("size", .data (.int (k : Nat)))] h' := g3.ext (kp_ext kp3)
  have S4 : Strm m B ok h' := stab_ext (Strm.stab (m := m) (B := B) fun a h => h) (stab_ext (Strm.stab (m := m) (B := B) fun a h => h) S2 (kp_ext k3)) (kp_ext kp3)
  refine assignInOrder_cons (s := { s3 with heap := h' }) (wpAny_assign_Name (store_go okE low (.loc (by rw [he]; rfl)) g4 (sl := .data (.bytes (By (B.take k)))) (.bytes _ _) fun s5 g5 k5 l5 => ?_))
  have hthere : ∀ a ∈ m.Y, ∃ o, s.heap.get? a = some o := by
    obtain ⟨o3, a3, _, _, _, _, ⟨o4, _, _, a4, _⟩⟩ := Z0.inst
    obtain ⟨⟨o5, a5, _⟩, _⟩ := Z0.cell
    have a1 := Z0.rat
    have a2 := Z0.cat
    have a6 := Z0.tab.1
    intro a ha
    simp only [Sm.Y, List.mem_cons, List.not_mem_nil, or_false] at ha
    rcases ha with rfl | rfl | rfl | rfl | rfl | rfl
    · exact ⟨_, a3⟩
    · exact ⟨_, a4⟩
    · exact ⟨_, a1⟩
    · exact ⟨_, a5⟩
    · exact ⟨_, a2⟩
    · exact ⟨_, a6⟩
  have hoff : ∀ a ∈ m.Y, a ≠ env.locals := fun a ha q => by
    obtain ⟨o, e⟩ := hthere a ha
    rw [q, hnew] at e; cases e
  have t1 : tch env "given" = env.locals := by unfold tch; rw [he]; rfl
  have S5 : Strm m B ok s5.heap := Strm.stab (m := m) (B := B) (fun a h => h) ok _ _ S4 l5 fun b hb o e => k5.kept b o (by rw [t1]; exact mem1.mpr (hoff b hb)) e
  refine S5.E fun mA5 o6 pm6 doc6 ctv6 r6 t6 oc6 vs6 tq6 Z5 => ?_
  obtain ⟨I5, hwi5, hst5, hval5, hread5, hr5, hrf5, hcls5, hfd5, gc1, gc2, gc3, hcell5⟩ := Z5
  refine assignInOrder_cons (assign_attr (wpAny_Name (wpAny_loadName_free okE.kind (by rw [he]; rfl) (by rw [hcells]; rfl) hcell5.1 (set_attr g5.W I5 hwi5 (hlow _ (by simp)) (hlow _ (by simp)) (tab_one hst5) (.inl rfl) fun s6 I6 k6 W6 => assignInOrder_nil ?_) (by decide)) (by decide)))
  obtain ⟨m5, cm5, hn5, hc5, hx5⟩ := g5.F
  obtain ⟨vg, hvg, rg⟩ := hx5 "given" (.data (.bytes (By (B.take k)))) rfl
  have hvl : m5 "given" = some vg := by
    rcases hvg with ⟨_, e⟩ | ⟨z, _⟩
    · exact e
    · have : env.kindOf "given" = some .local := by rw [he]; rfl
      rw [this] at z; rcases z with z | z <;> cases z
  obtain ⟨tg, rfl⟩ := (show Rd ok s5.heap vg (.bytes (By (B.take k))) from rg).isBytes
  have hn6 : s6.heap.Ns env.locals m5 := by
    obtain ⟨oL, es, ep, eL, rL⟩ := hn5
    exact ⟨oL, es, ep, k6.kept _ _ (fun z => by
      simp only [List.mem_cons, List.not_mem_nil, or_false] at z
      rcases z with z | z
      · exact hoff m.st (by simp [Sm.Y]) z.symm
      · exact hoff m.dx (by simp [Sm.Y]) z.symm) eL, rL⟩
  refine wpAny_execs_cons (wpAny_Return_some (wpAny_Name (wpAny_loadName_local okE.kind (by rw [he]; rfl) hn6 hvl ⟨tg, rfl, ?_, W6, ?_⟩) (by decide)))
  · obtain ⟨o3, b1, b2, b3, b4, b5, b6⟩ := id I5
    have nfc : ∀ b o, s5.heap.get? b = some o → b ≠ m.st → b ≠ m.dx → s6.heap.get? b = some o := fun b o e n1 n2 => k6.kept b o (fun z => by
      simp only [List.mem_cons, List.not_mem_nil, or_false] at z
      rcases z with z | z
      · exact n1 z
      · exact n2 z) e
    obtain ⟨od, es, ep, d1, d2, _⟩ := b6
    have rfst : m.rf ≠ m.st := fun q => by
      rw [q] at hrf5
      cases Option.some.inj (b1.symm.trans hrf5)
      rw [b2] at hcls5; cases hcls5
    have rfdx : m.rf ≠ m.dx := fun q => by
      rw [q] at hrf5
      cases Option.some.inj (d1.symm.trans hrf5)
      rw [d2] at hfd5; cases hfd5
    have crst : m.cr ≠ m.st := fun q => by
      rw [q] at gc1
      exact hst5.2 q
    have crdx : m.cr ≠ m.dx := fun q => by
      rw [q] at gc1
      cases Option.some.inj (d1.symm.trans gc1)
      rw [d2] at gc2; cases gc2
    obtain ⟨⟨oc5, e1, e2⟩, ccst⟩ := hcell5
    have ccdx : m.cc ≠ m.dx := fun q => by
      rw [q] at e1
      cases Option.some.inj (d1.symm.trans e1)
      rw [d2] at e2; cases e2
    refine ⟨_, o6, pm6, doc6, ctv6, r6, t2, oc6, vs6, tq6, I6, fun y hy => ?_, ⟨nfc tabP _ hst5.1 (fun q => absurd (hlow m.st (by simp)) (by rw [← q]; decide)) (fun q => absurd (hlow m.dx (by simp)) (by rw [← q]; decide)), hst5.2⟩, by simp, ?_, hr5, nfc _ _ hrf5 rfst rfdx, hcls5, hfd5, nfc _ _ gc1 crst crdx, gc2, gc3, ⟨oc5, nfc _ _ e1 ccst ccdx, e2⟩, ccst⟩
    · try dsimp only at hy
      split at hy
      · rename_i q; rw [q]; exact .head _
      · exact hwi5 y hy
    · show (if (Str.ofString "read") = (Str.ofString "value") then _ else _) = _
      rw [if_neg (by decide)]
      exact hread5
  · have kk : ∀ b o, b ∉ m.X → s.heap.get? b = some o → s6.heap.get? b = some o := fun b o hb e => k6.kept b o hb (k5.kept b o (by
      rw [t1]
      exact mem1.mpr fun q => by rw [q, hnew] at e; cases e) (kp_ext kp3 _ _ (kp_ext k3 _ _ (kp_ext k2 _ _ (kp_ext kp _ _ e)))))
    exact KB.sh (sh_trans (sh_kp kp) (sh_trans (sh_kp k2) (sh_trans (sh_kp k3) (sh_trans (sh_kp kp3) (sh_trans (sh_kb k5) (sh_kb k6)))))) kk
end Mine
end
section
open PySem PySem.Calls PyProof.Rows PySem.W
set_option maxRecDepth 100000
set_option linter.all false
set_option maxHeartbeats 2000000
namespace Mine
section
variable {prog : Program} {w : World} {A : Around} {E : Value → Shared → Prop} {h : Heap} {g : Array GenState} {d : Drawn} {t : Nat} {os : OsState}
variable {nm q : Str} {C N x : Addr} {bs : List Value} {sn : List Str} {sub : List Value} {ab : Bool} {col : Option Bool} {dd : Option Addr} {k0 k1 k2 k3 k5 : Option Value} {newId : String} {mN mA : Str → Option Value} {name : Str}
/-- a method call through an object's own dict -/
theorem method_own {pl : Sem Bool} {v : Value} {Q : Value × List Value → Shared → Prop}
    (hC : h.get? C = some (excClassObj nm q C N bs [.type "object"] true sn sub ab col dd k0 k1 k2 k3 k5 newId)) (hn : h.Ns N mN) (hng : mN "__getattribute__" = none) (hnh : mN "__getattr__" = none)
    (hf : mN name = none) (hB : typeLookup (.type "object") name = pure none)
    (I : h.Inst x C mA) (hsh : mA name = some v) (hh : handedOut v = pure v) (hq : ∀ t', Q (v, []) ⟨h, g, d, t', os⟩) :
    wpAny (model prog w) A (getMethod (.ref x) name pl) Q E ⟨h, g, d, t, os⟩ := by
  obtain ⟨o, hx, hc, hnc, hd⟩ := id I
  have hcan := F.canon_object_ga
  unfold getMethod specialOf
  repeat (first | (with_reducible refine wpAny_loadPart_at hx ?_; rw [hc]) | (with_reducible refine wpAny_typeLookup_exc hC hn PySem.F.mro_object PySem.F.lk_object_ga ?_; rw [hng]) | (with_reducible refine wpAny_typeLookup_exc hC hn PySem.F.mro_object PySem.F.lk_object_getattr ?_; rw [hnh]) | (with_reducible refine wpAny_typeLookup_exc hC hn PySem.F.mro_object hB ?_; rw [hf]) | wp_step)
  show wpAny _ _ ((runValue (.builtin "proto.getattr_hooked" ⟨[.ref x, .str name t], []⟩)).onRaise (noteIf true (.ref x) (.str name t))) _ _ _
  refine wpAny_onRaise (wpAny_runValue (codeAny_builtin PySem.F.plainObj_entry_getattr_hooked (load_entry hC hn hf hB I hsh ?_)))
  show wpAny _ _ (handedOut v) _ _ _
  rw [hh]
  exact wpAny_pure (wpAny_pure (hq _))
end
end Mine
end
section
open PySem PySem.Calls PyProof.Rows PySem.W
set_option maxRecDepth 100000
set_option linter.all false
set_option maxHeartbeats 1000000
namespace Mine
/-! errors under way -/
noncomputable def frs (l : List Env) : List Addr := l.filterMap (·.frame)
/-- the frames below stand -/
noncomputable def Lv (l : List Env) (h : Heap) : Prop := ∀ env ∈ l, env.scope.kind ≠ .module ∧ ∃ L o es n, env.frame = some L ∧ topLine ≤ L ∧ h.get? L = some o ∧ o.data = .dict es n
theorem Lv.at {l : List Env} {h : Heap} (v : Lv l h) {b : Addr} (hb : b ∈ frs l) : topLine ≤ b ∧ ∃ o es n, h.get? b = some o ∧ o.data = .dict es n := by
  obtain ⟨env, he, hf⟩ := List.mem_filterMap.mp hb
  obtain ⟨_, L, o, es, n, hf', t, e, d⟩ := v env he
  cases Option.some.inj (hf.symm.trans hf')
  exact ⟨t, o, es, n, e, d⟩
theorem Lv.keep {l : List Env} {h h' : Heap} (v : Lv l h) (k : ∀ b ∈ frs l, ∀ o, h.get? b = some o → h'.get? b = some o) : Lv l h' := fun env he => by
  obtain ⟨a, L, o, es, n, hf, t, e, d⟩ := v env he
  exact ⟨a, L, o, es, n, hf, t, k L (List.mem_filterMap.mpr ⟨env, he, hf⟩) o e, d⟩
theorem Lv.ext {l : List Env} {h h' : Heap} (v : Lv l h) (x : Ext h h') : Lv l h' := v.keep fun b _ o e => x b o e
theorem Lv.fun {h base : Heap} : ∀ {l : List Env}, Lv l h → (∀ b ∈ frs l, base.get? b = none) → h.FunFrames base l
  | [], _, _ => trivial
  | env :: l, v, hb => by
    obtain ⟨a, L, o, es, n, hf, t, e, d⟩ := v env (.head _)
    exact ⟨a, ⟨L, o, hf, hb L (List.mem_filterMap.mpr ⟨env, .head _, hf⟩), e, fun vs q => by rw [d] at q; cases q⟩, Lv.fun (fun x hx => v x (.tail _ hx)) fun b hx => hb b (by
      obtain ⟨x, hx, hf⟩ := List.mem_filterMap.mp hx
      exact List.mem_filterMap.mpr ⟨x, .tail _ hx, hf⟩)⟩
theorem Lv.cons {ok : Addr → Prop} {Γ : Ctx} {env : Env} {l : List Env} {h : Heap} (okE : EnvOk env) (hf : env.frame = some env.locals) (F : Fm ok env Γ h) (v : Lv l h) : Lv (env :: l) h := fun x hx => by
  rcases List.mem_cons.mp hx with rfl | hx
  · obtain ⟨m, cm, ⟨o, es, n, e, d, _⟩, _⟩ := F
    exact ⟨by rw [okE.kind]; decide, _, o, es, n, hf, okE.lw.low _ (.head _), e, d⟩
  · exact v x hx
theorem Wd.hide {h : Heap} {as : List Addr} (W : Wd h) (ha : ∀ a ∈ as, topLine ≤ a ∧ ∃ o es n, h.get? a = some o ∧ o.data = .dict es n) : Wd (hideAll h as) := by
  obtain ⟨h0, c, w, lo, b, y, ps, t, q⟩ := W
  have low : ∀ b, b < topLine → b ∉ as := fun b hb m => absurd (ha b m).1 (Nat.not_le.mpr hb)
  refine ⟨h0, c, w, lo, b, fun b o e => hideAll_get _ (y b o e) (low b (lo b o e).1), ps, hideAll_get _ t (low _ (by decide)), q.imp id fun ⟨c', e, cr⟩ => ⟨c', e, ?_⟩⟩
  obtain ⟨ca, co, cvs, ct, ce, cg, cdt, cr⟩ := cr
  refine ⟨ca, co, cvs, ct, ce, hideAll_get _ cg fun m => ?_, cdt, cr⟩
  obtain ⟨_, o, es, n, e, d⟩ := ha ca m
  cases Option.some.inj (cg.symm.trans e)
  rw [d] at cdt; cases cdt
theorem lists_hide {ok : Addr → Prop} {h : Heap} {as : List Addr} (ha : ∀ a ∈ as, ∃ o es n, h.get? a = some o ∧ o.data = .dict es n) : Lists ok h (hideAll h as) := by
  rintro a vs _ ⟨o, e, c, n, d⟩
  refine ⟨o, hideAll_get _ e fun m => ?_, c, n, d⟩
  obtain ⟨o', es, n', e', d'⟩ := ha a m
  cases Option.some.inj (e.symm.trans e')
  rw [d] at d'; cases d'

/-- an error under way above the frames ls; O and X may have been turned, what stands in Y is as P says -/
structure Fly (ls : List Env) (O X Y : List Addr) (P : Sp) (ok : Addr → Prop) (msg : List Nat) (e : Value) (s0 s : Shared) : Prop where
  of : ∃ base ea t u, e = .ref ea ∧ Heap.FlyingW base ls ea (.type "ValueError") (.ref t) s.heap ∧ s.heap.TupAt t [.str (S msg) u] ∧ base.get? t = none ∧ Wd base ∧ P ok base ∧ There Y base ∧
    ∀ b o, b ∉ X → b ∉ O → b ∉ frs ls → s0.heap.get? b = some o → base.get? b = some o
  fr : ∀ b ∈ frs ls, b ∉ O → ∀ o, s0.heap.get? b = some o → (∃ es n, o.data = .dict es n) → ∃ sl, s.heap.get? b = some { o with slots := sl }
  same : ∃ h tk dr, s = { s0 with heap := h, toks := tk, drawn := dr }

theorem slots_step {h h' : Heap} (u : h.UpToSlots h') {b : Addr} {o o1 : Obj} {sl : Array (Option Value)} (d : ∃ es n, o.data = .dict es n) (e : h.get? b = some { o with slots := sl }) : ∃ sl', h'.get? b = some { o with slots := sl' } := by
  obtain ⟨es, n, d⟩ := d
  obtain ⟨sl', e'⟩ := u b _ e (fun vs q => by dsimp only at q; rw [d] at q; cases q)
  exact ⟨sl', e'⟩
/-- what was, goes on -/
theorem Fly.after {ls : List Env} {O X Y : List Addr} {P : Sp} {ok : Addr → Prop} {msg : List Nat} {e : Value} {s s0 s1 : Shared} (f : Fly ls O X Y P ok msg e s1 s) (k : KB (X ++ O) s0 s1) (hX : ∀ b ∈ frs ls, b ∉ X) : Fly ls O X Y P ok msg e s0 s := by
  obtain ⟨⟨base, ea, t, tk, he, fl, tu, bt, wb, pb, tb, kb⟩, fr, hh, tk2, _, rfl⟩ := f
  have kk := k.kept
  obtain ⟨h1, t1, _, rfl, _⟩ := k
  exact ⟨⟨base, ea, t, tk, he, fl, tu, bt, wb, pb, tb, fun b o q1 q2 q3 e => kb b o q1 q2 q3 (kk b o (by simp [q1, q2]) e)⟩, fun b hb ho o e d => fr b hb ho o (kk b o (by simp [hX b hb, ho]) e) d, ⟨_, _, _, rfl⟩⟩
theorem Fly.wide {ls : List Env} {O O' X Y : List Addr} {P : Sp} {ok : Addr → Prop} {msg : List Nat} {e : Value} {s s0 : Shared} (f : Fly ls O X Y P ok msg e s0 s) (h : ∀ b ∈ O, b ∈ O') : Fly ls O' X Y P ok msg e s0 s := by
  obtain ⟨⟨base, ea, t, tk, he, fl, tu, bt, wb, pb, tb, kb⟩, fr, same⟩ := f
  exact ⟨⟨base, ea, t, tk, he, fl, tu, bt, wb, pb, tb, fun b o q1 q2 q3 e => kb b o q1 (fun m => q2 (h b m)) q3 e⟩, fun b hb ho o e d => fr b hb (fun m => ho (h b m)) o e d, same⟩
theorem Fly.wd {ls : List Env} {O X Y : List Addr} {P : Sp} {ok : Addr → Prop} {msg : List Nat} {e : Value} {s s0 : Shared} (f : Fly ls O X Y P ok msg e s0 s) : Wd s.heap := by
  obtain ⟨base, ea, t, tk, he, fl, tu, bt, wb, pb, tb, kb⟩ := f.of
  exact wb.ext fl.1
theorem Fly.fresh {ls : List Env} {O X Y : List Addr} {P : Sp} {ok : Addr → Prop} {msg : List Nat} {e : Value} {s s0 : Shared} (f : Fly ls O X Y P ok msg e s0 s) (N : Fresh ok s0.heap) (hO : ∀ b ∈ O, ∃ o, s.heap.get? b = some o) (hXY : ∀ b ∈ X, b ∈ Y) : Fresh ok s.heap := fun a ea => by
  obtain ⟨base, ex, t, tk, he, fl, tu, bt, wb, pb, tb, kb⟩ := f.of
  refine N a ?_
  cases q : s0.heap.get? a with
  | none => rfl
  | some o =>
    exfalso
    by_cases h1 : a ∈ X
    · obtain ⟨o', e'⟩ := tb a (hXY a h1)
      rw [fl.1 a o' e'] at ea; cases ea
    by_cases h2 : a ∈ O
    · obtain ⟨o', e'⟩ := hO a h2
      rw [e'] at ea; cases ea
    by_cases h3 : a ∈ frs ls
    · obtain ⟨_, o', e', _⟩ := fl.2.2.1.mem h3
      rw [e'] at ea; cases ea
    · rw [fl.1 a o (kb a o h1 h2 h3 q)] at ea; cases ea
theorem Fly.side {ls : List Env} {O X Y : List Addr} {P : Sp} {ok : Addr → Prop} {msg : List Nat} {e : Value} {s s0 : Shared} (f : Fly ls O X Y P ok msg e s0 s) (sb : Stab Y P) : P ok s.heap := by
  obtain ⟨base, ex, t, tk, he, fl, tu, bt, wb, pb, tb, kb⟩ := f.of
  exact stab_ext sb pb fl.1
/-- lists and names after an error under way -/
theorem lists_slots {ok : Addr → Prop} {h h' : Heap} (u : h.UpToSlots h') : Lists ok h h' := by
  rintro a vs _ ⟨o, e, c, n, d⟩
  obtain ⟨sl, e'⟩ := u a o e fun vs q => by rw [d] at q; cases q
  exact ⟨_, e', c, n, d⟩
theorem Fm.slots {ok : Addr → Prop} {env : Env} {Γ : Ctx} {h h' : Heap} (F : Fm ok env Γ h) (u : h.UpToSlots h') : Fm ok env Γ h' :=
  let ⟨m, cm, a, b, c⟩ := F
  ⟨m, cm, u.ns a, fun n k e => by
    obtain ⟨o, e1, d⟩ := b n k e
    obtain ⟨sl, e'⟩ := u k o e1 fun vs q => by rw [d] at q; cases q
    exact ⟨_, e', d⟩, fun y sl e => let ⟨v, p, q⟩ := c y sl e; ⟨v, p, q.lists (lists_slots u)⟩⟩
theorem Fly.lists {ls : List Env} {X Y : List Addr} {P : Sp} {ok : Addr → Prop} {msg : List Nat} {e : Value} {s s0 : Shared} (f : Fly ls [] X Y P ok msg e s0 s) (v : Lv ls s0.heap) (na : ∀ a ∈ X, ¬ ok a) : Lists ok s0.heap s.heap := by
  obtain ⟨base, ex, t, tk, he, fl, tu, bt, wb, pb, tb, kb⟩ := f.of
  rintro a vs oka ⟨o, e, c, n, d⟩
  refine ⟨o, fl.1 a o (kb a o (fun m => na a m oka) (fun m => by cases m) (fun m => ?_) e), c, n, d⟩
  obtain ⟨_, o', es, n', e', d'⟩ := v.at m
  cases Option.some.inj (e.symm.trans e')
  rw [d] at d'; cases d'
theorem Fly.fm {env : Env} {Γ : Ctx} {l : List Env} {X Y : List Addr} {P : Sp} {ok : Addr → Prop} {msg : List Nat} {e : Value} {s s0 : Shared} (f : Fly (env :: l) [] X Y P ok msg e s0 s) (okE : EnvOk env) (hf : env.frame = some env.locals) (F : Fm ok env Γ s0.heap) (v : Lv l s0.heap) (na : ∀ a ∈ X, ¬ ok a) (off : ∀ a ∈ X, a ∉ own env) : Fm ok env Γ s.heap := by
  have v1 := v.cons okE hf F
  have li := f.lists v1 na
  obtain ⟨base, ex, t, tk, he, fl, tu, bt, wb, pb, tb, kb⟩ := f.of
  obtain ⟨m, cm, ⟨o, es, n, e1, d, sk⟩, b, c⟩ := F
  have hm : env.locals ∈ frs (env :: l) := List.mem_filterMap.mpr ⟨env, .head _, hf⟩
  refine ⟨m, cm, ?_, fun x k ek => ?_, fun y sl e => let ⟨v, p, q⟩ := c y sl e; ⟨v, p, q.lists li⟩⟩
  · obtain ⟨sl, e2⟩ := f.fr _ hm (fun m => by cases m) o e1 ⟨es, n, d⟩
    exact ⟨_, es, n, e2, d, sk⟩
  · obtain ⟨oc, ec, dc⟩ := b x k ek
    refine ⟨oc, fl.1 k oc (kb k oc (fun m => off k m (.tail _ (List.mem_map.mpr ⟨_, mem_of_lookup ek, rfl⟩))) (fun m => by cases m) (fun m => ?_) ec), dc⟩
    obtain ⟨_, o', es', n', e', d'⟩ := v1.at m
    cases Option.some.inj (ec.symm.trans e')
    rw [dc] at d'; cases d'

/-- the side of a walk that may fail -/
structure SideOk (env : Env) (l : List Env) (X Y : List Addr) : Prop where
  okE : EnvOk env
  fr : env.frame = some env.locals
  XY : ∀ a ∈ X, a ∈ Y
  offY : ∀ a ∈ Y, a ∉ own env
  offF : ∀ a ∈ frs l, a ∉ Y ∧ a ∉ own env
theorem SideOk.low {env : Env} {l : List Env} {X Y : List Addr} (h : SideOk env l X Y) : EnvLow env := h.okE.lw
theorem SideOk.offX {env : Env} {l : List Env} {X Y : List Addr} (h : SideOk env l X Y) : ∀ a ∈ X, a ∉ own env := fun a ha => h.offY a (h.XY a ha)
theorem SideOk.frX {env : Env} {l : List Env} {X Y : List Addr} (h : SideOk env l X Y) : ∀ b ∈ frs (env :: l), b ∉ X := fun b hb m => by
  obtain ⟨x, hx, hf⟩ := List.mem_filterMap.mp hb
  rcases List.mem_cons.mp hx with rfl | hx
  · rw [h.fr] at hf; cases hf
    exact h.offX _ m (.head _)
  · exact (h.offF b (List.mem_filterMap.mpr ⟨x, hx, hf⟩)).1 (h.XY _ m)

section
variable {prog : Program} {w : World} {A : Around} {env : Env} {l : List Env} {Γ Γ1 Γ2 Γe Γf : Ctx} {X Y : List Addr} {P P1 P2 : Sp} {er : Option (List Nat)}

noncomputable def OutF (env : Env) (l : List Env) (X Y : List Addr) (Γ : Ctx) (P : Sp) (Γe : Ctx) (Q : Flow → Shared → Prop) (E : Value → Shared → Prop) (ok : Addr → Prop) (s : Shared) (er : Option (List Nat)) : Prop :=
  (∀ s', er = none → Gd ok env Γ s'.heap → P ok s'.heap → There Y s'.heap → Lv l s'.heap → KB (X ++ own env) s s' → Q .next s') ∧
  (∀ e s' msg, er = some msg → Fly (env :: l) (own env) X Y P ok msg e s s' → Fm ok env Γe s'.heap → E e s')
theorem OutF.after {Q : Flow → Shared → Prop} {E : Value → Shared → Prop} {ok : Addr → Prop} {s s1 : Shared} (sd : SideOk env l X Y) (o : OutF env l X Y Γ P Γe Q E ok s er) (k : KB (X ++ own env) s s1) : OutF env l X Y Γ P Γe Q E ok s1 er :=
  ⟨fun s' e g p t v k' => o.1 s' e g p t v (k.trans k'), fun e s' msg em f fm => o.2 e s' msg em (f.after k sd.frX) fm⟩
noncomputable def ExF (prog : Program) (w : World) (A : Around) (env : Env) (l : List Env) (X Y : List Addr) (Γ : Ctx) (P : Sp) (ss : List Stmt) (Γ' : Ctx) (P' : Sp) (Γe : Ctx) (er : Option (List Nat)) : Prop :=
  ∀ ok s (Q : Flow → Shared → Prop) E, PassesOwn (model prog w) A env E → (∀ a ∈ X, ¬ ok a) → Gd ok env Γ s.heap → P ok s.heap → There Y s.heap → Lv l s.heap → OutF env l X Y Γ' P' Γe Q E ok s er → wpAny (model prog w) A (execs ss env) Q E s
noncomputable def ExF1 (prog : Program) (w : World) (A : Around) (env : Env) (l : List Env) (X Y : List Addr) (Γ : Ctx) (P : Sp) (st : Stmt) (Γ' : Ctx) (P' : Sp) (Γe : Ctx) (er : Option (List Nat)) : Prop :=
  ∀ ok s (Q : Flow → Shared → Prop) E, PassesOwn (model prog w) A env E → (∀ a ∈ X, ¬ ok a) → Gd ok env Γ s.heap → P ok s.heap → There Y s.heap → Lv l s.heap → OutF env l X Y Γ' P' Γe Q E ok s er → wpAny (model prog w) A (exec st env) Q E s

theorem Lv.kb {s s' : Shared} (sd : SideOk env l X Y) (v : Lv l s.heap) (k : KB (X ++ own env) s s') : Lv l s'.heap := v.keep fun b hb o e => k.kept b o (fun m => by
  rcases List.mem_append.mp m with m | m
  · exact (sd.offF b hb).1 (sd.XY b m)
  · exact (sd.offF b hb).2 m) e

theorem exf_nil : ExF prog w A env l X Y Γ P [] Γ P Γe none := fun ok s Q E hE na g p t v o => wpAny_execs_nil (o.1 s rfl g p t v (KB.refl _ _))
theorem exf_cons {st : Stmt} {r : List Stmt} (sd : SideOk env l X Y) (h : ExF1 prog w A env l X Y Γ P st Γ1 P1 Γe none) (k : ExF prog w A env l X Y Γ1 P1 r Γ2 P2 Γe er) : ExF prog w A env l X Y Γ P (st :: r) Γ2 P2 Γe er := fun ok s Q E hE na g p t v o =>
  wpAny_execs_cons (h ok s _ E hE na g p t v ⟨fun s1 _ g1 p1 t1 v1 k1 => k ok s1 Q E hE na g1 p1 t1 v1 (o.after sd k1), fun e s' m em => by cases em⟩)
theorem exf_fail {st : Stmt} {r : List Stmt} {m : List Nat} (h : ExF1 prog w A env l X Y Γ P st Γ1 P1 Γe (some m)) : ExF prog w A env l X Y Γ P (st :: r) Γ2 P1 Γe (some m) := fun ok s Q E hE na g p t v o =>
  wpAny_execs_cons (h ok s _ E hE na g p t v ⟨fun s1 e => (nomatch e), o.2⟩)
theorem exf_sub {ss : List Stmt} (h : ExF prog w A env l X Y Γ P ss Γ1 P1 Γe er) (k : Sub Γ2 Γ1) : ExF prog w A env l X Y Γ P ss Γ2 P1 Γe er := fun ok s Q E hE na g p t v o =>
  h ok s Q E hE na g p t v ⟨fun s1 e g1 => o.1 s1 e (g1.sub k), o.2⟩
theorem exf_subE {ss : List Stmt} (h : ExF prog w A env l X Y Γ P ss Γ1 P1 Γe er) (k : Sub Γf Γe) : ExF prog w A env l X Y Γ P ss Γ1 P1 Γf er := fun ok s Q E hE na g p t v o =>
  h ok s Q E hE na g p t v ⟨o.1, fun e s' msg em f fm => o.2 e s' msg em f (fm.sub k)⟩
theorem exf1_subE {st : Stmt} (h : ExF1 prog w A env l X Y Γ P st Γ1 P1 Γe er) (k : Sub Γf Γe) : ExF1 prog w A env l X Y Γ P st Γ1 P1 Γf er := fun ok s Q E hE na g p t v o =>
  h ok s Q E hE na g p t v ⟨o.1, fun e s' msg em f fm => o.2 e s' msg em f (fm.sub k)⟩
theorem exf1_of {st : Stmt} (sd : SideOk env l X Y) (sb : Stab Y P) (h : Ex1 prog w A env Γ st Γ1) : ExF1 prog w A env l X Y Γ P st Γ1 P Γe none := fun ok s Q E hE na g p t v o =>
  wpAny_mono (h ok s E g) (fun f s1 z => by
    obtain ⟨rfl, g1, k1⟩ := z
    have kx : KB (X ++ own env) s s1 := k1.mono fun b hb => List.mem_append.mpr (.inr hb)
    exact o.1 s1 rfl g1 (stab_kb sb sd.offY sd.okE g.F p k1) (t.kb sd.offY k1) (v.kb sd kx) kx) fun _ _ x => x
theorem exf1_if {tt : Expr} {b o : List Stmt} {pos : Pos} {c : Bool} (sd : SideOk env l X Y) (sb : Stab Y P) (h : Tst prog w A env Γ tt c) (h1 : c = true → ExF prog w A env l X Y Γ P b Γ1 P1 Γe er) (h2 : c = false → ExF prog w A env l X Y Γ P o Γ1 P1 Γe er) :
    ExF1 prog w A env l X Y Γ P (.If tt b o pos) Γ1 P1 Γe er := fun ok s Q E hE na g p t v oo =>
  wpAny_If (h.go g fun s1 k g1 => by
    have x := kp_ext k
    cases c with
    | true => exact h1 rfl ok s1 Q E hE na g1 (stab_ext sb p x) (t.ext x) (v.ext x) (oo.after sd (KB.of k))
    | false => exact h2 rfl ok s1 Q E hE na g1 (stab_ext sb p x) (t.ext x) (v.ext x) (oo.after sd (KB.of k)))
end
end Mine
end
section
open PySem PySem.Calls PyProof.Rows PySem.W
set_option maxRecDepth 100000
set_option linter.all false
set_option maxHeartbeats 1000000
namespace Mine
/-- values as slots say -/
inductive SlAll (ok : Addr → Prop) (h : Heap) : List Value → List Sl → Prop
  | nil : SlAll ok h [] []
  | cons {v : Value} {sl : Sl} {vs : List Value} {sls : List Sl} : sl.At ok h v → SlAll ok h vs sls → SlAll ok h (v :: vs) (sl :: sls)
theorem SlAll.length {ok : Addr → Prop} {h : Heap} : ∀ {vs : List Value} {sls : List Sl}, SlAll ok h vs sls → vs.length = sls.length
  | _, _, .nil => rfl
  | _, _, .cons a r => by simp [r.length]
theorem zip_isS {ok : Addr → Prop} {h : Heap} {kindOf : Str → Option NameKind} {x : Str} : ∀ {ps : List Str} {vs : List Value} {ds : List Sl} {m cm : Str → Option Value} {sl : Sl}, nd ps = true → SlAll ok h vs ds →
    (ps.zip ds).lookup x = some sl →
    ∃ v, x ∈ ps ∧ sl.At ok h v ∧ (kindOf x = some .local → bindL kindOf (ps.zip vs) m x = some v) ∧ (kindOf x ≠ some .local → bindC kindOf (ps.zip vs) cm x = some v)
  | [], _, _, _, _, _, _, _, e => by simp at e
  | p :: ps, _, _, m, cm, sl, hn, .nil, e => by simp at e
  | p :: ps, v :: vs, d :: ds, m, cm, sl, hn, .cons r rs, e => by
    unfold nd at hn
    obtain ⟨h1, h2⟩ := Bool.and_eq_true_iff.mp hn
    simp only [List.zip_cons_cons, List.lookup_cons] at e
    cases hb : x == p with
    | true =>
      rw [hb] at e; cases e
      cases beq_iff_eq.mp hb
      have hne : ∀ q ∈ ps.zip vs, q.1 ≠ x := by
        rintro ⟨a, b⟩ hq rfl
        have := (List.of_mem_zip hq).1
        simp at h1
        exact h1 this
      refine ⟨v, .head _, r, fun hk => ?_, fun hk => ?_⟩
      · simp only [List.zip_cons_cons, bindL]
        rw [bindL_keep hne, if_pos hk, if_pos rfl]
      · simp only [List.zip_cons_cons, bindC]
        rw [bindC_keep hne, if_neg hk, if_pos rfl]
    | false =>
      rw [hb] at e
      obtain ⟨u, q1, q2, q3, q4⟩ := zip_isS (kindOf := kindOf) (m := if kindOf p = some .local then fun y => if y = p then some v else m y else m) (cm := if kindOf p = some .local then cm else fun y => if y = p then some v else cm y) h2 rs e
      exact ⟨u, .tail _ q1, q2, q3, q4⟩

section
variable {prog : Program} {w : World}
theorem fn_inS {r : FnRec} {ps : List Str} {ds : List Sl} {k : Nat} {ok : Addr → Prop} {A : Around} {s : Shared} {a : Addr} {vs : List Value} {R : Result → Shared → Prop} (sg : Sig r ps) (hlen : ds.length = ps.length) (room : Room (k + 1) A) (N : Fresh ok s.heap) (W : Wd s.heap)
    (F : IsFn s.heap a r .none .none) (rd : SlAll ok s.heap vs ds)
    (h : ∀ s₁ env pm cd doc L, env = callEnvC (docDef r.name r.params r.body r.scope pm cd doc) L a → EnvOk env → EnvLow env → (∀ b ∈ own env, s.heap.get? b = none) → Keeps s s₁ → Gd ok env (ps.zip ds) s₁.heap → Room k (A.deeper env) →
      wpAny (model prog w) (A.deeper env) (execs r.body env) (fun f s' => R (.ok (.ret (match f with | .ret v => v | _ => .none))) s')
        (fun e s' => wpAny (model prog w) (A.deeper env) (leaving env e) (fun _ s'' => R (.error e) s'') (fun e' s'' => R (.error e') s'') s') s₁) :
    codeAny (model prog w) A (.call (.ref a) ⟨vs, []⟩) R s := by
  obtain ⟨o, pm, cd, doc, ho, hd, hc⟩ := F
  have hvl : vs.length = ps.length := rd.length.trans hlen
  have kz : ∀ n, ∀ x ∈ ps.zip vs, r.scope.names.lookup x.1 = some .local ∨ (r.scope.names.lookup x.1 = some .cell ∧ ((cellsFrom n r.scope.names []).lookup x.1).isSome = true) :=
    fun n x hx => sg.kinds n x.1 (List.of_mem_zip (show (x.1, x.2) ∈ _ from hx)).1
  refine fn_enter room W ho hd hc (sg.bind pm cd doc vs hvl) kz sg.self sg.kind sg.co sg.gen fun s₁ env he okE low hown kp W₁ hF hroom => h s₁ env pm cd doc _ he okE low hown kp ⟨W₁, N.ext (kp_ext kp), ?_⟩ hroom
  obtain ⟨m, cm, hn, hcl, rfl, rfl⟩ := hF
  refine ⟨_, _, hn, hcl, fun x sl e => ?_⟩
  obtain ⟨v, hx, q1, q2, q3⟩ := zip_isS (kindOf := env.kindOf) (m := fun _ => none) (cm := fun _ => none) sg.apart rd e
  refine ⟨v, ?_, q1.lists (kp_ext kp).lists⟩
  rcases sg.kinds (s.heap.objs.size + 1) x hx with hl | ⟨hl, hs⟩
  · have hk : env.kindOf x = some .local := by rw [he]; exact hl
    exact .inl ⟨hk, q2 hk⟩
  · have hk : env.kindOf x = some .cell := by rw [he]; exact hl
    obtain ⟨c, hc⟩ := Option.isSome_iff_exists.mp hs
    exact .inr ⟨.inl hk, ⟨c, by rw [he]; exact hc⟩, q3 (by rw [hk]; decide)⟩

/-- what a call that may fail comes to -/
noncomputable def FOut (X Y : List Addr) (l : List Env) (d : D) (P' : Sp) (er : Option (List Nat)) (ok : Addr → Prop) (s : Shared) (r : Result) (s' : Shared) : Prop := match er with
  | none => ∃ v, r = .ok (.ret v) ∧ Rd ok s'.heap v d ∧ P' ok s'.heap ∧ There Y s'.heap ∧ Wd s'.heap ∧ KB X s s'
  | some msg => ∃ e, r = .error e ∧ Fly l [] X Y P' ok msg e s s'
noncomputable def FnF (prog : Program) (w : World) (k : Nat) (r : FnRec) (sls : List Sl) (X Y : List Addr) (P : Sp) (d : D) (P' : Sp) (er : Option (List Nat)) : Prop :=
  ∀ (ok : Addr → Prop) (A : Around) (l : List Env) (s : Shared) (a : Addr) (vs : List Value), Room k A → (er ≠ none → A.frames = some l) → (∀ a ∈ X, ¬ ok a) → Fresh ok s.heap → Wd s.heap → P ok s.heap → There Y s.heap → Lv l s.heap → (∀ a ∈ frs l, a ∉ Y) →
    IsFn s.heap a r .none .none → SlAll ok s.heap vs sls → codeAny (model prog w) A (.call (.ref a) ⟨vs, []⟩) (FOut X Y l d P' er ok s) s

/-- the side of a def's frame -/
theorem side_in {env : Env} {l : List Env} {X Y : List Addr} {s : Shared} (okE : EnvOk env) (hf : env.frame = some env.locals) (hXY : ∀ a ∈ X, a ∈ Y) (hnew : ∀ b ∈ own env, s.heap.get? b = none) (t : There Y s.heap) (v : Lv l s.heap) (hl : ∀ a ∈ frs l, a ∉ Y) : SideOk env l X Y where
  okE := okE
  fr := hf
  XY := hXY
  offY := fun a ha hb => by obtain ⟨o, e⟩ := t a ha; rw [hnew a hb] at e; cases e
  offF := fun a ha => ⟨hl a ha, fun hb => by obtain ⟨_, o, _, _, e, _⟩ := v.at ha; rw [hnew a hb] at e; cases e⟩
/-- an error leaves the frame that it was handed to -/
theorem leave_fly {A : Around} {env : Env} {l : List Env} {X Y : List Addr} {P : Sp} {ok : Addr → Prop} {msg : List Nat} {e : Value} {s s1 s' : Shared} {Q : Unit → Shared → Prop} {E : Value → Shared → Prop} {M : Model} (sd : SideOk env l X Y) (hfr : A.frames = some (env :: l)) (hnew : ∀ b ∈ own env, s.heap.get? b = none)
    (k : Keeps s s1) (f : Fly (env :: l) (own env) X Y P ok msg e s1 s') (q : ∀ s2, Fly l [] X Y P ok msg e s s2 → Q () s2) : wpAny M A (leaving env e) Q E s' := by
  obtain ⟨⟨base, ea, t, tk, rfl, fl, tu, bt, wb, pb, tb, kb⟩, fr, hh, tk2, _, rfl⟩ := f
  have hnl : ∀ b o, s.heap.get? b = some o → b ∉ own env := fun b o e hb => by rw [hnew b hb] at e; cases e
  have x := kp_ext k
  have sub : ∀ b ∈ frs l, b ∈ frs (env :: l) := fun b hb => by
    obtain ⟨x, hx, hf⟩ := List.mem_filterMap.mp hb
    exact List.mem_filterMap.mpr ⟨x, .tail _ hx, hf⟩
  have sub2 : ∀ b ∈ frs (env :: l), b ∈ frs l ∨ b = env.locals := fun b hb => by
    obtain ⟨x, hx, hf⟩ := List.mem_filterMap.mp hb
    rcases List.mem_cons.mp hx with rfl | hx
    · rw [sd.fr] at hf; cases hf
      exact .inr rfl
    · exact .inl (List.mem_filterMap.mpr ⟨x, hx, hf⟩)
  refine wpAny_leaves_onW hfr sd.fr fl fun h' fl' u => q _ ⟨⟨base, ea, t, tk, rfl, fl', tu.of_slots u, bt, wb, pb, tb, fun b o h1 _ h3 e => kb b o h1 (hnl b o e) (fun m => ?_) (x b o e)⟩, fun b hb _ o e d => ?_, ?_⟩
  · rcases sub2 b m with m | rfl
    · exact h3 m
    · exact hnl _ o e (.head _)
  · obtain ⟨sl, e2⟩ := fr b (sub b hb) (hnl b o e) o (x b o e) d
    exact slots_step (o1 := o) u d e2
  · obtain ⟨h1, t1, _, rfl, _⟩ := k
    exact ⟨_, _, _, rfl⟩
/-- an error made in the frame leaves it -/
theorem leave_made {A : Around} {env : Env} {l : List Env} {X Y : List Addr} {P : Sp} {ok : Addr → Prop} {Γ : Ctx} {msg : List Nat} {u : Tok} {e : Addr} {s s1 s2 : Shared} {h' : Heap} {Q : Unit → Shared → Prop} {E : Value → Shared → Prop} {M : Model} (sd : SideOk env l X Y) (hfr : A.frames = some (env :: l)) (hnew : ∀ b ∈ own env, s.heap.get? b = none)
    (k : Keeps s s1) (g : Gd ok env Γ s2.heap) (p : P ok s2.heap) (sb : Stab Y P) (t : There Y s2.heap) (v : Lv l s2.heap) (kb : KB (X ++ own env) s1 s2) (mk : Heap.MadeExc s2.heap h' e "ValueError" [.str (S msg) u]) (q : ∀ s3, Fly l [] X Y P ok msg (.ref e) s s3 → Q () s3) : wpAny M A (leaving env (.ref e)) Q E { s2 with heap := h' } := by
  have v1 : Lv (env :: l) s2.heap := v.cons sd.okE sd.fr g.F
  have hnl : ∀ b o, s.heap.get? b = some o → b ∉ own env := fun b o e hb => by rw [hnew b hb] at e; cases e
  have x := kp_ext k
  have hd : ∀ a ∈ frs (env :: l), topLine ≤ a ∧ ∃ o es n, s2.heap.get? a = some o ∧ o.data = .dict es n := fun a ha => v1.at ha
  have hX : ∀ b ∈ frs l, b ∉ X := fun b hb m => (sd.offF b hb).1 (sd.XY b m)
  have st : Heap.StaysIn (hideAll s2.heap (frs (env :: l))) s2.heap := fun b o e => of_hideAll _ e
  have offY : ∀ b ∈ Y, b ∉ frs (env :: l) := fun b hb m => by
    obtain ⟨x, hx, hf⟩ := List.mem_filterMap.mp m
    rcases List.mem_cons.mp hx with rfl | hx
    · rw [sd.fr] at hf; cases hf
      exact sd.offY _ hb (.head _)
    · exact (sd.offF b (List.mem_filterMap.mpr ⟨x, hx, hf⟩)).1 hb
  have sub2 : ∀ b ∈ frs (env :: l), b ∈ frs l ∨ b = env.locals := fun b hb => by
    obtain ⟨x, hx, hf⟩ := List.mem_filterMap.mp hb
    rcases List.mem_cons.mp hx with rfl | hx
    · rw [sd.fr] at hf; cases hf
      exact .inr rfl
    · exact .inl (List.mem_filterMap.mpr ⟨x, hx, hf⟩)
  refine wpAny_leaves_madeW (base := hideAll s2.heap (frs (env :: l))) (h := s2.heap) (cls := .type "ValueError") (args := [.str (S msg) u]) hfr sd.fr st (v1.fun fun b hb => hideAll_none _ hb) ⟨mk.keeps, mk.new, mk.there⟩ fun h3 t3 fl tu bt us => q _ ⟨⟨_, e, t3, u, rfl, fl, tu, bt, g.W.hide hd, ?_, ?_, fun b o h1 _ h3 eb => ?_⟩, fun b hb _ o eb d => ?_, ?_⟩
  · exact sb ok _ _ p (lists_hide fun a ha => (hd a ha).2) fun b hb o e => hideAll_get _ e (offY b hb)
  · exact t.keep fun b hb o e => hideAll_get _ e (offY b hb)
  · refine hideAll_get _ (kb.kept b o (fun m => ?_) (x b o eb)) fun m => ?_
    · rcases List.mem_append.mp m with m | m
      · exact h1 m
      · exact hnl b o eb m
    · rcases sub2 b m with m | rfl
      · exact h3 m
      · exact hnl _ o eb (.head _)
  · have e2 := mk.keeps b o (kb.kept b o (fun m => by
      rcases List.mem_append.mp m with m | m
      · exact hX b hb m
      · exact hnl b o eb m) (x b o eb))
    exact slots_step (o1 := o) us d (sl := o.slots) e2
  · obtain ⟨h1, t1, _, rfl, _⟩ := k
    obtain ⟨h2, t2, _, rfl, _⟩ := kb
    exact ⟨_, _, _, rfl⟩
end

/-- expressions that slots describe -/
noncomputable def EvS (prog : Program) (w : World) (A : Around) (env : Env) (Γ : Ctx) (e : Expr) (sl : Sl) : Prop :=
  ∀ ok s E, Gd ok env Γ s.heap → wpAny (model prog w) A (eval e env) (fun v s' => sl.At ok s'.heap v ∧ Keeps s s') E s
inductive EvSs (prog : Program) (w : World) (A : Around) (env : Env) (Γ : Ctx) : List Expr → List Sl → Prop
  | nil : EvSs prog w A env Γ [] []
  | cons {e r d ds} : EvS prog w A env Γ e d → starEach (e :: r) env = (false, eval e env) :: starEach r env → EvSs prog w A env Γ r ds → EvSs prog w A env Γ (e :: r) (d :: ds)
section
variable {prog : Program} {w : World} {A : Around} {env : Env} {l : List Env} {Γ Γ1 Γ2 Γe Γf : Ctx} {X Y : List Addr} {P P1 P2 : Sp} {er : Option (List Nat)} {ok : Addr → Prop}
theorem evS_of {e : Expr} {d : D} (h : Ev prog w A env Γ e d) : EvS prog w A env Γ e (.data d) := fun ok s E g => h ok s E g
theorem evS_val {x : Str} {p : Pos} {u : Value} (okE : EnvOk env) (hx : Γ.lookup x = some (.val u)) (hd : ((x == ("__debug__" : Str)) || (x == ("__classdict__" : Str))) = false := by decide) : EvS prog w A env Γ (.Name x p) (.val u) := fun ok s E g =>
  nm_val okE g.F hx ⟨rfl, kp_refl s⟩ hd
theorem evSs_go {es : List Expr} {ds : List Sl} (h : EvSs prog w A env Γ es ds) {pos : Pos} : ∀ ok s E, Gd ok env Γ s.heap → wpAny (model prog w) A (spliced (backTo pos (starEach es env))) (fun vs s' => SlAll ok s'.heap vs ds ∧ Keeps s s') E s := by
  induction h with
  | nil => exact fun ok s E _ => wpAny_items_nil ⟨.nil, kp_refl s⟩
  | cons a he _ ih => exact fun ok s E g => wpAny_items_cons (wpAny_mono (a ok s E g) (fun v s1 q => wpAny_mono (ih ok s1 E (g.ext (kp_ext q.2))) (fun vs s2 q2 => ⟨.cons (q.1.lists (kp_ext q2.2).lists) q2.1, kp_trans q.2 q2.2⟩) fun _ _ x => x) fun _ _ x => x) he
theorem argsS_go {f : Value} {es : List Expr} {ds : List Sl} {pos : Pos} (h : EvSs prog w A env Γ es ds) {s : Shared} {E : Value → Shared → Prop} {Q : Args → Shared → Prop} (g : Gd ok env Γ s.heap)
    (k : ∀ vs s', SlAll ok s'.heap vs ds → Keeps s s' → Gd ok env Γ s'.heap → Q ⟨vs, []⟩ s') : wpAny (model prog w) A (evalArgs f true (backTo pos (starEach es env)) []) Q E s := by
  have q := wpAny_mono (Q' := fun vs s' => Q ⟨vs, []⟩ s') (evSs_go h (pos := pos) ok s E g) (fun vs s' q => k vs s' q.1 q.2 (g.ext (kp_ext q.2))) fun _ _ x => x
  cases h with
  | nil => exact PySem.evalArgs_none (by have := k [] s .nil (kp_refl s) g; exact this)
  | cons a he r =>
    rw [he] at q ⊢
    exact evalArgs_plain q
/-- the ground after something else was turned -/
theorem Gd.kx {s s' : Shared} (sd : SideOk env l X Y) (g : Gd ok env Γ s.heap) (na : ∀ a ∈ X, ¬ ok a) (t : There Y s'.heap) (W : Wd s'.heap) (k : KB X s s') : Gd ok env Γ s'.heap := by
  have kk := k.kept
  have li : Lists ok s.heap s'.heap := fun a vs oka l => let ⟨o, e, r⟩ := l; ⟨o, kk a o (fun m => na a m oka) e, r⟩
  refine ⟨W, fun a ea => g.N a ?_, ?_⟩
  · cases q : s.heap.get? a with
    | none => rfl
    | some o =>
      by_cases m : a ∈ X
      · obtain ⟨o', e'⟩ := t a (sd.XY a m)
        rw [e'] at ea; cases ea
      · rw [kk a o m q] at ea; cases ea
  · obtain ⟨m, cm, ⟨o, es, n, e1, r⟩, b, c⟩ := g.F
    refine ⟨m, cm, ⟨o, es, n, kk _ _ (fun m => sd.offX _ m (.head _)) e1, r⟩, fun x k ek => ?_, fun y sl e => let ⟨v, p, q⟩ := c y sl e; ⟨v, p, q.lists li⟩⟩
    obtain ⟨oc, ec, dc⟩ := b x k ek
    exact ⟨oc, kk k oc (fun m => sd.offX _ m (.tail _ (List.mem_map.mpr ⟨_, mem_of_lookup ek, rfl⟩))) ec, dc⟩
/-- a call of a def that may fail -/
theorem callF_go {f : Str} {p pos : Pos} {es : List Expr} {sls : List Sl} {r : FnRec} {k : Nat} {d : D} {s : Shared} {E : Value → Shared → Prop} {Q : Value → Shared → Prop} (sd : SideOk env l X Y) (hfr : er ≠ none → A.frames = some (env :: l)) (sb : Stab Y P) (hf : fnRec f = some r) (hp : f ∈ plainFns) (hk : env.kindOf f = some .globalImplicit) (F : FnF prog w k r sls X Y P d P1 er) (room : Room k A)
    (h : EvSs prog w A env Γ es sls) (na : ∀ a ∈ X, ¬ ok a) (g : Gd ok env Γ s.heap) (p0 : P ok s.heap) (t : There Y s.heap) (v : Lv l s.heap)
    (q1 : er = none → ∀ u s', Rd ok s'.heap u d → Gd ok env Γ s'.heap → P1 ok s'.heap → There Y s'.heap → Lv l s'.heap → KB X s s' → Q u s')
    (q2 : ∀ e s' msg, er = some msg → Fly (env :: l) (own env) X Y P1 ok msg e s s' → Fm ok env Γ s'.heap → E e s')
    (hd : (f == ("__debug__" : Str)) = false := by decide) : wpAny (model prog w) A (eval (.Call (.Name f p) es [] pos) env) Q E s := by
  refine wpAny_Call_Name_kw (name_fn sd.okE g.W hf hp hk (fun a I => ?_) hd)
  obtain ⟨o, pm, cd, doc, e, dd, c⟩ := id I
  refine callWith_function (o := o) (argsS_go h g fun vs s1 rv k1 g1 => ⟨⟨kp_ext k1 _ _ e, dd⟩, wpAny_call ?_⟩)
  have x := kp_ext k1
  cases er with
  | none =>
    refine codeAny_mono (F ok A [] s1 a vs room (fun z => absurd rfl z) na g1.N g1.W (stab_ext sb p0 x) (t.ext x) (fun _ m => by cases m) (fun _ m => by cases m) (I.ext x) rv) fun rr s2 q => ?_
    obtain ⟨u, rfl, ru, p2, t2, w2, k2⟩ := q
    have kx : KB X s s2 := (KB.of k1).trans k2
    exact q1 rfl u s2 ru (g1.kx sd na t2 w2 k2) p2 t2 (v.kb sd (kx.mono fun b hb => List.mem_append.mpr (.inl hb))) kx
  | some msg =>
    refine codeAny_mono (F ok A (env :: l) s1 a vs room (fun _ => hfr (by simp)) na g1.N g1.W (stab_ext sb p0 x) (t.ext x) ((v.ext x).cons sd.okE sd.fr g1.F) (fun a ha m => ?_) (I.ext x) rv) fun rr s2 q => ?_
    · obtain ⟨y, hy, hfy⟩ := List.mem_filterMap.mp ha
      rcases List.mem_cons.mp hy with rfl | hy
      · rw [sd.fr] at hfy; cases hfy
        exact sd.offY _ m (.head _)
      · exact (sd.offF a (List.mem_filterMap.mpr ⟨y, hy, hfy⟩)).1 m
    · obtain ⟨e, rfl, fl⟩ := q
      exact q2 e s2 msg rfl ((fl.wide (fun b hb => by cases hb)).after (KB.of k1) sd.frX) (fl.fm sd.okE sd.fr g1.F (v.ext x) na sd.offX)
/-- x = f(..) -/
theorem exf1_call {x f : Str} {xp p cp pos : Pos} {es : List Expr} {sls : List Sl} {r : FnRec} {k : Nat} {d : D} (sd : SideOk env l X Y) (hfr : er ≠ none → A.frames = some (env :: l)) (sb : Stab Y P) (sb1 : Stab Y P1) (cs : CanSt env x) (hf : fnRec f = some r) (hp : f ∈ plainFns) (hk : env.kindOf f = some .globalImplicit) (F : FnF prog w k r sls X Y P d P1 er) (room : Room k A)
    (h : EvSs prog w A env Γ es sls) (hs : swapsWith (.Call (.Name f p) es [] cp) (some (.Name x xp)) pos.line env = pure false)
    (hd : (f == ("__debug__" : Str)) = false := by decide) : ExF1 prog w A env l X Y Γ P (.Assign [.Name x xp] (.Call (.Name f p) es [] cp) pos) ((x, .data d) :: Γ) P1 Γ er := fun ok s Q E hE na g p t v o =>
  wpAny_Assign_Name (callF_go sd hfr sb hf hp hk F room h na g p t v (fun en u s1 ru g1 p1 t1 v1 k1 => store_go sd.okE sd.low cs g1 (sl := .data d) ru fun s2 g2 k2 l2 => by
    have k2o : KB (own env) s1 s2 := k2.mono fun b hb => by rw [List.mem_singleton.mp hb]; exact tch_own cs
    have kx : KB (X ++ own env) s s2 := (k1.mono fun b hb => List.mem_append.mpr (.inl hb)).trans (k2o.mono fun b hb => List.mem_append.mpr (.inr hb))
    exact o.1 s2 en g2 (stab_kb sb1 sd.offY sd.okE g1.F p1 k2o) (t1.kb sd.offY k2o) (v.kb sd kx) kx) o.2 hd) hs
/-- f(..) as a statement -/
theorem exf1_callx {f : Str} {p cp pos : Pos} {es : List Expr} {sls : List Sl} {r : FnRec} {k : Nat} {d : D} (sd : SideOk env l X Y) (hfr : er ≠ none → A.frames = some (env :: l)) (sb : Stab Y P) (hf : fnRec f = some r) (hp : f ∈ plainFns) (hk : env.kindOf f = some .globalImplicit) (F : FnF prog w k r sls X Y P d P1 er) (room : Room k A)
    (h : EvSs prog w A env Γ es sls) (hi : interactive env = false) (hs : swapsWith (.Call (.Name f p) es [] cp) none pos.line env = pure false)
    (hd : (f == ("__debug__" : Str)) = false := by decide) : ExF1 prog w A env l X Y Γ P (.Expr (.Call (.Name f p) es [] cp) pos) Γ P1 Γ er := fun ok s Q E hE na g p t v o =>
  wpAny_Expr_any (callF_go sd hfr sb hf hp hk F room h na g p t v (fun en u s1 ru g1 p1 t1 v1 k1 => o.1 s1 en g1 p1 t1 v1 (k1.mono fun b hb => List.mem_append.mpr (.inl hb))) o.2 hd) hi hs
/-- a def that hands back nothing -/
theorem fnF_of {r : FnRec} {ps : List Str} {ds : List Sl} {k : Nat} (sg : Sig r ps) (hlen : ds.length = ps.length) (hXY : ∀ a ∈ X, a ∈ Y)
    (sb : Stab Y P) (h : ∀ A env l pm cd doc L a, env = callEnvC (docDef r.name r.params r.body r.scope pm cd doc) L a → SideOk env l X Y → Room k A → (er ≠ none → A.frames = some (env :: l)) → ExF prog w A env l X Y (ps.zip ds) P r.body [] P1 [] er) : FnF prog w (k + 1) r ds X Y P .none P1 er := by
  intro ok A l s a vs room hfr na N W p t v hl F rd
  refine fn_inS sg hlen room N W F rd fun s₁ env pm cd doc L he okE low hown kp G hr => ?_
  have x := kp_ext kp
  have sd : SideOk env l X Y := side_in okE (by rw [he]; rfl) hXY hown t v hl
  have hfr2 : er ≠ none → (A.deeper env).frames = some (env :: l) := fun z => Around.frames_deeper (hfr z)
  refine h _ env l pm cd doc L a he sd hr hfr2 ok s₁ _ _ PassesOwn.leaving na G (stab_ext sb p x) (t.ext x) (v.ext x) ⟨fun s' en g' p' t' v' k' => ?_, fun e s' msg em fl _ => ?_⟩
  · subst en
    refine ⟨_, rfl, .none, p', t', g'.W, ?_⟩
    have kk := k'.kept
    obtain ⟨h2, t2, _, e2, _⟩ := k'
    obtain ⟨h1, t1, _, rfl, _⟩ := kp
    subst e2
    exact ⟨h2, t2, _, rfl, fun b o hb e => kk b o (fun m => by
      rcases List.mem_append.mp m with m | m
      · exact hb m
      · rw [hown b m] at e; cases e) (x b o e)⟩
  · subst em
    exact leave_fly sd (hfr2 (by simp)) hown kp fl fun s2 f2 => ⟨e, rfl, f2⟩
end
end Mine
end
section
open PySem PySem.Calls PyProof.Rows PySem.W
set_option maxRecDepth 100000
set_option linter.all false
set_option maxHeartbeats 1000000
namespace Mine
open Builtin
noncomputable def latin : List Nat := [108, 97, 116, 105, 110, 45, 49]
theorem latin_is : Str.ofString "latin-1" = S latin := by decide +kernel
section
variable {a b c d : UInt8} {t : Tok}
theorem dec_road {id : String} : _codecs.decodeRoad id #[a, b, c, d] (S latin) none [] = mkStr ⟨#[a.toNat, b.toNat, c.toNat, d.toNat]⟩ := by kernel_rfl
theorem dec_entry {u : Tok} : «bytes.decode» ⟨[.bytes #[a, b, c, d] t, .str (S latin) u], []⟩ = (mkStr (Str.ofString "utf-8") >>= fun _ => mkStr (S latin) >>= fun e => mkStr (Str.ofString "bytes.decode") >>= fun k =>
    call (.builtin "_codecs.decode.text") [.bytes #[a, b, c, d] t, e, .none, k] >>= fun v => ret v) := by kernel_rfl
theorem dec_text {t1 t2 : Tok} {k : Str} :
    Meets («_codecs.decode.text» ⟨[.bytes #[a, b, c, d] t, .str (S latin) t1, .none, .str k t2], []⟩) (fun _ R s => R (.ok (.ret (.str ⟨#[a.toNat, b.toNat, c.toNat, d.toNat]⟩ s.toks))) { s with toks := s.toks + 1 }) := by
  refine .of_wp fun prog w A R s hS => ?_
  show wpAny _ _ (Bytes.bytesLike _ (.bytes _ t) >>= fun r => _) _ _ s
  refine wpAny_bind (wpAny_of_eq KBd.like_eq ?_)
  refine wpAny_bind (wpAny_of_eq KBd.held_eq ?_)
  show wpAny _ _ (_codecs.decodeRoad _ #[a, b, c, d] (S latin) none [] >>= fun v => _) _ _ s
  rw [dec_road]
  exact wpAny_bind (wpAny_mkStr (wpAny_pure ⟨_, rfl, hS⟩) (show 4 ≤ sizeLine by decide))
theorem dec_meets {u : Tok} : Meets («bytes.decode» ⟨[.bytes #[a, b, c, d] t, .str (S latin) u], []⟩) (fun _ R s => ∀ t' k, R (.ok (.ret (.str ⟨#[a.toNat, b.toNat, c.toNat, d.toNat]⟩ t'))) { s with toks := k }) := by
  refine .of_wp fun prog w A R s hS => ?_
  rw [dec_entry]
  refine wpAny_bind (wpAny_mkStr ?_ (by decide))
  refine wpAny_bind (wpAny_mkStr ?_ (by decide))
  refine wpAny_bind (wpAny_mkStr ?_ (by decide))
  exact wpAny_bind (call_function_meets KBd.kind_text KBd.plain_text KBd.entry_text (KBd.args_text _ _ _ _) dec_text (wpAny_pure ⟨_, rfl, hS _ _⟩))
end
theorem args_dec2 (a b : Value) : argsOk "bytes.decode" ⟨[a, b], []⟩ := by unfold argsOk; kernel_rfl
section
variable {prog : Program} {w : World} {A : Around} {env : Env} {Γ : Ctx} {ok : Addr → Prop}
theorem ev_decode {e : Expr} {l : List Nat} {x : Str} {k0 : Nat} {q ap pos : Pos} (hl : l.length = 4) (hs : small l) (h : Ev prog w A env Γ e (.bytes (By l))) (hbase : attributeBase e "decode" env (eval e env) = eval e env) (hline : (ap.endLine == pos.line) = true) (hx : x = S latin)
    (ht : backTo pos (starEach [.Constant (.str x) k0 q] env) = [(false, eval (.Constant (.str x) k0 q) env)]) : Ev prog w A env Γ (.Call (.Attribute e "decode" ap) [.Constant (.str x) k0 q] [] pos) (.str (S l)) := fun ok s E g => by
  subst hx
  refine wpAny_Call_method1_late hbase hline ht (h.go g fun v s1 r k1 g1 => ?_)
  obtain ⟨t, rfl⟩ := r.isBytes
  obtain ⟨a, b, c, d, rfl⟩ := len4 hl
  refine ⟨"bytes", "bytes.decode", FB.plainAttrs_bytes, FB.slot_bytes_decode, FB.type_bytes_decode, PySem.W.typeIs_bytes _ _ _, (fun _ e => nomatch e), ?_⟩
  refine Calls.callWith_builtin rfl (Calls.evalArgs_plain (Calls.spliced_cons (ev_str.go g1 fun v2 s2 r2 k2 g2 => Calls.spliced_nil ?_)))
  obtain ⟨t2, rfl⟩ := r2.isStr
  have e4 : (⟨#[(a.toUInt8).toNat, (b.toUInt8).toNat, (c.toUInt8).toNat, (d.toUInt8).toNat]⟩ : Str) = S [a, b, c, d] := by
    rw [toNat_of (hs a (by simp)), toNat_of (hs b (by simp)), toNat_of (hs c (by simp)), toNat_of (hs d (by simp))]; rfl
  refine call_meets FB.slot_bytes_decode (PySem.W.typeIs_bytes _ _ _) FB.entry_bytes_decode (args_dec2 _ _) (dec_meets (a := a.toUInt8) (b := b.toUInt8) (c := c.toUInt8) (d := d.toUInt8)) fun t' k => ?_
  rw [e4]
  exact ⟨.str _ _, kp_trans k1 (kp_trans k2 (kp_tok _ k))⟩
/-- the words of a string that is cut off -/
noncomputable def shortMsg (j : Nat) : List Nat := (Str.ofString "expected 4 bytes in a string1, but only ").cps.toList ++ [48 + j] ++ (Str.ofString " remain").cps.toList
noncomputable def fmtTxt : Str := Str.ofString "expected %d bytes in a string1, but only %d remain"
theorem mod_tup {X T : Str} {t : Tok} {its : Array Value} {n : Nat} {b : Addr} {s : Shared} {E : Value → Shared → Prop} {Q : Value → Shared → Prop} (hb : s.heap.get? b = some { cls := .type "tuple", data := .seq its n })
    (hm : Meets (Builtin.«str.__mod__» ⟨[.str X t, .ref b], []⟩) (fun _ R s => IsTup s.heap b its ∧ ∀ t' k, R (.ok (.ret (.str T t'))) { s with toks := k })) (h : ∀ t' k, Q (.str T t') { s with toks := k }) : wpAny (model prog w) A (binaryOp .Mod (.str X t) (.ref b)) Q E s :=
  KPt.bin_left (T := "str") (U := "tuple") (op := .Mod) (by decide) (typeIs_str s X t) ⟨_, hb, rfl⟩ F.fills_str_mod KPt.fills_tuple F.slot_str_mod
    (call_meets F.slot_str_mod (typeIs_str s X t) F.entry_str_mod (F.args_str_mod_2 _ _) hm ⟨⟨_, hb, rfl, n, rfl⟩, fun t' k => ⟨(fun e => nomatch e), h t' k⟩⟩)
theorem fmt_is : fmtTxt = ⟨#[101, 120, 112, 101, 99, 116, 101, 100, 32, 37, 100, 32, 98, 121, 116, 101, 115, 32, 105, 110, 32, 97, 32, 115, 116, 114, 105, 110, 103, 49, 44, 32, 98, 117, 116, 32, 111, 110, 108, 121, 32, 37, 100, 32, 114, 101, 109, 97, 105, 110]⟩ := by decide +kernel
theorem op_fmt {j : Nat} (hj : j < 4) {s : Shared} {E : Value → Shared → Prop} {Q : Value → Shared → Prop} {t u1 u2 : Tok} {b : Addr} {n : Nat} (hb : s.heap.get? b = some { cls := .type "tuple", data := .seq #[.int 4 u1, .int (j : Nat) u2] n }) (h : ∀ t' k, Q (.str (S (shortMsg j)) t') { s with toks := k }) :
    wpAny (model prog w) A (binaryOp .Mod (.str fmtTxt t) (.ref b)) Q E s := by
  have key : ∀ {T : Str}, Meets (Builtin.«str.__mod__» ⟨[.str fmtTxt t, .ref b], []⟩) (fun _ R s => IsTup s.heap b #[.int 4 u1, .int (j : Nat) u2] ∧ ∀ t' k, R (.ok (.ret (.str T t'))) { s with toks := k }) → T = S (shortMsg j) →
      wpAny (model prog w) A (binaryOp .Mod (.str fmtTxt t) (.ref b)) Q E s := fun hm e => mod_tup hb hm (by rw [e]; exact h)
  have hj4 : j = 0 ∨ j = 1 ∨ j = 2 ∨ j = 3 := lt4 hj
  rw [fmt_is] at key ⊢
  refine key (by kpt_run) ?_
  rcases hj4 with rfl | rfl | rfl | rfl <;> decide +kernel
end
end Mine
end
section
open PySem PySem.Calls PyProof.Rows PySem.W
set_option maxRecDepth 100000
set_option linter.all false
set_option maxHeartbeats 1000000
namespace Mine
noncomputable def ErrV (env : Env) (l : List Env) (X Y : List Addr) (P : Sp) (ok : Addr → Prop) (msg : List Nat) (e : Value) (s s' : Shared) : Prop :=
  Fly (env :: l) (own env) X Y P ok msg e s s' ∨ ∃ s2 ea u h', e = .ref ea ∧ s' = { s2 with heap := h' } ∧ Heap.MadeExc s2.heap h' ea "ValueError" [.str (S msg) u] ∧ Gd ok env [] s2.heap ∧ P ok s2.heap ∧ There Y s2.heap ∧ Lv l s2.heap ∧ KB (X ++ own env) s s2
theorem ErrV.after {env : Env} {l : List Env} {X Y : List Addr} {P : Sp} {ok : Addr → Prop} {msg : List Nat} {e : Value} {s s1 s' : Shared} (sd : SideOk env l X Y) (h : ErrV env l X Y P ok msg e s1 s') (k : KB (X ++ own env) s s1) : ErrV env l X Y P ok msg e s s' := by
  rcases h with h | ⟨s2, ea, u, h', a, b, c, d, f, g, v, kb⟩
  · exact .inl (h.after k sd.frX)
  · exact .inr ⟨s2, ea, u, h', a, b, c, d, f, g, v, k.trans kb⟩
noncomputable def OutV (env : Env) (l : List Env) (X Y : List Addr) (d : D) (P : Sp) (Q : Flow → Shared → Prop) (E : Value → Shared → Prop) (ok : Addr → Prop) (s : Shared) (er : Option (List Nat)) : Prop :=
  (∀ v s', er = none → Rd ok s'.heap v d → Wd s'.heap → P ok s'.heap → There Y s'.heap → KB (X ++ own env) s s' → Q (.ret v) s') ∧
  (∀ e s' msg, er = some msg → ErrV env l X Y P ok msg e s s' → E e s')
section
variable {prog : Program} {w : World} {A : Around} {env : Env} {l : List Env} {Γ Γ1 Γ2 Γe Γf : Ctx} {X Y : List Addr} {P P1 P2 : Sp} {er : Option (List Nat)} {d : D}
theorem OutV.after {Q : Flow → Shared → Prop} {E : Value → Shared → Prop} {ok : Addr → Prop} {s s1 : Shared} (sd : SideOk env l X Y) (o : OutV env l X Y d P Q E ok s er) (k : KB (X ++ own env) s s1) : OutV env l X Y d P Q E ok s1 er :=
  ⟨fun v s' e r w p t k' => o.1 v s' e r w p t (k.trans k'), fun e s' msg em f => o.2 e s' msg em (f.after sd k)⟩
/-- what hands back data, or fails -/
noncomputable def ExV (prog : Program) (w : World) (A : Around) (env : Env) (l : List Env) (X Y : List Addr) (Γ : Ctx) (P : Sp) (ss : List Stmt) (d : D) (P' : Sp) (er : Option (List Nat)) : Prop :=
  ∀ ok s (Q : Flow → Shared → Prop) E, PassesOwn (model prog w) A env E → (∀ a ∈ X, ¬ ok a) → Gd ok env Γ s.heap → P ok s.heap → There Y s.heap → Lv l s.heap → OutV env l X Y d P' Q E ok s er → wpAny (model prog w) A (execs ss env) Q E s
theorem exv_cons {st : Stmt} {r : List Stmt} (sd : SideOk env l X Y) (h : ExF1 prog w A env l X Y Γ P st Γ1 P1 Γe none) (k : ExV prog w A env l X Y Γ1 P1 r d P2 er) : ExV prog w A env l X Y Γ P (st :: r) d P2 er := fun ok s Q E hE na g p t v o =>
  wpAny_execs_cons (h ok s _ E hE na g p t v ⟨fun s1 _ g1 p1 t1 v1 k1 => k ok s1 Q E hE na g1 p1 t1 v1 (o.after sd k1), fun e s' m em => by cases em⟩)
theorem exv_fail {st : Stmt} {r : List Stmt} {m : List Nat} (h : ExF1 prog w A env l X Y Γ P st Γ1 P1 Γe (some m)) : ExV prog w A env l X Y Γ P (st :: r) d P1 (some m) := fun ok s Q E hE na g p t v o =>
  wpAny_execs_cons (h ok s _ E hE na g p t v ⟨fun s1 e => (nomatch e), fun e s' msg em f fm => o.2 e s' msg em (.inl f)⟩)
theorem exv_ret {e : Expr} {pos : Pos} {r : List Stmt} (sb : Stab Y P) (h : Ev prog w A env Γ e d) : ExV prog w A env l X Y Γ P (.Return (some e) pos :: r) d P none := fun ok s Q E hE na g p t v o =>
  wpAny_execs_cons (wpAny_Return_some (h.go g fun u s' r k g' => o.1 u s' rfl r g'.W (stab_ext sb p (kp_ext k)) (t.ext (kp_ext k)) (KB.of k)))
theorem exv_if {tt : Expr} {b o r : List Stmt} {pos : Pos} {c : Bool} (sd : SideOk env l X Y) (sb : Stab Y P) (h : Tst prog w A env Γ tt c) (h1 : c = true → ExV prog w A env l X Y Γ P b d P1 er) (h2 : c = false → ExV prog w A env l X Y Γ P r d P1 er) (ho : o = []) :
    ExV prog w A env l X Y Γ P (.If tt b o pos :: r) d P1 er := fun ok s Q E hE na g p t v oo => by
  subst ho
  refine wpAny_execs_cons (wpAny_If (h.go g fun s1 k g1 => ?_))
  have x := kp_ext k
  cases c with
  | true =>
    have o := oo.after sd (KB.of k)
    exact h1 rfl ok s1 _ E hE na g1 (stab_ext sb p x) (t.ext x) (v.ext x) ⟨fun u s' en r w p' t' k' => o.1 u s' en r w p' t' k', o.2⟩
  | false => exact wpAny_execs_nil (h2 rfl ok s1 Q E hE na g1 (stab_ext sb p x) (t.ext x) (v.ext x) (oo.after sd (KB.of k)))
theorem exv_raise {e : Expr} {np cp pos : Pos} {r : List Stmt} {m : List Nat} (sd : SideOk env l X Y) (hh : A.handled = none) (sb : Stab Y P) (hk : env.kindOf "ValueError" = some .globalImplicit) (h : Ev prog w A env Γ e (.str (S m))) (hse : starEach [e] env = [(false, eval e env)]) :
    ExV prog w A env l X Y Γ P (.Raise (some (.Call (.Name "ValueError" np) [e] [] cp)) none pos :: r) d P (some m) := fun ok s Q E hE na g p t v oo => by
  refine wpAny_execs_cons (wpAny_Raise_call PySem.F.excCall_ValueError PySem.F.excRaise_ValueError hh (by rw [hse]; rfl) (name_blt (v := .type "ValueError") sd.okE g.W (by kernel_rfl) (by decide) hk ⟨rfl, ?_⟩))
  rw [hse]
  refine Calls.evalArgs_plain (Calls.spliced_cons (h.go g fun u s1 ru k1 g1 => Calls.spliced_nil ⟨rfl, show 1 ≤ sizeLine by decide, fun h' ea mk => ?_⟩))
  obtain ⟨tk, rfl⟩ := ru.isStr
  have x := kp_ext k1
  exact oo.2 _ _ m rfl (.inr ⟨s1, ea, tk, h', rfl, rfl, mk, g1.sub trivial, stab_ext sb p x, t.ext x, v.ext x, KB.of k1⟩)
/-- a def that hands back data, or fails -/
theorem fnV_of {r : FnRec} {ps : List Str} {ds : List Sl} {k : Nat} (sg : Sig r ps) (hlen : ds.length = ps.length) (hXY : ∀ a ∈ X, a ∈ Y)
    (sb : Stab Y P) (sb1 : Stab Y P1) (h : ∀ A env l pm cd doc L a, env = callEnvC (docDef r.name r.params r.body r.scope pm cd doc) L a → SideOk env l X Y → Room k A → (er ≠ none → A.frames = some (env :: l)) → ExV prog w A env l X Y (ps.zip ds) P r.body d P1 er) : FnF prog w (k + 1) r ds X Y P d P1 er := by
  intro ok A l s a vs room hfr na N W p t v hl F rd
  refine fn_inS sg hlen room N W F rd fun s₁ env pm cd doc L he okE low hown kp G hr => ?_
  have x := kp_ext kp
  have sd : SideOk env l X Y := side_in okE (by rw [he]; rfl) hXY hown t v hl
  have hfr2 : er ≠ none → (A.deeper env).frames = some (env :: l) := fun z => Around.frames_deeper (hfr z)
  refine h _ env l pm cd doc L a he sd hr hfr2 ok s₁ _ _ PassesOwn.leaving na G (stab_ext sb p x) (t.ext x) (v.ext x) ⟨fun u s' en ru w' p' t' k' => ?_, fun e s' msg em fl => ?_⟩
  · subst en
    refine ⟨u, rfl, ru, p', t', w', ?_⟩
    have kk := k'.kept
    obtain ⟨h2, t2, _, e2, _⟩ := k'
    obtain ⟨h1, t1, _, rfl, _⟩ := kp
    subst e2
    exact ⟨h2, t2, _, rfl, fun b o hb e => kk b o (fun m => by
      rcases List.mem_append.mp m with m | m
      · exact hb m
      · rw [hown b m] at e; cases e) (x b o e)⟩
  · subst em
    rcases fl with fl | ⟨s2, ea, u, h', rfl, rfl, mk, g2, p2, t2, v2, kb⟩
    · exact leave_fly sd (hfr2 (by simp)) hown kp fl fun s2 f2 => ⟨e, rfl, f2⟩
    · exact leave_made sd (hfr2 (by simp)) hown kp g2 p2 sb1 t2 v2 kb mk fun s3 f3 => ⟨_, rfl, f3⟩
end
end Mine
end
section
open PySem PySem.Calls PyProof.Rows PySem.W
set_option maxRecDepth 100000
set_option linter.all false
set_option maxHeartbeats 1000000
namespace Mine
/-- a stream that holds B, and what else is known -/
noncomputable def SP (m : Sm) (B : List Nat) (R : Sp) : Sp := fun ok h => Strm m B ok h ∧ R ok h
theorem SP.stab {m : Sm} {B : List Nat} {R : Sp} {Y' : List Addr} (sb : Stab Y' R) : Stab (m.Y ++ Y') (SP m B R) := fun ok h h' p li k =>
  ⟨Strm.stab (Y := m.Y ++ Y') (fun a ha => List.mem_append.mpr (.inl ha)) ok h h' p.1 li k, sb ok h h' p.2 li fun b hb o e => k b (List.mem_append.mpr (.inr hb)) o e⟩
/-- where a stream lies -/
structure SmOk (m : Sm) (Y' : List Addr) : Prop where
  low : ∀ a ∈ [m.st, m.dx, m.cc], topLine ≤ a
  off : ∀ a ∈ Y', a ∉ m.X
theorem SmOk.XY {m : Sm} {Y' : List Addr} : ∀ a ∈ m.X, a ∈ m.Y ++ Y' := fun a ha => by
  simp only [Sm.X, List.mem_cons, List.not_mem_nil, or_false] at ha
  rcases ha with rfl | rfl <;> simp [Sm.Y]
theorem Strm.thereY {m : Sm} {B : List Nat} {ok : Addr → Prop} {h : Heap} (S : Strm m B ok h) : There m.Y h := by
  refine S.E fun _ o1 _ _ _ _ _ o2 _ _ Z => ?_
  obtain ⟨o3, a3, _, _, _, _, ⟨o4, _, _, a4, _⟩⟩ := Z.inst
  obtain ⟨⟨o5, a5, _⟩, _⟩ := Z.cell
  intro a ha
  simp only [Sm.Y, List.mem_cons, List.not_mem_nil, or_false] at ha
  rcases ha with rfl | rfl | rfl | rfl | rfl | rfl
  · exact ⟨_, a3⟩
  · exact ⟨_, a4⟩
  · exact ⟨_, Z.rat⟩
  · exact ⟨_, a5⟩
  · exact ⟨_, Z.cat⟩
  · exact ⟨_, Z.tab.1⟩
section
variable {prog : Program} {w : World} {A : Around} {env : Env} {l : List Env} {Γ Γ1 Γ2 Γe Γf : Ctx} {Y' : List Addr} {R : Sp} {m : Sm} {B : List Nat}
theorem exf1_read {x f : Str} {xp p ap cp pos : Pos} {e : Expr} {k : Nat} {pl : Sem Bool} (sd : SideOk env l m.X (m.Y ++ Y')) (so : SmOk m Y') (sb : Stab Y' R) (room : Room 1 A) (cs : CanSt env x) (hB : B.length ≤ 100000) (hf : List.lookup f Γ = some (.val (.ref m.st))) (h : Ev prog w A env Γ e (.int (k : Nat))) (hse : starEach [e] env = [(false, eval e env)])
    (he : eval (.Call (.Attribute (.Name f p) "read" ap) [e] [] cp) env = (do
      let ov ← eval (.Name f p) env
      standAt ap.atName
      let (g, first) ← holding [ov] (getMethod ov "read" pl)
      callWith cp g first (backTo cp (starEach [e] env)) (backToKw cp (keywordEach [] env))))
    (hs : swapsWith (.Call (.Attribute (.Name f p) "read" ap) [e] [] cp) (some (.Name x xp)) pos.line env = pure false)
    (hd : ((f == ("__debug__" : Str)) || (f == ("__classdict__" : Str))) = false := by decide) :
    ExF1 prog w A env l m.X (m.Y ++ Y') Γ (SP m B R) (.Assign [.Name x xp] (.Call (.Attribute (.Name f p) "read" ap) [e] [] cp) pos) ((x, .data (.bytes (By (B.take k)))) :: Γ) (SP m (B.drop k) R) Γe none := fun ok s Q E hE na g pp t v o => by
  refine wpAny_Assign_Name ?_ hs
  refine PySem.W.methodCall_KW (pl := pl) (nm_val sd.okE g.F hf ?_ hd) he
  refine g.W.clsE fun N mN nm q' bs sn sub col dd k0 k1 k2 k3 k5 hC hN n => ?_
  refine pp.1.E fun mA of pm doc ctv r tv oc vs tq Z => ?_
  refine method_own hC hN n.2.2.2.1 n.2.2.2.2 n.2.2.1 no_read Z.inst.inst Z.read rfl fun t' => ?_
  rw [hse]
  have kt : Keeps s { s with toks := t' } := kp_tok s t'
  refine callWith_function (o := of) (Calls.evalArgs_plain (Calls.spliced_cons (h.go (s := { s with toks := t' }) (g.ext fun b o e => e) fun u s1 ru k1 g1 => Calls.spliced_nil ⟨⟨kp_ext k1 _ _ Z.rat, Z.rdata⟩, wpAny_call ?_⟩)))
  have k1' : Keeps s s1 := kp_trans kt k1
  have x1 := kp_ext k1'
  obtain ⟨tu, rfl⟩ := ru.isInt
  have S1 : Strm m B ok s1.heap := stab_ext (Strm.stab (Y := m.Y) fun a ha => ha) pp.1 x1
  have R1 : R ok s1.heap := stab_ext sb pp.2 x1
  refine codeAny_mono (f_read (k := k) room g1.W g1.N S1 so.low hB) fun rr s2 q => ?_
  obtain ⟨tb, rfl, S2, W2, k2⟩ := q
  have kk := k2.kept
  have li : Lists ok s1.heap s2.heap := fun a vs oka l => let ⟨o, e, r⟩ := l; ⟨o, kk a o (fun m => na a m oka) e, r⟩
  have R2 : R ok s2.heap := sb ok _ _ R1 li fun b hb o e => kk b o (so.off b hb) e
  have t1 : There (m.Y ++ Y') s1.heap := t.ext x1
  have t2 : There (m.Y ++ Y') s2.heap := fun b hb => by
    rcases List.mem_append.mp hb with hb | hb
    · exact S2.thereY b hb
    · obtain ⟨o, e⟩ := t1 b (List.mem_append.mpr (.inr hb))
      exact ⟨o, kk b o (so.off b hb) e⟩
  have g2 : Gd ok env Γ s2.heap := g1.kx sd na t2 W2 k2
  refine store_go sd.okE sd.low cs g2 (sl := .data (.bytes (By (B.take k)))) (.bytes _ _) fun s3 g3 k3 l3 => ?_
  have k3o : KB (own env) s2 s3 := k3.mono fun b hb => by rw [List.mem_singleton.mp hb]; exact tch_own cs
  have kx : KB (m.X ++ own env) s s3 := ((KB.of k1').trans (k2.mono fun b hb => List.mem_append.mpr (.inl hb))).trans (k3o.mono fun b hb => List.mem_append.mpr (.inr hb))
  exact o.1 s3 rfl g3 (stab_kb (SP.stab sb) sd.offY sd.okE g2.F ⟨S2, R2⟩ k3o) (t2.kb sd.offY k3o) (v.kb sd kx) kx
theorem tst_bytes {x : Str} {p : Pos} {B : List Nat} (okE : EnvOk env) (hl : B.length ≤ 1000000) (hx : Γ.lookup x = some (.data (.bytes (By B)))) (hd : ((x == ("__debug__" : Str)) || (x == ("__classdict__" : Str))) = false := by decide) : Tst prog w A env Γ (.Name x p) (!B.isEmpty) := fun ok s E g => by
  refine wpAny_isTrue_value ((ev_name okE hx hd).go g fun v s1 r k g1 => ?_)
  obtain ⟨t, rfl⟩ := r.isBytes
  refine truthy_bytes (by rw [By_size]; omega) ⟨?_, kp_trans k (kp_tok _ _)⟩
  rw [By_size]
  cases B with
  | nil => rfl
  | cons c l =>
    show (((c :: l).length : Int) != 0) = true
    rw [bne_iff_ne]
    simp only [List.length_cons]
    omega
theorem op_lenby {B : List Nat} (hl : B.length ≤ 1000000) : Op1 prog w A (fun v => call (.builtin "len") [v]) (.bytes (By B)) (.int B.length) := fun ok s E v N W r => by
  obtain ⟨t, rfl⟩ := r.isBytes
  refine len_bytes (by rw [By_size]; omega) ?_
  rw [By_size]
  exact ⟨.int _ _, kp_tok _ _⟩
end
noncomputable def uintMsg : List Nat := (Str.ofString "not enough data in stream to read uint1").cps.toList
variable {prog : Program} {w : World}
theorem u1_sig {r : FnRec} (h : fnRec "read_uint1" = some r) : Sig r ["f"] := by
  have hr : fnRec "read_uint1" = some _ := rfl
  cases Option.some.inj (h.symm.trans hr)
  exact ⟨fun pm cd doc vs h => by obtain ⟨a, rfl⟩ := len1 h; rfl, fun n p hp => by simp only [List.mem_singleton] at hp; subst hp; exact .inl rfl, fun n p hp => by simp [cellsFrom] at hp, rfl, rfl, rfl, rfl⟩
/-- an octet is read -/
theorem f_u1 {m : Sm} {Y' : List Addr} {R : Sp} {c : Nat} {B : List Nat} (so : SmOk m Y') (sb : Stab Y' R) (hc : c < 256) (hB : B.length < 100000) : ∃ r, fnRec "read_uint1" = some r ∧ FnF prog w 2 r [.val (.ref m.st)] m.X (m.Y ++ Y') (SP m (c :: B) R) (natD c) (SP m B R) none := by
  refine ⟨_, rfl, fnV_of (u1_sig rfl) rfl SmOk.XY (SP.stab sb) (SP.stab sb) fun A env l pm cd doc L a he sd room hfr => ?_⟩
  refine exv_cons sd (exf1_read (Γe := []) (k := 1) sd so sb room (.loc (by rw [he]; rfl)) (by simp; omega) rfl ev_int (by rfl) (by rfl) (by rw [he]; rfl)) ?_
  refine exv_if (c := true) sd (SP.stab sb) (tst_bytes (B := [c]) sd.okE (by simp) rfl) (fun _ => ?_) (fun h => by cases h) rfl
  exact exv_ret (SP.stab sb) (ev_bitem (l := [c]) (ev_name sd.okE rfl) ev_int (by decide) rfl hc (by simp))
/-- no octet is left -/
theorem f_u1_end {m : Sm} {Y' : List Addr} {R : Sp} (so : SmOk m Y') (sb : Stab Y' R) : ∃ r, fnRec "read_uint1" = some r ∧ ∀ d, FnF prog w 2 r [.val (.ref m.st)] m.X (m.Y ++ Y') (SP m [] R) d (SP m [] R) (some uintMsg) := by
  refine ⟨_, rfl, fun d => fnV_of (u1_sig rfl) rfl SmOk.XY (SP.stab sb) (SP.stab sb) fun A env l pm cd doc L a he sd room hfr => ?_⟩
  refine exv_cons sd (exf1_read (Γe := []) (k := 1) sd so sb room (.loc (by rw [he]; rfl)) (by simp) rfl ev_int (by rfl) (by rfl) (by rw [he]; rfl)) ?_
  refine exv_if (c := false) sd (SP.stab sb) (tst_bytes (B := []) sd.okE (by simp) rfl) (fun h => by cases h) (fun _ => ?_) rfl
  exact exv_raise sd room.hd (SP.stab sb) (by rw [he]; rfl) (ev_lit (l := uintMsg)) (by rfl)
end Mine
end
section
open PySem PySem.Calls PyProof.Rows PySem.W
set_option maxRecDepth 100000
set_option linter.all false
set_option maxHeartbeats 1000000
namespace Mine
variable {prog : Program} {w : World}
section
variable {A : Around} {env : Env} {Γ : Ctx}
theorem ex1_assert {t : Expr} {pos : Pos} (hh : A.handled = none) (h : Tst prog w A env Γ t true) : Ex1 prog w A env Γ (.Assert t none pos) Γ := fun ok s E g =>
  wpAny_Assert hh (h.go g fun s' k g' => by
    simp only [if_true]
    exact ⟨trivial, g', KB.of k⟩)
theorem tst_to {t : Expr} {b b' : Bool} (h : Tst prog w A env Γ t b) (q : b = b') : Tst prog w A env Γ t b' := q ▸ h
theorem ev_fmt {a b : Expr} {x : Str} {k0 : Nat} {ctx : Nat} {p1 p2 pos : Pos} {j : Nat} (hj : j < 4) (hx : x = fmtTxt) (ha : Ev prog w A env Γ a (.int 4)) (hb : Ev prog w A env Γ b (.int (j : Nat))) (hse : starEach [a, b] env = [(false, eval a env), (false, eval b env)]) :
    Ev prog w A env Γ (.BinOp (.Constant (.str x) k0 p1) .Mod (.Tuple [a, b] ctx p2) pos) (.str (S (shortMsg j))) := fun ok s E g => by
  subst hx
  refine wpAny_BinOp (ev_str.go g fun u s1 r1 k1 g1 => PySem.wpAny_Tuple ?_)
  obtain ⟨t, rfl⟩ := r1.isStr
  rw [hse]
  refine Calls.spliced_cons (ha.go g1 fun v2 s2 r2 k2 g2 => Calls.spliced_cons (hb.go g2 fun v3 s3 r3 k3 g3 => Calls.spliced_nil ⟨show 2 ≤ sizeLine by decide, ?_⟩))
  obtain ⟨t2, rfl⟩ := r2.isInt
  obtain ⟨t3, rfl⟩ := r3.isInt
  refine op_fmt hj (Heap.get?_push_size _ rfl) fun t' k => ⟨.str _ _, ?_⟩
  exact kp_trans k1 (kp_trans k2 (kp_trans k3 (kp_trans (kp_push _ _) (kp_tok _ k))))
end
theorem s1_sig {r : FnRec} (h : fnRec "read_string1" = some r) : Sig r ["f"] := by
  have hr : fnRec "read_string1" = some _ := rfl
  cases Option.some.inj (h.symm.trans hr)
  exact ⟨fun pm cd doc vs h => by obtain ⟨a, rfl⟩ := len1 h; rfl, fun n p hp => by simp only [List.mem_singleton] at hp; subst hp; exact .inl rfl, fun n p hp => by simp [cellsFrom] at hp, rfl, rfl, rfl, rfl⟩
theorem small_take {B : List Nat} {n : Nat} (h : small B) : small (B.take n) := fun c hc => h c (List.mem_of_mem_take hc)
/-- a name is read -/
theorem f_s1 {m : Sm} {Y' : List Addr} {R : Sp} {B : List Nat} (so : SmOk m Y') (sb : Stab Y' R) (hs : small B) (hB : B.length < 100000) (h4 : 4 ≤ B.length) :
    ∃ r, fnRec "read_string1" = some r ∧ FnF prog w 3 r [.val (.ref m.st)] m.X (m.Y ++ Y') (SP m (4 :: B) R) (.str (S (B.take 4))) (SP m (B.drop 4) R) none := by
  obtain ⟨ru, hru, Fu⟩ := f_u1 (prog := prog) (w := w) (c := 4) so sb (by decide) hB
  refine ⟨_, rfl, fnV_of (s1_sig rfl) rfl SmOk.XY (SP.stab sb) (SP.stab sb) fun A env l pm cd doc L a he sd room hfr => ?_⟩
  have room1 : Room 1 A := room.le (by decide)
  have hl4 : (B.take 4).length = 4 := by rw [List.length_take]; omega
  refine exv_cons (Γe := [("f", .val (.ref m.st))]) sd (exf1_call sd hfr (SP.stab sb) (SP.stab sb) (.loc (by rw [he]; rfl)) hru (by decide) (by rw [he]; rfl) Fu room (.cons (evS_val sd.okE rfl) (by rfl) .nil) (by rw [he]; rfl)) ?_
  refine exv_cons (Γe := []) sd (exf1_of sd (SP.stab sb) (ex1_assert room.hd (tst_cmp (ev_name sd.okE rfl) ev_int op_gei))) ?_
  refine exv_cons sd (exf1_read (Γe := []) (k := 4) sd so sb room1 (.loc (by rw [he]; rfl)) (by omega) rfl (ev_name sd.okE rfl) (by rfl) (by rfl) (by rw [he]; rfl)) ?_
  refine exv_if (c := true) sd (SP.stab sb) (tst_to (tst_cmp (ev_blt sd.okE (id := "len") (by kernel_rfl) (by decide) (by rw [he]; rfl) (ev_name sd.okE rfl) (by rfl) (op_lenby (by rw [hl4]; decide))) (ev_name (d := .int 4) sd.okE rfl) op_eqi) (by rw [hl4]; rfl)) (fun _ => ?_) (fun h => by cases h) rfl
  exact exv_ret (SP.stab sb) (ev_decode hl4 (small_take hs) (ev_name sd.okE rfl) (by rfl) (by rfl) latin_is (by rfl))
/-- a name is cut off -/
theorem f_s1_short {m : Sm} {Y' : List Addr} {R : Sp} {B : List Nat} (so : SmOk m Y') (sb : Stab Y' R) (h4 : B.length < 4) :
    ∃ r, fnRec "read_string1" = some r ∧ ∀ d, FnF prog w 3 r [.val (.ref m.st)] m.X (m.Y ++ Y') (SP m (4 :: B) R) d (SP m [] R) (some (shortMsg B.length)) := by
  obtain ⟨ru, hru, Fu⟩ := f_u1 (prog := prog) (w := w) (c := 4) so sb (by decide) (show B.length < 100000 by omega)
  refine ⟨_, rfl, fun d => fnV_of (s1_sig rfl) rfl SmOk.XY (SP.stab sb) (SP.stab sb) fun A env l pm cd doc L a he sd room hfr => ?_⟩
  have room1 : Room 1 A := room.le (by decide)
  have e1 : B.take 4 = B := List.take_of_length_le (by omega)
  have e2 : B.drop 4 = [] := List.drop_of_length_le (by omega)
  refine exv_cons (Γe := [("f", .val (.ref m.st))]) sd (exf1_call sd (fun h => absurd rfl h) (SP.stab sb) (SP.stab sb) (.loc (by rw [he]; rfl)) hru (by decide) (by rw [he]; rfl) Fu room (.cons (evS_val sd.okE rfl) (by rfl) .nil) (by rw [he]; rfl)) ?_
  refine exv_cons (Γe := []) sd (exf1_of sd (SP.stab sb) (ex1_assert room.hd (tst_cmp (ev_name sd.okE rfl) ev_int op_gei))) ?_
  have rd := exf1_read (prog := prog) (w := w) (x := "data") (f := "f") (Γ := [("n", .data (natD 4)), ("f", .val (.ref m.st))]) (B := B) (R := R) (Γe := []) (k := 4) sd so sb room1 (.loc (by rw [he]; rfl)) (by omega) rfl (ev_name (x := "n") (pos := ⟨14, 18, 14, 19⟩) sd.okE rfl) (xp := ⟨14, 4, 14, 8⟩) (p := ⟨14, 11, 14, 12⟩) (ap := ⟨14, 11, 14, 17⟩) (cp := ⟨14, 11, 14, 20⟩) (pos := ⟨14, 4, 14, 20⟩) (by rfl) (by rfl) (by rw [he]; rfl)
  rw [e1, e2] at rd
  refine exv_cons sd rd ?_
  refine exv_if (c := false) sd (SP.stab sb) (tst_to (tst_cmp (ev_blt sd.okE (id := "len") (by kernel_rfl) (by decide) (by rw [he]; rfl) (ev_name sd.okE rfl) (by rfl) (op_lenby (by omega))) (ev_name (d := .int 4) sd.okE rfl) op_eqi) ?_) (fun h => by cases h) (fun _ => ?_) rfl
  · rw [beq_eq_false_iff_ne]; omega
  · exact exv_raise sd room.hd (SP.stab sb) (by rw [he]; rfl) (ev_fmt h4 rfl (ev_name sd.okE rfl) (ev_blt sd.okE (id := "len") (by kernel_rfl) (by decide) (by rw [he]; rfl) (ev_name sd.okE rfl) (by rfl) (op_lenby (by omega))) (by rfl)) (by rfl)
/-- no name is left -/
theorem f_s1_end {m : Sm} {Y' : List Addr} {R : Sp} (so : SmOk m Y') (sb : Stab Y' R) :
    ∃ r, fnRec "read_string1" = some r ∧ ∀ d, FnF prog w 3 r [.val (.ref m.st)] m.X (m.Y ++ Y') (SP m [] R) d (SP m [] R) (some uintMsg) := by
  obtain ⟨ru, hru, Fu⟩ := f_u1_end (prog := prog) (w := w) so sb
  refine ⟨_, rfl, fun d => fnV_of (s1_sig rfl) rfl SmOk.XY (SP.stab sb) (SP.stab sb) fun A env l pm cd doc L a he sd room hfr => ?_⟩
  exact exv_fail (exf1_call sd hfr (SP.stab sb) (SP.stab sb) (.loc (by rw [he]; rfl)) hru (by decide) (by rw [he]; rfl) (Fu .none) room (.cons (evS_val sd.okE rfl) (by rfl) .nil) (by rw [he]; rfl))
end Mine
end
section
open PySem PySem.Calls PyProof.Rows PySem.W
set_option maxRecDepth 100000
set_option linter.all false
set_option maxHeartbeats 1000000
namespace Mine
/-! tables of sets -/
noncomputable def cnt (l : List Nat) (j : Nat) : Nat := l.countP (fun x => decide (x < j))
theorem cnt_le (l : List Nat) (j : Nat) : cnt l j ≤ l.length := List.countP_le_length
theorem cnt_iff : ∀ {l : List Nat} {j : Nat}, l.Pairwise (· < ·) → ∀ i (h : i < l.length), l[i] < j ↔ i < cnt l j
  | [], j, _, i, h => by simp at h
  | a :: l, j, hp, i, h => by
    obtain ⟨h1, h2⟩ := List.pairwise_cons.mp hp
    by_cases ha : a < j
    · have e : cnt (a :: l) j = cnt l j + 1 := by simp [cnt, List.countP_cons, ha]
      rw [e]
      cases i with
      | zero => simp [ha]
      | succ i =>
        have := cnt_iff (j := j) h2 i (by simpa using h)
        simp only [List.getElem_cons_succ]
        omega
    · have e : cnt (a :: l) j = 0 := by
        have : ∀ x ∈ l, ¬ x < j := fun x hx => by have := h1 x hx; omega
        unfold cnt
        rw [List.countP_eq_zero]
        intro x hx
        rcases List.mem_cons.mp hx with rfl | hx
        · simpa using ha
        · simpa using this x hx
      rw [e]
      cases i with
      | zero => simp [ha]
      | succ i =>
        have := h1 (l[i]'(by simpa using h)) (List.getElem_mem _)
        simp only [List.getElem_cons_succ]
        omega
theorem half_up {lo hi f : Nat} (h : lo < hi) (h4 : hi - lo ≤ f + 1) : hi - ((lo + hi) / 2 + 1) ≤ f := by omega
theorem half_dn {lo hi f : Nat} (h : lo < hi) (h4 : hi - lo ≤ f + 1) : (lo + hi) / 2 - lo ≤ f := by omega
theorem below_go {l : List Nat} {j : Nat} (hp : l.Pairwise (· < ·)) : ∀ (f lo hi : Nat), hi ≤ l.length → lo ≤ cnt l j → cnt l j ≤ hi → hi - lo ≤ f → SetTable.below.go l.toArray j f lo hi = cnt l j
  | 0, lo, hi, h1, h2, h3, h4 => by
    unfold SetTable.below.go
    omega
  | f + 1, lo, hi, h1, h2, h3, h4 => by
    unfold SetTable.below.go
    by_cases hlt : lo < hi
    · rw [if_pos hlt]
      have hm : (lo + hi) / 2 < l.length := by omega
      have hg : l.toArray.getD ((lo + hi) / 2) j = l[(lo + hi) / 2] := by simp [Array.getD, hm]
      have hi' := cnt_iff (j := j) hp _ hm
      dsimp only
      rw [hg]
      by_cases hq : l[(lo + hi) / 2] < j
      · rw [if_pos hq]
        exact below_go hp f _ _ h1 (by have := hi'.mp hq; omega) h3 (half_up hlt h4)
      · rw [if_neg hq]
        exact below_go hp f _ _ (by omega) h2 (by have : ¬ _ := fun z => hq (hi'.mpr z); omega) (half_dn hlt h4)
    · rw [if_neg hlt]; omega
theorem below_is {l : List Nat} (hp : l.Pairwise (· < ·)) (j : Nat) : SetTable.below l.toArray j = cnt l j := by
  unfold SetTable.below
  exact below_go hp _ _ _ (by simp) (Nat.zero_le _) (by simpa using cnt_le l j) (by simp)
theorem cnt_next {l : List Nat} (hp : l.Pairwise (· < ·)) {i : Nat} (h : i < l.length) : cnt l (l[i] + 1) = i + 1 := by
  have a : ∀ k (hk : k < l.length), l[k] < l[i] + 1 ↔ k < cnt l (l[i] + 1) := fun k hk => cnt_iff hp k hk
  have b := List.pairwise_iff_getElem.mp hp
  have h1 : i < cnt l (l[i] + 1) := (a i h).mp (by omega)
  have h3 := cnt_le l (l[i] + 1)
  have h2 : ¬ i + 1 < cnt l (l[i] + 1) := fun z => by
    have h4 : i + 1 < l.length := by omega
    have := (a (i + 1) h4).mpr z
    have := b i (i + 1) h h4 (Nat.lt_succ_self _)
    omega
  omega
theorem cnt_zero {l : List Nat} : cnt l 0 = 0 := by
  unfold cnt
  rw [List.countP_eq_zero]
  intro x _; simp
/-- put at its place, a new one keeps the row rising -/
theorem insert_rising {l : List Nat} (hp : l.Pairwise (· < ·)) {j : Nat} (hj : l[cnt l j]? ≠ some j) : (l.take (cnt l j) ++ j :: l.drop (cnt l j)).Pairwise (· < ·) := by
  have b := List.pairwise_iff_getElem.mp hp
  refine List.pairwise_append.mpr ⟨hp.sublist (List.take_sublist _ _), List.pairwise_cons.mpr ⟨fun x hx => ?_, hp.sublist (List.drop_sublist _ _)⟩, fun x hx y hy => ?_⟩
  · obtain ⟨k, hk, rfl⟩ := List.mem_iff_getElem.mp hx
    rw [List.getElem_drop]
    have hkl : cnt l j + k < l.length := by rw [List.length_drop] at hk; omega
    have h1 : ¬ l[cnt l j + k] < j := fun z => by have := (cnt_iff (j := j) hp _ hkl).mp z; omega
    have h0 : cnt l j < l.length := by omega
    have h2 : l[cnt l j] ≠ j := fun z => hj (by rw [List.getElem?_eq_getElem h0, z])
    have h3 : ¬ l[cnt l j] < j := fun z => by have := (cnt_iff (j := j) hp _ h0).mp z; omega
    by_cases hk0 : k = 0
    · subst hk0; simp only [Nat.add_zero]; omega
    · have := b (cnt l j) (cnt l j + k) h0 hkl (by omega)
      omega
  · obtain ⟨k, hk, rfl⟩ := List.mem_iff_getElem.mp hx
    have hkc : k < cnt l j := by rw [List.length_take] at hk; omega
    have hkl : k < l.length := by rw [List.length_take] at hk; omega
    rw [List.getElem_take]
    have h1 : l[k] < j := (cnt_iff hp _ hkl).mpr hkc
    rcases List.mem_cons.mp hy with rfl | hy
    · exact h1
    · obtain ⟨k2, hk2, rfl⟩ := List.mem_iff_getElem.mp hy
      rw [List.getElem_drop]
      exact b k _ hkl (by rw [List.length_drop] at hk2; omega) (by omega)

structure TabGood (t : SetTable) : Prop where
  dum : t.dummies = #[]
  up : t.place.toList.Pairwise (· < ·)
theorem has_none {j : Nat} : SetTable.has #[] j = false := by
  unfold SetTable.has
  simp
theorem slot_empty {t : SetTable} {j : Nat} (h : t.slot j = .empty) : t.place[SetTable.below t.place j]? ≠ some j := fun e => by
  unfold SetTable.slot at h
  simp only [e, beq_self_eq_true, if_true] at h
  cases h
theorem slot_nodum {t : SetTable} (g : TabGood t) {j : Nat} : t.slot j ≠ .dummy := fun h => by
  unfold SetTable.slot at h
  dsimp only at h
  split at h
  · cases h
  · rw [g.dum, has_none] at h
    simp at h
theorem probe_go {t : SetTable} (g : TabGood t) {f : Nat → Int} {h : Int} : ∀ (n : Nat) (p : SetTable.Probe), p.dummy = none → ∀ {j d}, SetTable.probe.go t f h n p = some (.empty j d) → t.slot j = .empty ∧ d = none
  | 0, p, hp, j, d, e => by unfold SetTable.probe.go at e; cases e
  | n + 1, p, hp, j, d, e => by
    have adv : ∀ q : SetTable.Probe, q.dummy = none → (t.advance q).dummy = none := fun q hq => by
      unfold SetTable.advance
      split
      · exact hq
      · exact hq
    unfold SetTable.probe.go at e
    split at e
    · rename_i hs
      cases e
      exact ⟨hs, hp⟩
    · rename_i hs
      exact absurd hs (slot_nodum g)
    · split at e
      · cases e
      · exact probe_go g n _ (adv p hp) e
theorem freeSlot_new {t : SetTable} (g : TabGood t) {h : Int} {j : Nat} {b : Bool} (e : t.freeSlot h = some (j, b)) : t.place[SetTable.below t.place j]? ≠ some j := by
  unfold SetTable.freeSlot at e
  split at e
  · rename_i j' d hp
    obtain ⟨hs, rfl⟩ := probe_go g _ _ rfl hp
    cases e
    exact slot_empty hs
  · cases e
theorem insertAt_list {α : Type} (xs : Array α) (p : Nat) (x : α) : (SetTable.insertAt xs p x).toList = xs.toList.take p ++ x :: xs.toList.drop p := by
  unfold SetTable.insertAt
  simp [List.take_of_length_le]
theorem put_good {t : SetTable} (g : TabGood t) {j : Nat} (hj : t.place[SetTable.below t.place j]? ≠ some j) : TabGood (t.put j).1 := by
  have hb : SetTable.below t.place j = cnt t.place.toList j := by
    have := below_is g.up j
    simpa using this
  refine ⟨?_, ?_⟩
  · unfold SetTable.put
    dsimp only
    rw [g.dum, has_none]
    rfl
  · show (SetTable.insertAt t.place (SetTable.below t.place j) j).toList.Pairwise _
    rw [insertAt_list, hb]
    refine insert_rising g.up ?_
    rw [hb] at hj
    simpa using hj
theorem standIn_good (t : SetTable) (n : Nat) : TabGood (t.standIn n) := ⟨rfl, by
  show (Array.range n).toList.Pairwise _
  rw [Array.toList_range]
  exact List.pairwise_lt_range⟩
theorem orStandIn_good {t : SetTable} (g : TabGood t) (n : Nat) : TabGood (t.orStandIn n) := by
  unfold SetTable.orStandIn
  split
  · exact g
  · exact standIn_good _ _
theorem layNew_good {t : SetTable} (g : TabGood t) (es : Array (Int × Value)) (h : Int) (x : Value) : TabGood (layNew t es h x).2.1 ∧ (layNew t es h x).2.1.led = t.led := by
  unfold layNew
  split
  · rename_i slot wd hf
    refine ⟨orStandIn_good (put_good g (freeSlot_new g hf)) _, ?_⟩
    dsimp only
    unfold SetTable.orStandIn
    split <;> rfl
  · exact ⟨standIn_good _ _, rfl⟩
theorem laid_good {mask finger moves : Nat} {led plain : Bool} {hashes : Array Int} {r : SetTable × Array Nat} (h : SetTable.laid mask finger moves led plain hashes = some r) : TabGood r.1 ∧ r.1.led = led := by
  unfold SetTable.laid at h
  obtain ⟨owner, _, h⟩ := Option.bind_eq_some_iff.mp h
  cases h
  refine ⟨⟨rfl, ?_⟩, rfl⟩
  show (List.map (·.1) (List.filterMap (fun j => Option.map (fun x => (j, x)) (owner.getD j none)) (List.range (mask + 1)))).toArray.toList.Pairwise _
  have : ∀ l : List Nat, l.Pairwise (· < ·) → (List.map (·.1) (List.filterMap (fun j => Option.map (fun x => (j, x)) (owner.getD j none)) l)).Pairwise (· < ·) := by
    intro l hl
    refine hl.sublist ?_
    induction l with
    | nil => exact List.Sublist.slnil
    | cons a l ih =>
      have ih := ih (List.pairwise_cons.mp hl).2
      rw [List.filterMap_cons]
      cases owner.getD a none with
      | none => exact ih.cons _
      | some x => exact ih.cons₂ _
  simpa using this _ List.pairwise_lt_range
theorem relayAll_good {t : SetTable} (g : TabGood t) (es : Array (Int × Value)) (n : Nat) : TabGood (relayAll t es n).2.1 ∧ (relayAll t es n).2.1.led = t.led := by
  unfold relayAll
  split
  · rename_i t' order h
    have := laid_good h
    dsimp only
    split
    · exact this
    · exact ⟨standIn_good _ _, rfl⟩
  · exact ⟨standIn_good _ _, rfl⟩
end Mine
end
section
open PySem PySem.Calls PyProof.Rows PySem.W
set_option maxRecDepth 100000
set_option linter.all false
set_option maxHeartbeats 1000000
namespace Mine
theorem nodup_le : ∀ {l m : List Int}, l.Nodup → (∀ x ∈ l, x ∈ m) → l.length ≤ m.length
  | [], m, _, _ => Nat.zero_le _
  | x :: l, m, hn, hs => by
    obtain ⟨h1, h2⟩ := List.nodup_cons.mp hn
    have hx : x ∈ m := hs x (.head _)
    have := nodup_le (m := m.erase x) h2 fun y hy => by
      refine (List.mem_erase_of_ne ?_).mpr (hs y (.tail _ hy))
      rintro rfl; exact h1 hy
    rw [List.length_erase_of_mem hx] at this
    have := List.length_pos_of_mem hx
    rw [List.length_cons]; omega
noncomputable def vint : Value → Int
  | .int i _ => i
  | _ => 0
noncomputable def keysOf (es : List (Int × Value)) : List Int := es.map fun e => vint e.2
section
variable {prog : Program} {w : World} {A : Around} {E : Value → Shared → Prop} {s : Shared} {a : Addr}
/-- a set of ints -/
noncomputable def SetI (prog : Program) (w : World) (h : Heap) (a : Addr) (ns : List Int) : Prop :=
  ∃ o es ep t, h.get? a = some o ∧ o.ExactSet ∧ o.data = .set es ep t ∧ ElemsOf (PySem.intKind prog w) es.toList ∧ (keysOf es.toList).Nodup ∧ (∀ k, k ∈ keysOf es.toList ↔ k ∈ ns) ∧ t.fits es.size = true ∧ TabGood t ∧ (w.params.followText "set-order" = false → t.led = true)
theorem elem_int {es : List (Int × Value)} (h : ElemsOf (PySem.intKind prog w) es) {e : Int × Value} (he : e ∈ es) : ∃ t, e.2 = .int (vint e.2) t := by
  obtain ⟨⟨k, hk, _⟩, _⟩ := h e he
  obtain ⟨t, e2⟩ := Value.isInt_shape hk
  rw [e2]; exact ⟨t, rfl⟩
theorem elem_key {es : List (Int × Value)} (h : ElemsOf (PySem.intKind prog w) es) {e : Int × Value} (he : e ∈ es) {k : Int} : (PySem.intKind prog w).is k e.2 = true ↔ vint e.2 = k := by
  obtain ⟨t, e2⟩ := elem_int h he
  rw [e2]
  show (Value.int (vint e.2) t).isInt k = true ↔ _
  simp [Value.isInt, vint]
theorem find_some {es : List (Int × Value)} (h : ElemsOf (PySem.intKind prog w) es) {k : Int} {j : Nat} (hr : List.findIdx? (fun e => (PySem.intKind prog w).is k e.2) es = some j) : k ∈ keysOf es := by
  obtain ⟨hj, hpj, _⟩ := List.findIdx?_eq_some_iff_getElem.mp hr
  exact List.mem_map.mpr ⟨es[j], List.getElem_mem hj, (elem_key h (List.getElem_mem hj)).mp hpj⟩
theorem find_none {es : List (Int × Value)} (h : ElemsOf (PySem.intKind prog w) es) {k : Int} (hr : List.findIdx? (fun e => (PySem.intKind prog w).is k e.2) es = none) : k ∉ keysOf es := fun m => by
  obtain ⟨e, he, hk⟩ := List.mem_map.mp m
  have := List.findIdx?_eq_none_iff.mp hr e he
  rw [(elem_key h he).mpr hk] at this
  cases this
theorem SetI.size {h : Heap} {ns : List Int} {es : List (Int × Value)} (hn : (keysOf es).Nodup) (hm : ∀ k, k ∈ keysOf es ↔ k ∈ ns) : es.length ≤ ns.length := by
  have := nodup_le hn fun x hx => (hm x).mp hx
  simpa [keysOf] using this
theorem setI_new {Q : Value → Shared → Prop}
    (h : ∀ h', (∀ b o, s.heap.get? b = some o → h'.get? b = some o) → SetI prog w h' s.heap.objs.size [] → Q (.ref s.heap.objs.size) { s with heap := h' }) : wpAny (model prog w) A (newSet (.type "set")) Q E s := by
  unfold newSet setsByText
  refine wpAny_bind (wpAny_bind (wpAny_askSetting (wpAny_pure ?_)))
  dsimp only
  simp only [newObj]
  refine wpAny_bind (wpAny_alloc (wpAny_pure (h _ (fun _ _ e => Heap.get?_push_of_some _ e) ⟨_, #[], 0, _, Heap.get?_push_size _ rfl, ⟨rfl, rfl, rfl⟩, rfl, fun e he => by simp at he, by simp [keysOf], fun k => by simp [keysOf], by rfl, ⟨rfl, by simp [SetTable.fresh]⟩, fun hq => ?_⟩)))
  show (!w.params.followText "set-order") = true
  rw [hq]; rfl
theorem addHashedI {ns : List Int} {k : Int} {t : Tok} {Q : Bool → Shared → Prop} (hS : SetI prog w s.heap a ns) (hroom : ns.length + 1 < scanBound)
    (h : ∀ h' b, Heap.SameBut a s.heap h' → SetI prog w h' a (ns ++ [k]) → Q b { s with heap := h' }) : wpAny (model prog w) A (setAddHashed a (.int k t) ((PySem.intKind prog w).hash k)) Q E s := by
  obtain ⟨o, es, ep, tb, ho, hex, hd, hel, hnd, hmem, hf, hg, hled⟩ := hS
  have hsz := SetI.size (h := s.heap) hnd hmem
  have hkey : (PySem.intKind prog w).is k (.int k t) = true := intKind_is _ _ _ _
  have hsc : (Value.int k t).scannable = true := rfl
  have hb : es.size < scanBound := by have : es.size = es.toList.length := by simp
                                      omega
  unfold setAddHashed setAddHashedIn
  refine wpAny_holding (wpAny_bind (wpAny_setState_of ho hd hf ?_))
  dsimp only
  rw [byScan_of hsc hb hel]
  simp only [↓reduceIte]
  unfold setAddByScan
  refine wpAny_bind ?_
  refine wpAny_bind (wpAny_rule ?_)
  refine wpAny_bind (wpAny_setScan_of hkey ho hd hf hel ?_)
  cases hr : List.findIdx? (fun e => (PySem.intKind prog w).is k e.2) es.toList with
  | some j =>
    dsimp only
    have hk := find_some hel hr
    refine wpAny_pure (wpAny_pure ?_)
    have e : s = { s with heap := s.heap } := by cases s; rfl
    rw [e]
    exact h s.heap _ (Heap.SameBut.refl a s.heap) ⟨o, es, ep, tb, ho, hex, hd, hel, hnd, fun k' => by
      rw [List.mem_append, List.mem_singleton, ← hmem k']
      exact ⟨.inl, fun q => q.elim id fun q => q ▸ hk⟩, hf, hg, hled⟩
  | none =>
    dsimp only
    have hk := find_none hel hr
    have hgw : ∀ (b : Bool) {s₁ : Shared} {Q' : Unit → Shared → Prop}, Q' () s₁ → wpAny (model prog w) A (match b with | true => rule "set.scan.the-table-gave-way" | false => pure ()) Q' E s₁ :=
      fun b s₁ Q' hq => by cases b <;> first | exact wpAny_pure hq | exact wpAny_rule hq
    have hperm := layNew_perm tb es ((PySem.intKind prog w).hash k) (.int k t)
    have hfits := layNew_fits tb es ((PySem.intKind prog w).hash k) (.int k t)
    have hgood := layNew_good hg es ((PySem.intKind prog w).hash k) (.int k t)
    generalize hL : layNew tb es ((PySem.intKind prog w).hash k) (.int k t) = L at hperm hfits hgood ⊢
    obtain ⟨es1, t1, wasDummy, gave⟩ := L
    dsimp only at hperm hfits hgood ⊢
    rw [Array.toList_push] at hperm
    have hel1 : ElemsOf (PySem.intKind prog w) es1.toList := (hel.push hkey hsc).perm hperm
    have hkp : (keysOf es1.toList).Perm (keysOf es.toList ++ [k]) := by
      have := hperm.map fun e => vint e.2
      simpa [keysOf, vint] using this
    have hnd1 : (keysOf es1.toList).Nodup := hkp.nodup_iff.mpr (List.nodup_append.mpr ⟨hnd, by simp, fun x hx y hy => by rw [List.mem_singleton.mp hy]; rintro rfl; exact hk hx⟩)
    have hmem1 : ∀ k', k' ∈ keysOf es1.toList ↔ k' ∈ ns ++ [k] := fun k' => by
      rw [hkp.mem_iff, List.mem_append, List.mem_append, hmem k']
    have hsz1 := SetI.size (h := s.heap) hnd1 hmem1
    have hb1 : es1.size ≤ sizeLine := by
      have : es1.size = es1.toList.length := by simp
      rw [List.length_append, List.length_singleton] at hsz1
      exact fits_of_scanBound (by omega)
    refine wpAny_bind (hgw _ ?_)
    have tail : ∀ t2 : SetTable, t2.fits es1.size = true → TabGood t2 → (w.params.followText "set-order" = false → t2.led = true) → ∀ {R : Option Bool → Shared → Prop}, (∀ h', Heap.SameBut a s.heap h' → SetI prog w h' a (ns ++ [k]) → R (some true) { s with heap := h' }) →
        wpAny (model prog w) A (do
          storeSet a es1 t2
          if (!wasDummy && t2.tooFull) = true then do
              (match (relayAll t2 es1 (SetTable.grown es1.size)).2.2 with | true => rule "set.scan.the-table-gave-way" | false => pure ())
              storeSet a (relayAll t2 es1 (SetTable.grown es1.size)).1 (relayAll t2 es1 (SetTable.grown es1.size)).2.1
              pure (some true)
            else pure (some true)) R E s := fun t2 hf2 hg2 hled2 R hR => by
      have hgt : (s.heap.update a (Obj.putSet es1 t2)).get? a = some { o with data := .set es1 (ep + 1) t2 } := by
        have := Heap.get?_update_self (Obj.putSet es1 t2) ho (by rw [putSet_of es1 t2 hd]; rfl)
        rw [putSet_of es1 t2 hd] at this; exact this
      have hsb1 := Heap.SameBut.update s.heap a (Obj.putSet es1 t2)
      refine wpAny_bind (wpAny_storeSet_of ho hd ?_ hb1)
      split
      · have hp := relayAll_perm t2 es1 (SetTable.grown es1.size)
        have hfr := relayAll_fits t2 es1 (SetTable.grown es1.size)
        have hgr := relayAll_good hg2 es1 (SetTable.grown es1.size)
        generalize hRl : relayAll t2 es1 (SetTable.grown es1.size) = Rl at hp hfr hgr ⊢
        obtain ⟨es2, t3, gave2⟩ := Rl
        dsimp only at hp hfr hgr ⊢
        have hkp2 : (keysOf es2.toList).Perm (keysOf es1.toList) := hp.map _
        have hsz2 : es2.size = es1.size := by rw [← Array.length_toList, hp.length_eq, Array.length_toList]
        refine wpAny_bind (hgw _ ?_)
        refine wpAny_bind (wpAny_storeSet_of hgt rfl ?_ (by rw [hsz2]; exact hb1))
        have hgt2 : ((s.heap.update a (Obj.putSet es1 t2)).update a (Obj.putSet es2 t3)).get? a = some { o with data := .set es2 (ep + 1 + 1) t3 } := by
          have := Heap.get?_update_self (Obj.putSet es2 t3) hgt (by rw [putSet_of es2 t3 rfl]; rfl)
          rw [putSet_of es2 t3 rfl] at this; exact this
        exact wpAny_pure (hR _ (hsb1.trans (Heap.SameBut.update _ a _)) ⟨_, es2, _, t3, hgt2, hex, rfl, hel1.perm hp, hkp2.nodup_iff.mpr hnd1, fun k' => by rw [hkp2.mem_iff, hmem1], hfr, hgr.1, fun q => by rw [hgr.2]; exact hled2 q⟩)
      · exact wpAny_pure (hR _ hsb1 ⟨_, es1, _, t2, hgt, hex, rfl, hel1, hnd1, hmem1, hf2, hg2, hled2⟩)
    have hled1 : w.params.followText "set-order" = false → t1.led = true := fun q => by rw [hgood.2]; exact hled q
    split
    · refine wpAny_bind ?_
      rw [hashByValue_scannable 8 hsc]
      refine wpAny_pure ?_
      refine tail _ (by split; exact hfits; exact SetTable.fits_plain_off hfits) ?_ ?_ ?_
      · split
        · exact hgood.1
        · exact ⟨hgood.1.dum, hgood.1.up⟩
      · intro q; split
        · exact hled1 q
        · exact hled1 q
      · intro h' hsb hS'; dsimp only; exact wpAny_pure (h h' _ hsb hS')
    · refine wpAny_bind (wpAny_pure ?_)
      simp only [↓reduceIte]
      refine tail _ hfits hgood.1 hled1 ?_
      intro h' hsb hS'; dsimp only; exact wpAny_pure (h h' _ hsb hS')
theorem call_set_addI {ns : List Int} {k : Int} {t : Tok} {Q : Value → Shared → Prop} (hS : SetI prog w s.heap a ns) (hroom : ns.length + 1 < scanBound)
    (h : ∀ h', Heap.SameBut a s.heap h' → SetI prog w h' a (ns ++ [k]) → Q .none { s with heap := h', toks := s.toks + 1 }) : wpAny (model prog w) A (call (.builtin "set.add") [.ref a, .int k t]) Q E s := by
  have hT : s.TypeIs (.ref a) "set" := let ⟨o, _, _, _, ho, hc, _⟩ := hS; ⟨o, ho, hc.1⟩
  refine wpAny_call_entry F.slot_set_add hT F.entry_set_add ?_ (F.args_set_add_2 _ _)
  unfold Builtin.«set.add» Builtin.Frozenset.oneOther
  simp only [List.isEmpty_nil, bind_assoc]
  unfold Builtin.Frozenset.addrOf setAdd
  refine wpAny_bind (wpAny_pure ?_)
  try dsimp only
  refine wpAny_bind (wpAny_pure ?_)
  try dsimp only
  refine wpAny_bind ?_
  refine wpAny_holding ?_
  refine wpAny_bind ((PySem.intKind prog w).pyHash (k := k) (intKind_is _ _ _ _) ?_)
  refine addHashedI (s := { s with toks := s.toks + 1 }) hS hroom fun h' b hsb hS' => ?_
  show wpAny _ _ (ret Value.none) _ _ _
  exact wpAny_pure ⟨_, rfl, h h' hsb hS'⟩
end
end Mine
end
section
open PySem PySem.Calls PyProof.Rows PySem.W
set_option maxRecDepth 100000
set_option linter.all false
set_option maxHeartbeats 1000000
namespace Mine
theorem eraseIdx_perm {α : Type} : ∀ {l : List α} {i : Nat} (h : i < l.length), (l[i] :: l.eraseIdx i).Perm l
  | a :: l, 0, h => List.Perm.refl _
  | a :: l, i + 1, h => by
    show (l[i]'(by simpa using h) :: a :: l.eraseIdx i).Perm (a :: l)
    exact (List.Perm.swap _ _ _).trans (List.Perm.cons _ (eraseIdx_perm (by simpa using h)))
theorem pick_go {α : Type} {next : Nat → Nat} : ∀ (f k : Nat) (left : List α) (out : Array α), left.length ≤ f → (pickOrder.go next f k left out).toList.Perm (out.toList ++ left)
  | 0, k, left, out, h => by
    have : left = [] := List.length_eq_zero_iff.mp (by omega)
    subst this
    unfold pickOrder.go
    simp
  | f + 1, k, left, out, h => by
    unfold pickOrder.go
    split
    · rename_i x hx
      refine (pick_go f (k + 1) _ _ ?_).trans ?_
      · obtain ⟨hi, _⟩ := List.getElem?_eq_some_iff.mp hx
        rw [List.length_eraseIdx]
        split <;> omega
      · obtain ⟨hi, he⟩ := List.getElem?_eq_some_iff.mp hx
        rw [Array.toList_push, List.append_assoc]
        refine List.Perm.append_left _ ?_
        show (x :: List.eraseIdx left _).Perm left
        rw [← he]
        exact eraseIdx_perm hi
    · rename_i hx
      have : left = [] := by
        cases left with
        | nil => rfl
        | cons a l =>
          have hl : next k % (a :: l).length < (a :: l).length := Nat.mod_lt _ (by simp)
          rw [List.getElem?_eq_getElem hl] at hx
          cases hx
      subst this
      simp
theorem pick_perm {α : Type} (next : Nat → Nat) (xs : Array α) : (pickOrder next xs).toList.Perm xs.toList := by
  have := pick_go (next := next) xs.size 0 xs.toList #[] (by simp)
  simpa [pickOrder] using this
section
variable {M : Model} {A : Around} {E : Value → Shared → Prop} {s : Shared}
theorem wpAny_choose {src : Source} {n : Nat} {Q : Nat → Shared → Prop} (hn : n ≠ 0) (h : ∀ i, i < n → Q i { s with drawn := s.drawn.bump src }) : wpAny M A (choose src n) Q E s := fun Γ p hΓ => by
  unfold choose
  rw [Sem.wp_choose]
  exact ⟨hn, h _ (Nat.mod_lt _ (Nat.pos_of_ne_zero hn))⟩
theorem draw_perm : ∀ (n : Nat) (xs : List Nat) (s : Shared) (Q : List Nat → Shared → Prop), xs.length = n → (∀ ys d, ys.Perm xs → Q ys { s with drawn := d }) → wpAny M A (drawOrder n xs) Q E s
  | 0, xs, s, Q, hl, h => by
    have : xs = [] := List.length_eq_zero_iff.mp hl
    subst this
    unfold drawOrder
    exact wpAny_pure (h [] s.drawn (List.Perm.refl _))
  | n + 1, [], s, Q, hl, h => by cases hl
  | n + 1, x :: xs, s, Q, hl, h => by
    unfold drawOrder
    refine wpAny_bind (wpAny_choose (by simp) fun i hi => ?_)
    rw [List.getElem?_eq_getElem hi]
    refine wpAny_bind (draw_perm n _ _ _ (by rw [List.length_eraseIdx]; simp only [List.length_cons] at hl hi ⊢; split <;> omega) fun ys d hp => wpAny_pure ?_)
    exact h _ d ((List.Perm.cons _ hp).trans (eraseIdx_perm hi))
end
theorem slot_si_next : Slot "set_iterator" "__next__" "set_iterator.__next__" :=
  .of (owner := "set_iterator") (n := "__next__") (by rw [typeLookup_type, builtinLookup_eq_fast]; kernel_rfl) (by decide +kernel) (by decide +kernel) (by decide +kernel)
    (by first | exact .inl (by decide +kernel) | exact .inr (by decide +kernel)) (by rw [isSubtype_type]; kernel_rfl)
theorem entry_si_next : entryFor table "set_iterator.__next__" = some Builtin.«set_iterator.__next__» := entryFor_of_tree (by kernel_rfl)
theorem args_si_next (a : Value) : argsOk "set_iterator.__next__" ⟨[a], []⟩ := by unfold argsOk; kernel_rfl
theorem entry_si_iter : entryFor table "set.__iter__" = some Builtin.«frozenset.__iter__» := entryFor_alias (id' := "frozenset.__iter__") (by kernel_rfl) rfl (by decide +kernel) (by kernel_rfl)
theorem args_si_iter (a : Value) : argsOk "set.__iter__" ⟨[a], []⟩ := by unfold argsOk; kernel_rfl
end Mine
end
section
open PySem PySem.Calls PyProof.Rows PySem.W
set_option maxRecDepth 100000
set_option linter.all false
set_option maxHeartbeats 1000000
namespace Mine
/-- the set that is gone over stands at a -/
structure SetAt (prog : Program) (w : World) (h : Heap) (a : Addr) (es : Array (Int × Value)) (ep : Nat) (t : SetTable) : Prop where
  at' : ∃ o, h.get? a = some o ∧ o.ExactSet ∧ o.data = .set es ep t
  fits : t.fits es.size = true
  good : TabGood t
  led : w.params.followText "set-order" = false → t.led = true
noncomputable def vals (es : Array (Int × Value)) : List Value := es.toList.map (·.2)
/-- how the set is gone over, and what comes i-th -/
inductive Mode (w : World) (h : Heap) (a : Addr) (es : Array (Int × Value)) (ep : Nat) (t : SetTable) (xs : List Value) : Value → Nat → Prop
  | text {i : Nat} : w.params.followText "set-order" = true → xs = vals (pickOrder (w.params.setOrder a ep) es) → Mode w h a es ep t xs (rawInt 0) i
  | drawn {i : Nat} {tp : Addr} {ot : Obj} {n : Nat} {ps : List Nat} : w.params.followText "set-order" = false → h.get? tp = some ot → ot.data = .seq (ps.map fun p => rawInt (p : Nat)).toArray n → ot.cls = .type "tuple" → ps.Perm (List.range es.size) → xs = ps.filterMap (fun p => es[p]?.map (·.2)) → Mode w h a es ep t xs (.ref tp) i
  | plain {i slot : Nat} : w.params.followText "set-order" = false → (!t.plain && decide (es.size > 1)) = false → cnt t.place.toList slot = i → xs = vals es → Mode w h a es ep t xs (rawInt (slot : Nat)) i
structure SetIt (prog : Program) (w : World) (a : Addr) (es : Array (Int × Value)) (ep : Nat) (t : SetTable) (xs : List Value) (I : Addr) (i : Nat) (h : Heap) : Prop where
  set : SetAt prog w h a es ep t
  it : ∃ first o, h.get? I = some o ∧ o.cls = .type "set_iterator" ∧ o.data = .fields #[first, .int (i : Nat) 0, .ref a, .int (es.size : Nat) 0, .int (ep : Nat) 0] ∧ Mode w h a es ep t xs first i
section
variable {prog : Program} {w : World} {A : Around} {E : Value → Shared → Prop} {s : Shared} {a I : Addr} {es : Array (Int × Value)} {ep : Nat} {t : SetTable} {xs : List Value}
theorem SetAt.but {h h' : Heap} (S : SetAt prog w h a es ep t) (k : ∀ o, h.get? a = some o → h'.get? a = some o) : SetAt prog w h' a es ep t :=
  let ⟨o, e, r⟩ := S.at'; ⟨⟨o, k o e, r⟩, S.fits, S.good, S.led⟩
theorem xs_len {h : Heap} {first : Value} {i : Nat} (m : Mode w h a es ep t xs first i) : xs.length = es.size := by
  cases m with
  | text _ e => 
    rw [e, vals, List.length_map, (pick_perm _ _).length_eq, Array.length_toList]
  | drawn _ _ _ _ hp e =>
    rw [e]
    have h1 := (hp.filterMap fun p => es[p]?.map (·.2)).length_eq
    rw [h1]
    have : ∀ n, n ≤ es.size → ((List.range n).filterMap fun p => es[p]?.map (·.2)).length = n := by
      intro n
      induction n with
      | zero => intro _; rfl
      | succ n ih =>
        intro hn
        rw [List.range_succ, List.filterMap_append, List.length_append, ih (by omega)]
        have : es[n]? = some es[n] := by simp [show n < es.size by omega]
        simp [this]
    exact this _ (Nat.le_refl _)
  | plain _ _ _ e => rw [e, vals, List.length_map, Array.length_toList]
theorem byText_go {Q : Bool → Shared → Prop} (h : Q (w.params.followText "set-order") s) : wpAny (model prog w) A setsByText Q E s := by
  unfold setsByText
  exact wpAny_bind (wpAny_askSetting (wpAny_pure h))
theorem walk_text {Q : Array (Int × Value) → Shared → Prop} (S : SetAt prog w s.heap a es ep t) (ht : w.params.followText "set-order" = true) (h : Q (pickOrder (w.params.setOrder a ep) es) s) : wpAny (model prog w) A (setWalk a) Q E s := by
  obtain ⟨os, hos, hex, hds⟩ := S.at'
  unfold setWalk
  refine wpAny_bind (wpAny_setState_of hos hds S.fits ?_)
  dsimp only
  refine wpAny_bind (byText_go ?_)
  rw [ht]
  simp only [if_true]
  exact wpAny_bind (wpAny_askSetting (wpAny_pure h))
theorem next_text {slot i : Nat} {Q : Option (Value × Nat) → Shared → Prop} (S : SetAt prog w s.heap a es ep t) (ht : w.params.followText "set-order" = true) (h : Q (((vals (pickOrder (w.params.setOrder a ep) es))[i]?).map fun v => (v, slot)) s) : wpAny (model prog w) A (setNext a slot i ep) Q E s := by
  obtain ⟨os, hos, hex, hds⟩ := S.at'
  unfold setNext
  refine wpAny_bind (wpAny_setState_of hos hds S.fits ?_)
  dsimp only
  refine wpAny_bind (byText_go ?_)
  rw [ht]
  simp only [if_true, bne_self_eq_false, Bool.false_eq_true, if_false]
  refine wpAny_bind (walk_text S ht (wpAny_pure ?_))
  have e : (Option.map (fun e : Int × Value => (e.2, slot)) (pickOrder (w.params.setOrder a ep) es)[i]?) = (((vals (pickOrder (w.params.setOrder a ep) es))[i]?).map fun v => (v, slot)) := by
    simp only [vals, List.getElem?_map, Array.getElem?_toList, Option.map_map]
    rfl
  rw [e]
  exact h
theorem next_plain {slot i g : Nat} {Q : Option (Value × Nat) → Shared → Prop} (S : SetAt prog w s.heap a es ep t) (ht : w.params.followText "set-order" = false) (hd : (!t.plain && decide (es.size > 1)) = false) (hc : cnt t.place.toList slot = i)
    (h1 : i = es.size → Q none s) (h2 : ∀ x, (vals es)[i]? = some x → ∀ slot', cnt t.place.toList slot' = i + 1 → Q (some (x, slot')) s) : wpAny (model prog w) A (setNext a slot g ep) Q E s := by
  obtain ⟨os, hos, hex, hds⟩ := S.at'
  unfold setNext
  refine wpAny_bind (wpAny_setState_of hos hds S.fits ?_)
  dsimp only
  refine wpAny_bind (byText_go ?_)
  rw [ht]
  simp only [Bool.false_eq_true, if_false]
  refine KFB.if_not ?_ ?_
  · exact hd
  have hb : SetTable.below t.place slot = i := by
    have := below_is S.good.up slot
    rw [← hc]; simpa using this
  have hps : t.place.size = es.size := by
    have := S.fits
    simp only [SetTable.fits, Bool.and_eq_true, beq_iff_eq] at this
    exact this.1
  refine wpAny_bind ?_
  show wpAny _ _ (if (!t.led && !es.isEmpty) = true then _ else _) _ _ _
  rw [if_neg (by rw [S.led ht]; simp)]
  refine wpAny_pure ?_
  rw [hb]
  by_cases hi : i < es.size
  · have e1 : es[i]? = some es[i] := by simp [hi]
    have hip : i < t.place.size := by rw [hps]; exact hi
    have e2 : t.place[i]? = some t.place[i] := by simp [hip]
    rw [e1, e2]
    refine wpAny_pure (h2 _ ?_ _ ?_)
    · simp [vals, e1]
    · have := cnt_next S.good.up (i := i) (by simpa using hip)
      simpa using this
  · have e1 : es[i]? = none := by simp; omega
    rw [e1]
    refine wpAny_pure (h1 ?_)
    have := cnt_le t.place.toList slot
    rw [hc] at this
    have : t.place.toList.length = t.place.size := by simp
    omega
theorem SetIt.but {i : Nat} {S : Addr} {h h' : Heap} {o : Obj} (st : SetIt prog w a es ep t xs I i h) (hS : h.get? S = some o) (hc : o.cls = .type "list") (haS : a ≠ S) (hSI : S ≠ I) (k : ∀ b o, b ≠ S → h.get? b = some o → h'.get? b = some o) : SetIt prog w a es ep t xs I i h' := by
  obtain ⟨Sa, first, oI, ho, hcI, hd, m⟩ := st
  refine ⟨Sa.but fun o e => k a o haS e, first, oI, k I oI (Ne.symm hSI) ho, hcI, hd, ?_⟩
  cases m with
  | text ht hxs => exact .text ht hxs
  | plain ht hdr hcn hxs => exact .plain ht hdr hcn hxs
  | @drawn _ tp ot n ps ht htp hts htc hp hxs =>
    refine .drawn ht (k tp _ (fun q => ?_) htp) hts htc hp hxs
    rw [q, hS] at htp; cases htp
    rw [hc] at htc
    exact absurd htc (by decide)
/-- the next one -/
theorem si_next {i : Nat} {x : Value} {Q : Option Value → Shared → Prop} (st : SetIt prog w a es ep t xs I i s.heap) (hx : xs[i]? = some x) (haI : a ≠ I)
    (hQ : ∀ h', SetIt prog w a es ep t xs I (i + 1) h' → (∀ b o, b ≠ I → s.heap.get? b = some o → h'.get? b = some o) → Q (some x) { s with heap := h' }) : wpAny (model prog w) A (pyNext (.ref I)) Q E s := by
  obtain ⟨S, first, o, ho, hc, hd, m⟩ := id st
  obtain ⟨os, hos, hex, hds⟩ := S.at'
  have hT : s.TypeIs (.ref I) "set_iterator" := ⟨o, ho, hc⟩
  unfold pyNext
  refine wpAny_bind (wpAny_attempt (wpAny_callSpecial?_slot (name := PySem.Str.ofString "__next__") hT slot_si_next (wpAny_call_entry slot_si_next hT entry_si_next ?_ (args_si_next _))))
  unfold Builtin.«set_iterator.__next__»
  refine wpAny_bind (m := slotArgs _ _ _) (wpAny_pure ?_)
  dsimp only
  refine wpAny_bind (wpAny_fieldsOf ho hd ?_)
  dsimp only
  refine wpAny_bind (wpAny_setEntries_of hos hds S.fits ?_)
  have hsz : ((es.size : Int) != (es.size : Nat)) = false := by simp
  rw [hsz]
  simp only [Bool.false_eq_true, if_false]
  have hlt : i < es.size := by
    have := (List.getElem?_eq_some_iff.mp hx).1
    rw [xs_len m] at this; exact this
  have oth : ∀ (f : Obj → Obj) (h : Heap) b o', b ≠ I → h.get? b = some o' → (h.update I f).get? b = some o' := fun f h b o' hb e => (Heap.get?_update_other _ _ (Ne.symm hb)).trans e
  have two : ∀ (nx : Nat) (h : Heap), h.get? I = some o → ∃ o2, ((h.update I (Obj.mapFields (·.setIfInBounds 0 (rawInt nx)))).update I (Obj.mapFields (·.setIfInBounds 1 (rawInt ((i : Int) + 1))))).get? I = some o2 ∧ o2.cls = .type "set_iterator" ∧
      o2.data = .fields #[rawInt nx, .int ((i + 1 : Nat) : Int) 0, .ref a, .int (es.size : Nat) 0, .int (ep : Nat) 0] := fun nx h ho => by
    have hd1 := Obj.data_mapFields hd (·.setIfInBounds 0 (rawInt nx))
    have g1 := Heap.get?_update_self (Obj.mapFields (·.setIfInBounds 0 (rawInt nx))) ho (Obj.isFreed_of_fields hd1)
    have hd2 := Obj.data_mapFields hd1 (·.setIfInBounds 1 (rawInt ((i : Int) + 1)))
    refine ⟨_, Heap.get?_update_self _ g1 (Obj.isFreed_of_fields hd2), ?_, ?_⟩
    · rw [Obj.cls_mapFields, Obj.cls_mapFields]; exact hc
    · rw [hd2]; simp [rawInt]
  have fin : ∀ (nx : Nat) {Q' : Fin → Shared → Prop}, Mode w s.heap a es ep t xs (rawInt nx) (i + 1) → (∀ h', SetIt prog w a es ep t xs I (i + 1) h' → (∀ b o, b ≠ I → s.heap.get? b = some o → h'.get? b = some o) → Q' (.done (.ret x)) { s with heap := h' }) →
      wpAny (model prog w) A.in1 (do setField (.ref I) 0 (rawInt nx); setField (.ref I) 1 (rawInt ((i : Int) + 1)); ret x) Q' (fun e s' => False) s := fun nx Q' hm hQ' => by
    have hd1 := Obj.data_mapFields hd (·.setIfInBounds 0 (rawInt nx))
    have g1 := Heap.get?_update_self (Obj.mapFields (·.setIfInBounds 0 (rawInt nx))) ho (Obj.isFreed_of_fields hd1)
    refine wpAny_bind (wpAny_setField ho hd (by simp) (wpAny_bind (wpAny_setField g1 hd1 (by simp) (wpAny_pure ?_))))
    obtain ⟨o2, e2, c2, d2⟩ := two nx s.heap ho
    have kk : ∀ b o', b ≠ I → s.heap.get? b = some o' → ((s.heap.update I (Obj.mapFields (·.setIfInBounds 0 (rawInt nx)))).update I (Obj.mapFields (·.setIfInBounds 1 (rawInt ((i : Int) + 1))))).get? b = some o' := fun b o' hb e => oth _ _ b o' hb (oth _ _ b o' hb e)
    refine hQ' _ ⟨S.but fun o e => kk a o haI e, _, o2, e2, c2, d2, ?_⟩ kk
    cases hm with
    | text ht hxs => exact .text ht hxs
    | plain ht hdr hcn hxs => exact .plain ht hdr hcn hxs
  cases m with
  | text ht hxs => 
    dsimp only [rawInt]
    rw [show ((i : Nat) : Int).toNat = i from rfl, show ((ep : Nat) : Int).toNat = ep from rfl]
    refine wpAny_bind (next_text S ht ?_)
    rw [hxs] at hx
    rw [hx]
    dsimp only [Option.map]
    refine wpAny_noRaise ?_
    exact fin 0 (.text ht hxs) fun h' st' kk => ⟨_, rfl, wpAny_pure (hQ h' st' kk)⟩
  | @drawn _ tp ot n ps ht htp hts htc hp hxs =>
    have htI : tp ≠ I := fun q => by
      rw [q, ho] at htp; cases htp
      rw [hd] at hts; cases hts
    dsimp only
    refine wpAny_bind (wpAny_seqItems htp hts ?_)
    dsimp only
    have hpi : i < ps.length := by have := hp.length_eq; simp at this; omega
    have e1 : ((ps.map fun p => rawInt (p : Nat)).toArray)[((i : Nat) : Int).toNat]? = some (rawInt (ps[i] : Nat)) := by
      show ((ps.map fun p => rawInt (p : Nat)).toArray)[i]? = _
      simp [hpi]
    rw [e1]
    dsimp only [rawInt]
    have hlp : ∀ p ∈ ps, p < es.size := fun p hm => by have := hp.mem_iff.mp hm; simpa using this
    have hpl : ps[i] < es.size := hlp _ (List.getElem_mem hpi)
    have e3 : es[ps[i]]? = some (es[ps[i]]'hpl) := by simp [hpl]
    have e4 : x = (es[ps[i]]'hpl).2 := by
      have key : ∀ (l : List Nat), (∀ p ∈ l, p < es.size) → ∀ (k : Nat) (hk : k < l.length), (l.filterMap fun p => es[p]?.map (·.2))[k]? = (es[l[k]]?.map (·.2)) := by
        intro l
        induction l with
        | nil => intro _ k hk; simp at hk
        | cons p l ih =>
          intro hl k hk
          have hpp : p < es.size := hl p (.head _)
          have ep : es[p]? = some (es[p]'hpp) := by simp [hpp]
          rw [List.filterMap_cons, ep]
          cases k with
          | zero => simp [ep]
          | succ k => simpa using ih (fun q hq => hl q (.tail _ hq)) k (by simpa using hk)
      rw [hxs, key ps hlp i hpi, e3] at hx
      exact (Option.some.inj hx).symm
    unfold setNextDrawn
    refine wpAny_bind (wpAny_bind (wpAny_setState_of hos hds S.fits ?_))
    dsimp only
    rw [show ((ps[i] : Nat) : Int).toNat = ps[i] from rfl, show ((ep : Nat) : Int).toNat = ep from rfl, e3]
    simp only [bne_self_eq_false, Bool.false_eq_true, if_false]
    refine wpAny_pure ?_
    have hd1 := Obj.data_mapFields hd (·.setIfInBounds 1 (rawInt ((i : Int) + 1)))
    have g1 := Heap.get?_update_self (Obj.mapFields (·.setIfInBounds 1 (rawInt ((i : Int) + 1)))) ho (Obj.isFreed_of_fields hd1)
    refine wpAny_bind (wpAny_setField ho hd (by simp) (wpAny_pure ⟨_, rfl, wpAny_pure ?_⟩))
    rw [← e4]
    have kk := oth (Obj.mapFields (·.setIfInBounds 1 (rawInt ((i : Int) + 1)))) s.heap
    exact hQ _ ⟨S.but fun o e => kk a o haI e, _, _, g1, (Obj.cls_mapFields ..).trans hc, by rw [hd1]; simp [rawInt], .drawn ht (kk tp _ htI htp) hts htc hp hxs⟩ kk
  | plain ht hdr hcn hxs =>
    dsimp only [rawInt]
    refine wpAny_bind (next_plain S ht hdr hcn (fun q => by omega) fun y hy slot' hc' => ?_)
    rw [hxs, hy] at hx
    cases hx
    dsimp only
    refine wpAny_noRaise ?_
    exact fin slot' (.plain ht hdr hc' hxs) fun h' st' kk => ⟨_, rfl, wpAny_pure (hQ h' st' kk)⟩
theorem stop_go {Q : Fin → Shared → Prop} {E' : Value → Shared → Prop} (hh : A.handled = none) (h : ∀ h' e, (∀ b o, s.heap.get? b = some o → h'.get? b = some o) → (∃ o, h'.get? e = some o ∧ o.cls = .type "StopIteration") → E' (.ref e) { s with heap := h' }) :
    wpAny (model prog w) A (do let e ← newExc (.type "StopIteration") []; raiseNew e : Sem Fin) Q E' s := by
  refine wpAny_bind ?_
  simp only [newExc, newTuple]
  refine wpAny_bind (wpAny_newObj_type ?_ (by size_fits))
  refine wpAny_bind (m := firstArgMember _ _) (wpAny_of_eq (a := Value.none) (by first | rfl | (simp only [firstArgMember]; rfl)) ?_)
  refine wpAny_newObj_type ?_ (by size_fits)
  simp only [raiseNew]
  refine wpAny_bind (wpAny_handled ?_)
  rw [hh]
  refine wpAny_bind (wpAny_pure (wpAny_throw ?_))
  exact h _ _ (fun b o e => Heap.get?_push_of_some _ (Heap.get?_push_of_some _ e)) ⟨_, Heap.get?_push_size _ rfl, rfl⟩
/-- none is left -/
theorem si_end {Q : Option Value → Shared → Prop} (hh : A.handled = none) (st : SetIt prog w a es ep t xs I xs.length s.heap)
    (hQ : ∀ h', (∀ b o, b ≠ I → s.heap.get? b = some o → h'.get? b = some o) → Q none { s with heap := h' }) : wpAny (model prog w) A (pyNext (.ref I)) Q E s := by
  obtain ⟨S, first, o, ho, hc, hd, m⟩ := id st
  obtain ⟨os, hos, hex, hds⟩ := S.at'
  have hT : s.TypeIs (.ref I) "set_iterator" := ⟨o, ho, hc⟩
  have hlen := xs_len m
  unfold pyNext
  refine wpAny_bind (wpAny_attempt (wpAny_callSpecial?_slot (name := PySem.Str.ofString "__next__") hT slot_si_next (wpAny_call_entry slot_si_next hT entry_si_next ?_ (args_si_next _))))
  unfold Builtin.«set_iterator.__next__»
  refine wpAny_bind (m := slotArgs _ _ _) (wpAny_pure ?_)
  dsimp only
  refine wpAny_bind (wpAny_fieldsOf ho hd ?_)
  dsimp only
  refine wpAny_bind (wpAny_setEntries_of hos hds S.fits ?_)
  have hsz : ((es.size : Int) != (es.size : Nat)) = false := by simp
  rw [hsz]
  simp only [Bool.false_eq_true, if_false]
  have oth : ∀ (f : Obj → Obj) (h : Heap) b o', b ≠ I → h.get? b = some o' → (h.update I f).get? b = some o' := fun f h b o' hb e => (Heap.get?_update_other _ _ (Ne.symm hb)).trans e
  have stopE : ∀ h1 e, (∀ b o, b ≠ I → s.heap.get? b = some o → h1.get? b = some o) → (∃ o, h1.get? e = some o ∧ o.cls = .type "StopIteration") →
      wpAny (model prog w) A (do let __do_lift ← isInstance (.ref e) (Value.type "StopIteration"); if __do_lift = true then pure none else throw (.ref e)) Q E { s with heap := h1 } := fun h1 e kk hst => by
    obtain ⟨o, e1, e2⟩ := hst
    refine wpAny_bind (wpAny_isInstance (T := "StopIteration") (b := true) ⟨_, e1, e2⟩ isSubtype_stop ?_)
    exact wpAny_pure (hQ _ kk)
  have hd2 := Obj.data_mapFields hd (·.setIfInBounds 2 Value.none)
  cases m with
  | text ht hxs =>
    dsimp only [rawInt]
    rw [show ((xs.length : Nat) : Int).toNat = xs.length from rfl, show ((ep : Nat) : Int).toNat = ep from rfl]
    refine wpAny_bind (next_text S ht ?_)
    have : (vals (pickOrder (w.params.setOrder a ep) es))[xs.length]? = none := by rw [← hxs]; simp
    rw [this]
    dsimp only [Option.map]
    refine wpAny_bind (wpAny_setField ho hd (by simp) ?_)
    refine stop_go (A := A.in1) hh fun h' e kk hst => stopE h' e (fun b o hb eb => kk b o (oth _ _ b o hb eb)) hst
  | @drawn _ tp ot n ps ht htp hts htc hp hxs =>
    dsimp only
    refine wpAny_bind (wpAny_seqItems htp hts ?_)
    dsimp only
    have hpl : ps.length = es.size := by have := hp.length_eq; simpa using this
    have e1 : ((ps.map fun p => rawInt (p : Nat)).toArray)[((xs.length : Nat) : Int).toNat]? = none := by
      show ((ps.map fun p => rawInt (p : Nat)).toArray)[xs.length]? = _
      simp [hpl, hlen]
    rw [e1]
    dsimp only
    have hd0 := Obj.data_mapFields hd (·.setIfInBounds 0 (rawInt 0))
    have g0 := Heap.get?_update_self (Obj.mapFields (·.setIfInBounds 0 (rawInt 0))) ho (Obj.isFreed_of_fields hd0)
    refine wpAny_bind (wpAny_setField ho hd (by simp) ?_)
    refine wpAny_bind (wpAny_setField g0 hd0 (by simp) ?_)
    refine stop_go (A := A.in1) hh fun h' e kk hst => stopE h' e (fun b o hb eb => kk b o (oth _ _ b o hb (oth _ _ b o hb eb))) hst
  | plain ht hdr hcn hxs =>
    dsimp only [rawInt]
    refine wpAny_bind (next_plain S ht hdr hcn (fun q => ?_) fun y hy slot' hc' => ?_)
    · dsimp only
      refine wpAny_bind (wpAny_setField ho hd (by simp) ?_)
      refine stop_go (A := A.in1) hh fun h' e kk hst => stopE h' e (fun b o hb eb => kk b o (oth _ _ b o hb eb)) hst
    · rw [← hxs] at hy
      simp at hy
/-- a set is gone over -/
theorem si_make {ns : List Int} {Q : Value → Shared → Prop} (hS : SetI prog w s.heap a ns) (hns : ns.length ≤ 4000)
    (hQ : ∀ I es ep t xs h' d, s.heap.get? I = none → (∀ b o, s.heap.get? b = some o → h'.get? b = some o) → SetIt prog w a es ep t xs I 0 h' → a ≠ I → (∃ ms, IntsAre xs ms ∧ ms.Nodup ∧ ∀ k, k ∈ ms ↔ k ∈ ns) → Q (.ref I) { s with heap := h', drawn := d }) :
    wpAny (model prog w) A (pyIter (.ref a)) Q E s := by
  obtain ⟨o, es, ep, t, ho, hex, hd, hel, hnd, hmem, hf, hg, hled⟩ := hS
  have hT : s.TypeIs (.ref a) "set" := ⟨o, ho, hex.1⟩
  have S : SetAt prog w s.heap a es ep t := ⟨⟨o, ho, hex, hd⟩, hf, hg, hled⟩
  have intsOf : ∀ l : List (Int × Value), (∀ e ∈ l, e ∈ es.toList) → IntsAre (l.map (·.2)) (keysOf l) := by
    intro l
    induction l with
    | nil => intro _; exact .nil
    | cons e l ih =>
      intro h
      obtain ⟨tk, he⟩ := elem_int hel (h e (.head _))
      have := ih fun x hx => h x (.tail _ hx)
      show IntsAre (e.2 :: _) (vint e.2 :: _)
      rw [he]
      exact .cons _ _ this
  have perm : ∀ l : List (Int × Value), l.Perm es.toList → ∃ ms, IntsAre (l.map (·.2)) ms ∧ ms.Nodup ∧ ∀ k, k ∈ ms ↔ k ∈ ns := fun l hp => by
    have hk : (keysOf l).Perm (keysOf es.toList) := hp.map _
    exact ⟨keysOf l, intsOf l fun e he => hp.mem_iff.mp he, hk.nodup_iff.mpr hnd, fun k => by rw [hk.mem_iff, hmem]⟩
  have hsz : ∀ (s1 : Shared), s1.heap.get? s1.heap.objs.size = none := fun s1 => by
    cases e : s1.heap.get? s1.heap.objs.size with
    | none => rfl
    | some o => exact absurd (Heap.lt_size e) (Nat.lt_irrefl _)
  refine wpAny_pyIter_slot hT PySem.F.slot_set_iter (wpAny_call_entry PySem.F.slot_set_iter hT entry_si_iter ?_ (args_si_iter _))
  unfold Builtin.«frozenset.__iter__»
  refine wpAny_bind (m := Builtin.Frozenset.slot0 _ _) (wpAny_bind (m := slotArgs _ _ _) (wpAny_pure (wpAny_pure ?_)))
  refine wpAny_bind (m := Builtin.Frozenset.sizeOf a) (wpAny_bind (wpAny_setEntries_of ho hd hf (wpAny_pure ?_)))
  refine wpAny_bind ?_
  unfold setDrawn
  refine wpAny_bind (wpAny_setState_of ho hd hf ?_)
  dsimp only
  refine wpAny_bind (byText_go (wpAny_pure ?_))
  have fin : ∀ (s1 : Shared) (first : Value) (xs : List Value), (∀ b o, s.heap.get? b = some o → s1.heap.get? b = some o) → (∃ d h1, s1 = { s with heap := h1, drawn := d }) → Mode w s1.heap a es ep t xs first 0 → (∃ ms, IntsAre xs ms ∧ ms.Nodup ∧ ∀ k, k ∈ ms ↔ k ∈ ns) →
      wpAny (model prog w) A.in1 (do let e ← setEpoch a; let v ← newFields "set_iterator" [first, rawInt 0, .ref a, rawInt es.size, rawInt e]; ret v) (fun f s' => ∃ v, f = .done (.ret v) ∧ ∃ T id, s'.TypeIs v T ∧ typeLookup (.type T) "__next__" = pure (some id) ∧ Q v s') (fun e s' => E e s') s1 := fun s1 first xs x hs1 hm hms => by
    refine wpAny_bind (wpAny_setEpoch_of (x _ _ ho) hd hf ?_)
    refine wpAny_bind (wpAny_newObj_type (wpAny_pure ⟨_, rfl, "set_iterator", _, ⟨_, Heap.get?_push_size _ rfl, rfl⟩, slot_si_next.lookup, ?_⟩))
    obtain ⟨d, h1, rfl⟩ := hs1
    have hn : s.heap.get? h1.objs.size = none := by
      cases e : s.heap.get? h1.objs.size with
      | none => rfl
      | some o => exact absurd (Heap.lt_size (x _ _ e)) (Nat.lt_irrefl _)
    refine hQ _ es ep t xs _ d hn (fun b o e => Heap.get?_push_of_some _ (x b o e)) ⟨S.but fun o e => Heap.get?_push_of_some _ (x a o e), first, _, Heap.get?_push_size _ rfl, rfl, rfl, ?_⟩ (fun q => by rw [← q, ho] at hn; cases hn) hms
    cases hm with
    | text ht hxs => exact .text ht hxs
    | drawn ht htp hts htc hp hxs => exact .drawn ht (Heap.get?_push_of_some _ htp) hts htc hp hxs
    | plain ht hdr hcn hxs => exact .plain ht hdr hcn hxs
  by_cases ht : w.params.followText "set-order" = true
  · rw [ht]
    simp only [Bool.not_true, Bool.false_and, Bool.false_eq_true, if_false]
    refine wpAny_bind (wpAny_pure ?_)
    exact fin s (rawInt 0) _ (fun _ _ e => e) ⟨s.drawn, s.heap, rfl⟩ (.text ht rfl) (perm _ (pick_perm _ _))
  · have ht' : w.params.followText "set-order" = false := by simpa using ht
    rw [ht']
    by_cases hdr : (!t.plain && decide (es.size > 1)) = true
    · refine KFB.if_so ?_ ?_
      · exact hdr
      refine wpAny_bind (draw_perm _ _ _ _ (by simp) fun ys d hp => ?_)
      refine wpAny_bind (wpAny_newTuple ?_ ?_)
      · refine fin { s with heap := s.heap.push { cls := .type "tuple", data := .seq (ys.map fun p => rawInt (p : Nat)).toArray }, drawn := d } _ (ys.filterMap fun p => es[p]?.map (·.2)) (fun b o e => Heap.get?_push_of_some _ e) ⟨d, _, rfl⟩ (.drawn ht' (Heap.get?_push_size _ rfl) rfl rfl hp rfl) ?_
        have key : ∀ n, (List.range n).filterMap (fun p => es[p]?) = es.toList.take n := by
          intro n
          induction n with
          | zero => rfl
          | succ n ih =>
            rw [List.range_succ, List.filterMap_append, ih, List.take_add_one, List.filterMap_cons, List.filterMap_nil, Array.getElem?_toList]
            cases es[n]? <;> rfl
        have hpl : (ys.filterMap fun p => es[p]?).Perm es.toList := by
          have := hp.filterMap fun p => es[p]?
          rw [key es.size, List.take_of_length_le (by simp)] at this
          exact this
        have := perm _ hpl
        rw [List.map_filterMap] at this
        exact this
      · have h1 := SetI.size (h := s.heap) hnd hmem
        have h2 := hp.length_eq
        simp only [List.length_range] at h2
        have h3 : es.toList.length = es.size := by simp
        rw [List.length_map, sizeLine_eq]; omega
    · have hdr' : (!t.plain && decide (es.size > 1)) = false := by simpa using hdr
      refine KFB.if_not ?_ ?_
      · exact hdr'
      refine wpAny_bind (wpAny_pure ?_)
      exact fin s (rawInt 0) _ (fun _ _ e => e) ⟨s.drawn, s.heap, rfl⟩ (.plain (slot := 0) ht' hdr' cnt_zero rfl) (perm _ (List.Perm.refl _))
end
end Mine
end
section
open PySem PySem.Calls PyProof.Rows PySem.W
set_option maxRecDepth 100000
set_option linter.all false
set_option maxHeartbeats 1000000
namespace Mine
theorem sub_set_self2 : isSubtype (.type "set") (.type "set") = pure true := by rw [isSubtype_type]; kernel_rfl
section
variable {prog : Program} {w : World} {A : Around} {E : Value → Shared → Prop} {s : Shared} {a I : Addr} {es : Array (Int × Value)} {ep : Nat} {t : SetTable} {xs : List Value}
theorem extend_si {R : Result → Shared → Prop} (hh : A.handled = none) (S : Addr) (hSI : S ≠ I) (haI : a ≠ I) (haS : a ≠ S) (res : Value) (hn : xs.length ≤ 4000) :
    ∀ (k i : Nat) (s : Shared) (acc : Array Value) (c : Nat), xs.length - i = k → i ≤ xs.length → SetIt prog w a es ep t xs I i s.heap →
    s.heap.get? S = some { cls := .type "list", dict := none, data := .seq acc c, slots := #[] } → acc.toList = xs.take i →
    (∀ h' c', (∀ b o, b ≠ I → b ≠ S → s.heap.get? b = some o → h'.get? b = some o) → h'.get? S = some { cls := .type "list", dict := none, data := .seq xs.toArray c', slots := #[] } → R (.ok (.ret res)) { s with heap := h' }) →
    codeAny (model prog w) A (.builtin "list.extend.loop" ⟨[.ref S, .ref I, res], []⟩) R s := by
  intro k
  induction k with
  | zero =>
    intro i s acc c hk hi st hS hacc hR
    have hin : i = xs.length := by omega
    subst hin
    refine codeAny_builtin PySem.F.entry_extend_loop ?_
    rw [Around.under_plainId PySem.F.plain_extend_loop _]
    show wpAny _ A.in1 (pyNext (.ref I) >>= _) _ _ s
    refine wpAny_bind (si_end (A := A.in1) hh st fun h' kk => ?_)
    have e : acc = xs.toArray := by rw [List.take_length] at hacc; rw [← hacc]
    subst e
    exact wpAny_pure (hR h' c (fun b o h1 _ e => kk b o h1 e) (kk S _ hSI hS))
  | succ k ih =>
    intro i s acc c hk hi st hS hacc hR
    have hlt : i < xs.length := by omega
    refine codeAny_builtin PySem.F.entry_extend_loop ?_
    rw [Around.under_plainId PySem.F.plain_extend_loop _]
    show wpAny _ A.in1 (pyNext (.ref I) >>= _) _ _ s
    refine wpAny_bind (si_next st (x := xs[i]) (List.getElem?_eq_getElem hlt) haI fun h' st' kk => ?_)
    have hS' := kk S _ hSI hS
    have hsz : acc.size = i := by
      have := congrArg List.length hacc
      rw [List.length_take, Array.length_toList] at this
      omega
    show wpAny _ A.in1 (updateSeq S (·.push xs[i]) >>= _) _ _ _
    refine wpAny_bind ?_
    have oth : ∀ b o, b ≠ S → h'.get? b = some o → (h'.update S (Obj.mapSeq (·.push xs[i]))).get? b = some o := fun b o hb e => (Heap.get?_update_other _ _ (Ne.symm hb)).trans e
    refine wpAny_updateSeq hS' rfl (wpAny_pure ⟨plainId_quiet PySem.F.plain_extend_loop _, ih (i + 1) { s with heap := h'.update S (Obj.mapSeq (·.push xs[i])) } (acc.push xs[i]) _ (by omega) hlt (st'.but hS' rfl haS hSI oth) (Heap.get?_update_self _ hS' rfl) ?_ fun h2 c2 kk2 hS2 => ?_⟩) (by rw [hsz, sizeLine_eq]; omega) (by show (acc.push xs[i]).size ≤ sizeLine + 1; rw [Array.size_push, hsz, sizeLine_eq]; omega)
    · rw [Array.toList_push, hacc, List.take_add_one, List.getElem?_eq_getElem hlt]; rfl
    · exact hR h2 c2 (fun b o h1 h2' e => kk2 b o h1 h2' (oth b o h2' (kk b o h1 e))) hS2
/-- the items of a set, all at once -/
theorem collect_setI {ns : List Int} {Q : List Value → Shared → Prop} (hh : A.handled = none) (hS : SetI prog w s.heap a ns) (hns : ns.length ≤ 4000)
    (hQ : ∀ xs ms s', IntsAre xs ms → ms.Nodup → (∀ k, k ∈ ms ↔ k ∈ ns) → Keeps s s' → Q xs s') : wpAny (model prog w) A (collect (.ref a)) Q E s := by
  have hT : s.TypeIs (.ref a) "set" := let ⟨o, _, _, _, ho, hc, _⟩ := hS; ⟨o, ho, hc.1⟩
  have haS : a ≠ s.heap.objs.size := by obtain ⟨o, _, _, _, ho, _⟩ := hS; exact Nat.ne_of_lt (Heap.lt_size ho)
  unfold collect
  refine wpAny_bind (wpAny_runValue (codeAny_builtin PySem.F.entry_proto_collect ?_))
  rw [Around.under_plainId PySem.F.plain_proto_collect _]
  show wpAny _ A.in1 (newList [] >>= fun l => again (.builtin "list.__iadd__" ⟨[l, .ref a], []⟩)) _ _ s
  refine wpAny_bind (wpAny_newObj_type ?_)
  refine wpAny_pure ⟨plainId_quiet PySem.F.plain_list_iadd _, codeAny_builtin PySem.F.entry_list_iadd ?_⟩
  rw [Around.under_plainId PySem.F.plain_list_iadd _]
  have ext1 : ∀ b o, s.heap.get? b = some o → (s.heap.push { cls := .type "list", data := .seq ([] : List Value).toArray }).get? b = some o := fun _ _ e => Heap.get?_push_of_some _ e
  have hS₁ : (s.heap.push { cls := .type "list", data := .seq ([] : List Value).toArray }).get? s.heap.objs.size = some { cls := .type "list", data := .seq ([] : List Value).toArray } := Heap.get?_push_size _ rfl
  have h1 : Builtin.List.listSameRef (.ref s.heap.objs.size) (.ref a) = false := by simp [Builtin.List.listSameRef, Ne.symm haS]
  have hSI1 : SetI prog w (s.heap.push { cls := .type "list", data := .seq ([] : List Value).toArray }) a ns := let ⟨o, es, ep, t, ho, r⟩ := hS; ⟨o, es, ep, t, ext1 _ _ ho, r⟩
  show wpAny _ A.in1 (Builtin.List.listExtendWith (.ref s.heap.objs.size) (.ref a) (.ref s.heap.objs.size)) _ _ _
  unfold Builtin.List.listExtendWith
  refine wpAny_bind (wpAny_typeOf (T := "set") (let ⟨o, ho, hc⟩ := hT; ⟨o, ext1 _ _ ho, hc⟩) ?_)
  have h2 : (Value.type "set" == Value.type "list") = false := by decide
  have h3 : (Value.type "set" == Value.type "tuple") = false := by decide
  simp only [h1, h2, h3, Bool.or_false, Bool.false_eq_true, if_false]
  refine wpAny_bind (si_make (s := { s with heap := s.heap.push { cls := .type "list", data := .seq ([] : List Value).toArray } }) hSI1 hns fun I es ep t xs h2 d hI x2 st haI hms => ?_)
  obtain ⟨ms, hms, hnd, hmem⟩ := hms
  have hS₂ := x2 _ _ hS₁
  have hSI : s.heap.objs.size ≠ I := fun q => by
    rw [← q] at hI
    have : (s.heap.push { cls := .type "list", data := .seq ([] : List Value).toArray }).get? s.heap.objs.size = none := hI
    rw [hS₁] at this; cases this
  have hTa : ({ s with heap := h2, drawn := d } : Shared).TypeIs (.ref a) "set" := let ⟨o, ho, hc⟩ := hT; ⟨o, x2 _ _ (ext1 _ _ ho), hc⟩
  refine wpAny_bind (wpAny_holding ?_)
  unfold Builtin.List.listLengthHint
  refine wpAny_bind (wpAny_specialOf hTa PySem.F.slot_set_len.lookup ?_)
  (generalize hid : ("set.__len__" : String) = id0; (fail_if_success (clear hid id0)); wp_delta; rw [show splitId id0 = some ("set", "__len__") from by subst hid; decide +kernel]; subst hid)
  refine wpAny_bind (wpAny_isInstance (b := true) hTa sub_set_self2 ?_)
  refine wpAny_bind (wpAny_typeOf hTa ?_)
  refine wpAny_pure ?_
  show wpAny _ A.in1 (rule "list.extend.makes-room" >>= fun _ => Builtin.List.listTouch (.ref s.heap.objs.size) >>= fun _ =>
    again (.builtin "list.extend.loop" ⟨[.ref s.heap.objs.size, .ref I, .ref s.heap.objs.size], []⟩)) _ _ _
  refine wpAny_bind (wpAny_rule ?_)
  refine wpAny_bind ?_
  show wpAny _ A.in1 (updateSeq s.heap.objs.size (·.push .none) >>= fun _ => updateSeq s.heap.objs.size (·.pop)) _ _ _
  refine wpAny_bind (wpAny_updateSeq hS₂ rfl ?_)
  have hS₃ := Heap.get?_update_self (Obj.mapSeq (·.push Value.none)) hS₂ rfl
  refine wpAny_updateSeq hS₃ rfl ?_
  have hS₄ := Heap.get?_update_self (Obj.mapSeq (·.pop)) hS₃ rfl
  have oth : ∀ b o, b ≠ s.heap.objs.size → h2.get? b = some o → ((h2.update s.heap.objs.size (Obj.mapSeq (·.push Value.none))).update s.heap.objs.size (Obj.mapSeq (·.pop))).get? b = some o :=
    fun b o hb e => (Heap.get?_update_other _ _ (Ne.symm hb)).trans ((Heap.get?_update_other _ _ (Ne.symm hb)).trans e)
  have hxl : xs.length = ms.length := hms.length
  have hml : ms.length ≤ ns.length := nodup_le hnd fun x hx => (hmem x).mp hx
  refine wpAny_pure ⟨plainId_quiet PySem.F.plain_extend_loop _, extend_si hh _ hSI haI haS _ (by omega) _ 0 _ _ _ rfl (Nat.zero_le _) (st.but hS₂ rfl haS hSI oth) hS₄ (by simp) fun h5 c5 kk5 hS₅ => ?_⟩
  show wpAny _ A (load s.heap.objs.size >>= _) _ _ _
  refine wpAny_bind (wpAny_load hS₅ ?_)
  refine wpAny_pure (hQ xs ms _ hms hnd hmem ⟨h5, _, d, rfl, fun b o e => ?_⟩)
  have hb : b ≠ s.heap.objs.size := Nat.ne_of_lt (Heap.lt_size e)
  exact kk5 b o (fun q => by rw [q] at e; have : (s.heap.push { cls := .type "list", data := .seq ([] : List Value).toArray }).get? I = none := hI; rw [ext1 _ _ e] at this; cases this) hb (oth b o hb (x2 b o (ext1 b o e)))
/-- sorted(set) -/
theorem sorted_setI {ns : List Int} {Q : Value → Shared → Prop} (hh : A.handled = none) (hS : SetI prog w s.heap a ns) (hns : ns.length < 64)
    (hQ : ∀ l out ms s', IntsAre out ms → ms.Nodup → ms.Pairwise (· ≤ ·) → (∀ k, k ∈ ms ↔ k ∈ ns) → s.heap.get? l = none → s'.heap.IsList l out.toArray → Keeps s s' → Q (.ref l) s') : wpAny (model prog w) A (call (.builtin "sorted") [.ref a]) Q E s := by
  refine Calls.call_function_entry kind_sorted plain_sorted entry_sorted (args_sorted1 _) ?_
  unfold Builtin.«sorted»
  refine wpAny_bind (m := checkCount "sorted" 1 1 _) (wpAny_pure ?_)
  refine wpAny_bind (collect_setI (A := A.in1) hh hS (by omega) fun xs ms s1 hms hnd hmem k1 => ?_)
  have hxl : xs.length = ms.length := hms.length
  have hml : ms.length ≤ ns.length := nodup_le hnd fun x hx => (hmem x).mp hx
  refine wpAny_bind (wpAny_newList ?_ (by rw [sizeLine_eq]; omega))
  have hoL : (s1.heap.push (seqObj "list" xs.toArray 0)).get? s1.heap.objs.size = some (seqObj "list" xs.toArray 0) := Heap.get?_push_size _ rfl
  refine wpAny_bind (wpAny_holding (wpAny_call_entry slot_list_sort ⟨_, hoL, rfl⟩ entry_list_sort (list_sort_tree (s := { s1 with heap := s1.heap.push (seqObj "list" xs.toArray 0) }) hoL hms (by omega) fun out ns' a1 a2 a3 => ⟨_, rfl, ?_⟩) (args_list_sort _)))
  obtain ⟨e, he⟩ := sortedHeap_at (vs := xs) (out := out) hoL
  refine wpAny_pure ⟨_, rfl, hQ _ out.toList ns' _ a1 (a2.nodup_iff.mpr hnd) a3 (fun k => by rw [a2.mem_iff, hmem]) (new_none k1) ⟨_, he, rfl, e, by simp⟩ (kp_trans k1 ⟨_, _, _, rfl, fun b o eb => ?_⟩)⟩
  have hlt := Heap.lt_size eb
  rw [sortedHeap_old (Nat.ne_of_lt hlt) (by rw [size_push']; exact Nat.lt_succ_of_lt hlt)]
  exact Heap.get?_push_of_some _ eb
end
end Mine
end
section
open PySem PySem.Calls PyProof.Rows PySem.W
set_option maxRecDepth 100000
set_option linter.all false
set_option maxHeartbeats 1000000
namespace Mine
theorem compTurn_set (elt target iter : Expr) (ifs : List Expr) (scope : Scope) (pos : Pos) (it acc : Value) (env : Env) :
    compTurn (.SetComp elt [⟨target, iter, ifs, 0⟩] scope pos) 0 it acc env = (do
      standAt iter.pos
      match ← pyNext it with
      | none => pure (.done .next)
      | some v =>
        letOwnedTupleGo target it v
        assign target env v
        let mut ok := true
        for c in ifs do
          if ok then ok ← isTrue c env (eval c env)
        if ok then
          (do let v ← eval elt env; standAt elt.pos; let _ ← call (.builtin "set.add") [acc, v])
        again (.compLoop (.SetComp elt [⟨target, iter, ifs, 0⟩] scope pos) 0 it acc env)) := by rfl
section
variable {prog : Program} {w : World} {A : Around} {R : Result → Shared → Prop} {s : Shared}
theorem codeAny_compStart_set {elt target iter ifs rest scope pos it acc env}
    (h0 : codeAny (model prog w) A (.compLoop (.SetComp elt (⟨target, iter, ifs, 0⟩ :: rest) scope pos) 0 it acc env) R s)
    (h : wpAny (model prog w) A (pyIter it) (fun it' s' => codeAny (model prog w) A (.compLoop (.SetComp elt (⟨target, iter, ifs, 0⟩ :: rest) scope pos) 0 it' acc env) R s')
      (notedBy (model prog w) A env fun x s' => R (.error x) s') s) :
    codeAny (model prog w) A (.compStart (.SetComp elt (⟨target, iter, ifs, 0⟩ :: rest) scope pos) 0 it acc env) R s := by
  refine codeAny_of_tree ?_
  show wpAny _ _ ((compStart (.SetComp elt (⟨target, iter, ifs, 0⟩ :: rest) scope pos) 0 it acc env).onRaise (fun x => do noteFrame x env; standAt theWindowsPlace)) _ _ s
  refine wpAny_notedAt ?_
  unfold compStart
  show wpAny _ _ (ask >>= _) _ _ s
  refine wpAny_bind (wpAny_askSetting (wpAny_ite ?_))
  split
  · first
      | exact wpAny_bind (wpAny_pure (wpAny_pure (And.intro rfl h0)))
      | exact wpAny_pure (And.intro rfl h0)
  · first
      | exact wpAny_bind (wpAny_rule (wpAny_bind (wpAny_standAt (wpAny_bind (wpAny_mono h (fun it' s' h' => wpAny_pure (And.intro rfl h')) fun _ _ x => x)))))
      | (refine wpAny_bind (wpAny_rule ?_); show wpAny _ _ (standAt iter.pos >>= _) _ _ s; exact wpAny_bind (wpAny_standAt (wpAny_bind (wpAny_mono h (fun it' s' h' => wpAny_pure (And.intro rfl h')) fun _ _ x => x))))
end
theorem SetI.but {prog : Program} {w : World} {h h' : Heap} {a : Addr} {ns : List Int} (S : SetI prog w h a ns) (k : ∀ o, h.get? a = some o → h'.get? a = some o) : SetI prog w h' a ns :=
  let ⟨o, es, ep, t, e, r⟩ := S; ⟨o, es, ep, t, k o e, r⟩
section
variable {prog : Program} {w : World} {A : Around} {env : Env} {Γ : Ctx} {ok : Addr → Prop}
theorem Gd.accS {h h' : Heap} {a : Addr} {ns ms : List Int} (g : Gd ok env Γ h) (hl : SetI prog w h a ns) (hl' : SetI prog w h' a ms) (ta : topLine ≤ a) (hs : Heap.SameBut a h h') : Gd ok env Γ h' ∧ Lists ok h h' := by
  obtain ⟨o, es, ep, t, ho, hx, hd, _⟩ := id hl
  have hk : ∀ b o, b ≠ a → h.get? b = some o → h'.get? b = some o := fun b o => hs.extBut b o
  have li : Lists ok h h' := lists_but ho (by rw [hd]; trivial) hk
  obtain ⟨m, cm, hn, hcl, hx⟩ := g.F
  refine ⟨⟨g.W.but ⟨ta, o, ho, by rw [hd]; trivial⟩ hk, fresh_but g.N hs (by obtain ⟨o, _, _, _, e, _⟩ := hl'; rw [e]; rfl), m, cm, ns_but hk hn ?_, fun k c e => ?_, fun x sl e => let ⟨v, p, q⟩ := hx x sl e; ⟨v, p, q.lists li⟩⟩, li⟩
  · rintro rfl
    obtain ⟨oL, es, ep, eL, dL, _⟩ := hn
    rw [ho] at eL; cases eL
    rw [hd] at dL; cases dL
  · obtain ⟨o', e', d'⟩ := hcl k c e
    refine ⟨o', hk _ _ ?_ e', d'⟩
    rintro rfl
    rw [ho] at e'; cases e'
    rw [hd] at d'; cases d'
/-- what a turn does -/
noncomputable def TurnS (prog : Program) (w : World) (A : Around) (env : Env) (Γ : Ctx) (target : Expr) (elt : Expr) (d : D) (i : Int) : Prop :=
  ∃ Γt, Bind prog w A env Γ target d Γt ∧ Sub Γ Γt ∧ Ev prog w A env Γt elt (.int i)
/-- what holds ahead of a block's turn -/
structure CompS (prog : Program) (w : World) (ok : Addr → Prop) (env : Env) (Γ : Ctx) (I acc : Addr) (ds : List D) (f : D → Int) (St : Nat → Heap → Prop) (s : Shared) (n : Nat) (s' : Shared) (i : Nat) : Prop where
  le : i ≤ ds.length
  n_ : n = ds.length - i
  st : St i s'.heap
  hl : SetI prog w s'.heap acc ((ds.take i).map f)
  g : Gd ok env Γ s'.heap
  kk : ∀ b o, b < env.locals → b ≠ I → b ≠ acc → s.heap.get? b = some o → s'.heap.get? b = some o
  sh : Sh s s'
theorem comp_loopS {elt target iter : Expr} {scope : Scope} {pos : Pos} {ds : List D} {f : D → Int} {I acc : Addr} {St : Nat → Heap → Prop} {s : Shared} {R : Result → Shared → Prop}
    (J : Iter prog w A ok I ds St) (ta : topLine ≤ acc) (hI : I < env.locals) (ha : acc < env.locals) (hIa : I ≠ acc) (hsz : ds.length ≤ 4000)
    (turn : ∀ d ∈ ds, TurnS prog w A env Γ target elt d (f d)) (st : St 0 s.heap) (hl : SetI prog w s.heap acc []) (g : Gd ok env Γ s.heap)
    (hR : ∀ s', SetI prog w s'.heap acc (ds.map f) → Gd ok env Γ s'.heap → (∀ b o, b < env.locals → b ≠ I → b ≠ acc → s.heap.get? b = some o → s'.heap.get? b = some o) →
      Sh s s' → R (.ok .next) s') :
    codeAny (model prog w) A (.compLoop (.SetComp elt [⟨target, iter, [], 0⟩] scope pos) 0 (.ref I) (.ref acc) env) R s := by
  refine codeAny_loop rfl (fun n s' => ∃ i, CompS prog w ok env Γ I acc ds f St s n s' i) (fun n s' hI' => ?_) ds.length ⟨0, Nat.zero_le _, rfl, st, hl, g, fun _ _ _ _ _ e => e, sh_refl s⟩
  show wpAny _ A ((compTurn (.SetComp elt [⟨target, iter, [], 0⟩] scope pos) 0 (.ref I) (.ref acc) env).onRaise (fun x => do noteFrame x env; theTreesLotGoes x)) _ _ s'
  refine wpAny_noted ?_
  rw [compTurn_set]
  obtain ⟨i, Z⟩ := hI'
  have hn := Z.n_
  subst hn
  have F := J.obj _ _ Z.st
  refine wpAny_bind (wpAny_standAt (wpAny_bind ?_))
  by_cases hlt : i < ds.length
  · refine J.next i ds[i] _ _ _ (List.getElem?_eq_getElem hlt) Z.st fun v s1 rv st1 k1 => ?_
    have kk1 : ∀ b o, b ≠ I → s'.heap.get? b = some o → s1.heap.get? b = some o := fun b o hb e => k1.kept b o (mem1.mpr hb) e
    have g1 : Gd ok env Γ s1.heap := Z.g.fld F J.okI kk1
    have hl1 : SetI prog w s1.heap acc ((ds.take i).map f) := Z.hl.but fun o e => kk1 _ _ (Ne.symm hIa) e
    refine wpAny_bind (J.go _ s1 _ _ _ _ st1 ?_)
    obtain ⟨Γt, hb, hsub, hev⟩ := turn ds[i] (List.getElem_mem hlt)
    refine wpAny_bind (hb ok s1 _ _ _ g1 rv fun s2 g2 k2 l2 => ?_)
    have st2 := J.keep _ _ _ st1 (l2 ok) fun o e => k2.kept I o hI e
    have hl2 : SetI prog w s2.heap acc ((ds.take i).map f) := hl1.but fun o e => k2.kept _ _ ha e
    have kk2 : ∀ b o, b < env.locals → b ≠ I → b ≠ acc → s.heap.get? b = some o → s2.heap.get? b = some o := fun b o a1 a3 a4 e => k2.kept b o a1 (kk1 b o a3 (Z.kk b o a1 a3 a4 e))
    have sh2 : Sh s s2 := sh_trans Z.sh (sh_trans (sh_kb k1) (sh_kl k2))
    refine wpAny_bind (wpAny_pure ?_)
    simp only [if_true]
    refine wpAny_bind (wpAny_bind (hev.go g2 fun y s3 ry k3 g3 => wpAny_bind (wpAny_standAt ?_)))
    obtain ⟨ty, rfl⟩ := ry.isInt
    have x3 := kp_ext k3
    have hl3 : SetI prog w s3.heap acc ((ds.take i).map f) := hl2.but fun o e => x3 _ _ e
    refine wpAny_bind (call_set_addI hl3 (by rw [List.length_map, List.length_take]; show _ < 4096; omega) fun h4 hs4 hl4 => wpAny_pure (wpAny_pure ?_))
    obtain ⟨g4, l4⟩ := g3.accS hl3 hl4 ta hs4
    refine ⟨rfl, ds.length - (i + 1), Nat.sub_lt_sub_left hlt (Nat.lt_succ_self i), i + 1, hlt, rfl, J.keep _ _ _ (J.keep _ _ _ st2 x3.lists fun o e => x3 _ _ e) l4 (fun o e => hs4.extBut _ _ hIa e), ?_, g4.sub hsub, fun b o a1 a3 a4 e => hs4.extBut _ _ a4 (x3 b o (kk2 b o a1 a3 a4 e)), sh_trans sh2 (sh_trans (sh_kp k3) ⟨_, _, _, rfl⟩)⟩
    rw [List.take_add_one, List.getElem?_eq_getElem hlt, List.map_append]
    exact hl4
  · have he : i = ds.length := Nat.le_antisymm Z.le (Nat.not_lt.mp hlt)
    subst he
    have hl' := Z.hl
    rw [List.take_length] at hl'
    refine J.stop _ _ _ Z.st fun s1 k1 => wpAny_pure ?_
    have kk1 : ∀ b o, b ≠ I → s'.heap.get? b = some o → s1.heap.get? b = some o := fun b o hb e => k1.kept b o (mem1.mpr hb) e
    exact hR s1 (hl'.but fun o e => kk1 _ _ (Ne.symm hIa) e) (Z.g.fld F J.okI kk1) (fun b o a1 a3 a4 e => kk1 b o a3 (Z.kk b o a1 a3 a4 e)) (sh_trans Z.sh (sh_kb k1))
/-- a set block: what it gives -/
structure ScI (prog : Program) (w : World) (A : Around) (env : Env) (Γ : Ctx) (elt target iter : Expr) (scope : Scope) (out : List Int) (cl : List (Str × Addr)) (ds : List D) (f : D → Int) (Γ' : Ctx) : Prop where
  B : BlkOk env scope cl
  hi : EvI prog w A env Γ iter ds
  T : ∀ C, Thru env (blk scope cl C env) Γ Γ'
  hsz : ds.length ≤ 4000
  turn : ∀ C, EnvOk (blk scope cl C env) → EnvLow (blk scope cl C env) → ∀ d ∈ ds, TurnS prog w A (blk scope cl C env) Γ' target elt d (f d)
  out_ : out = ds.map f
  hs : ∀ x, foldedSetIterable iter env x = pure x
structure Sc (prog : Program) (w : World) (A : Around) (env : Env) (Γ : Ctx) (elt target iter : Expr) (scope : Scope) (out : List Int) : Prop where
  of : ∃ cl ds f Γ', ScI prog w A env Γ elt target iter scope out cl ds f Γ'
theorem set_go {elt target iter : Expr} {scope : Scope} {out : List Int} {pos : Pos} {s : Shared} {E : Value → Shared → Prop} {Q : Value → Shared → Prop} (okE : EnvOk env)
    (L : Sc prog w A env Γ elt target iter scope out) (g : Gd ok env Γ s.heap)
    (k : ∀ acc s', SetI prog w s'.heap acc out → Keeps s s' → Q (.ref acc) s') :
    wpAny (model prog w) A (eval (.SetComp elt [⟨target, iter, [], 0⟩] scope pos) env) Q E s := by
  obtain ⟨cl, ds, f, Γ', B, hi, T, hsz, turn, rfl, hs⟩ := L.of
  rw [arm_eval_SetComp]
  refine wpAny_comprehension_free rfl hs B.clos B.kind B.names (hi ok s E _ g fun I s2 J hI k2 g2 => ?_)
  refine setI_new (prog := prog) (w := w) fun h3 ext hS3 => ?_
  obtain ⟨St, J, st⟩ := J ok fun _ _ _ h => h
  have g3 : Gd ok env Γ h3 := g2.ext ext
  have hIlt : I < s2.heap.objs.size := by
    obtain ⟨_, o, _, e, _⟩ := J.obj _ _ st
    exact Heap.lt_size e
  have hsz3 : s2.heap.objs.size < h3.objs.size := by
    obtain ⟨o, _, _, _, e, _⟩ := hS3
    exact Heap.lt_size e
  refine new_blk (s := { s2 with heap := h3 }) okE B g3 T fun cenv s4 he hC okE' low' g4 k4 => ?_
  have x4 := kp_ext k4
  rw [he]
  have st4 : St 0 s4.heap := J.keep _ _ _ st (Ext.lists fun b o e => x4 _ _ (ext _ _ e)) fun o e => x4 _ _ (ext _ _ e)
  have hlo : (blk scope cl ({ s2 with heap := h3 } : Shared).heap.objs.size env).locals = h3.objs.size := rfl
  have hloop : codeAny (model prog w) A (.compLoop (.SetComp elt [⟨target, iter, [], 0⟩] scope pos) 0 (.ref I) (.ref s2.heap.objs.size) (blk scope cl ({ s2 with heap := h3 } : Shared).heap.objs.size env))
      (compPost (model prog w) A E none Q (.ref s2.heap.objs.size) cenv.locals) s4 := by
    refine comp_loopS J g2.W.top (by rw [hlo]; exact Nat.lt_trans hIlt hsz3) (by rw [hlo]; exact hsz3) (Nat.ne_of_lt hIlt) hsz (turn _ okE' low') st4 (hS3.but fun o e => x4 _ _ e) g4 fun s5 hS5 g5 kk5 sh5 => ?_
    rw [hC]
    obtain ⟨m, cm, hn, _⟩ := g5.F
    refine ⟨m, hn, fun h' hsb => ?_⟩
    have hsC : s2.heap.objs.size ≠ h3.objs.size := Nat.ne_of_lt hsz3
    refine k _ _ (hS5.but fun o e => hsb.extBut _ _ hsC e) ?_
    have keep : ∀ b o, s.heap.get? b = some o → h'.get? b = some o := fun b o e => by
      have e2 := kp_ext k2 b o e
      have hb := Heap.lt_size e2
      refine hsb.extBut b o (Nat.ne_of_lt (Nat.lt_trans hb hsz3)) (kk5 b o (by rw [hlo]; exact Nat.lt_trans hb hsz3) (by rintro rfl; rw [hI] at e; cases e) (Nat.ne_of_lt hb) (x4 b o (ext b o e2)))
    exact kp_sh (sh_trans (sh_kp k2) (sh_trans (⟨_, _, _, rfl⟩ : Sh s2 { s2 with heap := h3 }) (sh_trans (sh_kp k4) (sh_trans sh5 ⟨_, _, _, rfl⟩)))) keep
  exact codeAny_compStart_set hloop (J.self 0 _ _ _ st4 hloop)

theorem sorted_ext : ∀ {l m : List Int}, l.Pairwise (· < ·) → m.Pairwise (· < ·) → (∀ k, k ∈ l ↔ k ∈ m) → l = m
  | [], [], _, _, _ => rfl
  | [], b :: m, _, _, h => absurd ((h b).mpr (.head _)) (by simp)
  | a :: l, [], _, _, h => absurd ((h a).mp (.head _)) (by simp)
  | a :: l, b :: m, hl, hm, h => by
    obtain ⟨l1, l2⟩ := List.pairwise_cons.mp hl
    obtain ⟨m1, m2⟩ := List.pairwise_cons.mp hm
    have hab : a = b := by
      rcases List.mem_cons.mp ((h a).mp (.head _)) with e | e
      · exact e
      · rcases List.mem_cons.mp ((h b).mpr (.head _)) with e' | e'
        · exact e'.symm
        · have := l1 b e'; have := m1 a e; omega
    subst hab
    rw [sorted_ext l2 m2 fun k => ?_]
    constructor
    · intro hk
      rcases List.mem_cons.mp ((h k).mp (.tail _ hk)) with rfl | e
      · exact absurd (l1 _ hk) (by omega)
      · exact e
    · intro hk
      rcases List.mem_cons.mp ((h k).mpr (.tail _ hk)) with rfl | e
      · exact absurd (m1 _ hk) (by omega)
      · exact e
/-- the small numbers among ns, rising -/
noncomputable def sortN (b : Nat) (ns : List Nat) : List Nat := (List.range b).filter fun k => ns.contains k
theorem sortN_mem {b : Nat} {ns : List Nat} (h : ∀ n ∈ ns, n < b) {k : Nat} : k ∈ sortN b ns ↔ k ∈ ns := by
  unfold sortN
  rw [List.mem_filter, List.mem_range]
  constructor
  · rintro ⟨_, h⟩; simpa using h
  · intro hk; exact ⟨h k hk, by simpa using hk⟩
theorem sortN_up {b : Nat} {ns : List Nat} : (sortN b ns).Pairwise (· < ·) := List.pairwise_lt_range.filter _
theorem ev_sortset {elt target iter : Expr} {scope : Scope} {ns : List Nat} {b : Nat} {p spos pos : Pos} (okE : EnvOk env) (hh : A.handled = none) (hk : env.kindOf "sorted" = some .globalImplicit) (L : Sc prog w A env Γ elt target iter scope (ns.map fun n => ((n : Nat) : Int))) (hb : ∀ n ∈ ns, n < b) (hl : ns.length < 64)
    (hse : starEach [.SetComp elt [⟨target, iter, [], 0⟩] scope spos] env = [(false, eval (.SetComp elt [⟨target, iter, [], 0⟩] scope spos) env)]) :
    Ev prog w A env Γ (.Call (.Name "sorted" p) [.SetComp elt [⟨target, iter, [], 0⟩] scope spos] [] pos) (natsL (sortN b ns)) := fun ok s E g => by
  refine wpAny_Call_NameR (name_blt (v := .builtin "sorted") okE g.W (by kernel_rfl) (by decide) hk ?_)
  rw [hse]
  refine Calls.callWith_builtin rfl (Calls.evalArgs_plain (Calls.spliced_cons (set_go okE L g fun acc s1 hS k1 => Calls.spliced_nil ?_)))
  refine sorted_setI hh hS (by rw [List.length_map]; exact hl) fun l out ms s2 hi hnd hup hmem hnew hlist k2 => ⟨?_, kp_trans k1 k2⟩
  have e : ms = (sortN b ns).map fun n => ((n : Nat) : Int) := by
    refine sorted_ext ?_ ?_ fun k => ?_
    · refine (hup.and hnd).imp ?_
      rintro a b ⟨h1, h2⟩
      omega
    · refine List.Pairwise.map _ (fun a b h => ?_) sortN_up
      omega
    · rw [hmem, List.mem_map, List.mem_map]
      constructor
      · rintro ⟨n, hn, rfl⟩; exact ⟨n, (sortN_mem hb).mpr hn, rfl⟩
      · rintro ⟨n, hn, rfl⟩; exact ⟨n, (sortN_mem hb).mp hn, rfl⟩
  subst e
  have okl : ok l := g.N l (by
    cases q : s.heap.get? l with
    | none => rfl
    | some o => rw [kp_ext k1 _ _ q] at hnew; cases hnew)
  have r := RdAll.ofInts (ok := ok) (h := s2.heap) hi
  rw [List.map_map] at r
  exact .list okl hlist r
end
end Mine
end
section
open PySem PySem.Calls PyProof.Rows PySem.W
set_option maxRecDepth 100000
set_option linter.all false
set_option maxHeartbeats 1000000
namespace Mine
section
variable {prog : Program} {w : World} {A : Around} {env : Env} {l : List Env} {Γ Γ1 Γ2 Γe Γf : Ctx} {X X' Y : List Addr} {P P1 P2 : Sp} {er : Option (List Nat)}
theorem fnF_wide {k : Nat} {r : FnRec} {sls : List Sl} {d : D} (hX : ∀ a ∈ X, a ∈ X') (F : FnF prog w k r sls X Y P d P1 er) : FnF prog w k r sls X' Y P d P1 er := fun ok A l s a vs room hfr na N W p t v hl I rd => by
  refine codeAny_mono (F ok A l s a vs room hfr (fun a ha => na a (hX a ha)) N W p t v hl I rd) fun r s' q => ?_
  cases er with
  | none =>
    obtain ⟨u, e, ru, p1, t1, w1, k1⟩ := q
    exact ⟨u, e, ru, p1, t1, w1, k1.mono hX⟩
  | some msg =>
    obtain ⟨e, er, f⟩ := q
    obtain ⟨⟨base, ea, t, tk, he, fl, tu, bt, wb, pb, tb, kb⟩, fr, same⟩ := f
    exact ⟨e, er, ⟨base, ea, t, tk, he, fl, tu, bt, wb, pb, tb, fun b o q1 q2 q3 e => kb b o (fun m => q1 (hX b m)) q2 q3 e⟩, fr, same⟩
/-- what can be gone over, where getting it may turn X -/
noncomputable def EvIF (prog : Program) (w : World) (A : Around) (env : Env) (l : List Env) (X Y : List Addr) (Γ : Ctx) (P P' : Sp) (e : Expr) (ds : List D) : Prop :=
  ∀ ok s E (Q : Value → Shared → Prop), (∀ a ∈ X, ¬ ok a) → Gd ok env Γ s.heap → P ok s.heap → There Y s.heap → Lv l s.heap →
    (∀ I s', (∀ ok2 : Addr → Prop, (∀ a o, s'.heap.get? a = some o → ok a → ok2 a) → ∃ St, Iter prog w A ok2 I ds St ∧ St 0 s'.heap) → s.heap.get? I = none → KB X s s' → Gd ok env Γ s'.heap → P' ok s'.heap → There Y s'.heap → Lv l s'.heap → Q (.ref I) s') →
    wpAny (model prog w) A (eval e env) (fun v s1 => wpAny (model prog w) A (pyIter v) Q E s1) E s
theorem evif_of {e : Expr} {ds : List D} (sb : Stab Y P) (h : EvI prog w A env Γ e ds) : EvIF prog w A env l X Y Γ P P e ds := fun ok s E Q na g p t v q =>
  h ok s E Q g fun I s' J hI k g' => q I s' J hI (KB.of k) g' (stab_ext sb p (kp_ext k)) (t.ext (kp_ext k)) (v.ext (kp_ext k))
/-- range(f(..)) -/
theorem evif_rangecall {f : Str} {rp fp fpos pos : Pos} {es : List Expr} {sls : List Sl} {r : FnRec} {k n : Nat} (sd : SideOk env l X Y) (hh : A.handled = none) (sb : Stab Y P) (sb1 : Stab Y P1) (hkr : env.kindOf "range" = some .globalImplicit) (hf : fnRec f = some r) (hp : f ∈ plainFns) (hk : env.kindOf f = some .globalImplicit) (F : FnF prog w k r sls X Y P (natD n) P1 none) (room : Room k A) (hn : n < 2 ^ 62)
    (h : EvSs prog w A env Γ es sls) (hse : starEach [.Call (.Name f fp) es [] fpos] env = [(false, eval (.Call (.Name f fp) es [] fpos) env)])
    (hd : (f == ("__debug__" : Str)) = false := by decide) : EvIF prog w A env l X Y Γ P P1 (.Call (.Name "range" rp) [.Call (.Name f fp) es [] fpos] [] pos) ((List.range n).map natD) := fun ok s E Q na g p t v q => by
  refine wpAny_Call_NameR (name_blt (v := .type "range") sd.okE g.W (by kernel_rfl) (by decide) hkr ?_)
  rw [hse]
  refine PySem.callWith_type rfl (Calls.evalArgs_plain (Calls.spliced_cons (callF_go (er := none) sd (fun h => absurd rfl h) sb hf hp hk F room h na g p t v (fun _ u s1 ru g1 p1 t1 v1 k1 => Calls.spliced_nil ?_) (fun e s' msg em => by cases em) hd)))
  obtain ⟨tk, rfl⟩ := ru.isInt
  refine call_range_1 ?_
  refine wpAny_pyIter_range (IsRange.new ..) (small_one (by decide) (by decide) (by omega) (by omega)) ?_
  have hsz : Builtin.Range.rangeSize 0 ((n : Nat) : Int) 1 = (n : Int) := by rw [rangeSize_one]; split <;> omega
  rw [hsz]
  have kp : Keeps s1 _ := kp_trans (kp_push s1 { cls := .type "range", data := .fields #[.int 0 s1.toks, .int (n : Nat) tk, .int 1 (s1.toks + 1)] }) (kp_trans (kp_tok _ (s1.toks + 1 + 1)) (kp_push _ { cls := .type "range_iterator", data := .fields #[rawInt 0, rawInt (n : Int), rawInt 1] }))
  have kq : Keeps s1 _ := kp_trans (kp_push s1 { cls := .type "range", data := .fields #[.int 0 s1.toks, .int (n : Nat) tk, .int 1 (s1.toks + 1)] }) (kp_tok _ (s1.toks + 1 + 1))
  have x := kp_ext kp
  have hnew : s.heap.get? (s1.heap.push { cls := .type "range", data := .fields #[.int 0 s1.toks, .int (n : Nat) tk, .int 1 (s1.toks + 1)] }).objs.size = none := by
    cases z : s.heap.get? (s1.heap.push { cls := .type "range", data := .fields #[.int 0 s1.toks, .int (n : Nat) tk, .int 1 (s1.toks + 1)] }).objs.size with
    | none => rfl
    | some o =>
      exfalso
      have hs1 : ∃ o', s1.heap.get? (s1.heap.push { cls := .type "range", data := .fields #[.int 0 s1.toks, .int (n : Nat) tk, .int 1 (s1.toks + 1)] }).objs.size = some o' := by
        by_cases m : (s1.heap.push { cls := .type "range", data := .fields #[.int 0 s1.toks, .int (n : Nat) tk, .int 1 (s1.toks + 1)] }).objs.size ∈ X
        · exact t1 _ (sd.XY _ m)
        · exact ⟨o, k1.kept _ _ m z⟩
      obtain ⟨o', e'⟩ := hs1
      have := Heap.lt_size e'
      rw [Heap.size_push] at this
      exact Nat.lt_irrefl _ (Nat.lt_trans (Nat.lt_succ_self _) this)
  refine q _ _ (fun ok2 h2 => ⟨_, iter_range (n := n) hh (g1.ext (kp_ext kq)).W.top (h2 _ _ (Heap.get?_push_size _ rfl) (g1.ext (kp_ext kq)).N.size), ?_⟩) hnew (k1.trans (KB.of kp)) (g1.ext x) (stab_ext sb1 p1 x) (t1.ext x) (v1.ext x)
  have e2 : ((n : Nat) : Int) - ((0 : Nat) : Int) = (n : Nat) := by omega
  rw [e2]
  exact Heap.get?_push_size _ rfl
/-- what holds ahead of a loop's turn -/
structure ForF (ok : Addr → Prop) (env : Env) (l : List Env) (X Y : List Addr) (C : Nat → Ctx) (PP : Nat → Sp) (m len : Nat) (St : Nat → Heap → Prop) (s : Shared) (n : Nat) (s' : Shared) (i : Nat) : Prop where
  le : i ≤ m
  n_ : n = len - i
  st : St i s'.heap
  g : Gd ok env (C i) s'.heap
  p : PP i ok s'.heap
  t : There Y s'.heap
  v : Lv l s'.heap
  kb : KB (X ++ own env) s s'
/-- a loop over data; it may break off with an error in its last turn -/
theorem exf1_forG {P0 : Sp} {x : Str} {p pos : Pos} {iter : Expr} {body : List Stmt} {ds : List D} (C : Nat → Ctx) (PP : Nat → Sp) (m : Nat) (sd : SideOk env l X Y) (cs : CanSt env x) (sb : ∀ i, Stab Y (PP i))
    (hi : EvIF prog w A env l X Y Γ P P0 iter ds) (h0 : Sub (C 0) Γ) (hP0 : P0 = PP 0) (hm : m ≤ ds.length) (hme : er ≠ none → m < ds.length) (hmn : er = none → m = ds.length)
    (turn : ∀ i d, i < m → ds[i]? = some d → ExF prog w A env l X Y ((x, .data d) :: C i) (PP i) body (C (i + 1)) (PP (i + 1)) Γe none)
    (last : er ≠ none → ∀ d, ds[m]? = some d → ExF prog w A env l X Y ((x, .data d) :: C m) (PP m) body (C (m + 1)) (PP (m + 1)) Γe er) (hs : ∀ v, foldedSetIterable iter env v = pure v := by intro _; rfl) :
    ExF1 prog w A env l X Y Γ P (.For (.Name x p) iter body [] pos) (C ds.length) (if er = none then PP ds.length else PP (m + 1)) Γe er := fun ok s Q E hE na g pp t v oo => by
  subst hP0
  have okE := sd.okE
  have low := sd.low
  refine wpAny_For (hi ok s E _ na g pp t v fun I s2 J hI k2 g2 pp2 t2 v2 => ?_) hs
  obtain ⟨St, J, st⟩ := J ok fun _ _ _ k => k
  have IY : ∀ b ∈ Y, b ≠ I := fun b q z => by obtain ⟨o, e⟩ := t b q; rw [z, hI] at e; cases e
  have IF : ∀ b ∈ frs l, b ≠ I := fun b q z => by obtain ⟨_, o, _, _, e, _⟩ := v.at q; rw [z, hI] at e; cases e
  have oI : ∀ {b o}, s.heap.get? b = some o → b ≠ I := fun {b o} e => by rintro rfl; rw [hI] at e; cases e
  refine codeAny_forLoop (fun n s' => ∃ i, ForF ok env l X Y C PP m ds.length St s n s' i) ?_ ds.length ⟨0, Nat.zero_le _, rfl, st, g2.sub h0, pp2, t2, v2, k2.mono fun b hb => List.mem_append.mpr (.inl hb)⟩
  intro n s' Z
  obtain ⟨i, Z⟩ := Z
  have hn := Z.n_
  subst hn
  have him := Z.le
  have F := J.obj _ _ Z.st
  by_cases hlt : i < ds.length
  · refine J.next i ds[i] _ _ _ (List.getElem?_eq_getElem hlt) Z.st fun u s3 rv st3 k3 => ?_
    have kb3 : ∀ b o, b ≠ I → s'.heap.get? b = some o → s3.heap.get? b = some o := fun b o hb e => k3.kept b o (mem1.mpr hb) e
    have g3 : Gd ok env (C i) s3.heap := Z.g.fld F J.okI kb3
    have p3 : PP i ok s3.heap := sb i ok _ _ Z.p (F.lists kb3) fun b hb o e => kb3 b o (IY b hb) e
    have t3 : There Y s3.heap := Z.t.keep fun b hb o e => kb3 b o (IY b hb) e
    have v3 : Lv l s3.heap := Z.v.keep fun b hb o e => kb3 b o (IF b hb) e
    refine wpAny_assign_Name (store_go okE low cs g3 (sl := .data ds[i]) rv fun s4 g4 k4 l4 => ?_)
    have k4o : KB (own env) s3 s4 := k4.mono fun b hb => by rw [List.mem_singleton.mp hb]; exact tch_own cs
    have p4 : PP i ok s4.heap := stab_kb (sb i) sd.offY okE g3.F p3 k4o
    have t4 : There Y s4.heap := t3.kb sd.offY k4o
    have v4 : Lv l s4.heap := v3.kb sd (k4o.mono fun b hb => List.mem_append.mpr (.inr hb))
    have neI : ∀ y ∈ own env, y ≠ I := own_ne okE g3.F (J.obj _ _ st3)
    have st4 : St (i + 1) s4.heap := J.keep _ _ _ st3 l4 fun o e => k4o.kept I o (fun q => neI _ q rfl) e
    have kbs4 : KB (X ++ own env) s s4 := KB.sh (sh_trans (sh_kb Z.kb) (sh_trans (sh_kb k3) (sh_kb k4))) fun b o hb e => k4o.kept b o (fun q => hb (List.mem_append.mpr (.inr q))) (kb3 b o (oI e) (Z.kb.kept b o hb e))
    by_cases hmi : i < m
    · refine wpAny_passesOwn hE (turn i ds[i] hmi (List.getElem?_eq_getElem hlt) ok s4 _ _ hE na g4 p4 t4 v4 ⟨fun s5 _ g5 p5 t5 v5 k5 => ?_, fun e s' msg em => nomatch em⟩)
      exact ⟨ds.length - (i + 1), Nat.sub_lt_sub_left hlt (Nat.lt_succ_self i), i + 1, hmi, rfl, J.keep _ _ _ st4 (lists_ofX okE g4.F na k5) fun o e => k5.kept I o (fun q => (List.mem_append.mp q).elim (fun q => IY _ (sd.XY _ q) rfl) fun q => neI _ q rfl) e, g5, p5, t5, v5, kbs4.trans k5⟩
    · have hie : i = m := Nat.le_antisymm him (Nat.not_lt.mp hmi)
      subst hie
      have her : er ≠ none := fun q => by have := hmn q; omega
      refine wpAny_passesOwn hE (last her ds[i] (List.getElem?_eq_getElem hlt) ok s4 _ _ hE na g4 p4 t4 v4 ⟨fun s5 e => absurd e her, fun e s5 msg em f5 fm5 => ?_⟩)
      refine oo.2 e s5 msg em ?_ fm5
      rw [if_neg her]
      exact f5.after kbs4 sd.frX
  · have he : i = ds.length := Nat.le_antisymm (Nat.le_trans him hm) (Nat.not_lt.mp hlt)
    subst he
    have her : er = none := Classical.byContradiction fun q => by have := hme q; omega
    refine J.stop _ _ _ Z.st fun s3 k3 => wpAny_execs_nil ?_
    have kb3 : ∀ b o, b ≠ I → s'.heap.get? b = some o → s3.heap.get? b = some o := fun b o hb e => k3.kept b o (mem1.mpr hb) e
    refine oo.1 s3 her (Z.g.fld F J.okI kb3) ?_ (Z.t.keep fun b hb o e => kb3 b o (IY b hb) e) (Z.v.keep fun b hb o e => kb3 b o (IF b hb) e) (KB.sh (sh_trans (sh_kb Z.kb) (sh_kb k3)) fun b o hb e => kb3 b o (oI e) (Z.kb.kept b o hb e))
    rw [if_pos her]
    exact sb _ ok _ _ Z.p (F.lists kb3) fun b hb o e => kb3 b o (IY b hb) e
/-- a loop over data; it may break off with an error in its last turn -/
theorem exf1_for {x : Str} {p pos : Pos} {iter : Expr} {body : List Stmt} {ds : List D} (C : Nat → Ctx) (PP : Nat → Sp) (m : Nat) (sd : SideOk env l X Y) (cs : CanSt env x) (sb : ∀ i, Stab Y (PP i))
    (hi : EvI prog w A env Γ iter ds) (h0 : Sub (C 0) Γ) (hP0 : P = PP 0) (hm : m ≤ ds.length) (hme : er ≠ none → m < ds.length) (hmn : er = none → m = ds.length)
    (turn : ∀ i d, i < m → ds[i]? = some d → ExF prog w A env l X Y ((x, .data d) :: C i) (PP i) body (C (i + 1)) (PP (i + 1)) Γe none)
    (last : er ≠ none → ∀ d, ds[m]? = some d → ExF prog w A env l X Y ((x, .data d) :: C m) (PP m) body (C (m + 1)) (PP (m + 1)) Γe er) (hs : ∀ v, foldedSetIterable iter env v = pure v := by intro _; rfl) :
    ExF1 prog w A env l X Y Γ P (.For (.Name x p) iter body [] pos) (C ds.length) (if er = none then PP ds.length else PP (m + 1)) Γe er :=
  exf1_forG C PP m sd cs sb (evif_of (hP0 ▸ sb 0) hi) h0 hP0 hm hme hmn turn last hs
/-- told.append(e): the list that is told into -/
theorem exf1_app {m : Sm} {B : List Nat} {acc : Addr} {ds : List D} {x : Str} {e : Expr} {p ap cp pos : Pos} {d : D} (sd : SideOk env l X (m.Y ++ [acc])) (hX : acc ∈ X) (hacc : acc ∉ m.Y) (ta : topLine ≤ acc) (hx : List.lookup x Γ = some (.val (.ref acc))) (h : Ev prog w A env Γ e d) (hse : starEach [e] env = [(false, eval e env)]) (hsz : ds.length ≤ sizeLine) (hline : (ap.endLine == cp.line) = true)
    (hb : attributeBase (.Name x p) "append" env (eval (.Name x p) env) = eval (.Name x p) env) (hi : interactive env = false) (hs : swapsWith (.Call (.Attribute (.Name x p) "append" ap) [e] [] cp) none pos.line env = pure false)
    (hd : ((x == ("__debug__" : Str)) || (x == ("__classdict__" : Str))) = false := by decide) :
    ExF1 prog w A env l X (m.Y ++ [acc]) Γ (SP m B (AccP acc ds)) (.Expr (.Call (.Attribute (.Name x p) "append" ap) [e] [] cp) pos) Γ (SP m B (AccP acc (ds ++ [d]))) Γe none := fun ok s Q E hE na g a t v o => by
  refine wpAny_Expr_any ?_ hi hs
  refine wpAny_Call_method1_late hb hline (by rw [hse]; rfl) ?_
  refine nm_val sd.okE g.F hx ?_ hd
  obtain ⟨vs, pl, rd⟩ := id a.2
  refine ⟨"list", "list.append", F.plainAttrs_list, slot_list_append, type_append, pl.isList.typeIs, (fun a' e => by cases e; exact ⟨_, pl.choose_spec, rfl⟩), ?_⟩
  refine Calls.callWith_builtin rfl (Calls.evalArgs_plain (Calls.spliced_cons (h.go g fun u s1 r k g1 => Calls.spliced_nil ?_)))
  have x1 := kp_ext k
  have pl1 := pl.at fun o e => x1 _ o e
  have rd1 := rd.ext x1
  have S1 : Strm m B ok s1.heap := stab_ext (Strm.stab (Y := m.Y) fun a ha => ha) a.1 x1
  show wpAny (model prog w) A (call (.builtin "list.append") [.ref acc, u]) _ _ _
  refine wpAny_list_append_plain pl1 (fun h' pl' sb => ?_) (by rw [List.size_toArray, rd.length]; exact hsz)
  obtain ⟨g2, l2⟩ := g1.acc pl1.isList pl'.isList (na _ hX) ta sb
  have kk : ∀ b o, b ≠ acc → s1.heap.get? b = some o → h'.get? b = some o := fun b o => sb.extBut b o
  have S2 : Strm m B ok h' := Strm.stab (Y := m.Y) (fun a ha => ha) ok _ _ S1 l2 fun b hb o e => kk b o (fun q => hacc (q ▸ hb)) e
  refine o.1 _ rfl g2 ⟨S2, vs ++ [u], ?_, (rd1.snoc r).lists l2⟩ (fun b hb => ?_) ((v.ext x1).keep fun b hb o e => kk b o (fun q => (sd.offF b hb).1 (by rw [q]; simp)) e) ((KB.of k).trans ⟨h', s1.toks, _, rfl, fun b o hb e => kk b o (fun z => hb (by rw [z]; exact List.mem_append.mpr (.inl hX))) e⟩)
  · have e : (vs ++ [u]).toArray = vs.toArray.push u := by simp
    rw [e]; exact pl'
  · rcases List.mem_append.mp hb with hb | hb
    · exact S2.thereY b hb
    · rw [List.mem_singleton.mp hb]
      obtain ⟨n, e⟩ := pl'
      exact ⟨_, e⟩
end
end Mine
end
section
open PySem PySem.Calls PyProof.Rows PySem.W
set_option maxRecDepth 100000
set_option linter.all false
set_option maxHeartbeats 1000000
namespace Mine
/-! places forward -/
noncomputable def fitP (parts : List Pt) (c k : Nat) : Bool := decide (k < parts.length) && (match parts.getD k .any with | .star => true | .any => true | .ch x => x == c)
noncomputable def nextP (parts : List Pt) (k : Nat) : Nat := if parts.getD k .any = .star then k else k + 1
noncomputable def fwSet (parts : List Pt) (pl : List Nat) (c : Nat) : List Nat := (pl.filter (fitP parts c)).map (nextP parts)
noncomputable def fwStep (parts : List Pt) (pl : List Nat) (c : Nat) : List Nat := closedF parts (sortN (parts.length + 1) (fwSet parts pl c))
structure PlOk (parts : List Pt) (pl : List Nat) : Prop where
  nd : pl.Nodup
  le : ∀ k ∈ pl, k ≤ parts.length
theorem nodup_leN : ∀ {l m : List Nat}, l.Nodup → (∀ x ∈ l, x ∈ m) → l.length ≤ m.length
  | [], m, _, _ => Nat.zero_le _
  | x :: l, m, hn, hs => by
    obtain ⟨h1, h2⟩ := List.nodup_cons.mp hn
    have hx : x ∈ m := hs x (.head _)
    have := nodup_leN (m := m.erase x) h2 fun y hy => by
      refine (List.mem_erase_of_ne ?_).mpr (hs y (.tail _ hy))
      rintro rfl; exact h1 hy
    rw [List.length_erase_of_mem hx] at this
    have := List.length_pos_of_mem hx
    rw [List.length_cons]; omega
theorem PlOk.len {parts : List Pt} {pl : List Nat} (h : PlOk parts pl) : pl.length ≤ parts.length + 1 := by
  have := nodup_leN h.nd (m := List.range (parts.length + 1)) fun x hx => by have := h.le x hx; simp; omega
  simpa using this
theorem closedTo_ok {parts : List Pt} {pl : List Nat} (h : PlOk parts pl) : ∀ i, i ≤ parts.length → PlOk parts (closedTo parts pl i)
  | 0, _ => h
  | i + 1, hi => by
    have ih := closedTo_ok h i (by omega)
    rw [closedTo_succ]
    unfold closedStep
    split
    · rename_i hc
      simp only [Bool.and_eq_true, Bool.not_eq_true', List.contains_eq_mem, decide_eq_true_eq, decide_eq_false_iff_not] at hc
      refine ⟨List.nodup_append.mpr ⟨ih.nd, by simp, fun x hx y hy => by rw [List.mem_singleton.mp hy]; rintro rfl; exact hc.2 hx⟩, fun k hk => ?_⟩
      rcases List.mem_append.mp hk with hk | hk
      · exact ih.le k hk
      · rw [List.mem_singleton.mp hk]; exact hi
    · rw [List.append_nil]; exact ih
theorem closedF_ok {parts : List Pt} {pl : List Nat} (h : PlOk parts pl) : PlOk parts (closedF parts pl) := closedTo_ok h _ (Nat.le_refl _)
theorem fwSet_lt {parts : List Pt} {pl : List Nat} {c : Nat} : ∀ k ∈ fwSet parts pl c, k < parts.length + 1 := fun k hk => by
  obtain ⟨j, hj, rfl⟩ := List.mem_map.mp hk
  have := (List.mem_filter.mp hj).2
  unfold fitP at this
  simp only [Bool.and_eq_true, decide_eq_true_eq] at this
  unfold nextP
  split <;> omega
theorem sortN_ok {parts : List Pt} {ns : List Nat} : PlOk parts (sortN (parts.length + 1) ns) := ⟨sortN_up.imp fun h => Nat.ne_of_lt h, fun k hk => by
  have := (List.mem_filter.mp hk).1
  simp at this; omega⟩
theorem fwStep_ok {parts : List Pt} {pl : List Nat} {c : Nat} : PlOk parts (fwStep parts pl c) := closedF_ok sortN_ok
noncomputable def fwAll (parts : List Pt) (pl : List Nat) (name : List Nat) : List Nat := name.foldl (fwStep parts) pl
theorem fwAll_ok {parts : List Pt} : ∀ {name : List Nat} {pl : List Nat}, PlOk parts pl → PlOk parts (fwAll parts pl name)
  | [], pl, h => h
  | c :: name, pl, h => fwAll_ok (name := name) fwStep_ok
theorem fwAll_take {parts : List Pt} {pl name : List Nat} {i : Nat} (hi : i < name.length) : fwAll parts pl (name.take (i + 1)) = fwStep parts (fwAll parts pl (name.take i)) name[i] := by
  unfold fwAll
  rw [List.take_add_one, List.getElem?_eq_getElem hi, List.foldl_append]; rfl
section
variable {prog : Program} {w : World} {A : Around} {env : Env} {Γ : Ctx}
theorem last_sign {x : Nat} : Txt.slice (S (if x = 43 then [92, 43] else [x])) (some (-1)) none = S [x] := by
  by_cases h : x = 43
  · subst h; decide +kernel
  · rw [if_neg h]
    unfold Txt.slice
    have e : Builtin.Str.strSliceIndices (some (-1)) none 1 1 = [0] := by decide
    rw [S_len]
    simp only [List.length_singleton, e]
    rfl
theorem part_at {parts : List Pt} {k : Nat} (h : k < parts.length) : (parts.map partD)[((k : Nat) : Int).toNat]? = some (partD (parts.getD k .any)) := by
  show (parts.map partD)[k]? = _
  rw [List.getElem?_map, List.getElem?_eq_getElem h, List.getD_eq_getElem?_getD, List.getElem?_eq_getElem h]; rfl
/-- does the k-th part fit the sign? -/
theorem tst_fit {p1 p2 p3 p4 p5 p6 p7 p8 p9 p10 p11 p12 p13 p14 p15 p16 p17 p18 p19 p20 p21 p22 p23 : Pos} {c1 c2 c3 : Nat} {any : Str} {parts : List Pt} {c k : Nat} (okE : EnvOk env) (room : Room 1 A) (hlen : env.kindOf "len" = some .globalImplicit) (hany : any = S anyT) (hpl : parts.length ≤ 60) (hpo : ∀ p ∈ parts, ∀ x, p = .ch x → x < 1114112)
    (hk : List.lookup (Str.ofString "k") Γ = some (.data (natD k))) (hp : List.lookup (Str.ofString "parts") Γ = some (.data (partsL parts))) (hs : List.lookup (Str.ofString "sign") Γ = some (.data (.str (S [c])))) :
    Tst prog w A env Γ (.BoolOp .And [.Compare (.Name "k" p1) [.Lt] [.Call (.Name "len" p2) [.Name "parts" p3] [] p4] p5, .BoolOp .Or [.Compare (.Subscript (.Name "parts" p6) (.Name "k" p7) p8) [.In] [.List [.Constant .none c1 p9, .Constant (.str any) c2 p10] p11] p12,
      .Compare (.Subscript (.Subscript (.Name "parts" p13) (.Name "k" p14) p15) (.Slice (some (.UnaryOp .USub (.Constant (.int 1) c3 p16) p17)) none none p18) p19) [.Eq] [.Name "sign" p20] p21] p22] p23) (fitP parts c k) := by
  subst hany
  have h1 : Tst prog w A env Γ (.Compare (.Name "k" p1) [.Lt] [.Call (.Name "len" p2) [.Name "parts" p3] [] p4] p5) (decide (k < parts.length)) :=
    tst_to (tst_cmp (ev_name okE hk) (ev_len okE hlen (ev_name okE hp) (by rfl) (by rw [List.length_map]; omega)) op_lti) (by rw [decide_eq_decide, List.length_map]; omega)
  refine tst_and h1 fun hlt => ?_
  have hlt' : k < parts.length := by simpa using hlt
  have item : ∀ {q1 q2 q3 : Pos}, Ev prog w A env Γ (.Subscript (.Name "parts" q1) (.Name "k" q2) q3) (partD (parts.getD k .any)) := ev_item (ev_name okE hp) (ev_name okE hk) (by omega) (part_at hlt') (by omega)
  have hmem : parts.getD k .any ∈ parts := by
    rw [List.getD_eq_getElem?_getD, List.getElem?_eq_getElem hlt']; exact List.getElem_mem hlt'
  have hfl : flat (partD (parts.getD k .any)) = true := flat_part _ (hpo _ hmem)
  have hin : ∀ {q1 q2 q3 q4 q5 q6 q7 : Pos} {n1 n2 : Nat}, Tst prog w A env Γ (.Compare (.Subscript (.Name "parts" q1) (.Name "k" q2) q3) [.In] [.List [.Constant .none n1 q4, .Constant (.str (S anyT)) n2 q5] q6] q7) ([D.none, .str (S anyT)].any fun y => dEq y (partD (parts.getD k .any))) :=
    tst_cmp item (ev_list (.cons ev_none (by rfl) (.cons ev_str (by rfl) .nil))) (op_inF hfl (by intro x hx; simp only [List.mem_cons, List.not_mem_nil, or_false] at hx; rcases hx with rfl | rfl; rfl; exact strOk_S (by decide)) room)
  cases hpt : parts.getD k .any with
  | star =>
    rw [hpt] at hin
    exact tst_to (tst_or (b := true) hin fun h => by cases h) rfl
  | any =>
    rw [hpt] at hin
    have e : ([D.none, .str (S anyT)].any fun y => dEq y (partD .any)) = true := by decide +kernel
    rw [e] at hin
    exact tst_to (tst_or (b := true) hin fun h => by cases h) rfl
  | ch x =>
    rw [hpt] at hin item
    have e : ([D.none, .str (S anyT)].any fun y => dEq y (partD (.ch x))) = false := by
      have h2 : (Str.mk anyT.toArray == (if x = 43 then S [92, 43] else S [x])) = false := by
        split
        · decide +kernel
        · rw [beq_eq_false_iff_ne]
          intro q
          have := congrArg Str.length q
          rw [S_len] at this
          cases this
      simp only [List.any_cons, List.any_nil, Bool.or_false, partD]
      have e1 : dEq D.none (D.str (S (if x = 43 then [92, 43] else [x]))) = false := rfl
      rw [e1, Bool.false_or]
      show (S anyT == S (if x = 43 then [92, 43] else [x])) = false
      have e2 : S (if x = 43 then [92, 43] else [x]) = if x = 43 then S [92, 43] else S [x] := by split <;> rfl
      rw [e2]
      exact h2
    rw [e] at hin
    refine tst_to (tst_or hin fun _ => tst_cmp (ev_cut (r := [x]) (a := some (-1)) item (.some (ev_neg ev_int)) .none last_sign (by split <;> exact Nat.le_trans (show _ ≤ 2 by simp) (by decide))) (ev_name okE hs) op_eqs) ?_
    simp
end
end Mine
end
section
open PySem PySem.Calls PyProof.Rows PySem.W
set_option maxRecDepth 100000
set_option linter.all false
set_option maxHeartbeats 1000000
namespace Mine
/-! the walk over the tape -/
abbrev Wk := List (List Nat) × List Nat × Option (List Nat)
noncomputable def loopF (g : List Nat → Option Wk) : Nat → List Nat → Option Wk
  | 0, B => some ([], B, none)
  | n + 1, B => match g B with
    | none => none
    | some (t, B', some e) => some (t, B', some e)
    | some (t, B', none) => match loopF g n B' with
      | none => none
      | some (t2, B2, er) => some (t ++ t2, B2, er)
noncomputable def walkF (parts : List Pt) : Nat → List Nat → List Nat → List Nat → Option Wk
  | 0, _, _, _ => none
  | f + 1, pl, front, B => match B with
    | [] => some ([], [], some uintMsg)
    | n :: B1 => if n ≠ 4 then none else
      if B1.length < 4 then some ([], [], some (shortMsg B1.length)) else
      match B1.drop 4 with
      | [] => some ([], [], some uintMsg)
      | many :: B2 =>
        match loopF (walkF parts f (fwAll parts pl (B1.take 4)) (front ++ B1.take 4)) many B2 with
        | none => none
        | some (t, B', er) => some ((if (many == 0 && (fwAll parts pl (B1.take 4)).contains parts.length) = true then [front ++ B1.take 4] else []) ++ t, B', er)
/-- a loop's states -/
noncomputable def loopSt (g : List Nat → Option Wk) (B : List Nat) : Nat → List (List Nat) × List Nat
  | 0 => ([], B)
  | i + 1 => match g (loopSt g B i).2 with
    | none => loopSt g B i
    | some (t, B', _) => ((loopSt g B i).1 ++ t, B')
theorem loopSt_shift {g : List Nat → Option Wk} {B B' : List Nat} {t : List (List Nat)} {e : Option (List Nat)} (h : g B = some (t, B', e)) : ∀ i, loopSt g B (i + 1) = (t ++ (loopSt g B' i).1, (loopSt g B' i).2)
  | 0 => by
    show (match g B with | none => _ | some (t, B', _) => _) = _
    rw [h]
    simp [loopSt]
  | i + 1 => by
    have ih := loopSt_shift h i
    rw [loopSt]
    rw [ih]
    dsimp only
    rw [loopSt]
    cases g (loopSt g B' i).2 with
    | none => rfl
    | some q => obtain ⟨t2, B2, e2⟩ := q; simp
theorem loop_runs {g : List Nat → Option Wk} : ∀ {n : Nat} {B t B' er}, loopF g n B = some (t, B', er) →
    ∃ mc, mc ≤ n ∧ (∀ i, i < mc → ∃ dt, g (loopSt g B i).2 = some (dt, (loopSt g B (i + 1)).2, none) ∧ (loopSt g B (i + 1)).1 = (loopSt g B i).1 ++ dt) ∧ (er = none → mc = n ∧ loopSt g B mc = (t, B')) ∧
      (er ≠ none → mc < n ∧ ∃ dt, g (loopSt g B mc).2 = some (dt, B', er) ∧ loopSt g B (mc + 1) = (t, B') ∧ (loopSt g B (mc + 1)).1 = (loopSt g B mc).1 ++ dt)
  | 0, B, t, B', er, h => by
    unfold loopF at h
    cases h
    exact ⟨0, Nat.le_refl _, fun i hi => absurd hi (Nat.not_lt_zero _), fun _ => ⟨rfl, rfl⟩, fun q => absurd rfl q⟩
  | n + 1, B, t, B', er, h => by
    unfold loopF at h
    cases hg : g B with
    | none => rw [hg] at h; cases h
    | some q =>
      obtain ⟨t1, B1, e1⟩ := q
      rw [hg] at h
      cases e1 with
      | some e =>
        cases h
        refine ⟨0, Nat.zero_le _, fun i hi => absurd hi (Nat.not_lt_zero _), (fun q => by cases q), fun _ => ⟨Nat.succ_pos _, t, hg, ?_, ?_⟩⟩
        · rw [loopSt_shift hg]; simp [loopSt]
        · rw [loopSt_shift hg]; simp [loopSt]
      | none =>
        dsimp only at h
        cases hl : loopF g n B1 with
        | none => rw [hl] at h; cases h
        | some q =>
          obtain ⟨t2, B2, e2⟩ := q
          rw [hl] at h
          cases h
          obtain ⟨mc, h1, h2, h3, h4⟩ := loop_runs hl
          refine ⟨mc + 1, by omega, fun i hi => ?_, fun q => ?_, fun q => ?_⟩
          · cases i with
            | zero =>
              refine ⟨t1, ?_, ?_⟩
              · rw [loopSt_shift hg]; exact hg
              · rw [loopSt_shift hg]; simp [loopSt]
            | succ i =>
              obtain ⟨dt, a, b⟩ := h2 i (by omega)
              refine ⟨dt, ?_, ?_⟩
              · rw [loopSt_shift hg, loopSt_shift hg]; exact a
              · rw [loopSt_shift hg, loopSt_shift hg]
                dsimp only
                rw [b, List.append_assoc]
          · obtain ⟨e, b⟩ := h3 q
            exact ⟨by omega, by rw [loopSt_shift hg, b]⟩
          · obtain ⟨e, dt, a, b, c⟩ := h4 q
            refine ⟨by omega, dt, ?_, ?_, ?_⟩
            · rw [loopSt_shift hg]; exact a
            · rw [loopSt_shift hg, b]
            · rw [loopSt_shift hg, loopSt_shift hg]
              dsimp only
              rw [c, List.append_assoc]
variable {prog : Program} {w : World}
noncomputable def strD (l : List Nat) : D := .str (S l)
theorem walk_sig {r : FnRec} (h : fnRec "_law_walk" = some r) : Sig r ["stream", "parts", "places", "front", "told"] := by
  have hr : fnRec "_law_walk" = some _ := rfl
  cases Option.some.inj (h.symm.trans hr)
  exact ⟨fun pm cd doc vs h => by obtain ⟨a, b, c, d, e, rfl⟩ := len5 h; rfl, fun n p hp => by
      simp only [List.mem_cons, List.not_mem_nil, or_false] at hp
      rcases hp with rfl | rfl | rfl | rfl | rfl
      · exact .inl rfl
      · exact .inr ⟨rfl, rfl⟩
      · exact .inl rfl
      · exact .inl rfl
      · exact .inl rfl, fun n p hp => nd_self (by rfl) p hp, rfl, rfl, rfl, rfl⟩
end Mine
end
section
open PySem PySem.Calls PyProof.Rows PySem.W
set_option maxRecDepth 100000
set_option linter.all false
set_option maxHeartbeats 1000000
namespace Mine
variable {prog : Program} {w : World}
noncomputable def walkTurn : List Stmt := match fnRec "_law_walk" with
  | some r => match r.body with
    | _ :: .For _ _ b _ _ :: _ => b
    | _ => []
  | none => []
theorem walk_turn {A : Around} {env : Env} {r : FnRec} {pm cd doc : Value} {L a : Addr} {rest : Ctx} {parts : List Pt} {pl : List Nat} {c : Nat} (hr : fnRec "_law_walk" = some r) (he : env = callEnvC (docDef r.name r.params r.body r.scope pm cd doc) L a) (okE : EnvOk env) (room : Room 2 A)
    (hpl : parts.length ≤ 60) (hpo : ∀ p ∈ parts, ∀ x, p = .ch x → x < 1114112) (hok : PlOk parts pl)
    (hp : List.lookup (Str.ofString "parts") rest = some (.data (partsL parts))) :
    ∃ Γ', Ex prog w A env (("sign", .data (.str (S [c]))) :: ("places", .data (natsL pl)) :: rest) walkTurn Γ' ∧ List.lookup (Str.ofString "places") Γ' = some (.data (natsL (fwStep parts pl c))) ∧
      ∀ y : Str, y ≠ "places" → y ≠ "fits" → y ≠ "sign" → List.lookup y Γ' = List.lookup y rest := by
  have hr' : fnRec "_law_walk" = some _ := rfl
  cases Option.some.inj (hr.symm.trans hr')
  have low := okE.lw
  have room1 : Room 1 A := room.le (by decide)
  have hlen := hok.len
  refine ⟨_, ex_cons (ex1_lc (out := (pl.filter (fitP parts c)).map natD) okE low (by rw [he]; rfl) ?_ (by rw [he]; rfl)) (ex_cons (ex1_assign (d := natsL (fwStep parts pl c)) okE low (.loc (by rw [he]; rfl)) ?_ (by rw [he]; rfl)) ex_nil), rfl, fun y h1 h2 h3 => ?_⟩
  · refine ⟨_, pl.map natD, intP (fun i => fitP parts c i.toNat), [("parts", .data (partsL parts)), ("sign", .data (.str (S [c])))], ⟨by rw [he]; with_unfolding_all rfl, rfl, by decide, by rw [he]; intro p hp; simp only [List.mem_cons, List.not_mem_nil, or_false] at hp; rcases hp with rfl | rfl <;> rfl, by intro n; rfl⟩,
      evi_list room.hd (ev_name okE rfl), fun C => ⟨⟨hp, .inl (by rw [he]; rfl), .inl (by rw [he]; rfl), ⟨_, rfl, by rw [he]; rfl⟩⟩, ⟨rfl, .inl (by rw [he]; rfl), .inl (by rw [he]; rfl), ⟨_, rfl, by rw [he]; rfl⟩⟩, trivial⟩, by simp,
      by rw [List.length_map]; exact Nat.le_trans (by omega) (show 100 ≤ sizeLine by decide), fun C okE' low' d hd => ?_, ?_, by intro _; rfl⟩
    · obtain ⟨k, hk, rfl⟩ := List.mem_map.mp hd
      exact turn_of (b := fitP parts c k) (bind_loc okE' low' (by rfl)) ⟨rfl, rfl, trivial⟩ (tstl_one (tst_fit okE' room1 (by rfl) (by decide +kernel) hpl hpo rfl rfl rfl)) (fun _ => EvX.of (ev_name okE' rfl)) rfl
    · rw [intP_nats]; rfl
  · obtain ⟨rc, hrc, Fc⟩ := f_closed (prog := prog) (w := w) (parts := parts) (places := sortN (parts.length + 1) (fwSet parts pl c)) (by omega) (by have := (sortN_ok (parts := parts) (ns := fwSet parts pl c)).len; omega)
    refine ev_call okE hrc (by decide) (by rw [he]; rfl) Fc room (.cons (ev_name okE hp) (by rfl) (.cons (ev_sortset (ns := fwSet parts pl c) okE room.hd (by rw [he]; rfl) ?_ fwSet_lt ?_ (by rfl)) (by rfl) .nil))
    · refine ⟨_, (pl.filter (fitP parts c)).map natD, fun d => match d with | .int i => ((nextP parts i.toNat : Nat) : Int) | _ => 0, [("parts", .data (partsL parts))], ⟨by rw [he]; with_unfolding_all rfl, rfl, by decide, by rw [he]; intro p hp; simp only [List.mem_singleton] at hp; subst hp; rfl, by intro n; rfl⟩,
        evi_list room.hd (ev_name okE rfl), fun C => ⟨⟨hp, .inl (by rw [he]; rfl), .inl (by rw [he]; rfl), ⟨_, rfl, by rw [he]; rfl⟩⟩, trivial⟩, by rw [List.length_map]; exact Nat.le_trans (List.length_filter_le _ _) (by omega), fun C okE' low' d hd => ?_, ?_, by intro _; rfl⟩
      · obtain ⟨k, hk, rfl⟩ := List.mem_map.mp hd
        have hfit := (List.mem_filter.mp hk).2
        have hlt : k < parts.length := by
          unfold fitP at hfit
          simp only [Bool.and_eq_true, decide_eq_true_eq] at hfit
          exact hfit.1
        refine ⟨_, bind_loc okE' low' (by rfl), ⟨rfl, trivial⟩, (ev_if (c := isNone (partD (parts.getD k .any))) (tst_cmp (ev_item (ev_name okE' rfl) (ev_name okE' rfl) (by omega) (part_at hlt) (by omega)) ev_none op_isNone) (fun hq => ?_) fun hq => ?_)⟩
        · refine (ev_name okE' rfl).to ?_
          show natD k = D.int ((nextP parts k : Nat) : Int)
          unfold nextP
          cases hpt : parts.getD k .any with
          | star => rw [if_pos rfl]; rfl
          | any => rw [hpt] at hq; cases hq
          | ch x => rw [hpt] at hq; cases hq
        · refine (ev_bin (ev_name okE' rfl) ev_int op_add).to ?_
          show D.int ((k : Nat) + 1 : Int) = D.int ((nextP parts k : Nat) : Int)
          unfold nextP
          cases hpt : parts.getD k .any with
          | star => rw [hpt] at hq; cases hq
          | any => rw [if_neg (by simp)]; rfl
          | ch x => rw [if_neg (by simp)]; rfl
      · rw [List.map_map]
        unfold fwSet
        rw [List.map_map]
        rfl
    · unfold fwSet
      rw [List.length_map]
      exact Nat.lt_of_le_of_lt (List.length_filter_le _ _) (by omega)
  · rw [List.lookup_cons, List.lookup_cons, List.lookup_cons, List.lookup_cons]
    rw [beq_eq_false_iff_ne.mpr h1, beq_eq_false_iff_ne.mpr h2, beq_eq_false_iff_ne.mpr h3]
end Mine
end
section
open PySem PySem.Calls PyProof.Rows PySem.W
set_option maxRecDepth 100000
set_option linter.all false
set_option maxHeartbeats 1000000
namespace Mine
variable {prog : Program} {w : World}
noncomputable def WkOk (g : List Nat → Option Wk) : Prop := ∀ B t B' er, g B = some (t, B', er) → B' <:+ B ∧ t.length + B'.length ≤ B.length
theorem loopF_ok {g : List Nat → Option Wk} (hg : WkOk g) : ∀ n, WkOk (loopF g n)
  | 0, B, t, B', er, h => by unfold loopF at h; cases h; exact ⟨List.suffix_refl _, by simp⟩
  | n + 1, B, t, B', er, h => by
    unfold loopF at h
    cases q : g B with
    | none => rw [q] at h; cases h
    | some z =>
      obtain ⟨t1, B1, e1⟩ := z
      obtain ⟨a, b⟩ := hg _ _ _ _ q
      rw [q] at h
      cases e1 with
      | some e => cases h; exact ⟨a, b⟩
      | none =>
        dsimp only at h
        cases q2 : loopF g n B1 with
        | none => rw [q2] at h; cases h
        | some z =>
          obtain ⟨t2, B2, e2⟩ := z
          obtain ⟨a2, b2⟩ := loopF_ok hg n _ _ _ _ q2
          rw [q2] at h
          cases h
          exact ⟨a2.trans a, by rw [List.length_append]; omega⟩
theorem walkF_ok {parts : List Pt} : ∀ f pl front, WkOk (walkF parts f pl front)
  | 0, pl, front, B, t, B', er, h => by unfold walkF at h; cases h
  | f + 1, pl, front, B, t, B', er, h => by
    unfold walkF at h
    cases B with
    | nil => cases h; exact ⟨List.suffix_refl _, by simp⟩
    | cons n B1 =>
      dsimp only at h
      split at h
      · cases h
      · split at h
        · cases h
          exact ⟨List.nil_suffix, by simp⟩
        · rename_i h4
          have hs : B1.drop 4 <:+ n :: B1 := (List.drop_suffix 4 B1).trans (List.suffix_cons _ _)
          cases hd : B1.drop 4 with
          | nil => rw [hd] at h; cases h; exact ⟨List.nil_suffix, by simp⟩
          | cons many B2 =>
            rw [hd] at h hs
            dsimp only at h
            cases q : loopF (walkF parts f (fwAll parts pl (B1.take 4)) (front ++ B1.take 4)) many B2 with
            | none => rw [q] at h; cases h
            | some z =>
              obtain ⟨t2, B3, e2⟩ := z
              rw [q] at h
              cases h
              obtain ⟨a, b⟩ := loopF_ok (walkF_ok f _ _) many _ _ _ _ q
              refine ⟨a.trans ((List.suffix_cons _ _).trans hs), ?_⟩
              have hl := hs.length_le
              have h1 : (if (many == 0 && (fwAll parts pl (B1.take 4)).contains parts.length) = true then [front ++ B1.take 4] else []).length ≤ 1 := by split <;> simp
              rw [List.length_append]
              simp only [List.length_cons] at hl ⊢
              omega
theorem loopSt_ok {g : List Nat → Option Wk} (hg : WkOk g) (B : List Nat) : ∀ i, (loopSt g B i).2 <:+ B ∧ (loopSt g B i).1.length + (loopSt g B i).2.length ≤ B.length
  | 0 => ⟨List.suffix_refl _, by simp [loopSt]⟩
  | i + 1 => by
    obtain ⟨a, b⟩ := loopSt_ok hg B i
    rw [loopSt]
    cases q : g (loopSt g B i).2 with
    | none => exact ⟨a, b⟩
    | some z =>
      obtain ⟨t, B', e⟩ := z
      obtain ⟨a2, b2⟩ := hg _ _ _ _ q
      exact ⟨a2.trans a, by dsimp only; rw [List.length_append]; omega⟩
theorem f_walk {m : Sm} {acc : Addr} {parts : List Pt} (so : SmOk m [acc]) (hacc : acc ∉ m.Y) (ta : topLine ≤ acc) (hpl : parts.length ≤ 60) (hpo : ∀ p ∈ parts, ∀ x, p = .ch x → x < 1114112) :
    ∃ r, fnRec "_law_walk" = some r ∧ ∀ f pl front B ds t B' er, walkF parts f pl front B = some (t, B', er) → PlOk parts pl → (∀ b ∈ B, b < 128) → B.length < 100000 → front.length + 4 * f ≤ 1000 → ds.length + B.length ≤ 200000 →
      FnF prog w (f + 3) r [.val (.ref m.st), .data (partsL parts), .data (natsL pl), .data (.str (S front)), .val (.ref acc)] (m.X ++ [acc]) (m.Y ++ [acc]) (SP m B (AccP acc ds)) .none (SP m B' (AccP acc (ds ++ t.map strD))) er := by
  refine ⟨_, rfl, fun f => ?_⟩
  induction f with
  | zero => intro pl front B ds t B' er h; unfold walkF at h; cases h
  | succ f ih =>
  intro pl front B ds t B' er hw hok h128 hBl hfr hds
  have hXY : ∀ a ∈ m.X ++ [acc], a ∈ m.Y ++ [acc] := fun a ha => by
    rcases List.mem_append.mp ha with h | h
    · exact SmOk.XY (Y' := [acc]) a h
    · exact List.mem_append.mpr (.inr h)
  have hXX : ∀ a ∈ m.X, a ∈ m.X ++ [acc] := fun a ha => List.mem_append.mpr (.inl ha)
  have sbA : ∀ ds, Stab [acc] (AccP acc ds) := fun ds => AccP.stab (.head _)
  have sbP : ∀ {B ds}, Stab (m.Y ++ [acc]) (SP m B (AccP acc ds)) := fun {B ds} => SP.stab (sbA ds)
  refine fnF_of (walk_sig rfl) rfl hXY sbP fun A env l pm cd doc L a he sd room hfrm => ?_
  have okE := sd.okE
  have room3 : Room 3 A := room.le (by omega)
  have room2 : Room 2 A := room.le (by omega)
  have room1 : Room 1 A := room.le (by omega)
  unfold walkF at hw
  cases B with
  | nil =>
    cases hw
    obtain ⟨rs, hrs, Fs⟩ := f_s1_end (prog := prog) (w := w) (m := m) so (sbA ds)
    rw [List.map_nil, List.append_nil]
    exact exf_subE (exf_fail (exf1_call sd hfrm sbP sbP (.loc (by rw [he]; rfl)) hrs (by decide) (by rw [he]; rfl) (fnF_wide hXX (Fs .none)) room3 (.cons (evS_val okE rfl) (by rfl) .nil) (by rw [he]; rfl))) trivial
  | cons n B1 =>
  dsimp only at hw
  split at hw
  · cases hw
  rename_i hn4
  have hn4 : n = 4 := Classical.byContradiction hn4
  subst hn4
  have hs1 : small B1 := fun b hb => Nat.lt_trans (h128 b (.tail _ hb)) (by decide)
  split at hw
  · rename_i hsh
    cases hw
    obtain ⟨rs, hrs, Fs⟩ := f_s1_short (prog := prog) (w := w) (m := m) (B := B1) so (sbA ds) hsh
    rw [List.map_nil, List.append_nil]
    exact exf_subE (exf_fail (exf1_call sd hfrm sbP sbP (.loc (by rw [he]; rfl)) hrs (by decide) (by rw [he]; rfl) (fnF_wide hXX (Fs .none)) room3 (.cons (evS_val okE rfl) (by rfl) .nil) (by rw [he]; rfl))) trivial
  rename_i hsh
  have h4 : 4 ≤ B1.length := by omega
  have hB1 : B1.length < 100000 := by simp at hBl; omega
  obtain ⟨rs, hrs, Fs⟩ := f_s1 (prog := prog) (w := w) (m := m) (B := B1) so (sbA ds) hs1 hB1 h4
  have hname : (B1.take 4).length = 4 := by rw [List.length_take]; omega
  have hn128 : ∀ c ∈ B1.take 4, c < 128 := fun c hc => h128 c (.tail _ (List.mem_of_mem_take hc))
  generalize hnm : B1.take 4 = name at *
  have hB2 : ∀ b ∈ B1.drop 4, b < 128 := fun c hc => h128 c (.tail _ (List.mem_of_mem_drop hc))
  have hBl2 : (B1.drop 4).length + 4 = B1.length := by rw [List.length_drop]; omega
  -- name = read_string1(stream)
  refine exf_cons (Γ1 := [("name", .data (.str (S name))), ("stream", .val (.ref m.st)), ("parts", .data (partsL parts)), ("places", .data (natsL pl)), ("front", .data (.str (S front))), ("told", .val (.ref acc))]) (P1 := SP m (B1.drop 4) (AccP acc ds)) sd
    (exf1_subE (exf1_call sd (fun h => absurd rfl h) sbP sbP (.loc (by rw [he]; rfl)) hrs (by decide) (by rw [he]; rfl) (fnF_wide hXX Fs) room3 (.cons (evS_val okE rfl) (by rfl) .nil) (by rw [he]; rfl)) trivial) ?_
  -- for sign in name
  let rest : Ctx := [("name", .data (.str (S name))), ("stream", .val (.ref m.st)), ("parts", .data (partsL parts)), ("front", .data (.str (S front))), ("told", .val (.ref acc))]
  let C : Nat → Ctx := fun i => ("places", .data (natsL (fwAll parts pl (name.take i)))) :: rest
  refine exf_cons (Γ1 := C 4) (P1 := SP m (B1.drop 4) (AccP acc ds)) sd (exf1_of sd sbP ?_) ?_
  · have hf := ex1_for (prog := prog) (w := w) (A := A) (env := env) (Γ := [("name", .data (.str (S name))), ("stream", .val (.ref m.st)), ("parts", .data (partsL parts)), ("places", .data (natsL pl)), ("front", .data (.str (S front))), ("told", .val (.ref acc))]) (x := "sign") (p := ⟨169, 8, 169, 12⟩) (pos := ⟨169, 4, 171, 93⟩) (iter := .Name "name" ⟨169, 16, 169, 20⟩) (body := walkTurn) (ds := name.map fun c => D.str (S [c])) C okE sd.low (.cell (by rw [he]; rfl) (by rw [he]; rfl))
      (evi_str room.hd (ev_name okE rfl) hn128) ⟨rfl, rfl, rfl, rfl, rfl, rfl, trivial⟩ (fun i d hd => ?_) (by intro _; rfl)
    · rw [List.length_map, hname] at hf
      exact hf
    · rw [List.getElem?_map] at hd
      obtain ⟨c, hc, rfl⟩ := Option.map_eq_some_iff.mp hd
      obtain ⟨hi, rfl⟩ := List.getElem?_eq_some_iff.mp hc
      obtain ⟨Γ', hex, hpl', hoth⟩ := walk_turn (prog := prog) (w := w) (A := A) (env := env) (rest := rest) (c := name[i]) (pl := fwAll parts pl (name.take i)) rfl he okE room2 hpl hpo (fwAll_ok hok) rfl
      refine ex_sub hex ⟨?_, ?_, ?_, ?_, ?_, ?_, trivial⟩
      · rw [fwAll_take hi]; exact hpl'
      · exact (hoth "name" (by decide) (by decide) (by decide)).trans rfl
      · exact (hoth "stream" (by decide) (by decide) (by decide)).trans rfl
      · exact (hoth "parts" (by decide) (by decide) (by decide)).trans rfl
      · exact (hoth "front" (by decide) (by decide) (by decide)).trans rfl
      · exact (hoth "told" (by decide) (by decide) (by decide)).trans rfl
  have hC4 : fwAll parts pl (name.take 4) = fwAll parts pl name := by rw [List.take_of_length_le (by omega)]
  generalize hpl2 : fwAll parts pl name = pl2 at *
  have hok2 : PlOk parts pl2 := hpl2 ▸ fwAll_ok hok
  -- many = read_uint1(stream)
  cases hdr : B1.drop 4 with
  | nil =>
    rw [hdr] at hw
    cases hw
    obtain ⟨ru, hru, Fu⟩ := f_u1_end (prog := prog) (w := w) (m := m) so (sbA ds)
    rw [List.map_nil, List.append_nil]
    exact exf_subE (exf_fail (exf1_call sd hfrm sbP sbP (.loc (by rw [he]; rfl)) hru (by decide) (by rw [he]; rfl) (fnF_wide hXX (Fu .none)) room2 (.cons (evS_val okE rfl) (by rfl) .nil) (by rw [he]; rfl))) trivial
  | cons many B2 =>
  rw [hdr] at hw hB2 hBl2
  dsimp only at hw
  have hm128 : many < 128 := hB2 many (.head _)
  have hl2 : B2.length + 5 = B1.length := by simp at hBl2; omega
  obtain ⟨ru, hru, Fu⟩ := f_u1 (prog := prog) (w := w) (m := m) (c := many) (B := B2) so (sbA ds) (by omega) (by omega)
  let t0 : List (List Nat) := if (many == 0 && pl2.contains parts.length) = true then [front ++ name] else []
  have ht0 : t0.length ≤ 1 := by show (if _ then _ else _ : List (List Nat)).length ≤ 1; split <;> simp
  let Γm : Ctx := ("many", .data (natD many)) :: C 4
  refine exf_cons (Γ1 := Γm) (P1 := SP m B2 (AccP acc ds)) sd (exf1_subE (exf1_call sd (fun h => absurd rfl h) sbP sbP (.loc (by rw [he]; rfl)) hru (by decide) (by rw [he]; rfl) (fnF_wide hXX Fu) room2 (.cons (evS_val okE rfl) (by rfl) .nil) (by rw [he]; rfl)) trivial) ?_
  have hplm : List.lookup (Str.ofString "places") Γm = some (.data (natsL pl2)) := by
    show some (Sl.data (natsL (fwAll parts pl (name.take 4)))) = _
    rw [hC4]
  have hds1 : ds.length + B1.length < 200000 := by simp at hds; omega
  have hsz : 200000 ≤ sizeLine := by decide
  -- if many == 0 and len(parts) in places
  refine exf_cons (Γ1 := Γm) (P1 := SP m B2 (AccP acc (ds ++ t0.map strD))) sd (exf1_if (c := (many == 0 && pl2.contains parts.length)) sd sbP
    (tst_to (tst_and (tst_cmp (ev_name (d := natD many) okE rfl) ev_int op_eqi) (fun _ => tst_cmp (ev_len okE (by rw [he]; rfl) (ev_name okE rfl) (by rfl) (by rw [List.length_map]; omega)) (ev_name okE hplm) (op_inN room1))) ?_) (fun hc => ?_) fun hc => ?_) ?_
  · rw [List.length_map]
    have : (((many : Nat) : Int) == 0) = (many == 0) := by
      rw [Bool.eq_iff_iff, beq_iff_eq, beq_iff_eq]; omega
    rw [this]
  · have e : t0 = [front ++ name] := if_pos hc
    rw [e]
    exact exf_cons sd (exf1_app sd (by simp) hacc ta rfl (ev_bin (ev_name okE rfl) (ev_name okE rfl) (op_cat (by omega))) (by rfl) (by omega) (by rfl) (by rfl) (by rw [he]; rfl) (by rw [he]; rfl)) exf_nil
  · have e : t0 = [] := if_neg (by rw [hc]; exact Bool.false_ne_true)
    rw [e, List.map_nil, List.append_nil]
    exact exf_nil
  -- for k in range(many)
  cases hq : loopF (walkF parts f pl2 (front ++ name)) many B2 with
  | none => rw [hq] at hw; cases hw
  | some z =>
  obtain ⟨t2, B3, e2⟩ := z
  rw [hq] at hw
  cases hw
  obtain ⟨mc, hmc, hturn, hnone, hsome⟩ := loop_runs hq
  have hgok : WkOk (walkF parts f pl2 (front ++ name)) := walkF_ok f _ _
  let PP : Nat → Sp := fun i => SP m (loopSt (walkF parts f pl2 (front ++ name)) B2 i).2 (AccP acc ((ds ++ t0.map strD) ++ (loopSt (walkF parts f pl2 (front ++ name)) B2 i).1.map strD))
  have rec1 : ∀ i dt e, walkF parts f pl2 (front ++ name) (loopSt (walkF parts f pl2 (front ++ name)) B2 i).2 = some (dt, (loopSt (walkF parts f pl2 (front ++ name)) B2 (i + 1)).2, e) → (loopSt (walkF parts f pl2 (front ++ name)) B2 (i + 1)).1 = (loopSt (walkF parts f pl2 (front ++ name)) B2 i).1 ++ dt → (e ≠ none → A.frames = some (env :: l)) → ∀ {Γ : Ctx}, Sub Γm Γ →
      ExF1 prog w A env l (m.X ++ [acc]) (m.Y ++ [acc]) Γ (PP i) (.Expr (.Call (.Name "_law_walk" ⟨176, 8, 176, 17⟩) [.Name "stream" ⟨176, 18, 176, 24⟩, .Name "parts" ⟨176, 26, 176, 31⟩, .Name "places" ⟨176, 33, 176, 39⟩, .BinOp (.Name "front" ⟨176, 41, 176, 46⟩) .Add (.Name "name" ⟨176, 49, 176, 53⟩) ⟨176, 41, 176, 53⟩, .Name "told" ⟨176, 55, 176, 59⟩] [] ⟨176, 8, 176, 60⟩) ⟨176, 8, 176, 60⟩) Γ (PP (i + 1)) [] e := by
    intro i dt e h1 h2 hfe Γ hΓ
    obtain ⟨hsuf, hlen⟩ := loopSt_ok hgok B2 i
    have F := ih pl2 (front ++ name) _ ((ds ++ t0.map strD) ++ (loopSt (walkF parts f pl2 (front ++ name)) B2 i).1.map strD) dt _ e h1 hok2 (fun b hb => hB2 b (.tail _ (hsuf.subset hb))) (by have := hsuf.length_le; omega) (by rw [List.length_append]; omega) (by simp only [List.length_append, List.length_map]; omega)
    have eP : (ds ++ t0.map strD) ++ (loopSt (walkF parts f pl2 (front ++ name)) B2 i).1.map strD ++ dt.map strD = (ds ++ t0.map strD) ++ (loopSt (walkF parts f pl2 (front ++ name)) B2 (i + 1)).1.map strD := by
      rw [h2, List.map_append, List.append_assoc (ds ++ _)]
    rw [eP] at F
    have lk := fun x sl h => Sub.of hΓ x sl h
    exact exf1_subE (exf1_callx sd hfe sbP rfl (by decide) (by rw [he]; rfl) F room (.cons (evS_val okE (lk _ _ rfl)) (by rfl) (.cons (evS_of (ev_name okE (lk _ _ rfl))) (by rfl) (.cons (evS_of (ev_name okE (lk _ _ hplm))) (by rfl) (.cons (evS_of (ev_bin (ev_name okE (lk _ _ rfl)) (ev_name okE (lk _ _ rfl)) (op_cat (by omega)))) (by rfl) (.cons (evS_val okE (lk _ _ rfl)) (by rfl) .nil))))) (by rw [he]; rfl) (by rw [he]; rfl)) trivial
  have hP0 : SP m B2 (AccP acc (ds ++ t0.map strD)) = PP 0 := by
    show _ = SP m B2 (AccP acc ((ds ++ t0.map strD) ++ [].map strD))
    rw [List.map_nil, List.append_nil]
  have sub2 : Sub Γm Γm := ⟨rfl, rfl, rfl, rfl, rfl, rfl, rfl, trivial⟩
  have subk : ∀ {v : Sl}, Sub Γm (("k", v) :: Γm) := ⟨rfl, rfl, rfl, rfl, rfl, rfl, rfl, trivial⟩
  have hrl : ((List.range many).map natD).length = many := by rw [List.length_map, List.length_range]
  have hf := exf1_for (prog := prog) (w := w) (A := A) (env := env) (l := l) (X := m.X ++ [acc]) (Y := m.Y ++ [acc]) (er := er) (Γ := Γm) (Γe := []) (P := SP m B2 (AccP acc (ds ++ t0.map strD))) (x := "k") (p := ⟨175, 8, 175, 9⟩) (pos := ⟨175, 4, 176, 60⟩)
    (iter := .Call (.Name "range" ⟨175, 13, 175, 18⟩) [.Name "many" ⟨175, 19, 175, 23⟩] [] ⟨175, 13, 175, 24⟩)
    (body := [.Expr (.Call (.Name "_law_walk" ⟨176, 8, 176, 17⟩) [.Name "stream" ⟨176, 18, 176, 24⟩, .Name "parts" ⟨176, 26, 176, 31⟩, .Name "places" ⟨176, 33, 176, 39⟩, .BinOp (.Name "front" ⟨176, 41, 176, 46⟩) .Add (.Name "name" ⟨176, 49, 176, 53⟩) ⟨176, 41, 176, 53⟩, .Name "told" ⟨176, 55, 176, 59⟩] [] ⟨176, 8, 176, 60⟩) ⟨176, 8, 176, 60⟩])
    (ds := (List.range many).map natD) (fun _ => Γm) PP mc sd (.loc (by rw [he]; rfl)) (fun i => sbP) (evi_rangeN okE room.hd (ev_name okE rfl) (by rfl) (by omega) (by rw [he]; rfl)) sub2 hP0 (by rw [hrl]; exact hmc) (fun h => by rw [hrl]; exact (hsome h).1) (fun h => by rw [hrl]; exact (hnone h).1)
    (fun i d hi hd => by
      obtain ⟨dt, a, b⟩ := hturn i hi
      exact exf_sub (exf_cons sd (rec1 i dt none a b (fun h => absurd rfl h) subk) exf_nil) subk)
    (fun hne d hd => by
      obtain ⟨_, dt, a, b, c⟩ := hsome hne
      have a' : walkF parts f pl2 (front ++ name) (loopSt (walkF parts f pl2 (front ++ name)) B2 mc).2 = some (dt, (loopSt (walkF parts f pl2 (front ++ name)) B2 (mc + 1)).2, er) := by rw [b]; exact a
      cases er with
      | none => exact absurd rfl hne
      | some msg => exact exf_fail (rec1 mc dt (some msg) a' c hfrm subk))
    (by intro _; rfl)
  cases er with
  | none =>
    obtain ⟨e1, e2⟩ := hnone rfl
    rw [if_pos rfl, hrl] at hf
    have e3 : PP many = SP m B' (AccP acc (ds ++ (t0 ++ t2).map strD)) := by
      show SP m (loopSt _ B2 many).2 _ = _
      rw [← e1, e2, List.map_append, ← List.append_assoc]
    rw [e3] at hf
    exact exf_sub (exf_cons sd hf exf_nil) trivial
  | some msg =>
    obtain ⟨_, dt, a, b, c⟩ := hsome (by simp)
    rw [if_neg (by simp)] at hf
    have e3 : PP (mc + 1) = SP m B' (AccP acc (ds ++ (t0 ++ t2).map strD)) := by
      show SP m (loopSt _ B2 (mc + 1)).2 (AccP acc (_ ++ (loopSt _ B2 (mc + 1)).1.map strD)) = _
      rw [b, List.map_append, ← List.append_assoc]
    rw [e3] at hf
    exact exf_fail hf
end Mine
end
section
open PySem PySem.Calls PyProof.Rows PySem.W
set_option maxRecDepth 100000
set_option linter.all false
set_option maxHeartbeats 1000000
namespace Mine
variable {prog : Program} {w : World}
theorem units_make (C : Addr) (vals : List Value) : Code.cUnits (.builtin "type.__call__" ⟨.ref C :: vals, []⟩) ≤ 4 := by
  exact Nat.le_of_ble_eq_true rfl
theorem Room.make {k : Nat} {A : Around} {C : Addr} {vals : List Value} (r : Room (k + 1) A) : Room k (A.under (.builtin "type.__call__" ⟨.ref C :: vals, []⟩)) :=
  ⟨r.hd, by
    have := r.depth
    rw [depth_under_make]; omega, by
    have := r.units
    have h := units_make C vals
    show A.units + Code.cUnits (.builtin "type.__call__" ⟨.ref C :: vals, []⟩) + 100 * k < 9900
    omega⟩
/-- an object's own dict, and the object, as they are first laid -/
abbrev dict0 : Obj := { cls := .type "dict", data := .dict #[] }
abbrev inst0 (C dx : Addr) : Obj := { cls := .ref C, dict := some dx, data := .plain }
/-- an object is made at the heap's end -/
theorem make_obj {A : Around} {E : Value → Shared → Prop} {h : Heap} {g : Array GenState} {d : Drawn} {t : Nat} {os : OsState} {nm q : Str} {C N : Addr} {bs : List Value} {sn : List Str} {sub : List Value} {col : Option Bool} {dd : Option Addr} {k0 k1 k2 k3 k5 : Option Value}
    {mN : Str → Option Value} {rest : List Value} {fI : Addr} {oI : Obj} {Q : Value → Shared → Prop}
    (hC : h.get? C = some (excClassObj nm q C N bs [.type "object"] true sn sub false col dd k0 k1 k2 k3 k5 "object.__new__")) (hn : h.Ns N mN) (hi : mN "__init__" = some (.ref fI)) (hfI : h.get? fI = some oI) (hfc : oI.cls = .type "function")
    (hq : wpAny (model prog w) (A.under (.builtin "type.__call__" ⟨.ref C :: rest, []⟩)) (call (.ref fI) (.ref (h.objs.size + 1) :: rest)) (fun r s' => r = .none ∧ Q (.ref (h.objs.size + 1)) s') E ⟨(h.push dict0).push (inst0 C h.objs.size), g, d, t, os⟩) :
    wpAny (model prog w) A (call (.ref C) rest) Q E ⟨h, g, d, t, os⟩ := by
  have f1 := tc_lookup
  have f2 := tc_bind (.ref C)
  have hT : (⟨h, g, d, t, os⟩ : Shared).TypeIs (.ref C) "type" := ⟨_, hC, rfl⟩
  have up : ∀ b o, h.get? b = some o → ((h.push dict0).push (inst0 C h.objs.size)).get? b = some o := fun b o e => Heap.get?_push_of_some _ (Heap.get?_push_of_some _ e)
  have hx : ((h.push dict0).push (inst0 C h.objs.size)).get? (h.objs.size + 1) = some (inst0 C h.objs.size) := by
    have := Heap.get?_push_size (h.push dict0) (o := inst0 C h.objs.size) rfl
    rw [Heap.size_push] at this
    exact this
  refine wpAny_call (codeAny_of_tree ?_)
  show wpAny _ _ (callAny (.ref C) _) _ _ _
  repeat (any_goals (first | assumption | with_reducible refine wpAny_loadPart_at hC ?_ | wp_step))
  refine ⟨rfl, ?_⟩
  refine codeAny_call_builtin_at (Code.quiet_builtin _ (by decide +kernel)) entry_typeCall (wpAny_check_type_call_sub hC ?_)
  repeat (first | with_reducible refine wpAny_loadPart_at hC ?_ | with_reducible refine wpAny_madeBy_exc hC ?_ | wp_step)
  refine codeAny_call_builtin_code (Code.quiet_builtin _ PySem.F.objNew.quiet) (wpAny_check_obj_new PySem.F.objNew hC ?_)
  refine codeAny_obj_new PySem.F.objNew hC hn hi ?_
  show wpAny _ _ _ _ _ _
  have hmro : mroOf (.type "object") = pure [.type "object"] := by kernel_rfl
  have hlk : typeLookup (.type "object") "__init__" = pure (some (.builtin "object.__init__")) := by rw [typeLookup_type, builtinLookup_eq_fast]; kernel_rfl
  have hself : (Value.ref C :: [Value.type "object"]).contains (.ref C) = true := by simp
  unfold isInstance
  repeat (first | with_reducible refine wpAny_loadPart_at hx ?_ | (with_reducible refine wpAny_isSubtype_exc (up _ _ hC) ?_; rw [hself]) | wp_step)
  show wpAny _ _ (typeLookup (.ref C) _) _ _ _
  refine wpAny_typeLookup_exc (up _ _ hC) (hn.keeps up) hmro hlk ?_
  rw [hi]
  refine wpAny_holding (wpAny_bind ?_)
  unfold bindSpecial
  refine wpAny_bind (wpAny_typeOf (T := "function") ⟨_, up _ _ hfI, hfc⟩ ?_)
  rw [if_pos (by decide)]
  refine wpAny_pure (wpAny_bind (wpAny_mono hq (fun r s' hr => ?_) fun _ _ x => x))
  obtain ⟨rfl, hQ⟩ := hr
  wp_walk
  exact hQ
theorem Wd.tabLive {h : Heap} (W : Wd h) {c' : Addr} {a b : Value} (e : h.get? tabP = some (tabObj #[a, b, .ref c'])) : ∃ o, h.get? c' = some o := by
  obtain ⟨_, _, _, _, _, _, ps, ep, q⟩ := W
  have e2 := congrArg (fun o : Obj => o.data) (Option.some.inj (ep.symm.trans e))
  injection e2 with e3
  rcases q with rfl | ⟨c2, rfl, _, o, _, _, e4, e5, _⟩
  · have := congrArg Array.size e3; simp at this
  · have e6 := congrArg (fun v : Array Value => v[2]?) e3
    simp at e6
    cases e4
    rw [← e6]; exact ⟨o, e5⟩
/-- a new stream: its value is stored -/
theorem make_stream {A : Around} {s : Shared} {E : Value → Shared → Prop} {Q : Value → Shared → Prop} {B : List Nat} {t : Tok} {ok : Addr → Prop} (room : Room 2 A) (W : Wd s.heap) (N : Fresh ok s.heap)
    (hQ : ∀ st dx mA s', s.heap.get? st = none → s.heap.get? dx = none → topLine ≤ st → topLine ≤ dx → InstP st dx mA s'.heap → PySem.Within mA ["value", "read"] → mA "value" = some (.bytes (By B) t) → Keeps s s' → Q (.ref st) s') :
    wpAny (model prog w) A (call (.ref clsP) [.bytes (By B) t]) Q E s := by
  obtain ⟨h0, g, d, tk, os⟩ := s
  obtain ⟨mg, mb, a1, a2, a3, a4, a5, a6, _⟩ := W.glob
  obtain ⟨Nn, mN, fI, oI, pmI, cdI, docI, rI, XC, e1, e2, e3, e4, e5, e6, n1, n2, n3, n4, n5⟩ := a6.cls.2.of
  obtain ⟨nm, q', bs, sn, sub, col, dd, k0, k1, k2, k3, k5, hC⟩ := XC.obj
  have hr : initRec = some _ := rfl
  cases Option.some.inj (e2.symm.trans hr)
  have x1 : Ext h0 ((h0.push dict0).push (inst0 clsP h0.objs.size)) := fun b o e => Heap.get?_push_of_some _ (Heap.get?_push_of_some _ e)
  have hx : ((h0.push dict0).push (inst0 clsP h0.objs.size)).get? (h0.objs.size + 1) = some (inst0 clsP h0.objs.size) := by
    have := Heap.get?_push_size (h0.push dict0) (o := inst0 clsP h0.objs.size) rfl
    rw [Heap.size_push] at this
    exact this
  have hdx : ((h0.push dict0).push (inst0 clsP h0.objs.size)).get? h0.objs.size = some dict0 := Heap.get?_push_of_some _ (Heap.get?_push_size _ rfl)
  have top : topLine ≤ h0.objs.size := W.top
  have nx : h0.get? (h0.objs.size + 1) = none := Heap.get?_none_of_le (Nat.le_succ _)
  have nd : h0.get? h0.objs.size = none := Heap.get?_none_of_le (Nat.le_refl _)
  refine make_obj hC XC.ns e1 e3 e4 ?_
  have W1 : Wd ((h0.push dict0).push (inst0 clsP h0.objs.size)) := W.ext x1
  refine wpAny_call ?_
  refine enterN (s := ⟨_, g, d, tk, os⟩) (k := 0) (binds := [("self", .ref (h0.objs.size + 1)), ("value", .bytes (By B) t)]) room.make W1 (x1 _ _ e3) e5 (e6.keeps x1) rfl (.of_eq (by rfl)) (noCell (by rfl)) (by intro y hy; simp only [List.mem_cons, List.not_mem_nil, or_false] at hy; rcases hy with rfl | rfl <;> rfl) rfl rfl .nil (by intro p hp; cases hp) (by intro p hp; cases hp) rfl rfl rfl fun s₁ env he okE low hnew kp W2 hns hroom => ?_
  refine wpAny_noRaise ?_
  have x2 := kp_ext kp
  have g2 : Gd ok env [("self", .val (.ref (h0.objs.size + 1))), ("value", .data (.bytes (By B)))] s₁.heap := ⟨W2, (N.ext x1).ext x2, fm_two hns (by rw [he]; rfl) (by decide) (by rw [he]; rfl) (by rw [he]; rfl) rfl (.bytes _ _)⟩
  generalize hA : Around.deeper _ env = A1 at hroom ⊢
  have I0 : InstP (h0.objs.size + 1) h0.objs.size (fun _ => none) s₁.heap := ⟨_, x2 _ _ hx, rfl, fun c => by simp, rfl, Nat.ne_of_lt (Nat.lt_succ_self _), (Heap.Ns1.of_empty ⟨_, #[], _, hdx, rfl, fun e he => absurd he (by simp), fun _ => rfl⟩).at fun o e => x2 _ _ e⟩
  refine wpAny_execs_cons (plainObj_wpAny_Assign_Attribute (wpAny_Name (wpAny_loadName_local (v := .bytes (By B) t) okE.kind (by rw [he]; rfl) hns rfl ?_) (by decide)) (by rw [he]; rfl))
  refine nm_val (u := .ref (h0.objs.size + 1)) okE g2.F rfl ?_
  have htab : ∀ c' : Addr, s₁.heap.get? tabP = some (tabObj #[rawInt 141, rawInt 4, .ref c']) → c' ≠ h0.objs.size + 1 := fun c' e q => by
    obtain ⟨o, eo⟩ := W2.tabLive e
    obtain ⟨o', eo'⟩ := W.tabLive (c' := c') (by
      obtain ⟨_, _, _, _, _, _, ps, ep, _⟩ := id W
      have := x2 _ _ (x1 _ _ ep)
      rw [this] at e
      rw [← e]; exact ep)
    rw [q, nx] at eo'; cases eo'
  refine set_attr W2 I0 (fun n hn => absurd rfl hn) (Nat.le_succ_of_le top) top htab (.inl rfl) fun s3 I3 k3 W3 => wpAny_execs_nil ⟨rfl, ?_⟩
  refine hQ _ _ _ s3 nx nd (Nat.le_succ_of_le top) top I3 (fun y hy => ?_) (by simp) ?_
  · by_cases q : y = "value"
    · rw [q]; exact .head _
    · exact absurd (if_neg q) hy
  · have kk := k3.kept
    exact kp_sh (sh_trans ⟨_, _, _, rfl⟩ (sh_trans (sh_kp kp) (sh_kb k3))) fun b o e => kk b o (fun z => by
      simp only [List.mem_cons, List.not_mem_nil, or_false] at z
      rcases z with rfl | rfl
      · rw [nx] at e; cases e
      · rw [nd] at e; cases e) (x2 _ _ (x1 _ _ e))
end Mine
end
section
open PySem PySem.Calls PyProof.Rows PySem.W
set_option maxRecDepth 100000
set_option linter.all false
set_option maxHeartbeats 1000000
namespace Mine
variable {prog : Program} {w : World}
theorem Wd.tabbed {h h' : Heap} (W : Wd h) (k : ∀ b o, b ≠ tabP → h.get? b = some o → h'.get? b = some o) {c' : Addr} (t : h'.get? tabP = some (tabObj #[rawInt 141, rawInt 4, .ref c'])) (c : h'.CodeRec (.ref c') "_law_stream.<locals>.read") : Wd h' := by
  obtain ⟨h0, c0, w0, l0, b0, y0, T⟩ := id W
  refine ⟨h0, c0, w0, l0, b0, fun b o e => k b o (l0 b o e).2 (y0 b o e), _, t, .inr ⟨c', rfl, c⟩⟩
theorem fn_inT {r : FnRec} {ps : List Str} {ds : List Sl} {k : Nat} {ok : Addr → Prop} {A : Around} {s : Shared} {a : Addr} {o : Obj} {pm cd doc : Value} {vs : List Value} {R : Result → Shared → Prop} (sg : Sig r ps) (hlen : ds.length = ps.length) (room : Room (k + 1) A) (N : Fresh ok s.heap) (W : Wd s.heap)
    (ho : s.heap.get? a = some o) (hd : o.data = .func (docDef r.name r.params r.body r.scope pm cd doc)) (hc : s.heap.CodeRec cd r.name) (rd : SlAll ok s.heap vs ds)
    (h : ∀ s₁ env L, env = callEnvC (docDef r.name r.params r.body r.scope pm cd doc) L a → EnvOk env → EnvLow env → (∀ b ∈ own env, s.heap.get? b = none) → Keeps s s₁ → Gd ok env (ps.zip ds) s₁.heap → Room k (A.deeper env) →
      wpAny (model prog w) (A.deeper env) (execs r.body env) (fun f s' => R (.ok (.ret (match f with | .ret v => v | _ => .none))) s')
        (fun e s' => wpAny (model prog w) (A.deeper env) (leaving env e) (fun _ s'' => R (.error e) s'') (fun e' s'' => R (.error e') s'') s') s₁) :
    codeAny (model prog w) A (.call (.ref a) ⟨vs, []⟩) R s := by
  have hvl : vs.length = ps.length := rd.length.trans hlen
  have kz : ∀ n, ∀ x ∈ ps.zip vs, r.scope.names.lookup x.1 = some .local ∨ (r.scope.names.lookup x.1 = some .cell ∧ ((cellsFrom n r.scope.names []).lookup x.1).isSome = true) :=
    fun n x hx => sg.kinds n x.1 (List.of_mem_zip (show (x.1, x.2) ∈ _ from hx)).1
  refine fn_enter room W ho hd hc (sg.bind pm cd doc vs hvl) kz sg.self sg.kind sg.co sg.gen fun s₁ env he okE low hown kp W₁ hF hroom => h s₁ env _ he okE low hown kp ⟨W₁, N.ext (kp_ext kp), ?_⟩ hroom
  obtain ⟨m, cm, hn, hcl, rfl, rfl⟩ := hF
  refine ⟨_, _, hn, hcl, fun x sl e => ?_⟩
  obtain ⟨v, hx, q1, q2, q3⟩ := zip_isS (kindOf := env.kindOf) (m := fun _ => none) (cm := fun _ => none) sg.apart rd e
  refine ⟨v, ?_, q1.lists (kp_ext kp).lists⟩
  rcases sg.kinds (s.heap.objs.size + 1) x hx with hl | ⟨hl, hs⟩
  · have hk : env.kindOf x = some .local := by rw [he]; exact hl
    exact .inl ⟨hk, q2 hk⟩
  · have hk : env.kindOf x = some .cell := by rw [he]; exact hl
    obtain ⟨c, hc⟩ := Option.isSome_iff_exists.mp hs
    exact .inr ⟨.inl hk, ⟨c, by rw [he]; exact hc⟩, q3 (by rw [hk]; decide)⟩
theorem InstP.keep {st dx : Addr} {mA : Str → Option Value} {h h' : Heap} (I : InstP st dx mA h) (k1 : ∀ o, h.get? st = some o → h'.get? st = some o) (k2 : ∀ o, h.get? dx = some o → h'.get? dx = some o) : InstP st dx mA h' :=
  let ⟨o, a, b, c, d, e, f⟩ := I; ⟨o, k1 _ a, b, c, d, e, f.at fun o e => k2 o e⟩
theorem none_of_ext {h h' : Heap} (x : Ext h h') {a : Addr} (e : h'.get? a = none) : h.get? a = none := by
  cases q : h.get? a with
  | none => rfl
  | some o => rw [x a o q] at e; cases e
/-- what is new of a stream -/
structure NewSm (m : Sm) (h : Heap) : Prop where
  new : ∀ a ∈ [m.st, m.dx, m.rf, m.cc], h.get? a = none
  low : ∀ a ∈ [m.st, m.dx, m.cc], topLine ≤ a
theorem stream_sig {r : FnRec} (h : fnRec "_law_stream" = some r) : Sig r ["tape"] := by
  have hr : fnRec "_law_stream" = some _ := rfl
  cases Option.some.inj (h.symm.trans hr)
  exact ⟨fun pm cd doc vs h => by obtain ⟨a, rfl⟩ := len1 h; rfl, fun n p hp => by simp only [List.mem_singleton] at hp; subst hp; exact .inl rfl, fun n p hp => nd_self (by rfl) p hp, rfl, rfl, rfl, rfl⟩
theorem stream_go {A : Around} {env : Env} {Γ : Ctx} {ok : Addr → Prop} {s : Shared} {E : Value → Shared → Prop} {Q : Value → Shared → Prop} {B : List Nat} {p q pos : Pos} (okE : EnvOk env) (room : Room 4 A) (hk : env.kindOf "_law_stream" = some .globalImplicit)
    (ht : List.lookup (Str.ofString "tape") Γ = some (.data (.bytes (By B)))) (g : Gd ok env Γ s.heap)
    (k : ∀ m s', Strm m B ok s'.heap → NewSm m s.heap → Wd s'.heap → Fresh ok s'.heap → KB [tabP] s s' → Q (.ref m.st) s') :
    wpAny (model prog w) A (eval (.Call (.Name "_law_stream" p) [.Name "tape" q] [] pos) env) Q E s := by
  obtain ⟨mg, mb, a1, a2, a3, a4, a5, a6, c, ⟨a, o, pm, doc, r, e1, e2, e3, e4, e5, e6⟩, hTab⟩ := g.W.glob
  have hr : fnRec "_law_stream" = some _ := rfl
  cases Option.some.inj (e1.symm.trans hr)
  refine wpAny_Call_Name_kw (Name_function_global okE.kind hk (loadGlobal_global (by rw [okE.glob]; exact a1) e2 ?_) (by decide))
  refine callWith_function (o := o) (args_go (.cons (ev_name okE ht) (by rfl) .nil) g fun vs s1 rv k1 g1 => ⟨⟨kp_ext k1 _ _ e3, e4⟩, wpAny_call ?_⟩)
  have x1 := kp_ext k1
  cases rv with
  | cons rv0 rvr => cases rvr with
  | nil =>
  rename_i v
  obtain ⟨tb, rfl⟩ := rv0.isBytes
  refine fn_inT (ds := [.data (.bytes (By B))]) (stream_sig rfl) rfl room g1.N g1.W (x1 _ _ e3) e4 (e5.keeps x1) (.cons (sl := .data (.bytes (By B))) rv0 .nil) fun s2 env2 L he okE2 low hown kp g2 hroom => ?_
  refine wpAny_noRaise ?_
  generalize hA : A.deeper env2 = A1 at hroom ⊢
  have hcells : env2.cells = [(Str.ofString "stream", L + 1)] := by rw [he]; rfl
  have hlk : env2.cells.lookup (Str.ofString "stream") = some (L + 1) := by rw [hcells]; rfl
  have hkc : env2.kindOf "stream" = some .cell := by rw [he]; rfl
  have x2 := kp_ext kp
  have hloc : env2.locals = L := by rw [he]; rfl
  -- stream = _Example(tape)
  obtain ⟨mg2, mb2, G2⟩ := g2.W.glob
  have b1 := G2.g
  have b6 := G2.more
  obtain ⟨Nn, mN, XC⟩ : ∃ Nn mN, ClsAt s2.heap clsP Nn mN := let ⟨Nn, mN, _, _, _, _, _, _, I⟩ := b6.cls.2.of; ⟨Nn, mN, I.cls⟩
  refine wpAny_execs_cons (wpAny_Assign_Name ?_ (by rw [he]; rfl))
  refine wpAny_Call_NameR (Name_function_global okE2.kind (by rw [he]; rfl) (loadGlobal_global (by rw [okE2.glob]; exact b1) b6.cls.1 ?_) (by decide))
  refine callWith_cls XC (wpAny_mono (evs_go (ds := [.bytes (By B)]) (.cons (ev_name okE2 rfl) (by rfl) .nil) ok s2 _ g2) (fun vs s3 q3 => ⟨kp_ext q3.2, ?_⟩) fun _ _ x => x) (by rfl) (by rfl)
  obtain ⟨rv3, k3⟩ := q3
  cases rv3 with
  | cons rv30 rv3r => cases rv3r with
  | nil =>
  obtain ⟨t3, rfl⟩ := rv30.isBytes
  have x3 := kp_ext k3
  refine make_stream (hroom.le (by decide)) (g2.W.ext x3) (g2.N.ext x3) fun st dx mA s4 n1 n2 l1 l2 I4 wi hv k4 => ?_
  have x4 := kp_ext k4
  have cell2 : ∃ v, s2.heap.IsCell (L + 1) v := by
    obtain ⟨m, cm, hn, hc, _⟩ := g2.F
    exact ⟨_, hc _ _ hlk⟩
  have loc2 : ∃ o, s2.heap.get? env2.locals = some o := by
    obtain ⟨m, cm, ⟨o, es, ep, e, _⟩, _⟩ := g2.F
    exact ⟨o, e⟩
  have hstc : ∀ b, s3.heap.get? b = none → b ≠ L + 1 ∧ b ≠ env2.locals := fun b hb => by
    constructor
    · rintro rfl
      obtain ⟨v, o, e, _⟩ := cell2
      rw [x3 _ _ e] at hb; cases hb
    · rintro rfl
      obtain ⟨o, e⟩ := loc2
      rw [x3 _ _ e] at hb; cases hb
  refine store_go okE2 low (.cell hkc hlk) (g2.ext (fun b o e => x4 _ _ (x3 _ _ e))) (sl := .val (.ref st)) rfl fun s5 g5 k5 l5 => ?_
  have htch : tch env2 "stream" = L + 1 := by unfold tch; rw [hkc, hlk]; rfl
  rw [htch] at k5
  have I5 : InstP st dx mA s5.heap := I4.keep (fun o e => k5.kept _ _ (mem1.mpr (hstc _ n1).1) e) (fun o e => k5.kept _ _ (mem1.mpr (hstc _ n2).1) e)
  have X02 : Ext s.heap s2.heap := fun b o e => x2 _ _ (x1 _ _ e)
  have X03 : Ext s.heap s3.heap := fun b o e => x3 _ _ (X02 _ _ e)
  have own1 : ∀ b o, s.heap.get? b = some o → b ≠ L + 1 ∧ b ≠ env2.locals := fun b o e => by
    constructor
    · rintro rfl
      have := hown (L + 1) (.tail _ (by rw [hcells]; exact .head _))
      rw [x1 _ _ e] at this; cases this
    · rintro rfl
      have := hown env2.locals (.head _)
      rw [x1 _ _ e] at this; cases this
  have X05 : Ext s.heap s5.heap := fun b o e => k5.kept _ _ (mem1.mpr (own1 b o e).1) (x4 _ _ (X03 _ _ e))
  have S05 : Sh s s5 := sh_trans (sh_kp k1) (sh_trans (sh_kp kp) (sh_trans (sh_kp k3) (sh_trans (sh_kp k4) (sh_kb k5))))
  -- def read
  have hrr : readRec = some _ := rfl
  have fin : ∀ (h' : Heap) (cr : Addr) (ctv doc : Value) (tk : Nat) (fo : Obj), (∀ b o, b ≠ tabP → s5.heap.get? b = some o → h'.get? b = some o) → h'.get? tabP = some (tabObj #[rawInt 141, rawInt 4, .ref cr]) → h'.CodeRec (.ref cr) "_law_stream.<locals>.read" → cr ≠ st →
      fo.cls = .type "function" → (∃ r, readRec = some r ∧ fo.data = .func (kdv_fn r.name "_law_stream.<locals>.read" r.params (.stmts r.body) r.scope [("stream", L + 1)] .none doc ((mg "__name__").getD .none) (.ref cr) ctv)) → fo.isFreed = false →
      ∀ {rest : List Stmt}, rest = [.Assign [.Attribute (.Name "stream" ⟨144, 4, 144, 10⟩) "read" ⟨144, 4, 144, 15⟩] (.Name "read" ⟨144, 18, 144, 22⟩) ⟨144, 4, 144, 22⟩, .Return (some (.Name "stream" ⟨145, 11, 145, 17⟩)) ⟨145, 4, 145, 17⟩] →
      wpAny (model prog w) A1 (storeName env2 "read" (.ref h'.objs.size)) (fun _ s'' => wpAny (model prog w) A1 (execs rest env2) (fun f s' => match (Except.ok (Flow.ret (match f with | .ret v => v | _ => Value.none)) : Result) with | .ok (.ret v) => Q v s' | .ok _ => False | .error e => E e s') (fun _ _ => False) s'') (fun _ _ => False) { s5 with heap := h'.push fo, toks := tk } := by
    intro h' cr ctv doc tk fo hk htb hrec hcrst hfc hfd hff rest hrest
    subst hrest
    have W6 : Wd h' := g5.W.tabbed hk htb hrec
    have N6 : Fresh ok h' := fun b eb => g5.N b (by
      cases q : s5.heap.get? b with
      | none => rfl
      | some o =>
        by_cases hb : b = tabP
        · rw [hb, htb] at eb; cases eb
        · rw [hk b o hb q] at eb; cases eb)
    have li6 : Lists ok s5.heap h' := fun b vs _ ⟨o, e, c1, n, d1⟩ => ⟨o, hk b o (g5.W.notTab e (by rw [d1]; trivial)) e, c1, n, d1⟩
    have g6 := g5.turn W6 N6 li6 (X := [tabP]) (fun b o hb e => hk b o (fun q => hb (by rw [q]; exact .head _)) e) (fun x hx => List.mem_singleton.mp hx)
    have g6' := g6.ext (fun b o e => Heap.get?_push_of_some fo e : Ext h' (h'.push fo))
    have hst6 : st ≠ tabP := fun q => absurd l1 (by rw [q]; decide)
    have hdx6 : dx ≠ tabP := fun q => absurd l2 (by rw [q]; decide)
    have I6 : InstP st dx mA (h'.push fo) := I5.keep (fun o e => Heap.get?_push_of_some _ (hk _ _ hst6 e)) (fun o e => Heap.get?_push_of_some _ (hk _ _ hdx6 e))
    have hfo : (h'.push fo).get? h'.objs.size = some fo := Heap.get?_push_size _ hff
    refine store_go (s := { s5 with heap := h'.push fo, toks := tk }) okE2 low (.loc (by rw [he]; rfl)) g6' (sl := .val (.ref h'.objs.size)) rfl fun s7 g7 k7 l7 => ?_
    have htl : tch env2 "read" = env2.locals := by unfold tch; rw [he]; rfl
    rw [htl] at k7
    have kk7 : ∀ b o, b ≠ env2.locals → (h'.push fo).get? b = some o → s7.heap.get? b = some o := fun b o hb e => k7.kept b o (mem1.mpr hb) e
    have I7 : InstP st dx mA s7.heap := I6.keep (fun o e => kk7 _ _ (hstc _ n1).2 e) (fun o e => kk7 _ _ (hstc _ n2).2 e)
    -- stream.read = read
    have htloc : tabP ≠ env2.locals := fun q => absurd (low.low _ (.head _)) (by rw [← q]; decide)
    have htab7 : s7.heap.get? tabP = some (tabObj #[rawInt 141, rawInt 4, .ref cr]) := kk7 _ _ htloc (Heap.get?_push_of_some _ htb)
    refine wpAny_execs_cons (plainObj_wpAny_Assign_Attribute (nm_val okE2 g7.F rfl (nm_val okE2 g7.F rfl ?_)) (by rw [he]; rfl))
    refine set_attr g7.W I7 wi l1 l2 (tab_one (m := ⟨st, dx, h'.objs.size, L + 1, cr⟩) ⟨htab7, hcrst⟩) (.inr rfl) fun s8 I8 k8 W8 => ?_
    have kk8 := k8.kept
    -- return stream
    obtain ⟨m7, cm7, hn7, hc7, hx7⟩ := g7.F
    obtain ⟨vS, hvS, rS⟩ := hx7 "stream" (.val (.ref st)) rfl
    cases (show vS = .ref st from rS)
    have hcm : cm7 "stream" = some (.ref st) := by
      rcases hvS with ⟨z, _⟩ | ⟨_, _, z⟩
      · rw [hkc] at z; cases z
      · exact z
    have hcell7 : s7.heap.IsCell (L + 1) (some (.ref st)) := hcm ▸ hc7 _ _ hlk
    have cst : L + 1 ≠ st := fun q => (hstc _ n1).1 q.symm
    have cdx : L + 1 ≠ dx := fun q => (hstc _ n2).1 q.symm
    have hcell8 : s8.heap.IsCell (L + 1) (some (.ref st)) := let ⟨o, e, d⟩ := hcell7; ⟨o, kk8 _ _ (fun z => by
      simp only [List.mem_cons, List.not_mem_nil, or_false] at z
      rcases z with z | z
      · exact cst z
      · exact cdx z) e, d⟩
    refine wpAny_execs_cons (wpAny_Return_some (wpAny_Name (wpAny_loadName_cell okE2.kind hkc hlk hcell8 ?_) (by decide)))
    have ns1 := none_of_ext X03 n1
    have ns2 := none_of_ext X03 n2
    have kk8' : ∀ b o, b ≠ st → b ≠ dx → s7.heap.get? b = some o → s8.heap.get? b = some o := fun b o h1 h2 e => kk8 b o (fun z => by
      simp only [List.mem_cons, List.not_mem_nil, or_false] at z
      rcases z with z | z
      · exact h1 z
      · exact h2 z) e
    obtain ⟨oS, eS, _, _, edx, _, ⟨oD, esD, epD, eD, dD, _⟩⟩ := id I5
    have eS6 := hk _ _ hst6 eS
    have eD6 := hk _ _ hdx6 eD
    have rst : h'.objs.size ≠ st := Nat.ne_of_gt (Heap.lt_size eS6)
    have rdx : h'.objs.size ≠ dx := Nat.ne_of_gt (Heap.lt_size eD6)
    obtain ⟨m6, cm6, ⟨oL, esL, epL, eL, dL, _⟩, _⟩ := id g6.F
    have rloc : h'.objs.size ≠ env2.locals := Nat.ne_of_gt (Heap.lt_size eL)
    obtain ⟨ca, oc, cvs, ctq, ce, cg, cdt, cv⟩ := id hrec
    cases ce
    have crdx : cr ≠ dx := fun q => by
      rw [q, eD6] at cg; cases cg
      rw [dD] at cdt; cases cdt
    have crloc : cr ≠ env2.locals := fun q => by
      rw [q, eL] at cg; cases cg
      rw [dL] at cdt; cases cdt
    obtain ⟨rr, hrr2, hfd2⟩ := hfd
    have kkS : ∀ b o, b ≠ tabP → s.heap.get? b = some o → s8.heap.get? b = some o := fun b o hb e => by
      refine kk8' b o ?_ ?_ (kk7 b o (own1 b o e).2 (Heap.get?_push_of_some _ (hk b o hb (X05 _ _ e))))
      · rintro rfl; rw [ns1] at e; cases e
      · rintro rfl; rw [ns2] at e; cases e
    refine k ⟨st, dx, h'.objs.size, L + 1, cr⟩ s8 ⟨_, fo, (mg "__name__").getD .none, doc, ctv, rr, t3, oc, cvs, ctq, I8, fun y hy => ?_, ⟨kk8' _ _ (Ne.symm hst6) (Ne.symm hdx6) htab7, hcrst⟩, ?_, if_pos rfl, hrr2, kk8' _ _ rst rdx (kk7 _ _ rloc hfo), hfc, hfd2, kk8' _ _ hcrst crdx (kk7 _ _ crloc (Heap.get?_push_of_some _ cg)), cdt, cv, hcell8, cst⟩ ⟨fun b hb => ?_, fun b hb => ?_⟩ W8 (fun b eb => ?_) ?_
    · by_cases q : y = "read"
      · rw [q]; exact .tail _ (.head _)
      · exact wi y (by have hy' : (if y = Str.ofString "read" then some (Value.ref h'.objs.size) else mA y) ≠ none := hy; rw [if_neg q] at hy'; exact hy')
    · rw [if_neg (show ¬ (Str.ofString "value" = Str.ofString "read") by decide)]; exact hv
    · simp only [List.mem_cons, List.not_mem_nil, or_false] at hb
      rcases hb with rfl | rfl | rfl | rfl
      · exact ns1
      · exact ns2
      · cases q : s.heap.get? h'.objs.size with
        | none => rfl
        | some o =>
          exfalso
          by_cases hb : h'.objs.size = tabP
          · have := Heap.lt_size htb; rw [hb] at this; exact Nat.lt_irrefl _ this
          · exact Nat.lt_irrefl _ (Heap.lt_size (hk _ _ hb (X05 _ _ q)))
      · cases q : s.heap.get? (L + 1) with
        | none => rfl
        | some o => exact absurd rfl (own1 _ _ q).1
    · simp only [List.mem_cons, List.not_mem_nil, or_false] at hb
      rcases hb with rfl | rfl | rfl
      · exact l1
      · exact l2
      · exact low.low _ (.tail _ (by rw [hcells]; exact .head _))
    · refine g7.N b ?_
      cases q : s7.heap.get? b with
      | none => rfl
      | some o =>
        by_cases h1 : b = st
        · obtain ⟨o8, e8, _⟩ := I8
          rw [h1, e8] at eb; cases eb
        · by_cases h2 : b = dx
          · obtain ⟨_, _, _, _, _, _, ⟨o8, _, _, e8, _⟩⟩ := I8
            rw [h2, e8] at eb; cases eb
          · rw [kk8' b o h1 h2 q] at eb; cases eb
    · exact KB.sh (sh_trans S05 (sh_trans ⟨_, _, _, rfl⟩ (sh_trans (sh_kb k7) (sh_kb k8)))) fun b o hb e => kkS b o (fun z => hb (by rw [z]; exact .head _)) e
  refine wpAny_execs_cons (nestDef_K (by rfl) (by rfl) (by rfl) ?_)
  have hne : ∀ cr : Addr, (∃ o, s.heap.get? cr = some o) → cr ≠ st := fun cr ⟨o, e⟩ q => by
    rw [q] at e
    rw [X03 _ _ e] at n1; cases n1
  have hg5 := a1.keeps X05
  have hC5 := e6.keeps X05
  have hb5 := a6.bt.keeps X05
  obtain ⟨ps, tp, htq⟩ := hTab
  have hqn : qualnameIn env2 "read" "read" = Str.ofString "_law_stream.<locals>.read" := by
    rw [he]
    have e : ∀ fd : FuncData, (callEnvC fd L a).qual = fd.qualname ++ ".<locals>." := fun _ => rfl
    show qualnameIn (callEnvC _ L a) _ _ = _
    kernel_rfl
  rw [hqn]
  have tp5 := X05 _ _ tp
  rcases htq with rfl | ⟨c', rfl, hcr⟩
  · refine makeFunction_K (mg := mg) (clos := [(Str.ofString "stream", L + 1)]) (by rw [he]; rfl) okE2.glob hg5 (by rw [he]; rfl) hC5 tp5 trivial (by rfl) (by decide) hb5 fun c' ctv doc h' tk hx hge hlt hrec htb => ?_
    refine fin h' c' ctv doc tk _ (fun b o hb e => hx b o hb e) htb hrec ?_ rfl ⟨_, hrr, rfl⟩ rfl rfl
    obtain ⟨oS, eS, _⟩ := I5
    exact Nat.ne_of_gt (Nat.lt_of_lt_of_le (Heap.lt_size eS) hge)
  · refine makeFunction_hit (mg := mg) (clos := [(Str.ofString "stream", L + 1)]) (cv := .ref c') (by rw [he]; rfl) okE2.glob hg5 (by rw [he]; rfl) hC5 tp5 trivial (by rfl) hb5 fun ctv doc h' tk hk hsz => ?_
    refine fin h' c' ctv doc tk _ (fun b o _ e => hk b o e) (hk _ _ tp5) ((hcr.keeps X05).keeps hk) ?_ rfl ⟨_, hrr, rfl⟩ rfl rfl
    obtain ⟨_, o, _, _, e1, e2, _⟩ := hcr
    cases e1
    exact hne _ ⟨o, e2⟩
end Mine
end
section
open PySem PySem.Calls PyProof.Rows PySem.W
set_option maxRecDepth 100000
set_option linter.all false
set_option maxHeartbeats 1000000
namespace Mine
/-! an error is caught -/
section
variable {prog : Program} {w : World} {A : Around} {env : Env} {l : List Env} {Γ : Ctx} {X Y : List Addr} {P : Sp} {ok : Addr → Prop} {msg : List Nat} {e : Value} {s0 s : Shared}
theorem Fly.upd {ls : List Env} {O : List Addr} (f : Fly ls O X Y P ok msg e s0 s) {h' : Heap} {M : Model} {E : Value → Shared → Prop} {K : Shared → Prop} {t : Sem Unit} (u : ∀ base ea t0, e = .ref ea → Heap.FlyingW base ls ea (.type "ValueError") (.ref t0) s.heap → (∀ h', Heap.FlyingW base ls ea (.type "ValueError") (.ref t0) h' → s.heap.UpToSlots h' → K { s with heap := h' }) → wpAny M A t (fun _ s' => K s') E s)
    (q : ∀ h', Fly ls O X Y P ok msg e s0 { s with heap := h' } → s.heap.UpToSlots h' → K { s with heap := h' }) : wpAny M A t (fun _ s' => K s') E s := by
  obtain ⟨⟨base, ea, t, tk, he, fl, tu, bt, wb, pb, tb, kb⟩, fr, hh, tk2, _, rfl⟩ := f
  exact u base ea t he fl fun h' fl' sm => q h' ⟨⟨base, ea, t, tk, he, fl', tu.of_slots sm, bt, wb, pb, tb, kb⟩, fun b hb ho o e d => by
    obtain ⟨sl, e2⟩ := fr b hb ho o e d
    exact slots_step (o1 := o) sm d e2, ⟨_, _, _, rfl⟩⟩ sm
theorem Fly.look {O : List Addr} {M : Model} {E : Value → Shared → Prop} {K : Shared → Prop} (hfr : A.frames = some (env :: l)) (hf : env.frame = some env.locals) (f : Fly (env :: l) O X Y P ok msg e s0 s)
    (q : ∀ h', Fly (env :: l) O X Y P ok msg e s0 { s with heap := h' } → s.heap.UpToSlots h' → K { s with heap := h' }) : wpAny M A (noteFrame e env) (fun _ s2 => wpAny M A (setFlight e none) (fun _ s3 => K s3) E s2) E s := by
  obtain ⟨⟨base, ea, t, tk, he, fl, tu, bt, wb, pb, tb, kb⟩, fr, hh, tk2, _, rfl⟩ := f
  subst he
  refine wpAny_looks_onW hfr hf fl fun h4 held sm4 => wpAny_landsW held fun h5 fl5 sm5 => q h5 ⟨⟨base, ea, t, tk, rfl, fl5, (tu.of_slots sm4).of_slots sm5, bt, wb, pb, tb, kb⟩, fun b hb ho o e d => ?_, ⟨_, _, _, rfl⟩⟩ (sm4.trans sm5)
  obtain ⟨sl, e2⟩ := fr b hb ho o e d
  obtain ⟨sl2, e3⟩ := slots_step (o1 := o) sm4 d e2
  exact slots_step (o1 := o) sm5 d e3
theorem Fly.again {ls : List Env} {O : List Addr} {M : Model} {E : Value → Shared → Prop} {K : Shared → Prop} (f : Fly ls O X Y P ok msg e s0 s)
    (q : ∀ h', Fly ls O X Y P ok msg e s0 { s with heap := h' } → s.heap.UpToSlots h' → K { s with heap := h' }) : wpAny M A (setFlight e none) (fun _ s3 => K s3) E s :=
  f.upd (h' := s.heap) (fun base ea t0 he fl k => by subst he; exact lands_againW fl k) q
/-- `except ValueError as fault: return [told, str(fault)]` -/
theorem handler_go {E : Value → Shared → Prop} {Q : Flow → Shared → Prop} {acc : Addr} {np tp sp fp cp lp rp pos : Pos} {rest : List ExceptHandler} (sd : SideOk env l X Y) (hfr : A.frames = some (env :: l)) (hc : env.cells = []) (hu : A.units + 2 < cLine)
    (hk1 : env.kindOf "ValueError" = some .globalImplicit) (hk2 : env.kindOf "str" = some .globalImplicit) (hk3 : env.kindOf "fault" = some .local)
    (hse : starEach [.Name "told" tp, .Call (.Name "str" sp) [.Name "fault" fp] [] cp] env = [(false, eval (.Name "told" tp) env), (false, eval (.Call (.Name "str" sp) [.Name "fault" fp] [] cp) env)]) (hse2 : starEach [.Name "fault" fp] env = [(false, eval (.Name "fault" fp) env)])
    (f : Fly (env :: l) (own env) X Y P ok msg e s0 s) (fm : Fm ok env Γ s.heap) (N0 : Fresh ok s0.heap) (ht : List.lookup (Str.ofString "told") Γ = some (.val (.ref acc)))
    (q : ∀ s7 s9 a9 u, Fly (env :: l) (own env) X Y P ok msg e s0 s7 → Gd ok env Γ s7.heap → KB [env.locals] s7 s9 → Wd s9.heap → Fresh ok s9.heap → s9.heap.IsList a9 #[.ref acc, .str (S msg) u] → ok a9 → Q (.ret (.ref a9)) s9) :
    wpAny (model prog w) A (noteFrame e env) (fun _ s2 => wpAny (model prog w) A (setFlight e none) (fun _ s3 =>
      wpAny (model prog w) A (handleBy e env (.ExceptHandler (some (.Name "ValueError" np)) (some "fault") [.Return (some (.List [.Name "told" tp, .Call (.Name "str" sp) [.Name "fault" fp] [] cp] lp)) rp] pos :: rest)) Q E s3) E s2) E s := by
  have okE := sd.okE
  have low := sd.low
  have there : ∀ {s : Shared}, Fm ok env Γ s.heap → ∀ b ∈ own env, ∃ o, s.heap.get? b = some o := fun F b hb => by
    obtain ⟨m, cm, ⟨o, es, n, e1, _⟩, _⟩ := F
    unfold own at hb
    rw [hc] at hb
    simp only [List.map_nil, List.mem_singleton] at hb
    subst hb
    exact ⟨o, e1⟩
  refine f.look hfr sd.fr (K := fun s3 => wpAny (model prog w) A (handleBy e env (.ExceptHandler (some (.Name "ValueError" np)) (some "fault") [.Return (some (.List [.Name "told" tp, .Call (.Name "str" sp) [.Name "fault" fp] [] cp] lp)) rp] pos :: rest)) Q E s3) fun h5 f5 sm5 => ?_
  have fm5 : Fm ok env Γ h5 := fm.slots sm5
  have g5 : Gd ok env Γ h5 := ⟨f5.wd, f5.fresh N0 (there (s := { s with heap := h5 }) fm5) sd.XY, fm5⟩
  obtain ⟨base, ea, t, tk, rfl, fl, _⟩ := f5.of
  refine wpAny_handleBy_builtin_as (X := "ValueError") (T := "ValueError") (b := true) (by kernel_rfl) (by kernel_rfl) (by kernel_rfl) ?_
  refine name_blt (v := .type "ValueError") okE g5.W (by kernel_rfl) (by decide) hk1 ⟨rfl, fl.there, ?_⟩
  rw [if_pos rfl]
  refine f5.again (K := fun s2 => wpAny (model prog w) (A.mark (some (.ref ea))) (storeName env "fault" (.ref ea)) _ _ s2) fun h7 f7 sm7 => ?_
  have fm7 : Fm ok env Γ h7 := fm5.slots sm7
  have g7 : Gd ok env Γ h7 := ⟨f7.wd, f7.fresh N0 (there (s := { s with heap := h7 }) fm7) sd.XY, fm7⟩
  refine store_go (s := { s with heap := h7 }) okE low (.loc hk3) g7 (sl := .val (.ref ea)) rfl fun s8 g8 k8 l8 => ?_
  have htl : tch env "fault" = env.locals := by unfold tch; rw [hk3]
  rw [htl] at k8
  obtain ⟨base, ea', t, tk, hee, fl, tu, _⟩ := f7.of
  cases hee
  obtain ⟨oe, vs, xe, xc, xd, x0⟩ := fl.first
  obtain ⟨ot, nt, te, tc, td⟩ := tu
  obtain ⟨m7, cm7, ⟨oL, es, ep, eL, dL, rL⟩, _⟩ := id g7.F
  have ne1 : ea ≠ env.locals := by
    rintro rfl
    rw [xe] at eL; cases eL
    rw [xd] at dL; cases dL
  have ne2 : t ≠ env.locals := by
    rintro rfl
    rw [te] at eL; cases eL
    rw [td] at dL; cases dL
  have ex8 : s8.heap.ExcAt ea "ValueError" (.ref t) := ⟨oe, vs, k8.kept _ _ (mem1.mpr ne1) xe, xc, xd, x0⟩
  have tu8 : s8.heap.TupAt t [.str (S msg) tk] := ⟨ot, nt, k8.kept _ _ (mem1.mpr ne2) te, tc, td⟩
  refine wpAny_execs_cons (wpAny_Return_some (wpAny_List ?_))
  rw [hse]
  refine Calls.spliced_cons (nm_val okE g8.F (by rw [List.lookup_cons]; exact ht) ?_)
  refine Calls.spliced_cons (wpAny_Call_NameR (name_blt (v := .type "str") okE g8.W (by kernel_rfl) (by decide) hk2 ?_))
  rw [hse2]
  refine PySem.callWith_type rfl (Calls.evalArgs_plain (Calls.spliced_cons (nm_val okE g8.F rfl (Calls.spliced_nil ?_))))
  refine PySem.P.str_of_exc_one (A := A.mark (some (.ref ea))) PySem.F.excStr_ValueError hu ex8 tu8 ?_
  refine Calls.spliced_nil ⟨show 2 ≤ sizeLine by decide, ?_⟩
  have kp := kp_push s8 { cls := .type "list", data := .seq [.ref acc, .str (S msg) tk].toArray }
  have x9 := kp_ext kp
  obtain ⟨m8, cm8, hn8, hc8, hx8⟩ := g8.F
  have hn9 := hn8.keeps x9
  refine wpAny_nameGoes (s := { s8 with heap := s8.heap.push _ }) hk3 hn9 (by rw [okE.kind]; rfl) fun h' m' hn' sb => ?_
  obtain ⟨oL9, es9, ep9, eL9, dL9, rL9⟩ := id hn9
  have kk : ∀ b o, b ≠ env.locals → (s8.heap.push { cls := .type "list", data := .seq [.ref acc, .str (S msg) tk].toArray }).get? b = some o → h'.get? b = some o := fun b o hb e => sb.extBut b o hb e
  have hat : (s8.heap.push { cls := .type "list", data := .seq [.ref acc, .str (S msg) tk].toArray }).get? s8.heap.objs.size = some { cls := .type "list", data := .seq [.ref acc, .str (S msg) tk].toArray } := Heap.get?_push_size _ rfl
  have nel : s8.heap.objs.size ≠ env.locals := by
    rintro q
    rw [← q, hat] at eL9; cases eL9
    cases dL9
  refine q { s with heap := h7 } _ s8.heap.objs.size tk f7 g7 ?_ ((g8.W.ext x9).but ⟨low.low _ (.head _), oL9, eL9, by rw [dL9]; trivial⟩ kk) (fresh_but (g8.N.ext x9) sb (by obtain ⟨o, _, _, e, _⟩ := hn'; rw [e]; rfl)) ⟨_, kk _ _ nel hat, rfl, 0, rfl⟩ g8.N.size
  have kk8 := k8.kept
  obtain ⟨h8, t8, _, rfl, _⟩ := k8
  exact ⟨h', _, _, rfl, fun b o hb e => kk b o (fun z => hb (by rw [z]; exact .head _)) (x9 _ _ (kk8 b o hb e))⟩
end
end Mine
end
section
open PySem PySem.Calls PyProof.Rows PySem.W
set_option maxRecDepth 100000
set_option linter.all false
set_option maxHeartbeats 1000000
namespace Mine
section
variable {prog : Program} {w : World} {A : Around} {env : Env} {l : List Env} {Γ : Ctx}
/-- the loop in _law_found -/
theorem found_loop {m : Sm} {acc : Addr} {parts : List Pt} {f c : Nat} {B B' : List Nat} {t : List (List Nat)} {er : Option (List Nat)} (sd : SideOk env l (m.X ++ [acc]) (m.Y ++ [acc])) (so : SmOk m [acc]) (hacc : acc ∉ m.Y) (ta : topLine ≤ acc) (hpl : parts.length ≤ 60) (hpo : ∀ p ∈ parts, ∀ x, p = .ch x → x < 1114112)
    (room : Room (f + 3) A) (hfr : er ≠ none → A.frames = some (env :: l)) (hw : loopF (walkF parts f (closedF parts [0]) []) c B = some (t, B', er)) (hc : c < 256) (h128 : ∀ b ∈ B, b < 128) (hB : B.length < 100000) (hf : 4 * f ≤ 1000) (hf1 : 1 ≤ f)
    (hk1 : env.kindOf "range" = some .globalImplicit) (hk2 : env.kindOf "read_uint1" = some .globalImplicit) (hk3 : env.kindOf "_law_walk" = some .globalImplicit) (hk4 : env.kindOf "_law_closed" = some .globalImplicit) (hk5 : env.kindOf "k" = some .local) (hin : interactive env = false)
    (hs : swapsWith (.Call (.Name "_law_walk" ⟨181, 12, 181, 21⟩) [.Name "stream" ⟨181, 22, 181, 28⟩, .Name "parts" ⟨181, 30, 181, 35⟩, .Call (.Name "_law_closed" ⟨181, 37, 181, 48⟩) [.Name "parts" ⟨181, 49, 181, 54⟩, .List [.Constant (.int 0) 0 ⟨181, 57, 181, 58⟩] ⟨181, 56, 181, 59⟩] [] ⟨181, 37, 181, 60⟩, .Constant (.str "") 0 ⟨181, 62, 181, 64⟩, .Name "told" ⟨181, 66, 181, 70⟩] [] ⟨181, 12, 181, 71⟩) none (181 : Nat) env = pure false)
    (h1 : List.lookup (Str.ofString "stream") Γ = some (.val (.ref m.st))) (h2 : List.lookup (Str.ofString "parts") Γ = some (.data (partsL parts))) (h3 : List.lookup (Str.ofString "told") Γ = some (.val (.ref acc))) :
    ExF prog w A env l (m.X ++ [acc]) (m.Y ++ [acc]) Γ (SP m (c :: B) (AccP acc [])) [.For (.Name "k" ⟨180, 12, 180, 13⟩) (.Call (.Name "range" ⟨180, 17, 180, 22⟩) [.Call (.Name "read_uint1" ⟨180, 23, 180, 33⟩) [.Name "stream" ⟨180, 34, 180, 40⟩] [] ⟨180, 23, 180, 41⟩] [] ⟨180, 17, 180, 42⟩)
      [.Expr (.Call (.Name "_law_walk" ⟨181, 12, 181, 21⟩) [.Name "stream" ⟨181, 22, 181, 28⟩, .Name "parts" ⟨181, 30, 181, 35⟩, .Call (.Name "_law_closed" ⟨181, 37, 181, 48⟩) [.Name "parts" ⟨181, 49, 181, 54⟩, .List [.Constant (.int 0) 0 ⟨181, 57, 181, 58⟩] ⟨181, 56, 181, 59⟩] [] ⟨181, 37, 181, 60⟩, .Constant (.str "") 0 ⟨181, 62, 181, 64⟩, .Name "told" ⟨181, 66, 181, 70⟩] [] ⟨181, 12, 181, 71⟩) ⟨181, 12, 181, 71⟩] [] ⟨180, 8, 181, 71⟩]
      [("told", .val (.ref acc))] (SP m B' (AccP acc (t.map strD))) [("told", .val (.ref acc))] er := by
  have okE := sd.okE
  have hXX : ∀ a ∈ m.X, a ∈ m.X ++ [acc] := fun a ha => List.mem_append.mpr (.inl ha)
  have sbA : ∀ ds, Stab [acc] (AccP acc ds) := fun ds => AccP.stab (.head _)
  have sbP : ∀ {B ds}, Stab (m.Y ++ [acc]) (SP m B (AccP acc ds)) := fun {B ds} => SP.stab (sbA ds)
  obtain ⟨rw_, hrw, Fw⟩ := f_walk (prog := prog) (w := w) (m := m) (acc := acc) (parts := parts) so hacc ta hpl hpo
  obtain ⟨ru, hru, Fu⟩ := f_u1 (prog := prog) (w := w) (m := m) (Y' := [acc]) (R := AccP acc []) (c := c) (B := B) so (sbA []) hc hB
  obtain ⟨rc, hrc, Fc⟩ := f_closed (prog := prog) (w := w) (parts := parts) (places := [0]) (by omega) (by decide)
  have hok : PlOk parts (closedF parts [0]) := closedF_ok ⟨List.nodup_cons.mpr ⟨by simp, List.nodup_nil⟩, fun k hk => by
    have := List.mem_singleton.mp hk
    omega⟩
  obtain ⟨mc, hmc, hturn, hnone, hsome⟩ := loop_runs hw
  have hgok : WkOk (walkF parts f (closedF parts [0]) []) := walkF_ok f _ _
  let PP : Nat → Sp := fun i => SP m (loopSt (walkF parts f (closedF parts [0]) []) B i).2 (AccP acc ((loopSt (walkF parts f (closedF parts [0]) []) B i).1.map strD))
  let Γm : Ctx := [("stream", .val (.ref m.st)), ("parts", .data (partsL parts)), ("told", .val (.ref acc))]
  have rec1 : ∀ i dt e, walkF parts f (closedF parts [0]) [] (loopSt (walkF parts f (closedF parts [0]) []) B i).2 = some (dt, (loopSt (walkF parts f (closedF parts [0]) []) B (i + 1)).2, e) → (loopSt (walkF parts f (closedF parts [0]) []) B (i + 1)).1 = (loopSt (walkF parts f (closedF parts [0]) []) B i).1 ++ dt → (e ≠ none → A.frames = some (env :: l)) → ∀ {Γ : Ctx}, Sub Γm Γ →
      ExF1 prog w A env l (m.X ++ [acc]) (m.Y ++ [acc]) Γ (PP i) (.Expr (.Call (.Name "_law_walk" ⟨181, 12, 181, 21⟩) [.Name "stream" ⟨181, 22, 181, 28⟩, .Name "parts" ⟨181, 30, 181, 35⟩, .Call (.Name "_law_closed" ⟨181, 37, 181, 48⟩) [.Name "parts" ⟨181, 49, 181, 54⟩, .List [.Constant (.int 0) 0 ⟨181, 57, 181, 58⟩] ⟨181, 56, 181, 59⟩] [] ⟨181, 37, 181, 60⟩, .Constant (.str "") 0 ⟨181, 62, 181, 64⟩, .Name "told" ⟨181, 66, 181, 70⟩] [] ⟨181, 12, 181, 71⟩) ⟨181, 12, 181, 71⟩) Γ (PP (i + 1)) [("told", .val (.ref acc))] e := by
    intro i dt e q1 q2 hfe Γ hΓ
    obtain ⟨hsuf, hlen⟩ := loopSt_ok hgok B i
    have F := Fw f (closedF parts [0]) [] _ ((loopSt (walkF parts f (closedF parts [0]) []) B i).1.map strD) dt _ e q1 hok (fun b hb => h128 b (hsuf.subset hb)) (by have := hsuf.length_le; omega) (by rw [List.length_nil]; omega) (by simp only [List.length_map]; omega)
    rw [← List.map_append, ← q2] at F
    have lk := fun x sl h => Sub.of hΓ x sl h
    refine exf1_subE (exf1_callx sd hfe sbP hrw (by decide) hk3 F room (.cons (evS_val okE (lk _ _ rfl)) (by rfl) (.cons (evS_of (ev_name okE (lk _ _ rfl))) (by rfl) (.cons (evS_of ?_) (by rfl) (.cons (evS_of (ev_lit (l := []))) (by rfl) (.cons (evS_val okE (lk _ _ rfl)) (by rfl) .nil))))) hin hs) ⟨lk _ _ rfl, trivial⟩
    exact ev_call okE hrc (by decide) hk4 Fc (room.le (by omega)) (.cons (ev_name okE (lk _ _ rfl)) (by rfl) (.cons (ev_list (.cons ev_int (by rfl) .nil)) (by rfl) .nil))
  have hP0 : SP m B (AccP acc []) = PP 0 := rfl
  have subk : ∀ {v : Sl}, Sub Γm (("k", v) :: Γm) := ⟨rfl, rfl, rfl, trivial⟩
  have hrl : ((List.range c).map natD).length = c := by rw [List.length_map, List.length_range]
  have hf := exf1_forG (prog := prog) (w := w) (A := A) (env := env) (l := l) (X := m.X ++ [acc]) (Y := m.Y ++ [acc]) (er := er) (Γ := Γ) (Γe := [("told", .val (.ref acc))]) (P := SP m (c :: B) (AccP acc [])) (P0 := SP m B (AccP acc [])) (x := "k") (p := ⟨180, 12, 180, 13⟩) (pos := ⟨180, 8, 181, 71⟩)
    (iter := .Call (.Name "range" ⟨180, 17, 180, 22⟩) [.Call (.Name "read_uint1" ⟨180, 23, 180, 33⟩) [.Name "stream" ⟨180, 34, 180, 40⟩] [] ⟨180, 23, 180, 41⟩] [] ⟨180, 17, 180, 42⟩)
    (body := [.Expr (.Call (.Name "_law_walk" ⟨181, 12, 181, 21⟩) [.Name "stream" ⟨181, 22, 181, 28⟩, .Name "parts" ⟨181, 30, 181, 35⟩, .Call (.Name "_law_closed" ⟨181, 37, 181, 48⟩) [.Name "parts" ⟨181, 49, 181, 54⟩, .List [.Constant (.int 0) 0 ⟨181, 57, 181, 58⟩] ⟨181, 56, 181, 59⟩] [] ⟨181, 37, 181, 60⟩, .Constant (.str "") 0 ⟨181, 62, 181, 64⟩, .Name "told" ⟨181, 66, 181, 70⟩] [] ⟨181, 12, 181, 71⟩) ⟨181, 12, 181, 71⟩])
    (ds := (List.range c).map natD) (fun _ => Γm) PP mc sd (.loc hk5) (fun i => sbP)
    (evif_rangecall sd room.hd sbP sbP hk1 hru (by decide) hk2 (fnF_wide hXX Fu) (room.le (by omega)) (by omega) (.cons (evS_val okE h1) (by rfl) .nil) (by rfl)) ⟨h1, h2, h3, trivial⟩ hP0 (by rw [hrl]; exact hmc) (fun h => by rw [hrl]; exact (hsome h).1) (fun h => by rw [hrl]; exact (hnone h).1)
    (fun i d hi hd => by
      obtain ⟨dt, a, b⟩ := hturn i hi
      exact exf_sub (exf_cons sd (rec1 i dt none a b (fun h => absurd rfl h) subk) exf_nil) subk)
    (fun hne d hd => by
      obtain ⟨_, dt, a, b, c⟩ := hsome hne
      have a' : walkF parts f (closedF parts [0]) [] (loopSt (walkF parts f (closedF parts [0]) []) B mc).2 = some (dt, (loopSt (walkF parts f (closedF parts [0]) []) B (mc + 1)).2, er) := by rw [b]; exact a
      cases er with
      | none => exact absurd rfl hne
      | some msg => exact exf_fail (rec1 mc dt (some msg) a' c hfr subk))
    (by intro _; rfl)
  cases er with
  | none =>
    obtain ⟨e1, e2⟩ := hnone rfl
    rw [if_pos rfl, hrl] at hf
    have e3 : PP c = SP m B' (AccP acc (t.map strD)) := by
      show SP m (loopSt _ B c).2 (AccP acc ((loopSt _ B c).1.map strD)) = _
      rw [← e1, e2]
    rw [e3] at hf
    exact exf_sub (exf_cons sd hf exf_nil) ⟨rfl, trivial⟩
  | some msg =>
    obtain ⟨_, dt, a, b, _⟩ := hsome (by simp)
    rw [if_neg (by simp)] at hf
    have e3 : PP (mc + 1) = SP m B' (AccP acc (t.map strD)) := by
      show SP m (loopSt _ B (mc + 1)).2 (AccP acc ((loopSt _ B (mc + 1)).1.map strD)) = _
      rw [b]
    rw [e3] at hf
    exact exf_fail hf
end
end Mine
end
section
open PySem PySem.Calls PyProof.Rows PySem.W
set_option maxRecDepth 100000
set_option linter.all false
set_option maxHeartbeats 1000000
namespace Mine
/-- what a call of the finder leaves -/
structure Left (ok : Addr → Prop) (l : List Env) (s s' : Shared) : Prop where
  W : Wd s'.heap
  N : Fresh ok s'.heap
  keep : ∀ b o, b ≠ tabP → b ∉ frs l → s.heap.get? b = some o → s'.heap.get? b = some o
  fr : ∀ b ∈ frs l, ∀ o, s.heap.get? b = some o → (∃ es n, o.data = .dict es n) → ∃ sl, s'.heap.get? b = some { o with slots := sl }
  same : Sh s s'
noncomputable def FoundC (prog : Program) (w : World) (k : Nat) (r : FnRec) (tape : List Nat) (parts : List Pt) (d : D) (er : Option (List Nat)) : Prop :=
  ∀ (ok : Addr → Prop) (A : Around) (l : List Env) (s : Shared) (a : Addr) (vs : List Value), Room k A → (er ≠ none → A.frames = some l) → (er = none → l = []) → Fresh ok s.heap → Wd s.heap → Lv l s.heap →
    IsFn s.heap a r .none .none → SlAll ok s.heap vs [.data (.bytes (By tape)), .data (partsL parts)] → codeAny (model prog w) A (.call (.ref a) ⟨vs, []⟩) (fun rr s' => ∃ v, rr = .ok (.ret v) ∧ Rd ok s'.heap v d ∧ Left ok l s s') s
theorem found_sig {r : FnRec} (h : fnRec "_law_found" = some r) : Sig r ["tape", "parts"] := by
  have hr : fnRec "_law_found" = some _ := rfl
  cases Option.some.inj (h.symm.trans hr)
  exact ⟨fun pm cd doc vs h => by obtain ⟨a, b, rfl⟩ := len2 h; rfl, fun n p hp => by simp only [List.mem_cons, List.not_mem_nil, or_false] at hp; rcases hp with rfl | rfl <;> exact .inl rfl, fun n p hp => nd_self (by rfl) p hp, rfl, rfl, rfl, rfl⟩
section
variable {prog : Program} {w : World}
theorem f_found {parts : List Pt} {f c : Nat} {B B' : List Nat} {t : List (List Nat)} {er : Option (List Nat)} (hpl : parts.length ≤ 60) (hpo : ∀ p ∈ parts, ∀ x, p = .ch x → x < 1114112)
    (hw : loopF (walkF parts f (closedF parts [0]) []) c B = some (t, B', er)) (hc : c < 256) (h128 : ∀ b ∈ B, b < 128) (hB : B.length < 100000) (hf : 4 * f ≤ 1000) (hf1 : 1 ≤ f) :
    ∃ r, fnRec "_law_found" = some r ∧ FoundC prog w (f + 8) r (c :: B) parts (.list [.list (t.map strD), .str (S (er.getD []))]) er := by
  refine ⟨_, rfl, fun ok A l s a vs room hfr hl0 N W v F rd => ?_⟩
  refine fn_inS (k := f + 7) (found_sig rfl) rfl room N W F rd fun s1 env pm cd doc L he okE low hown kp G hr => ?_
  have x1 := kp_ext kp
  have hcl : env.cells = [] := by rw [he]; rfl
  have hfrm : env.frame = some env.locals := by rw [he]; rfl
  have hown1 : own env = [env.locals] := by unfold own; rw [hcl]; rfl
  generalize hA : A.deeper env = A1 at hr ⊢
  have hfr1 : er ≠ none → A1.frames = some (env :: l) := fun z => hA ▸ Around.frames_deeper (hfr z)
  -- stream, told = (_law_stream(tape), [])
  refine wpAny_execs_cons (assign_pair_swap hr.hd (by rfl) (by rw [he]; rfl) (by rw [he]; rfl) ?_)
  refine stream_go okE (hr.le (by omega)) (by rw [he]; rfl) rfl G fun m s2 S2 nw W2 N2 k2 => ?_
  refine wpAny_List ?_
  refine wpAny_items_nil ⟨show 0 ≤ sizeLine by decide, ?_⟩
  intro s3 k3
  have x3 : Ext s2.heap s3.heap := fun b o e => kp_ext k3 _ _ (Heap.get?_push_of_some _ e)
  have kk2 := k2.kept
  have hat3 : s3.heap.get? s2.heap.objs.size = some { cls := .type "list", data := .seq ([] : List Value).toArray } := kp_ext k3 _ _ (Heap.get?_push_size _ rfl)
  have hnew2 : s2.heap.get? s2.heap.objs.size = none := new_none (kp_refl s2)
  have tacc : topLine ≤ s2.heap.objs.size := W2.top
  generalize hacc : s2.heap.objs.size = acc at hat3 hnew2 tacc ⊢
  have T2 : There m.Y s2.heap := S2.thereY
  have keep2 : ∀ b o, b ≠ tabP → s1.heap.get? b = some o → s2.heap.get? b = some o := fun b o hb e => kk2 b o (mem1.mpr hb) e
  have tabLow : ∀ a, topLine ≤ a → a ≠ tabP := fun a h q => absurd h (by rw [q]; decide)
  have hdict : ∀ a o es n, s1.heap.get? a = some o → o.data = .dict es n → topLine ≤ a → a ∉ m.Y ++ [acc] := fun a o es n e d ta hm => by
    have nn := nw.new
    have e2 := keep2 a o (tabLow a ta) e
    rcases List.mem_append.mp hm with hm | hm
    · simp only [Sm.Y, List.mem_cons, List.not_mem_nil, or_false] at hm
      rcases hm with rfl | rfl | rfl | rfl | rfl | rfl
      · rw [nn _ (by simp)] at e; cases e
      · rw [nn _ (by simp)] at e; cases e
      · rw [nn _ (by simp)] at e; cases e
      · rw [nn _ (by simp)] at e; cases e
      · obtain ⟨ca, oc, cvs, ctq, ce, cg, cdt, cv⟩ := S2.code
        cases ce
        rw [e2] at cg; cases cg
        rw [d] at cdt; cases cdt
      · exact tabLow _ ta rfl
    · rw [List.mem_singleton.mp hm, hnew2] at e2; cases e2
  obtain ⟨m1, cm1, ⟨oL, es, ep, eL, dL, rL⟩, hc1, hx1⟩ := id G.F
  have XY : ∀ a ∈ m.X ++ [acc], a ∈ m.Y ++ [acc] := fun a ha => by
    rcases List.mem_append.mp ha with h | h
    · exact SmOk.XY (Y' := [acc]) a h
    · exact List.mem_append.mpr (.inr h)
  have sd : SideOk env l (m.X ++ [acc]) (m.Y ++ [acc]) := by
    refine ⟨okE, hfrm, XY, fun a ha hb => ?_, fun a ha => ⟨?_, fun hb => ?_⟩⟩
    · rw [hown1] at hb
      cases List.mem_singleton.mp hb
      exact hdict _ _ _ _ eL dL (low.low _ (.head _)) ha
    · obtain ⟨ta, o, es, n, e, d⟩ := v.at ha
      exact hdict a o es n (x1 _ _ e) d ta
    · obtain ⟨ta, o, es, n, e, d⟩ := v.at ha
      rw [hown a hb] at e; cases e
  have haccY : acc ∉ m.Y := fun hm => by
    obtain ⟨o, e⟩ := T2 _ hm
    rw [hnew2] at e; cases e
  have so : SmOk m [acc] := ⟨nw.low, fun a ha hm => haccY (by
    rw [List.mem_singleton.mp ha] at hm
    exact (List.mem_append.mp (SmOk.XY (Y' := []) _ hm)).elim id (fun q => by cases q))⟩
  -- the lists that may be spoken of
  let ok2 : Addr → Prop := fun a => ok a ∧ a ∉ m.X ++ [acc]
  have na : ∀ a ∈ m.X ++ [acc], ¬ ok2 a := fun a ha h => h.2 ha
  have live3 : ∀ a ∈ m.X ++ [acc], ∃ o, s3.heap.get? a = some o := fun a ha => by
    rcases List.mem_append.mp ha with h | h
    · obtain ⟨o, e⟩ := T2 a ((List.mem_append.mp (SmOk.XY (Y' := []) _ h)).elim id (fun q => by cases q))
      exact ⟨o, x3 _ _ e⟩
    · rw [List.mem_singleton.mp h]; exact ⟨_, hat3⟩
  have up : ∀ a o, s1.heap.get? a = some o → ok a → ok2 a := fun a o e h => ⟨h, fun hm => by
    rcases List.mem_append.mp hm with q | q
    · have : a ∈ [m.st, m.dx, m.rf, m.cc] := by
        simp only [Sm.X, List.mem_cons, List.not_mem_nil, or_false] at q
        rcases q with rfl | rfl <;> simp
      rw [nw.new a this] at e; cases e
    · have qa := List.mem_singleton.mp q
      rw [qa] at e
      rw [keep2 acc o (tabLow _ tacc) e] at hnew2; cases hnew2⟩
  have li3 : ∀ {ok' : Addr → Prop}, Lists ok' s1.heap s3.heap := fun {ok'} b vs _ ⟨o, e, c1, n, d1⟩ => ⟨o, x3 _ _ (keep2 b o (G.W.notTab e (by rw [d1]; trivial)) e), c1, n, d1⟩
  have g3 : Gd ok2 env [("tape", .data (.bytes (By (c :: B)))), ("parts", .data (partsL parts))] s3.heap := by
    refine ⟨W2.ext x3, fun a ea => ⟨N2.ext x3 a ea, fun hm => ?_⟩, m1, cm1, ⟨oL, es, ep, x3 _ _ (keep2 _ _ (tabLow _ (low.low _ (.head _))) eL), dL, rL⟩, fun n k e => ?_, fun y sl e => ?_⟩
    · obtain ⟨o, e⟩ := live3 a hm
      rw [e] at ea; cases ea
    · rw [hcl] at e; cases e
    · obtain ⟨u, p, q⟩ := hx1 y sl e
      refine ⟨u, p, ?_⟩
      cases sl with
      | data d => exact (Rd.mono up q).lists li3
      | val u => exact q
  have S3 : Strm m (c :: B) ok2 s3.heap := stab_ext (Strm.stab (Y := m.Y) fun a ha => ha) (show Strm m (c :: B) ok2 s2.heap from S2) x3
  have P3 : SP m (c :: B) (AccP acc []) ok2 s3.heap := ⟨S3, [], ⟨0, hat3⟩, .nil⟩
  have sbA : ∀ ds, Stab [acc] (AccP acc ds) := fun ds => AccP.stab (.head _)
  have sbP : ∀ {B ds}, Stab (m.Y ++ [acc]) (SP m B (AccP acc ds)) := fun {B ds} => SP.stab (sbA ds)
  have T3 : There (m.Y ++ [acc]) s3.heap := fun a ha => by
    rcases List.mem_append.mp ha with h | h
    · obtain ⟨o, e⟩ := T2 a h
      exact ⟨o, x3 _ _ e⟩
    · rw [List.mem_singleton.mp h]; exact ⟨_, hat3⟩
  -- the two stores
  refine store_go okE low (.loc (by rw [he]; rfl)) g3 (sl := .val (.ref acc)) rfl fun s4 g4 k4 l4 => ?_
  refine store_go okE low (.loc (by rw [he]; rfl)) g4 (sl := .val (.ref m.st)) rfl fun s5 g5 k5 l5 => ?_
  have ht4 : tch env "told" = env.locals := by unfold tch; rw [he]; rfl
  have ht5 : tch env "stream" = env.locals := by unfold tch; rw [he]; rfl
  rw [ht4] at k4
  rw [ht5] at k5
  have kbown : ∀ {s s' : Shared}, KB [env.locals] s s' → KB (own env) s s' := fun k => k.mono fun b hb => by rw [hown1]; exact hb
  have k35 : KB (own env) s3 s5 := kbown (k4.trans k5)
  have P5 : SP m (c :: B) (AccP acc []) ok2 s5.heap := stab_kb sbP sd.offY okE g4.F (stab_kb sbP sd.offY okE g3.F P3 (kbown k4)) (kbown k5)
  have T5 : There (m.Y ++ [acc]) s5.heap := T3.kb sd.offY k35
  have v1 : Lv l s1.heap := v.ext x1
  have v3 : Lv l s3.heap := v1.keep fun b hb o e => x3 _ _ (keep2 _ _ (tabLow _ (v1.at hb).1) e)
  have v5 : Lv l s5.heap := v3.kb sd (k35.mono fun b hb => List.mem_append.mpr (.inr hb))
  -- what stood before goes on
  have keep5 : ∀ b o, b ≠ tabP → s.heap.get? b = some o → b ∉ own env ∧ b ∉ m.X ++ [acc] ∧ s5.heap.get? b = some o := fun b o hb e => by
    have e1 := x1 _ _ e
    have ho : b ∉ own env := fun q => by rw [hown b q] at e; cases e
    refine ⟨ho, fun hm => ?_, k35.kept b o ho (x3 _ _ (keep2 b o hb e1))⟩
    rcases List.mem_append.mp hm with q | q
    · have : b ∈ [m.st, m.dx, m.rf, m.cc] := by
        simp only [Sm.X, List.mem_cons, List.not_mem_nil, or_false] at q
        rcases q with rfl | rfl <;> simp
      rw [nw.new b this] at e1; cases e1
    · rw [List.mem_singleton.mp q] at e1 hb
      rw [keep2 _ o hb e1] at hnew2; cases hnew2
  have same5 : Sh s s5 := sh_trans (sh_kp kp) (sh_trans (sh_kb k2) (sh_trans ⟨_, _, _, rfl⟩ (sh_trans (sh_kp k3) (sh_kb k35))))
  -- try
  refine wpAny_execs_cons (wpAny_Try_except ?_)
  refine found_loop (f := f) (c := c) (B := B) (B' := B') (t := t) (er := er) sd so haccY tacc hpl hpo (hr.le (by omega)) hfr1 hw hc h128 hB hf hf1 (by rw [he]; rfl) (by rw [he]; rfl) (by rw [he]; rfl) (by rw [he]; rfl) (by rw [he]; rfl) (by rw [he]; rfl) (by rw [he]; rfl) rfl rfl rfl ok2 s5 _ _ PassesOwn.looking na g5 P5 T5 v5 ⟨fun s6 hen g6 P6 T6 v6 k6 => ?_, fun e s6 msg hem f6 fm6 => ?_⟩
  · -- no error
    cases hen
    cases hl0 rfl
    refine wpAny_execs_nil ?_
    have G6 : Gd ok env [("told", .data (.list (t.map strD)))] s6.heap := by
      obtain ⟨m6, cm6, hn6, hc6, hx6⟩ := g6.F
      refine ⟨g6.W, fun a ea => (g6.N a ea).1, m6, cm6, hn6, hc6, fun y sl e => ?_⟩
      rw [List.lookup_cons] at e
      cases hb : y == ("told" : Str) with
      | false => rw [hb] at e; cases e
      | true =>
        rw [hb] at e; cases e
        obtain ⟨u, p, q⟩ := hx6 "told" _ rfl
        rw [beq_iff_eq.mp hb]
        cases (show u = .ref acc from q)
        obtain ⟨vs6, pl6, rd6⟩ := P6.2
        exact ⟨_, p, .list (N2 _ hnew2) pl6.isList (RdAll.mono (fun a _ _ h => h.1) rd6)⟩
    refine wpAny_execs_cons (wpAny_Return_some ((ev_list (.cons (ev_name okE rfl) (by rfl) (.cons (ev_lit (l := [])) (by rfl) .nil))).go G6 fun u s7 ru k7 g7 => ?_))
    have x7 := kp_ext k7
    refine ⟨u, rfl, ru, g7.W, g7.N, fun b o h1 h2 e => ?_, fun b hb => (by cases hb), ?_⟩
    · obtain ⟨q1, q2, q3⟩ := keep5 b o h1 e
      exact x7 _ _ (k6.kept b o (fun hm => (List.mem_append.mp hm).elim q2 q1) q3)
    · exact sh_trans same5 (sh_trans (sh_kb k6) (sh_kp k7))
  · -- an error is caught
    subst hem
    have hff := hfr1 (by simp)
    refine handler_go (acc := acc) sd hff hcl (by have := hr.units; show A1.units + 2 < 9900; omega) (by rw [he]; rfl) (by rw [he]; rfl) (by rw [he]; rfl) (by rfl) (by rfl) f6 fm6 g5.N rfl fun s7 s9 a9 u f7 g7 k9 W9 N9 L9 oka9 => ?_
    have P7 := f7.side sbP
    have P9 := stab_kb sbP sd.offY okE g7.F P7 (kbown k9)
    obtain ⟨vs9, pl9, rd9⟩ := P9.2
    refine ⟨_, rfl, .list oka9.1 L9 (.cons (.list (N2 _ hnew2) pl9.isList (RdAll.mono (fun a _ _ h => h.1) rd9)) (.cons (.str _ _) .nil)), W9, fun a ea => (N9 a ea).1, fun b o h1 h2 e => ?_, fun b hb o e d => ?_, ?_⟩
    · obtain ⟨q1, q2, q3⟩ := keep5 b o h1 e
      obtain ⟨base, ea, tt, tk, heq, fl, tu, bt, wb, pb, tb, kb⟩ := f7.of
      have hfb : b ∉ frs (env :: l) := fun hm => by
        obtain ⟨y, hy, hfy⟩ := List.mem_filterMap.mp hm
        rcases List.mem_cons.mp hy with rfl | hy
        · rw [hfrm] at hfy; cases hfy
          exact q1 (.head _)
        · exact h2 (List.mem_filterMap.mpr ⟨y, hy, hfy⟩)
      exact k9.kept b o (mem1.mpr fun z => q1 (by rw [z]; exact .head _)) (fl.1 b o (kb b o q2 q1 hfb q3))
    · obtain ⟨q1, q2, q3⟩ := keep5 b o (tabLow b (v.at hb).1) e
      have hfb : b ∈ frs (env :: l) := by
        obtain ⟨y, hy, hfy⟩ := List.mem_filterMap.mp hb
        exact List.mem_filterMap.mpr ⟨y, .tail _ hy, hfy⟩
      obtain ⟨sl, e7⟩ := f7.fr b hfb q1 o q3 d
      exact ⟨sl, k9.kept b _ (mem1.mpr fun z => q1 (by rw [z]; exact .head _)) e7⟩
    · exact sh_trans same5 (sh_trans f7.same (sh_kb k9))
end
end Mine
end
section
open PySem PySem.Calls PyProof.Rows PySem.W
set_option maxRecDepth 100000
set_option linter.all false
set_option maxHeartbeats 1000000
namespace Mine
open Builtin
theorem slot_bjoin : Slot "bytes" "join" "bytes.join" :=
  .of (owner := "bytes") (n := "join") (by rw [typeLookup_type, builtinLookup_eq_fast]; kernel_rfl) (by decide +kernel) (by decide +kernel) (by decide +kernel)
    (by first | exact .inl (by decide +kernel) | exact .inr (by decide +kernel)) (by rw [isSubtype_type]; kernel_rfl)
theorem type_bjoin : typeOf (.builtin "bytes.join") = pure (.type "method_descriptor") := by show builtinType _ = _; rw [builtinType_eq_fast]; kernel_rfl
theorem entry_bjoin : entryFor table "bytes.join" = some Builtin.«bytes.join» := entryFor_of_tree (by kernel_rfl)
theorem args_bjoin (a b : Value) : argsOk "bytes.join" ⟨[a, b], []⟩ := by
  unfold argsOk; rw [signature?_of (id := "bytes.join") (n := ['n', 'i', 'o', 'j']) (o := ['s', 'e', 't', 'y', 'b']) (by kernel_rfl) FB.owner_bytes]; kernel_rfl
theorem take_eq {id : String} {b : Array UInt8} {t : Tok} : Bytes.takeBufferQuiet? id (.bytes b t) 0 = pure (some (b, none)) := by
  unfold Bytes.takeBufferQuiet? Bytes.takeBuffer?
  have e0 : ((0 : Int) == Bytes.fullReadOnly) = false := by decide +kernel
  simp only [KBy.special_eq KBy.look_buffer, KBy.own_buffer, pure_bind, e0, KBy.buffer_eq]
  kernel_rfl
/-- octets as values -/
inductive BysAre : List Value → List (Array UInt8) → Prop
  | nil : BysAre [] []
  | cons (b : Array UInt8) (t : Tok) {vs bs} : BysAre vs bs → BysAre (.bytes b t :: vs) (b :: bs)
theorem BysAre.length {vs : List Value} {bs : List (Array UInt8)} (h : BysAre vs bs) : vs.length = bs.length := by
  induction h with
  | nil => rfl
  | cons _ _ _ ih => simp [ih]
theorem BysAre.at {vs : List Value} {bs : List (Array UInt8)} (h : BysAre vs bs) : ∀ {i : Nat}, i < bs.length → ∃ b t, vs[i]? = some (.bytes b t) ∧ bs[i]? = some b := by
  induction h with
  | nil => intro i hi; exact absurd hi (Nat.not_lt_zero _)
  | cons b t _ ih =>
    intro i hi
    cases i with
    | zero => exact ⟨b, t, rfl, rfl⟩
    | succ i => exact ih (Nat.lt_of_succ_lt_succ hi)
theorem letgo_wp {M : Model} {A : Around} {E : Value → Shared → Prop} {s : Shared} {Q : Unit → Shared → Prop} (q : Q () s) : ∀ (rem keep : List Value), wpAny M A (letGo rem keep) Q E s
  | [], keep => wpAny_pure q
  | x :: rest, keep => by
    unfold letGo
    exact wpAny_bind (wpAny_holding (wpAny_point (letgo_wp q rest keep)))
theorem joinletgo_wp {M : Model} {A : Around} {E : Value → Shared → Prop} {s : Shared} {Q : Unit → Shared → Prop} (q : Q () s) : ∀ (taken : List (Value × Option Value)) (keep : List Value), (∀ p ∈ taken, p.2 = none) → wpAny M A (Bytes.joinLetGo taken keep) Q E s
  | [], keep, _ => wpAny_pure q
  | (x, w) :: rest, keep, h => by
    cases (h _ (.head _) : w = none)
    unfold Bytes.joinLetGo
    exact wpAny_bind (letgo_wp (joinletgo_wp q rest keep fun p hp => h p (.tail _ hp)) _ _)
theorem loop_wp {M : Model} {A : Around} {E : Value → Shared → Prop} {s : Shared} {β : Type} {f : Nat → β → Sem (ForInStep β)} {I : Nat → β → Prop} {n : Nat} {Q : β → Shared → Prop} (step : ∀ i b (Q : ForInStep β → Shared → Prop), i < n → I i b → (∀ b', I (i + 1) b' → Q (.yield b') s) → wpAny M A (f i b) Q E s) (q : ∀ b', I n b' → Q b' s) :
    ∀ k i b, i + k = n → I i b → wpAny M A (forIn (List.range' i k 1) b f) Q E s
  | 0, i, b, e, h => wpAny_pure (q b (by rw [← e]; exact h))
  | k + 1, i, b, e, h => by
    rw [List.range'_succ]
    refine KPc.turn (step i b _ (by omega) h fun b' h' => ?_)
    exact loop_wp step q k (i + 1) b' (by omega) h'
section
variable {prog : Program} {w : World} {A : Around}
theorem meets_bjoin {sep : Array UInt8} {t : Tok} {a : Addr} {vs : List Value} {bs : List (Array UInt8)} {n : Nat} (h2 : 2 ≤ vs.length) (hb : BysAre vs bs) (hl : Bytes.tooLong (bs.toArray.foldl (· + ·.size) (sep.size * (bs.toArray.size - 1))) = false) (hl2 : (Bytes.joined sep bs).size ≤ sizeLine) :
    Meets (Builtin.«bytes.join» ⟨[.bytes sep t, .ref a], []⟩) (fun _ R s => s.heap.IsList a vs.toArray ∧ R (.ok (.ret (.bytes (Bytes.joined sep bs) s.toks))) { s with toks := s.toks + 1 }) := by
  refine .of_wp fun prog w A R s hS => ?_
  obtain ⟨hS, hR⟩ := hS
  obtain ⟨o, ho, hc, k, hd⟩ := hS
  unfold «bytes.join»
  unfold Bytes.joinM
  refine wpAny_bind (wpAny_pure ?_)
  dsimp only
  rw [if_pos (by decide)]
  have hT : s.TypeIs (.ref a) "list" := ⟨o, ho, hc⟩
  refine wpAny_bind ?_
  unfold Bytes.joinItems
  refine wpAny_bind (wpAny_typeOf hT ?_)
  rw [if_pos (by decide)]
  refine wpAny_pure ?_
  refine wpAny_bind (wpAny_seqItems ho hd ?_)
  dsimp only
  rw [if_pos (by decide)]
  obtain ⟨v1, v2, r, rfl⟩ : ∃ v1 v2 r, vs = v1 :: v2 :: r := by
    cases vs with
    | nil => simp at h2
    | cons v1 vs => cases vs with
      | nil => simp at h2
      | cons v2 r => exact ⟨_, _, _, rfl⟩
  refine wpAny_bind ?_
  generalize v1 :: v2 :: r = vs at *
  rw [KPc.range_list]
  refine loop_wp (n := vs.toArray.size) (I := fun (i : Nat) (st : Array (Array UInt8) × List (Value × Option Value)) => st.1 = (bs.take i).toArray ∧ st.2.any (fun x => x.1.onHeap) = false ∧ ∀ p ∈ st.2, p.2 = none) (fun i st Q hi hI k => ?_) (fun st hI => ?_) _ 0 _ (by simp) ⟨by simp, rfl, fun p hp => by cases hp⟩
  · obtain ⟨h1, hh, h3⟩ := hI
    obtain ⟨parts, taken⟩ := st
    dsimp only at h1 hh h3 ⊢
    subst h1
    rw [List.size_toArray, hb.length] at hi
    obtain ⟨b, t', e1, e2⟩ := hb.at hi
    refine wpAny_bind (wpAny_seqItems ho hd ?_)
    dsimp only
    have eg : vs.toArray.getD i Value.none = .bytes b t' := by
      rw [Array.getD_eq_getD_getElem?, List.getElem?_toArray, e1]; rfl
    rw [eg, hh, if_neg (by decide)]
    refine wpAny_bind (wpAny_holding (wpAny_of_eq take_eq ?_))
    dsimp only
    refine wpAny_bind (wpAny_seqItems ho hd ?_)
    dsimp only
    rw [if_neg (by simp)]
    refine wpAny_pure (k _ ⟨?_, ?_, ?_⟩)
    · rw [List.take_add_one, e2]; simp
    · rw [List.any_append, hh]; rfl
    · intro p hp
      rcases List.mem_append.mp hp with hp | hp
      · exact h3 p hp
      · rw [List.mem_singleton.mp hp]
  · obtain ⟨h1, hh, h3⟩ := hI
    obtain ⟨parts, taken⟩ := st
    dsimp only at h1 hh h3 ⊢
    rw [List.size_toArray, hb.length, List.take_length] at h1
    subst h1
    refine wpAny_bind (wpAny_pure ?_)
    rw [hl, if_neg (by decide)]
    refine wpAny_bind (wpAny_mkBytes ?_ hl2)
    refine wpAny_bind (wpAny_holding (wpAny_point ?_))
    refine wpAny_bind (joinletgo_wp ?_ _ _ h3)
    exact wpAny_pure ⟨_, rfl, hR⟩
theorem joined_nil (bs : List (Array UInt8)) : Bytes.joined #[] bs = (bs.map Array.toList).flatten.toArray := by
  unfold Bytes.joined
  have : ∀ (l : List (Array UInt8)) (n : Nat) (o : Array UInt8), (l.zipIdx n).foldl (fun out (p : Array UInt8 × Nat) => (if p.2 > 0 then out ++ #[] else out) ++ p.1) o = o ++ (l.map Array.toList).flatten.toArray := by
    intro l
    induction l with
    | nil => intro n o; simp
    | cons a l ih =>
      intro n o
      rw [List.zipIdx_cons, List.foldl_cons, ih]
      apply Array.ext'
      dsimp only
      split <;> simp
  have h := this bs 0 #[]
  simpa using h
end
end Mine
end
section
open PySem PySem.Calls PyProof.Rows PySem.W
set_option maxRecDepth 100000
set_option linter.all false
set_option maxHeartbeats 1000000
namespace Mine
noncomputable def bysL (ls : List (List Nat)) : D := .list (ls.map fun l => .bytes (By l))
theorem RdAll.bys {ok : Addr → Prop} {h : Heap} : ∀ {ls : List (List Nat)} {vs : List Value}, RdAll ok h vs (ls.map fun l => D.bytes (By l)) → BysAre vs (ls.map By)
  | [], vs, r => by cases r; exact .nil
  | l :: ls, vs, r => by
    cases r with
    | cons a r => cases a; exact .cons _ _ (RdAll.bys r)
theorem By_flat (ls : List (List Nat)) : Builtin.Bytes.joined #[] (ls.map By) = By ls.flatten := by
  rw [joined_nil]
  unfold By
  congr 1
  induction ls with
  | nil => rfl
  | cons l ls ih =>
    rw [List.map_cons, List.map_cons, List.flatten_cons, ih, List.flatten_cons, List.map_append]
theorem fold_sizes : ∀ (ls : List (List Nat)) (n : Nat), (ls.map By).foldl (· + ·.size) n = n + ls.flatten.length
  | [], n => by simp
  | l :: ls, n => by
    rw [List.map_cons, List.foldl_cons, fold_sizes ls, By_size]
    simp [Nat.add_assoc]
section
variable {prog : Program} {w : World} {A : Around} {env : Env} {Γ : Ctx}
theorem ev_joinb {e : Expr} {k0 : Nat} {q ap pos : Pos} {ls : List (List Nat)} (h : Ev prog w A env Γ e (bysL ls)) (hb : attributeBase (.Constant (.bytes []) k0 q) "join" env (eval (.Constant (.bytes []) k0 q) env) = eval (.Constant (.bytes []) k0 q) env) (hse : starEach [e] env = [(false, eval e env)]) (hline : (ap.endLine == pos.line) = true)
    (h2 : 2 ≤ ls.length) (hl : ls.flatten.length ≤ 1000000) : Ev prog w A env Γ (.Call (.Attribute (.Constant (.bytes []) k0 q) "join" ap) [e] [] pos) (.bytes (By ls.flatten)) := fun ok s E g => by
  refine wpAny_Call_method1_late hb hline (by rw [hse]; rfl) ?_
  refine Constant_bytes ?_
  refine ⟨"bytes", "bytes.join", FB.plainAttrs_bytes, slot_bjoin, type_bjoin, PySem.W.typeIs_bytes _ _ _, (fun _ e => nomatch e), ?_⟩
  have k1 := kp_tok s (s.toks + 1)
  refine Calls.callWith_builtin rfl (Calls.evalArgs_plain (Calls.spliced_cons (h.go (s := { s with toks := s.toks + 1 }) (g.ext (kp_ext k1)) fun v s2 r2 k2 g2 => Calls.spliced_nil ?_)))
  obtain ⟨a, vs, rfl, ka, hl2, ra⟩ := r2.isList
  have hb := ra.bys
  have hlen : vs.length = ls.length := by rw [ra.length, List.length_map]
  have e1 : ([] : List UInt8).toArray = #[] := rfl
  refine call_meets slot_bjoin (PySem.W.typeIs_bytes _ _ _) entry_bjoin (args_bjoin _ _) (meets_bjoin (n := 0) (by omega) hb ?_ ?_) ⟨hl2, ?_⟩
  · refine KBy.tooLong_not ?_
    rw [show (#[] : Array UInt8).size = 0 from rfl, Nat.zero_mul, ← Array.foldl_toList]
    show (ls.map By).foldl _ 0 ≤ _
    rw [fold_sizes]; omega
  · rw [By_flat, By_size]; exact Nat.le_trans hl (by decide)
  · rw [By_flat]
    exact ⟨.bytes _ _, kp_trans k1 (kp_trans k2 (kp_tok _ _))⟩
noncomputable def intsL (ns : List Int) : D := .list (ns.map .int)
theorem ints_arr : ∀ {ns : List Int} {vs : List Value}, IntsAre vs ns → ∃ xs : List (Int × Tok), vs = xs.map (fun p => .int p.1 p.2) ∧ ns = xs.map (·.1)
  | _, _, .nil => ⟨[], rfl, rfl⟩
  | _, _, .cons n t r => by
    obtain ⟨xs, rfl, rfl⟩ := ints_arr r
    exact ⟨(n, t) :: xs, rfl, rfl⟩
theorem pre_sum (ns : List Int) (val : Nat → Int) (h : ∀ i (hi : i < ns.length), val i = ns[i]) : ∀ k, k ≤ ns.length → preSum val k = (ns.take k).sum
  | 0, _ => by simp [preSum]
  | k + 1, hk => by
    rw [preSum, pre_sum ns val h k (by omega), h k (by omega), List.take_add_one, List.getElem?_eq_getElem (by omega), List.sum_append]
    simp
theorem op_sum {ns : List Int} (hh : A.handled = none) : Op1 prog w A (fun v => call (.builtin "sum") [v]) (intsL ns) (.int ns.sum) := fun ok s E v N W r => by
  obtain ⟨a, vs, rfl, ka, hl, ra⟩ := r.isList
  obtain ⟨xs, rfl, rfl⟩ := ints_arr ra.ints
  have e1 : (xs.map fun p => Value.int p.1 p.2).toArray = intItems xs.toArray := by simp [intItems]
  rw [e1] at hl
  refine sum_intListG hh hl fun h' tk t' hk => ?_
  have e2 : preSum (numAt xs.toArray) xs.toArray.size = (xs.map (·.1)).sum := by
    rw [pre_sum (xs.map (·.1)) _ (fun i hi => ?_) _ (by simp), List.take_of_length_le (by simp)]
    have hi' : i < xs.length := by simpa using hi
    unfold numAt
    simp [hi']
  rw [e2]
  exact ⟨.int _ _, ⟨h', tk, _, rfl, hk⟩⟩
theorem op_strint {n : Nat} (hn : n < 10) : Op1 prog w A (fun v => call (.type "str") [v]) (natD n) (.str (S [48 + n])) := fun ok s E v N W r => by
  obtain ⟨t, rfl⟩ := r.isInt
  refine PySem.P.str_of_int ?_ ?_
  · have e : ∀ m, m < 10 → (((m : Nat) : Int)).natAbs.log2 < 1920 := by decide +kernel
    exact e n hn
  · have e : ∀ m, m < 10 → (Str.ofString (toString ((m : Nat) : Int))) = S [48 + m] := by decide +kernel
    rw [e n hn]
    exact ⟨.str _ _, kp_tok _ _⟩
end
end Mine
end
section
open PySem PySem.Calls PyProof.Rows PySem.W
set_option maxRecDepth 100000
set_option linter.all false
set_option maxHeartbeats 1000000
namespace Mine
/-! what the law speaks of, in plain words -/
noncomputable def cutF (sc : List Int) : List Int := sc.take 4
noncomputable def numsF (sc : List Int) : List Int := [64, 257, 507, 65, 1027, 1023] ++ cutF sc
noncomputable def placeF (ns : List Int) (k : Nat) : Int := ((ns.getD k 0).fdiv 256).fmod ((k : Nat) + 1)
noncomputable def kidsOf (ns : List Int) (p : Nat) : List Nat := (List.range ns.length).filter fun k => placeF ns k == (p : Nat)
noncomputable def octF (x : Int) : Nat := (x.fmod 256).toNat
noncomputable def woodF (ns : List Int) : Wood := ⟨ns.length, (List.range (ns.length + 1)).map (kidsOf ns), ns.map fun x => nameOf (octF x)⟩
noncomputable def rowsOf (ns : List Int) : List Row := rowsF (woodF ns) (ns.length + 1) 0 []
noncomputable def totF (sc : List Int) (t : Int) : Int := t + (cutF sc).sum
noncomputable def patOf (sc : List Int) (t : Int) : List Nat := patF (pickF (leafNames (rowsOf (numsF sc))) (totF sc t)) (totF sc t)
noncomputable def cell (ns : List Int) (r : Row) : List Nat := 4 :: (nameOf (octF (ns.getD r.k 0)) ++ [r.many])
noncomputable def bodyF (ns : List Int) : List Nat := ((rowsOf ns).map (cell ns)).flatten
noncomputable def tapeF (ns : List Int) : List Nat := (kidsOf ns 0).length :: bodyF ns
noncomputable def leftI (sc : List Int) : Int := 6 * ((rowsOf (numsF sc)).length : Nat) - 2 - (totF sc 175).fmod 6
noncomputable def leftF (sc : List Int) : Nat := (leftI sc).toNat
noncomputable def wordsF (left : Nat) : List Nat := if left % 6 = 0 ∨ left % 6 = 5 then uintMsg else shortMsg (left % 6 - 1)

theorem octF_lt (x : Int) : octF x < 256 := by
  unfold octF
  have h1 : 0 ≤ x.fmod 256 := Int.fmod_nonneg_of_pos _ (by decide)
  have h2 : x.fmod 256 < 256 := Int.fmod_lt_of_pos _ (by decide)
  omega
theorem octF_int (x : Int) : ((octF x : Nat) : Int) = x.fmod 256 := by
  unfold octF
  have h1 : 0 ≤ x.fmod 256 := Int.fmod_nonneg_of_pos _ (by decide)
  omega
theorem nums_len (sc : List Int) : 6 ≤ (numsF sc).length ∧ (numsF sc).length ≤ 10 := by
  unfold numsF cutF
  rw [List.length_append, List.length_take]
  simp only [List.length_cons, List.length_nil]
  omega
theorem nameOf_len (x : Nat) : (nameOf x).length = 4 := rfl
theorem place_rng (ns : List Int) (k : Nat) : 0 ≤ placeF ns k ∧ placeF ns k < (k : Nat) + 1 :=
  ⟨Int.fmod_nonneg_of_pos _ (by omega), Int.fmod_lt_of_pos _ (by omega)⟩
theorem wood_kids (ns : List Int) (p : Nat) : (woodF ns).kids p = if p ≤ ns.length then kidsOf ns p else [] := by
  unfold Wood.kids woodF
  dsimp only
  rw [List.getD_eq_getElem?_getD, List.getElem?_map]
  by_cases h : p < ns.length + 1
  · rw [if_pos (by omega), List.getElem?_range h]; rfl
  · rw [if_neg (by omega), List.getElem?_eq_none (by simp; omega)]; rfl
theorem wood_kids' (ns : List Int) {p : Nat} (h : p ≤ ns.length) : (woodF ns).kids p = kidsOf ns p := by rw [wood_kids, if_pos h]
theorem wood_ok {ns : List Int} (h : ns.length ≤ 10) : (woodF ns).Ok where
  small := h
  bl := by simp [woodF]
  nl := by simp [woodF]
  up := fun p => by
    rw [wood_kids]
    split
    · exact List.Pairwise.filter _ List.pairwise_lt_range
    · exact .nil
  rng := fun p k hk => by
    rw [wood_kids] at hk
    split at hk
    · obtain ⟨h1, h2⟩ := List.mem_filter.mp hk
      have h3 := List.mem_range.mp h1
      have h4 := place_rng ns k
      have h5 : placeF ns k = (p : Nat) := by simpa using h2
      exact ⟨by omega, h3⟩
    · cases hk
  nm4 := fun k => by
    unfold Wood.nm woodF
    dsimp only
    rw [List.getD_eq_getElem?_getD, List.getElem?_map]
    cases ns[k]? with
    | none => simp
    | some x => simp [nameOf_len]
theorem rows_len {sc : List Int} : (rowsOf (numsF sc)).length ≤ 1023 := rowsF_len' (wood_ok (nums_len sc).2) _ _ _
end Mine
end
section
open PySem PySem.Calls PyProof.Rows PySem.W
set_option maxRecDepth 100000
set_option linter.all false
set_option maxHeartbeats 1000000
namespace Mine
/-- data that can be compared -/
noncomputable def Cp (n : Nat) (d : D) : Prop := ∃ p, d.py = some p ∧ p.canLay0 = true ∧ p.depth ≤ n
theorem cp_flat {d : D} (h : flat d = true) : Cp 0 d := let ⟨a, b, c⟩ := flat_py h; ⟨_, a, b, Nat.le_of_eq c⟩
theorem Cp.up {n m : Nat} {d : D} (h : Cp n d) (k : n ≤ m) : Cp m d := let ⟨p, a, b, c⟩ := h; ⟨p, a, b, Nat.le_trans c k⟩
theorem cps {n : Nat} : ∀ {ds : List D}, (∀ d ∈ ds, Cp n d) → ∃ ps, pys ds = some ps ∧ PyData.canLayAll0 ps = true ∧ PyData.depthAll ps ≤ n
  | [], _ => ⟨[], rfl, rfl, Nat.zero_le _⟩
  | d :: ds, h => by
    obtain ⟨p, a, b, c⟩ := h d (.head _)
    obtain ⟨ps, a2, b2, c2⟩ := cps (ds := ds) fun x hx => h x (.tail _ hx)
    refine ⟨p :: ps, by unfold pys; rw [a, a2], by simp [PyData.canLayAll0, b, b2], ?_⟩
    unfold PyData.depthAll
    exact Nat.max_le.mpr ⟨c, c2⟩
theorem cp_list {n : Nat} {ds : List D} (h : ∀ d ∈ ds, Cp n d) : Cp (n + 1) (.list ds) := by
  obtain ⟨ps, a, b, c⟩ := cps h
  exact ⟨.list ps, by unfold D.py; rw [a]; rfl, by simpa [PyData.canLay0] using b, by unfold PyData.depth; omega⟩
theorem cp_str {l : List Nat} (h : ∀ c ∈ l, c < 128) : Cp 0 (.str (S l)) := cp_flat (flat_str h)
section
variable {prog : Program} {w : World} {A : Around} {env : Env} {l : List Env} {Γ Γ1 Γ2 : Ctx}
theorem op_eq_same {n : Nat} {d : D} (h : Cp n d) (hn : n ≤ 64) (r : Room 1 A) : Op2 prog w A (compareOp .Eq) d d (.bool true) := by
  obtain ⟨p, a, b, c⟩ := h
  exact op_eqd a a b b (SeqAt.eqv_refl p b) r (Nat.le_trans c hn)
theorem op_ne_same {n : Nat} {d : D} (h : Cp n d) (hn : n ≤ 64) (r : Room 1 A) : Op2 prog w A (compareOp .NotEq) d d (.bool false) := by
  obtain ⟨p, a, b, c⟩ := h
  exact op_ned a a b b (by rw [SeqAt.eqv_refl p b]; rfl) r (Nat.le_trans c hn)
/-- a call of the finder -/
theorem found_call {ok : Addr → Prop} {r : FnRec} {k : Nat} {tape : List Nat} {parts : List Pt} {d : D} {er : Option (List Nat)} {e1 e2 : Expr} {p pos : Pos} {s : Shared} {E : Value → Shared → Prop} {Q : Value → Shared → Prop} (okE : EnvOk env) (F : FoundC prog w k r tape parts d er) (hf : fnRec "_law_found" = some r) (hk : env.kindOf "_law_found" = some .globalImplicit) (room : Room k A)
    (hfr : er ≠ none → A.frames = some l) (hl : er = none → l = []) (h : EvSs prog w A env Γ [e1, e2] [.data (.bytes (By tape)), .data (partsL parts)]) (g : Gd ok env Γ s.heap) (v : Lv l s.heap)
    (q : ∀ u s', Rd ok s'.heap u d → Left ok l s s' → Q u s') : wpAny (model prog w) A (eval (.Call (.Name "_law_found" p) [e1, e2] [] pos) env) Q E s := by
  refine wpAny_Call_Name_kw (name_fn okE g.W hf (by decide) hk (fun a I => ?_) (by decide))
  obtain ⟨o, pm, cd, doc, e, dd, c⟩ := id I
  refine callWith_function (o := o) (argsS_go h g fun vs s1 rv k1 g1 => ⟨⟨kp_ext k1 _ _ e, dd⟩, wpAny_call ?_⟩)
  have x := kp_ext k1
  refine codeAny_mono (F ok A l s1 a vs room hfr hl g1.N g1.W (v.ext x) (I.ext x) rv) fun rr s2 qq => ?_
  obtain ⟨u, rfl, ru, L⟩ := qq
  refine q u s2 ru ⟨L.W, L.N, fun b o h1 h2 e => L.keep b o h1 h2 (x _ _ e), fun b hb o e => L.fr b hb o (x _ _ e), ?_⟩
  obtain ⟨_, _, _, rfl, _⟩ := k1
  exact L.same
theorem evx_found {r : FnRec} {k : Nat} {tape : List Nat} {parts : List Pt} {d : D} {e1 e2 : Expr} {p pos : Pos} (okE : EnvOk env) (F : FoundC prog w k r tape parts d none) (hf : fnRec "_law_found" = some r) (hk : env.kindOf "_law_found" = some .globalImplicit) (room : Room k A)
    (h : EvSs prog w A env Γ [e1, e2] [.data (.bytes (By tape)), .data (partsL parts)]) : EvX prog w A [tabP] env Γ (.Call (.Name "_law_found" p) [e1, e2] [] pos) d := fun ok s E g => by
  refine found_call (l := []) okE F hf hk room (fun z => absurd rfl z) (fun _ => rfl) h g (fun _ m => by cases m) fun u s' ru L => ?_
  have kk : ∀ b o, b ∉ [tabP] → s.heap.get? b = some o → s'.heap.get? b = some o := fun b o hb e => L.keep b o (mem1.mp hb) (fun m => by cases m) e
  have li : Lists ok s.heap s'.heap := fun a vs _ ⟨o, e, c, n, d⟩ => ⟨o, L.keep a o (g.W.notTab e (by rw [d]; trivial)) (fun m => by cases m) e, c, n, d⟩
  refine ⟨ru, g.turn L.W L.N li kk (fun x hx => List.mem_singleton.mp hx), li, ?_⟩
  obtain ⟨_, _, _, rfl⟩ := L.same
  exact ⟨_, _, _, rfl, kk⟩
theorem gd_left {ok : Addr → Prop} {s s' : Shared} (okE : EnvOk env) (hf : env.frame = some env.locals) (g : Gd ok env Γ s.heap) (L : Left ok [env] s s') : Gd ok env Γ s'.heap := by
  obtain ⟨m, cm, ⟨oL, es, ep, eL, dL, rL⟩, hc, hx⟩ := g.F
  have fr1 : ∀ b, b ∈ frs [env] → b = env.locals := fun b hb => by
    obtain ⟨y, hy, hfy⟩ := List.mem_filterMap.mp hb
    cases List.mem_singleton.mp hy
    rw [hf] at hfy; cases hfy; rfl
  have keep : ∀ b o, s.heap.get? b = some o → (match o.data with | .fields _ => False | .dict .. => False | _ => True) → s'.heap.get? b = some o := fun b o e hd => by
    refine L.keep b o (g.W.notTab e ?_) (fun m => ?_) e
    · revert hd; cases o.data <;> intro hd <;> trivial
    · rw [fr1 b m, eL] at e; cases e
      rw [dL] at hd; exact hd
  have li : Lists ok s.heap s'.heap := fun a vs _ ⟨o, e, c, n, d⟩ => ⟨o, keep a o e (by rw [d]; trivial), c, n, d⟩
  refine ⟨L.W, L.N, m, cm, ?_, fun n c e => ?_, fun x sl e => let ⟨v, p, q⟩ := hx x sl e; ⟨v, p, q.lists li⟩⟩
  · obtain ⟨sl, e2⟩ := L.fr env.locals (List.mem_filterMap.mpr ⟨env, .head _, hf⟩) oL eL ⟨es, ep, dL⟩
    exact ⟨_, es, ep, e2, dL, rL⟩
  · obtain ⟨o, e', d⟩ := hc n c e
    exact ⟨o, keep c o e' (by rw [d]; trivial), d⟩

/-- the law's own body: it ends in True -/
noncomputable def ExL (prog : Program) (w : World) (A : Around) (env : Env) (Γ : Ctx) (ss : List Stmt) : Prop :=
  ∀ ok s E, Gd ok env Γ s.heap → wpAny (model prog w) A (execs ss env) (fun f s' => f = .ret (.bool true) ∧ Wd s'.heap ∧ (∀ b o, b ≠ tabP → b ∉ own env → s.heap.get? b = some o → s'.heap.get? b = some o) ∧ ∃ h tk dr, s' = { s with heap := h, toks := tk, drawn := dr }) E s
theorem exl_consX {X : List Addr} {st : Stmt} {r : List Stmt} (hX : ∀ x ∈ X, x = tabP) (h : ExX1 prog w A X env Γ st Γ1) (k : ExL prog w A env Γ1 r) : ExL prog w A env Γ (st :: r) := fun ok s E g =>
  wpAny_execs_cons (wpAny_mono (h ok s E g) (fun f s1 z => by
    obtain ⟨rfl, g1, k1⟩ := z
    refine wpAny_mono (k ok s1 E g1) (fun f s2 z => ?_) fun _ _ x => x
    obtain ⟨a, b, c, h2, t2, d2, e⟩ := z
    refine ⟨a, b, fun b o h1 h2 e => c b o h1 h2 (k1.kept b o (fun m => (List.mem_append.mp m).elim (fun m => h1 (hX b m)) h2) e), ?_⟩
    obtain ⟨_, _, _, rfl, _⟩ := k1
    subst e
    exact ⟨_, _, _, rfl⟩) fun _ _ x => x)
theorem exl_cons {st : Stmt} {r : List Stmt} (h : Ex1 prog w A env Γ st Γ1) (k : ExL prog w A env Γ1 r) : ExL prog w A env Γ (st :: r) := exl_consX (X := []) (fun x hx => by cases hx) h k
theorem exl_if {t : Expr} {b r : List Stmt} {pos : Pos} (h : Tst prog w A env Γ t false) (k : ExL prog w A env Γ r) : ExL prog w A env Γ (.If t b [] pos :: r) :=
  exl_cons (ex1_if (Γ' := Γ) h (fun e => by cases e) fun _ => ex_nil) k
theorem exl_sub {ss : List Stmt} (h : ExL prog w A env Γ1 ss) (k : Sub Γ1 Γ) : ExL prog w A env Γ ss := fun ok s E g => h ok s E (g.sub k)
end
end Mine
end
section
open PySem PySem.Calls PyProof.Rows PySem.W
set_option maxRecDepth 100000
set_option linter.all false
set_option maxHeartbeats 1000000
namespace Mine
/-- what must be so of a script's data -/
structure PatOk (ns : List Int) (pat : List Nat) : Prop where
  len : pat.length ≤ 60
  signs : ∀ c ∈ pat, c ∈ patSigns
  plen : (partsF pat).length ≤ 60
  pch : ∀ p ∈ partsF pat, ∀ x, p = .ch x → x < 1114112
  full : ∃ B', loopF (walkF (partsF pat) 11 (closedF (partsF pat) [0]) []) (kidsOf ns 0).length (bodyF ns) = some (dueF (rowsOf ns) pat, B', none)
structure LawOk (sc : List Int) : Prop where
  ne : leafNames (rowsOf (numsF sc)) ≠ []
  lv : ∀ l ∈ leafNames (rowsOf (numsF sc)), l.length ≤ 48 ∧ l.length % 4 = 0
  nm : ∀ r ∈ rowsOf (numsF sc), r.name.length ≤ 1000 ∧ ∀ c ∈ r.name, c < 128
  rk : ∀ r ∈ rowsOf (numsF sc), r.k < (numsF sc).length ∧ r.many ≤ 10
  two : 2 ≤ (rowsOf (numsF sc)).length
  p1 : PatOk (numsF sc) (patOf sc 175)
  p2 : PatOk (numsF sc) (patOf sc 49)
  pos : 0 ≤ leftI sc
  short : ∃ B', loopF (walkF (partsF (patOf sc 175)) 11 (closedF (partsF (patOf sc 175)) [0]) []) (kidsOf (numsF sc) 0).length ((bodyF (numsF sc)).take (leftF sc)) = some (dueF ((rowsOf (numsF sc)).take (leftF sc / 6)) (patOf sc 175), B', some (wordsF (leftF sc)))
theorem law_sig {r : FnRec} (h : fnRec "law" = some r) : Sig r ["script"] := by
  have hr : fnRec "law" = some _ := rfl
  cases Option.some.inj (h.symm.trans hr)
  exact ⟨fun pm cd doc vs h => by obtain ⟨a, rfl⟩ := len1 h; rfl, fun n p hp => by simp only [List.mem_singleton] at hp; subst hp; exact .inl rfl, fun n p hp => nd_self (by rfl) p hp, rfl, rfl, rfl, rfl⟩
section
variable {prog : Program} {w : World}
theorem law_below {ns : List Int} {r : FnRec} (hr : fnRec "law" = some r) {A : Around} {env : Env} {pm cd doc : Value} {L a : Addr} (he : env = callEnvC (docDef r.name r.params r.body r.scope pm cd doc) L a) (okE : EnvOk env) (room : Room 1 A) {Γ : Ctx} (hn : List.lookup (Str.ofString "numbers") Γ = some (.data (intsL ns))) (hl : ns.length ≤ 10) :
    ∃ elt gens scope pos, r.body[2]? = some (.Assign [.Name "below" ⟨197, 4, 197, 9⟩] (.ListComp elt gens scope pos) ⟨197, 4, 197, 123⟩) ∧ Ex1 prog w A env Γ (.Assign [.Name "below" ⟨197, 4, 197, 9⟩] (.ListComp elt gens scope pos) ⟨197, 4, 197, 123⟩) (("below", .data (belowD (woodF ns))) :: Γ) := by
  have hr' : fnRec "law" = some _ := rfl
  cases Option.some.inj (hr.symm.trans hr')
  refine ⟨_, _, _, _, rfl, ?_⟩
  have low := okE.lw
  have e0 : belowD (woodF ns) = .list ((List.range (ns.length + 1)).map fun p => natsL (kidsOf ns p)) := by
    unfold belowD woodF
    dsimp only
    rw [List.map_map]; rfl
  rw [e0]
  refine ex1_lc okE low (by rw [he]; rfl) ?_ (by rw [he]; rfl)
  refine ⟨_, (List.range (ns.length + 1)).map natD, fun d => match d with | .int i => some (natsL (kidsOf ns i.toNat)) | _ => none, [("numbers", .data (intsL ns))], ⟨by rw [he]; with_unfolding_all rfl, rfl, by decide, by rw [he]; intro p hp; simp only [List.mem_singleton] at hp; subst hp; rfl, by intro n; rfl⟩,
    evi_rangeN okE room.hd ((ev_bin (ev_len okE (by rw [he]; rfl) (ev_name okE hn) (by rfl) (by rw [List.length_map]; omega)) ev_int op_add).to ?_) (by rfl) (by omega) (by rw [he]; rfl), fun C => ⟨⟨hn, .inl (by rw [he]; rfl), .inl (by rw [he]; rfl), ⟨_, rfl, by rw [he]; rfl⟩⟩, trivial⟩, by simp,
    by rw [List.length_map, List.length_range]; exact Nat.le_trans (by omega) (show 1001 ≤ sizeLine by decide), fun C okE' low' d hd => ?_, ?_, by intro _; rfl⟩
  · rw [List.length_map]; rfl
  · obtain ⟨p, hp, rfl⟩ := List.mem_map.mp hd
    have hp' := List.mem_range.mp hp
    have fin : (List.range ns.length).filter (fun k => placeF ns k == (p : Nat)) = kidsOf ns p := rfl
    refine turn_of (b := true) (d' := natsL (kidsOf ns p)) (bind_cell (c := C + 1) okE' low' (by rfl) (by rw [he]; rfl) (Nat.le_succ _)) ⟨rfl, trivial⟩ tstl_nil (fun _ => EvX.of (ev_lc (out := (kidsOf ns p).map natD) okE' ?_)) ?_
    · refine ⟨_, (List.range ns.length).map natD, intP (fun i => placeF ns i.toNat == (p : Nat)), [("numbers", .data (intsL ns)), ("place", .data (natD p))], ⟨by rw [he]; with_unfolding_all rfl, rfl, by decide, by rw [he]; intro p hp; simp only [List.mem_cons, List.not_mem_nil, or_false] at hp; rcases hp with rfl | rfl <;> rfl, by intro n; rfl⟩,
        evi_rangeN okE' room.hd ((ev_len okE' (by rfl) (ev_name okE' rfl) (by rfl) (by rw [List.length_map]; omega)).to (by rw [List.length_map])) (by rfl) (by omega) (by rfl), fun C2 => ⟨⟨rfl, .inl (by rw [he]; rfl), .inl (by rw [he]; rfl), ⟨_, rfl, by rw [he]; rfl⟩⟩, ⟨rfl, .inl (by rw [he]; rfl), .inl (by rw [he]; rfl), ⟨_, rfl, by rw [he]; rfl⟩⟩, trivial⟩, by simp,
        by rw [List.length_map, List.length_range]; exact Nat.le_trans (by omega) (show 1001 ≤ sizeLine by decide), fun C2 okE2 low2 d hd => ?_, ?_, by intro _; rfl⟩
      · obtain ⟨k, hk, rfl⟩ := List.mem_map.mp hd
        have hk' := List.mem_range.mp hk
        have hat : (ns.map D.int)[((k : Nat) : Int).toNat]? = some (.int (ns.getD k 0)) := by
          rw [Int.toNat_natCast, List.getElem?_map, List.getElem?_eq_getElem hk', List.getD_eq_getElem?_getD, List.getElem?_eq_getElem hk']; rfl
        refine turn_of (b := placeF ns k == (p : Nat)) (bind_loc okE2 low2 (by rfl)) ⟨rfl, rfl, trivial⟩ (tstl_one ?_) (fun _ => EvX.of (ev_name okE2 rfl)) rfl
        refine tst_cmp (ev_bin (ev_bin (ev_item (ev_name okE2 rfl) (ev_name okE2 rfl) (by omega) hat (by omega)) ev_int (op_div (by decide) (by decide))) (ev_bin (ev_name okE2 rfl) ev_int op_add) (op_mod (by omega))) (ev_name okE2 rfl) op_eqi
      · rw [intP_nats]; rfl
    · rfl
  · rw [List.filterMap_map]
    exact (List.filterMap_eq_map (f := fun p => natsL (kidsOf ns p)) ▸ rfl)
end
end Mine
end
section
open PySem PySem.Calls PyProof.Rows PySem.W
set_option maxRecDepth 100000
set_option linter.all false
set_option maxHeartbeats 2000000
namespace Mine
section
variable {prog : Program} {w : World}
theorem cut_len (sc : List Int) : (cutF sc).length ≤ 4 := by unfold cutF; rw [List.length_take]; omega
/-- the first half of the law: up to the parts -/
theorem law_half {sc : List Int} {r : FnRec} (hr : fnRec "law" = some r) {A : Around} {env : Env} {pm cd doc : Value} {L a : Addr} (he : env = callEnvC (docDef r.name r.params r.body r.scope pm cd doc) L a) (okE : EnvOk env) (room : Room 30 A) (hsc : sc.length ≤ 63) (H : LawOk sc) :
    (ExL prog w A env [("parts", .data (.list [partsL (partsF (patOf sc 175)), partsL (partsF (patOf sc 49))])), ("patterns", .data (strL [patOf sc 175, patOf sc 49])), ("rows", .data (rowsL (rowsOf (numsF sc)))), ("below", .data (belowD (woodF (numsF sc)))), ("numbers", .data (intsL (numsF sc))), ("cut", .data (intsL (cutF sc)))] (r.body.drop 6)) →
    ExL prog w A env [("script", .data (intsL sc))] r.body := by
  have hr' : fnRec "law" = some _ := rfl
  cases Option.some.inj (hr.symm.trans hr')
  intro K
  have low := okE.lw
  have hn := nums_len sc
  have hcl := cut_len sc
  have room1 : Room 1 A := room.le (by decide)
  have hrl := rows_len (sc := sc)
  have hcut : (sc.map D.int).take 4 = (cutF sc).map D.int := by rw [← List.map_take]; rfl
  -- cut = script[:4]
  refine exl_cons (ex1_assign (d := intsL (cutF sc)) okE low (.cell (by rw [he]; rfl) (by rw [he]; rfl)) (ev_cutl (l := sc.map D.int) (r := (cutF sc).map D.int) (b := some ((4 : Nat) : Int)) (ev_name okE rfl) .none (.some ev_int) (fun r => hcut ▸ RdAll.upto r 4) (by rw [List.length_map]; exact Nat.le_trans hsc (by decide))) (by rw [he]; rfl)) ?_
  -- numbers
  refine exl_cons (ex1_assign (d := intsL (numsF sc)) okE low (.cell (by rw [he]; rfl) (by rw [he]; rfl)) ((ev_bin (ev_list (.cons ev_int (by rfl) (.cons ev_int (by rfl) (.cons ev_int (by rfl) (.cons ev_int (by rfl) (.cons ev_int (by rfl) (.cons ev_int (by rfl) .nil))))))) (ev_name okE rfl) (op_app (by rw [List.length_map]; exact Nat.le_trans (Nat.add_le_add_left hcl _) (by decide)))).to rfl) (by rw [he]; rfl)) ?_
  -- below
  obtain ⟨_, _, _, _, hb1, hb2⟩ := law_below (prog := prog) (w := w) (ns := numsF sc) hr he okE room1 (Γ := [("numbers", .data (intsL (numsF sc))), ("cut", .data (intsL (cutF sc))), ("script", .data (intsL sc))]) rfl hn.2
  cases Option.some.inj hb1
  refine exl_cons hb2 ?_
  -- rows
  have wok := wood_ok hn.2
  obtain ⟨rr, hrr, Frr⟩ := f_rows (prog := prog) (w := w) wok
  have Fr := Frr ((numsF sc).length + 1) 0 [] (Nat.le_refl _) (Nat.zero_le _) (Nat.zero_le _)
  refine exl_cons (ex1_assign (d := rowsL (rowsOf (numsF sc))) okE low (.cell (by rw [he]; rfl) (by rw [he]; rfl)) (ev_call okE hrr (by decide) (by rw [he]; rfl) Fr (room.le (by omega)) (.cons (ev_name okE rfl) (by rfl) (.cons ev_int (by rfl) (.cons (ev_lit (l := [])) (by rfl) (.cons (ev_lc okE ?_) (by rfl) .nil))))) (by rw [he]; rfl)) ?_
  · refine ⟨_, (numsF sc).map .int, fun d => match d with | .int x => some (.str (S (nameOf (octF x)))) | _ => none, [], ⟨by rw [he]; with_unfolding_all rfl, rfl, by decide, (by rw [he]; intro p hp; cases hp), by intro n; rfl⟩,
      evi_list room.hd (ev_name okE rfl), fun C => trivial, by simp, by rw [List.length_map]; exact Nat.le_trans (by omega) (show 100 ≤ sizeLine by decide), fun C okE' low' d hd => ?_, ?_, by intro _; rfl⟩
    · obtain ⟨x, hx, rfl⟩ := List.mem_map.mp hd
      obtain ⟨rn, hrn, Fn⟩ := f_name (prog := prog) (w := w) (octF_lt x)
      exact turn_of (b := true) (d' := .str (S (nameOf (octF x)))) (bind_loc okE' low' (by rfl)) trivial tstl_nil (fun _ => EvX.of (ev_call okE' hrn (by decide) (by rfl) Fn room1 (.cons ((ev_bin (ev_name okE' rfl) ev_int (op_mod (by decide))).to (show D.int (x.fmod 256) = natD (octF x) from congrArg D.int (octF_int x).symm)) (by rfl) .nil))) rfl
    · rw [List.filterMap_map]
      show _ = (numsF sc).filterMap fun x => some (D.str (S (nameOf (octF x))))
      rw [List.filterMap_eq_map']
      unfold woodF
      dsimp only
      rw [List.map_map]; rfl
  have hrows : rowsF (woodF (numsF sc)) ((numsF sc).length + 1) 0 [] = rowsOf (numsF sc) := rfl
  -- patterns
  generalize hrw : rowsOf (numsF sc) = rows at *
  refine exl_cons (ex1_lc (out := [.str (S (patOf sc 175)), .str (S (patOf sc 49))]) okE low (by rw [he]; rfl) ?_ (by rw [he]; rfl)) ?_
  · refine ⟨_, [.int 175, .int 49], fun d => match d with | .int x => some (.str (S (patOf sc x))) | _ => none, [("cut", .data (intsL (cutF sc))), ("rows", .data (rowsL rows))], ⟨by rw [he]; with_unfolding_all rfl, rfl, by decide, by rw [he]; intro p hp; simp only [List.mem_cons, List.not_mem_nil, or_false] at hp; rcases hp with rfl | rfl <;> rfl, by intro n; rfl⟩,
      evi_list room.hd (ev_list (.cons ev_int (by rfl) (.cons ev_int (by rfl) .nil))), fun C => ⟨⟨rfl, .inl (by rw [he]; rfl), .inl (by rw [he]; rfl), ⟨_, rfl, by rw [he]; rfl⟩⟩, ⟨rfl, .inl (by rw [he]; rfl), .inl (by rw [he]; rfl), ⟨_, rfl, by rw [he]; rfl⟩⟩, trivial⟩, by simp, show 2 ≤ sizeLine by decide, fun C okE' low' d hd => ?_, rfl, by intro _; rfl⟩
    obtain ⟨x, hx, rfl⟩ : ∃ x : Int, True ∧ d = .int x := by
      simp only [List.mem_cons, List.not_mem_nil, or_false] at hd
      rcases hd with rfl | rfl
      · exact ⟨175, trivial, rfl⟩
      · exact ⟨49, trivial, rfl⟩
    obtain ⟨rp, hrp, Fp⟩ := f_pattern (prog := prog) (w := w) (leaves := leafNames rows) (total := totF sc x) (by have := H.ne; rwa [hrw] at this) (by have : (leafNames rows).length ≤ rows.length := by { unfold leafNames; rw [List.length_map]; exact List.length_filter_le _ _ }; omega) (by have := H.lv; rwa [hrw] at this)
    have ep : patF (pickF (leafNames rows) (totF sc x)) (totF sc x) = patOf sc x := by unfold patOf; rw [hrw]
    rw [ep] at Fp
    refine turn_of (b := true) (d' := .str (S (patOf sc x))) (bind_loc okE' low' (by rfl)) ⟨rfl, rfl, trivial⟩ tstl_nil (fun _ => EvX.of (ev_call okE' hrp (by decide) (by rfl) Fp (room.le (by decide)) (.cons (ev_lc okE' (lc_leaves room.hd (by omega) (ev_name okE' rfl) ?_ (by rfl) (by rfl) (by rfl))) (by rfl) (.cons (ev_bin (ev_name okE' rfl) (ev_blt okE' (id := "sum") (by kernel_rfl) (by decide) (by rfl) (ev_name okE' rfl) (by rfl) (op_sum room.hd)) op_add) (by rfl) .nil)))) rfl
    exact ⟨by rw [he]; with_unfolding_all rfl, rfl, by decide, (by intro p hp; cases hp), by intro n; rfl⟩
  -- parts
  refine exl_cons (ex1_lc (out := [partsL (partsF (patOf sc 175)), partsL (partsF (patOf sc 49))]) okE low (by rw [he]; rfl) ?_ (by rw [he]; rfl)) (exl_sub K ⟨rfl, rfl, rfl, rfl, rfl, rfl, trivial⟩)
  refine ⟨_, [.str (S (patOf sc 175)), .str (S (patOf sc 49))], fun d => match d with | .str x => some (partsL (partsF x.cps.toList)) | _ => none, [], ⟨by rw [he]; with_unfolding_all rfl, rfl, by decide, (by rw [he]; intro p hp; cases hp), by intro n; rfl⟩,
    evi_list room.hd (ev_name okE rfl), fun C => trivial, by simp, show 2 ≤ sizeLine by decide, fun C okE' low' d hd => ?_, rfl, by intro _; rfl⟩
  obtain ⟨x, hx, rfl⟩ : ∃ x : List Nat, (x.length ≤ 60 ∧ ∀ c ∈ x, c ∈ patSigns) ∧ d = .str (S x) := by
    simp only [List.mem_cons, List.not_mem_nil, or_false] at hd
    rcases hd with rfl | rfl
    · exact ⟨_, ⟨H.p1.len, H.p1.signs⟩, rfl⟩
    · exact ⟨_, ⟨H.p2.len, H.p2.signs⟩, rfl⟩
  obtain ⟨rt, hrt, Ft⟩ := f_translate (prog := prog) (w := w) (pat := x) (by omega) hx.2
  exact turn_of (b := true) (d' := partsL (partsF x)) (bind_loc okE' low' (by rfl)) trivial tstl_nil (fun _ => EvX.of (ev_call okE' hrt (by decide) (by rfl) Ft (room.le (by decide)) (.cons (ev_name okE' rfl) (by rfl) (.cons ev_none (by rfl) (.cons (ev_lit (l := anyT)) (by rfl) .nil))))) rfl
end
end Mine
end
section
open PySem PySem.Calls PyProof.Rows PySem.W
set_option maxRecDepth 100000
set_option linter.all false
set_option maxHeartbeats 2000000
namespace Mine
noncomputable def unPt : D → Pt
  | .str x => match x.cps.toList with
    | [c] => .ch c
    | [_, _] => .ch 43
    | _ => .any
  | _ => .star
noncomputable def unP : D → List Pt
  | .list ds => ds.map unPt
  | _ => []
theorem unPt_part (p : Pt) : unPt (partD p) = p := by
  cases p with
  | star => rfl
  | any => rfl
  | ch c =>
    show unPt (.str (S (if c = 43 then [92, 43] else [c]))) = _
    by_cases h : c = 43
    · subst h; rfl
    · rw [if_neg h]; rfl
theorem unP_parts (P : List Pt) : unP (partsL P) = P := by
  unfold unP partsL
  dsimp only
  rw [List.map_map]
  conv => rhs; rw [← List.map_id P]
  exact List.map_congr_left fun p _ => unPt_part p
noncomputable def foundD (t : List (List Nat)) (er : Option (List Nat)) : D := .list [.list (t.map strD), .str (S (er.getD []))]
noncomputable def toldD (ns : List Int) (P : List Pt) : D := match loopF (walkF P 11 (closedF P [0]) []) (kidsOf ns 0).length (bodyF ns) with
  | some (t, _, e) => foundD t e
  | none => .none
theorem patSign_lt : ∀ c ∈ patSigns, c < 128 := by decide +kernel
theorem cp_parts {P : List Pt} (h : ∀ p ∈ P, ∀ x, p = .ch x → x < 1114112) : Cp 1 (partsL P) := cp_list fun d hd => by
  obtain ⟨p, hp, rfl⟩ := List.mem_map.mp hd
  exact cp_flat (flat_part p (h p hp))
theorem cp_two {n : Nat} {a b : D} (ha : Cp n a) (hb : Cp n b) : Cp (n + 1) (.list [a, b]) := cp_list fun d hd => by
  simp only [List.mem_cons, List.not_mem_nil, or_false] at hd
  rcases hd with rfl | rfl
  · exact ha
  · exact hb
theorem cp_found {t : List (List Nat)} {m : List Nat} (h : ∀ l ∈ t, ∀ c ∈ l, c < 128) (hm : ∀ c ∈ m, c < 128) : Cp 2 (.list [.list (t.map strD), .str (S m)]) := cp_two (cp_list fun d hd => by
  obtain ⟨l, hl, rfl⟩ := List.mem_map.mp hd
  exact cp_str (h l hl)) ((cp_str hm).up (by decide))
theorem due_sub {rows : List Row} {pat : List Nat} (hn : ∀ r ∈ rows, r.name.length ≤ 1000 ∧ ∀ c ∈ r.name, c < 128) : ∀ l ∈ dueF rows pat, ∀ c ∈ l, c < 128 := fun l hl => by
  have h1 := (List.mem_filter.mp hl).1
  obtain ⟨r, hr, rfl⟩ := List.mem_map.mp h1
  exact (hn r (List.mem_filter.mp hr).1).2
theorem words_lt (k : Nat) : ∀ c ∈ wordsF k, c < 128 := by
  unfold wordsF
  have h1 : ∀ c ∈ uintMsg, c < 128 := by decide +kernel
  have h2 : ∀ j, j < 4 → ∀ c ∈ shortMsg j, c < 128 := by decide +kernel
  split
  · exact h1
  · exact h2 _ (by omega)
theorem body_small {ns : List Int} (h : ∀ r ∈ rowsOf ns, r.k < ns.length ∧ r.many ≤ 10) : ∀ b ∈ bodyF ns, b < 128 := fun b hb => by
  obtain ⟨l, hl, hb⟩ := List.mem_flatten.mp hb
  obtain ⟨r, hr, rfl⟩ := List.mem_map.mp hl
  have hal : ∀ x ∈ alpha, x < 128 := by decide +kernel
  have hal2 : ∀ i, alph i < 128 := fun i => by
    unfold alph
    rw [List.getD_eq_getElem?_getD]
    cases q : alpha[i]? with
    | none => decide
    | some x => exact hal x (List.mem_of_getElem? q)
  unfold cell nameOf at hb
  simp only [List.mem_cons, List.mem_append, List.not_mem_nil, or_false] at hb
  have := (h r hr).2
  rcases hb with rfl | (rfl | rfl | rfl | rfl) | rfl
  · decide
  · exact hal2 _
  · exact hal2 _
  · decide
  · decide
  · omega
theorem body_len (ns : List Int) : (bodyF ns).length = 6 * (rowsOf ns).length := by
  unfold bodyF
  generalize rowsOf ns = rows
  induction rows with
  | nil => rfl
  | cons r rows ih => rw [List.map_cons, List.flatten_cons, List.length_append, ih]; simp [cell, nameOf]; omega
end Mine
end
section
open PySem PySem.Calls PyProof.Rows PySem.W
set_option maxRecDepth 100000
set_option linter.all false
set_option maxHeartbeats 2000000
namespace Mine
section
variable {prog : Program} {w : World}
noncomputable abbrev ctx6 (sc : List Int) : Ctx := [("parts", .data (.list [partsL (partsF (patOf sc 175)), partsL (partsF (patOf sc 49))])), ("patterns", .data (strL [patOf sc 175, patOf sc 49])), ("rows", .data (rowsL (rowsOf (numsF sc)))), ("below", .data (belowD (woodF (numsF sc)))), ("numbers", .data (intsL (numsF sc))), ("cut", .data (intsL (cutF sc)))]
noncomputable abbrev ctx8 (sc : List Int) : Ctx := ("tape", .data (.bytes (By (tapeF (numsF sc))))) :: ctx6 sc
/-- the tape -/
theorem law_tape {sc : List Int} {r : FnRec} (hr : fnRec "law" = some r) {A : Around} {env : Env} {pm cd doc : Value} {L a : Addr} (he : env = callEnvC (docDef r.name r.params r.body r.scope pm cd doc) L a) (okE : EnvOk env) (room : Room 30 A) (H : LawOk sc) :
    ExL prog w A env (ctx8 sc) (r.body.drop 8) → ExL prog w A env (ctx6 sc) (r.body.drop 6) := by
  have hr' : fnRec "law" = some _ := rfl
  cases Option.some.inj (hr.symm.trans hr')
  intro K
  have low := okE.lw
  have hn := nums_len sc
  have room1 : Room 1 A := room.le (by decide)
  have hrl := rows_len (sc := sc)
  have pat2 : ∀ {d : D}, d ∈ [D.str (S (patOf sc 175)), .str (S (patOf sc 49))] → ∃ x : List Nat, PatOk (numsF sc) x ∧ d = .str (S x) := fun {d} hd => by
    simp only [List.mem_cons, List.not_mem_nil, or_false] at hd
    rcases hd with rfl | rfl
    · exact ⟨_, H.p1, rfl⟩
    · exact ⟨_, H.p2, rfl⟩
  -- if parts != ..
  refine exl_if (tst_cmp (ev_name (d := .list [partsL (partsF (patOf sc 175)), partsL (partsF (patOf sc 49))]) okE rfl) (ev_lc (out := [partsL (partsF (patOf sc 175)), partsL (partsF (patOf sc 49))]) okE ?_) (op_ne_same (cp_two (cp_parts H.p1.pch) (cp_parts H.p2.pch)) (by decide) room1)) ?_
  · refine ⟨_, [.str (S (patOf sc 175)), .str (S (patOf sc 49))], fun d => match d with | .str x => some (partsL (partsF x.cps.toList)) | _ => none, [], ⟨by rw [he]; with_unfolding_all rfl, rfl, by decide, (by rw [he]; intro p hp; cases hp), by intro n; rfl⟩,
      evi_list room.hd (ev_name okE rfl), fun C => trivial, by simp, show 2 ≤ sizeLine by decide, fun C okE' low' d hd => ?_, rfl, by intro _; rfl⟩
    obtain ⟨x, hx, rfl⟩ := pat2 hd
    obtain ⟨rt, hrt, Ft⟩ := f_parts (prog := prog) (w := w) (pat := x) (by have := hx.len; omega) (fun c hc => patSign_lt c (hx.signs c hc))
    exact turn_of (b := true) (d' := partsL (partsF x)) (bind_loc okE' low' (by rfl)) trivial tstl_nil (fun _ => EvX.of (ev_call okE' hrt (by decide) (by rfl) Ft (room.le (by decide)) (.cons (ev_name okE' rfl) (by rfl) .nil))) rfl
  -- tape
  have hb0 : ((woodF (numsF sc)).below.map natsL)[((0 : Int)).toNat]? = some (natsL (kidsOf (numsF sc) 0)) := by
    unfold woodF
    dsimp only
    rw [List.getElem?_map, List.getElem?_map, show ((0 : Int)).toNat = 0 from rfl, List.getElem?_range (by omega)]
    rfl
  have hk0 : (kidsOf (numsF sc) 0).length ≤ 10 := by
    unfold kidsOf
    exact Nat.le_trans (List.length_filter_le _ _) (by rw [List.length_range]; omega)
  have bl := body_len (numsF sc)
  have rk := H.rk
  have htwo := H.two
  refine exl_cons (ex1_assign (d := .bytes (By (tapeF (numsF sc)))) okE low (.cell (by rw [he]; rfl) (by rw [he]; rfl)) (ev_bin (d1 := .bytes (By [(kidsOf (numsF sc) 0).length])) (d2 := .bytes (By (bodyF (numsF sc)))) (ev_typ okE (T := "bytes") (d := natsL [(kidsOf (numsF sc) 0).length]) (by kernel_rfl) (by decide) (by rw [he]; rfl) (ev_list (.cons ((ev_len okE (by rw [he]; rfl) (ev_item (ev_name okE rfl) ev_int (by decide) hb0 (by decide)) (by rfl) (by rw [List.length_map]; omega)).to (by rw [List.length_map]; rfl)) (by rfl) .nil)) (by rfl) (op_mkbytes room.hd (fun c hc => by rw [List.mem_singleton.mp hc]; omega) (show 1 ≤ sizeLine by decide)))
    (ev_joinb (ls := (rowsOf (numsF sc)).map (cell (numsF sc))) (ev_lc okE ?_) (by rfl) (by rfl) (by rfl) (by rw [List.length_map]; exact htwo) (by show (bodyF (numsF sc)).length ≤ _; omega)) (op_addby (by rw [bl]; simp only [List.length_cons, List.length_nil]; omega))) (by rw [he]; rfl)) ?_
  · refine ⟨_, (rowsOf (numsF sc)).map rowD, fun d => match d with | .list [_, .int k, .int m] => some (.bytes (By (4 :: (nameOf (octF ((numsF sc).getD k.toNat 0)) ++ [m.toNat])))) | _ => none, [("numbers", .data (intsL (numsF sc)))], ⟨by rw [he]; with_unfolding_all rfl, rfl, by decide, (by rw [he]; intro p hp; simp only [List.mem_singleton] at hp; subst hp; rfl), by intro n; rfl⟩,
      evi_list room.hd (ev_name okE rfl), fun C => ⟨⟨rfl, .inl (by rw [he]; rfl), .inl (by rw [he]; rfl), ⟨_, rfl, by rw [he]; rfl⟩⟩, trivial⟩, by simp, by rw [List.length_map]; exact Nat.le_trans (by omega) (show 2000 ≤ sizeLine by decide), fun C okE' low' d hd => ?_, ?_, by intro _; rfl⟩
    · obtain ⟨q, hq, rfl⟩ := List.mem_map.mp hd
      obtain ⟨hqk, hqm⟩ := rk q hq
      have hat : ((numsF sc).map D.int)[((q.k : Nat) : Int).toNat]? = some (.int ((numsF sc).getD q.k 0)) := by
        rw [Int.toNat_natCast, List.getElem?_map, List.getElem?_eq_getElem hqk, List.getD_eq_getElem?_getD, List.getElem?_eq_getElem hqk]; rfl
      refine turn_of (b := true) (d' := .bytes (By (cell (numsF sc) q))) (bind_three okE' low' room.hd (by rfl) (by rfl) (by rfl)) ⟨rfl, trivial⟩ tstl_nil (fun _ => EvX.of ?_) rfl
      refine (ev_bin (d1 := .bytes (By ([4] ++ nameOf (octF ((numsF sc).getD q.k 0))))) (d2 := .bytes (By [q.many])) (ev_bin (d1 := .bytes (By [4])) (d2 := .bytes (By (nameOf (octF ((numsF sc).getD q.k 0))))) (ev_typ okE' (T := "bytes") (d := natsL [4]) (by kernel_rfl) (by decide) (by rfl) (ev_list (.cons ev_int (by rfl) .nil)) (by rfl) (op_mkbytes room.hd (fun c hc => by rw [List.mem_singleton.mp hc]; decide) (by decide)))
        (ev_enc (octF_lt _) okE' (room.le (by decide)) (by rfl) (ev_typ okE' (T := "bytes") (d := natsL [octF ((numsF sc).getD q.k 0)]) (by kernel_rfl) (by decide) (by rfl) (ev_list (.cons ((ev_bin (ev_item (ev_name okE' rfl) (ev_name okE' rfl) (by omega) hat (by omega)) ev_int (op_mod (by decide))).to (show D.int (((numsF sc).getD q.k 0).fmod 256) = natD (octF ((numsF sc).getD q.k 0)) from congrArg D.int (octF_int _).symm)) (by rfl) .nil)) (by rfl) (op_mkbytes room.hd (fun c hc => by rw [List.mem_singleton.mp hc]; exact octF_lt _) (show 1 ≤ sizeLine by decide))) (by rfl))
        (op_addby (by rw [nameOf_len]; decide))) (ev_typ okE' (T := "bytes") (d := natsL [q.many]) (by kernel_rfl) (by decide) (by rfl) (ev_list (.cons (ev_name okE' rfl) (by rfl) .nil)) (by rfl) (op_mkbytes room.hd (fun c hc => by rw [List.mem_singleton.mp hc]; omega) (show 1 ≤ sizeLine by decide))) (op_addby (by rw [List.length_append, nameOf_len]; exact (by decide : 4 + 1 + 1 ≤ 16777216)))).to ?_
      rfl
    · rw [List.filterMap_map]
      show _ = (rowsOf (numsF sc)).filterMap fun q => some (D.bytes (By (cell (numsF sc) q)))
      rw [List.filterMap_eq_map', List.map_map]; rfl
  exact K
end
end Mine
end
section
open PySem PySem.Calls PyProof.Rows PySem.W
set_option maxRecDepth 100000
set_option linter.all false
set_option maxHeartbeats 2000000
namespace Mine
section
variable {prog : Program} {w : World}
noncomputable def dueD (ns : List Int) (pat : List Nat) : D := .list [.list ((dueF (rowsOf ns) pat).map strD), .str (S [])]
/-- what is told, and the test of it -/
theorem law_told {sc : List Int} {r : FnRec} (hr : fnRec "law" = some r) {A : Around} {env : Env} {pm cd doc : Value} {L a : Addr} (he : env = callEnvC (docDef r.name r.params r.body r.scope pm cd doc) L a) (okE : EnvOk env) (room : Room 30 A) (H : LawOk sc) :
    ExL prog w A env (ctx8 sc) (r.body.drop 10) → ExL prog w A env (ctx8 sc) (r.body.drop 8) := by
  have hr' : fnRec "law" = some _ := rfl
  cases Option.some.inj (hr.symm.trans hr')
  intro K
  have low := okE.lw
  have hn := nums_len sc
  have room1 : Room 1 A := room.le (by decide)
  have hrl := rows_len (sc := sc)
  have pat2 : ∀ {d : D}, d ∈ [D.str (S (patOf sc 175)), .str (S (patOf sc 49))] → ∃ x : List Nat, PatOk (numsF sc) x ∧ d = .str (S x) := fun {d} hd => by
    simp only [List.mem_cons, List.not_mem_nil, or_false] at hd
    rcases hd with rfl | rfl
    · exact ⟨_, H.p1, rfl⟩
    · exact ⟨_, H.p2, rfl⟩
  have par2 : ∀ {d : D}, d ∈ [partsL (partsF (patOf sc 175)), partsL (partsF (patOf sc 49))] → ∃ x : List Nat, PatOk (numsF sc) x ∧ d = partsL (partsF x) := fun {d} hd => by
    simp only [List.mem_cons, List.not_mem_nil, or_false] at hd
    rcases hd with rfl | rfl
    · exact ⟨_, H.p1, rfl⟩
    · exact ⟨_, H.p2, rfl⟩
  have hb := body_small H.rk
  have bl := body_len (numsF sc)
  have hk0 : (kidsOf (numsF sc) 0).length ≤ 10 := by
    unfold kidsOf
    exact Nat.le_trans (List.length_filter_le _ _) (by rw [List.length_range]; omega)
  have told : ∀ {x : List Nat}, PatOk (numsF sc) x → toldD (numsF sc) (partsF x) = dueD (numsF sc) x ∧ ∃ rf, fnRec "_law_found" = some rf ∧ FoundC prog w 19 rf (tapeF (numsF sc)) (partsF x) (dueD (numsF sc) x) none := fun {x} hx => by
    obtain ⟨B', hB⟩ := hx.full
    refine ⟨?_, ?_⟩
    · unfold toldD
      rw [hB]; rfl
    · exact f_found (prog := prog) (w := w) hx.plen hx.pch hB (by omega) hb (by omega) (by decide) (by decide)
  refine exl_consX (X := [tabP]) (fun x hx => List.mem_singleton.mp hx) (exx1_lc (X := [tabP]) (out := [dueD (numsF sc) (patOf sc 175), dueD (numsF sc) (patOf sc 49)]) okE low (by rw [he]; rfl) ?_ (by rw [he]; rfl)) ?_
  · refine ⟨_, [partsL (partsF (patOf sc 175)), partsL (partsF (patOf sc 49))], fun d => some (toldD (numsF sc) (unP d)), [("tape", .data (.bytes (By (tapeF (numsF sc)))))], ⟨by rw [he]; with_unfolding_all rfl, rfl, by decide, (by rw [he]; intro p hp; simp only [List.mem_singleton] at hp; subst hp; rfl), by intro n; rfl⟩,
      evi_list room.hd (ev_name okE rfl), fun C => ⟨⟨rfl, .inl (by rw [he]; rfl), .inl (by rw [he]; rfl), ⟨_, rfl, by rw [he]; rfl⟩⟩, trivial⟩, (fun x hx => List.mem_singleton.mp hx), show 2 ≤ sizeLine by decide, fun C okE' low' d hd => ?_, ?_, by intro _; rfl⟩
    · obtain ⟨x, hx, rfl⟩ := par2 hd
      obtain ⟨e1, rf, hrf, F⟩ := told hx
      refine turn_of (b := true) (d' := dueD (numsF sc) x) (bind_loc okE' low' (by rfl)) ⟨rfl, trivial⟩ tstl_nil (fun _ => evx_found okE' F hrf (by rfl) (room.le (by decide)) (.cons (evS_of (ev_name okE' rfl)) (by rfl) (.cons (evS_of (ev_name okE' rfl)) (by rfl) .nil))) ?_
      show some (toldD (numsF sc) (unP (partsL (partsF x)))) = some _
      rw [unP_parts, e1]
    · simp only [List.filterMap_cons, List.filterMap_nil, unP_parts, (told H.p1).1, (told H.p2).1]
  -- if told != ..
  have cpd : ∀ {x : List Nat}, Cp 2 (dueD (numsF sc) x) := cp_found (due_sub H.nm) (fun c hc => by cases hc)
  refine exl_if (tst_cmp (ev_name (d := .list [dueD (numsF sc) (patOf sc 175), dueD (numsF sc) (patOf sc 49)]) okE rfl) (ev_lc (out := [dueD (numsF sc) (patOf sc 175), dueD (numsF sc) (patOf sc 49)]) okE ?_) (op_ne_same (cp_two cpd cpd) (by decide) room1)) (exl_sub K ⟨rfl, rfl, rfl, rfl, rfl, rfl, rfl, trivial⟩)
  refine ⟨_, [.str (S (patOf sc 175)), .str (S (patOf sc 49))], fun d => match d with | .str x => some (dueD (numsF sc) x.cps.toList) | _ => none, [("rows", .data (rowsL (rowsOf (numsF sc))))], ⟨by rw [he]; with_unfolding_all rfl, rfl, by decide, (by rw [he]; intro p hp; simp only [List.mem_singleton] at hp; subst hp; rfl), by intro n; rfl⟩,
    evi_list room.hd (ev_name okE rfl), fun C => ⟨⟨rfl, .inl (by rw [he]; rfl), .inl (by rw [he]; rfl), ⟨_, rfl, by rw [he]; rfl⟩⟩, trivial⟩, by simp, show 2 ≤ sizeLine by decide, fun C okE' low' d hd => ?_, rfl, by intro _; rfl⟩
  obtain ⟨x, hx, rfl⟩ := pat2 hd
  obtain ⟨rd, hrd, Fd⟩ := f_due (prog := prog) (w := w) (rows := rowsOf (numsF sc)) (pat := x) (by omega) (by have := hx.len; omega) (fun c hc => patSign_lt c (hx.signs c hc)) H.nm
  exact turn_of (b := true) (d' := dueD (numsF sc) x) (bind_loc okE' low' (by rfl)) ⟨rfl, trivial⟩ tstl_nil (fun _ => EvX.of (ev_list (.cons (ev_call okE' hrd (by decide) (by rfl) Fd (room.le (by decide)) (.cons (ev_name okE' rfl) (by rfl) (.cons (ev_name okE' rfl) (by rfl) .nil))) (by rfl) (.cons (ev_lit (l := [])) (by rfl) .nil)))) rfl
end
end Mine
end
section
open PySem PySem.Calls PyProof.Rows PySem.W
set_option maxRecDepth 100000
set_option linter.all false
set_option maxHeartbeats 2000000
namespace Mine
section
variable {prog : Program} {w : World}
noncomputable def sA : List Nat := (Str.ofString "expected 4 bytes in a string1, but only ").cps.toList
noncomputable def sB : List Nat := (Str.ofString " remain").cps.toList
/-- the end of the law -/
theorem law_end {sc : List Int} {r : FnRec} (hr : fnRec "law" = some r) {A : Around} {env : Env} {pm cd doc : Value} {L a : Addr} (he : env = callEnvC (docDef r.name r.params r.body r.scope pm cd doc) L a) (okE : EnvOk env) (room : Room 30 A) (hfr : A.frames = some [env]) (H : LawOk sc) :
    ExL prog w A env (ctx8 sc) (r.body.drop 10) := by
  have hr' : fnRec "law" = some _ := rfl
  cases Option.some.inj (hr.symm.trans hr')
  have low := okE.lw
  have hn := nums_len sc
  have hcl := cut_len sc
  have room1 : Room 1 A := room.le (by decide)
  have hrl := rows_len (sc := sc)
  have hb := body_small H.rk
  have bl := body_len (numsF sc)
  have hk0 : (kidsOf (numsF sc) 0).length ≤ 10 := by
    unfold kidsOf
    exact Nat.le_trans (List.length_filter_le _ _) (by rw [List.length_range]; omega)
  have hpos := H.pos
  have hleft : ((leftF sc : Nat) : Int) = leftI sc := by unfold leftF; omega
  have hle : leftF sc ≤ 6200 := by
    have h0 : 0 ≤ (totF sc 175).fmod 6 := Int.fmod_nonneg_of_pos _ (by decide)
    have : leftI sc ≤ 6 * ((rowsOf (numsF sc)).length : Nat) := by unfold leftI; omega
    omega
  have hmod : ∀ k : Nat, ((k : Nat) : Int).fmod 6 = ((k % 6 : Nat) : Int) := fun k => by
    rw [Int.fmod_eq_emod_of_nonneg _ (by decide)]; rfl
  have hdiv : ∀ k : Nat, ((k : Nat) : Int).fdiv 6 = ((k / 6 : Nat) : Int) := fun k => by
    rw [Int.fdiv_eq_ediv_of_nonneg _ (by decide)]; rfl
  -- left
  refine exl_cons (ex1_assign (d := natD (leftF sc)) okE low (.loc (by rw [he]; rfl)) ((ev_bin (ev_bin (ev_bin ev_int (ev_len okE (by rw [he]; rfl) (ev_name (d := rowsL (rowsOf (numsF sc))) okE rfl) (by rfl) (by rw [List.length_map]; omega)) (op_mul (by decide) (by rw [List.length_map]; omega))) ev_int op_sub) (ev_bin (ev_bin ev_int (ev_blt okE (id := "sum") (by kernel_rfl) (by decide) (by rw [he]; rfl) (ev_name (d := intsL (cutF sc)) okE rfl) (by rfl) (op_sum room.hd)) op_add) ev_int (op_mod (by decide))) op_sub).to ?_) (by rw [he]; rfl)) ?_
  · rw [List.length_map]
    exact congrArg D.int hleft.symm
  -- words
  refine exl_cons (ex1_assign (d := .str (S uintMsg)) okE low (.loc (by rw [he]; rfl)) (ev_lit (l := uintMsg)) (by rw [he]; rfl)) ?_
  let Γw : Ctx := [("words", .data (.str (S (wordsF (leftF sc))))), ("left", .data (natD (leftF sc))), ("tape", .data (.bytes (By (tapeF (numsF sc))))), ("parts", .data (.list [partsL (partsF (patOf sc 175)), partsL (partsF (patOf sc 49))])), ("patterns", .data (strL [patOf sc 175, patOf sc 49])), ("rows", .data (rowsL (rowsOf (numsF sc))))]
  have hcont : ([1, 2, 3, 4] : List Nat).contains (leftF sc % 6) = true ↔ ¬ (leftF sc % 6 = 0 ∨ leftF sc % 6 = 5) := by
    have : ∀ k, k < 6 → (([1, 2, 3, 4] : List Nat).contains k = true ↔ ¬ (k = 0 ∨ k = 5)) := by decide
    exact this _ (Nat.mod_lt _ (by decide))
  have el : ∀ {Γ : Ctx}, List.lookup (Str.ofString "left") Γ = some (.data (natD (leftF sc))) → ∀ {p q : Pos} {k0 : Nat} {pos : Pos}, Ev prog w A env Γ (.BinOp (.Name "left" p) .Mod (.Constant (.int 6) k0 q) pos) (natD (leftF sc % 6)) := fun h => (ev_bin (ev_name okE h) ev_int (op_mod (by decide))).to (congrArg D.int (hmod _))
  refine exl_cons (ex1_if (Γ' := Γw) (tst_cmp (el rfl) (ev_list (ds := [1, 2, 3, 4].map natD) (.cons ev_int (by rfl) (.cons ev_int (by rfl) (.cons ev_int (by rfl) (.cons ev_int (by rfl) .nil))))) (op_inN room1)) (fun hc => ?_) (fun hc => ?_)) ?_
  · have h := hcont.mp hc
    have ew : wordsF (leftF sc) = (sA ++ [48 + (leftF sc % 6 - 1)]) ++ sB := by unfold wordsF; rw [if_neg h]; rfl
    have hj : leftF sc % 6 - 1 < 10 := by omega
    refine ex_sub (ex_cons (ex1_assign (d := .str (S (wordsF (leftF sc)))) okE low (.loc (by rw [he]; rfl)) ?_ (by rw [he]; rfl)) ex_nil) ⟨rfl, rfl, rfl, rfl, rfl, rfl, trivial⟩
    rw [ew]
    refine ev_bin (ev_bin (ev_lit (l := sA)) (ev_typ okE (T := "str") (d := natD (leftF sc % 6 - 1)) (by kernel_rfl) (by decide) (by rw [he]; rfl) ((ev_bin (el rfl) ev_int op_sub).to ?_) (by rfl) (op_strint hj)) (op_cat ?_)) (ev_lit (l := sB)) (op_cat ?_)
    · refine congrArg D.int ?_
      have : 1 ≤ leftF sc % 6 := by omega
      omega
    · exact (by decide +kernel : sA.length + 1 ≤ sizeLine)
    · rw [List.length_append]
      exact (by decide +kernel : sA.length + 1 + sB.length ≤ sizeLine)
  · have h : leftF sc % 6 = 0 ∨ leftF sc % 6 = 5 := Classical.byContradiction fun q => by rw [hcont.mpr q] at hc; cases hc
    have ew : wordsF (leftF sc) = uintMsg := by unfold wordsF; rw [if_pos h]
    refine ex_sub ex_nil ⟨?_, rfl, rfl, rfl, rfl, rfl, trivial⟩
    rw [ew]; rfl
  -- return
  obtain ⟨B', hB⟩ := H.short
  have htl : (bodyF (numsF sc)).take (leftF sc) = (bodyF (numsF sc)).take (leftF sc) := rfl
  obtain ⟨rf, hrf, F⟩ := f_found (prog := prog) (w := w) (parts := partsF (patOf sc 175)) (f := 11) (c := (kidsOf (numsF sc) 0).length) H.p1.plen H.p1.pch hB (by omega) (fun b hb' => hb b (List.mem_of_mem_take hb')) (by rw [List.length_take]; omega) (by decide) (by decide)
  have hnr : ∀ r ∈ (rowsOf (numsF sc)).take (leftF sc / 6), r.name.length ≤ 1000 ∧ ∀ c ∈ r.name, c < 128 := fun r hr => H.nm r (List.mem_of_mem_take hr)
  obtain ⟨rd, hrd, Fd⟩ := f_due (prog := prog) (w := w) (rows := (rowsOf (numsF sc)).take (leftF sc / 6)) (pat := patOf sc 175) (by rw [List.length_take]; omega) (by have := H.p1.len; omega) (fun c hc => patSign_lt c (H.p1.signs c hc)) hnr
  intro ok s E g
  refine wpAny_execs_cons (wpAny_Return_some (wpAny_Compare1 ?_))
  have hframe : env.frame = some env.locals := by rw [he]; rfl
  have lvE : Lv [env] s.heap := Lv.cons (l := []) okE hframe g.F (fun _ m => by cases m)
  refine found_call (l := [env]) okE F hrf (by rw [he]; rfl) (room.le (by decide)) (fun _ => hfr) (fun z => by cases z) (.cons (evS_of ((ev_bcut (l := tapeF (numsF sc)) (r := (kidsOf (numsF sc) 0).length :: (bodyF (numsF sc)).take (leftF sc)) (b := some ((1 + leftF sc : Nat) : Int)) (ev_name okE rfl) .none (.some ((ev_bin ev_int (ev_name (d := natD (leftF sc)) okE rfl) op_add).to ?_)) ?_ ?_))) (by rfl) (.cons (evS_of (ev_item (k := 0) (d := partsL (partsF (patOf sc 175))) (ev_name (d := .list [partsL (partsF (patOf sc 175)), partsL (partsF (patOf sc 49))]) okE rfl) ev_int (by decide) rfl (by decide))) (by rfl) .nil)) g lvE fun u s1 ru L1 => ?_
  · exact congrArg D.int (by omega)
  · rw [bcut_to, Nat.add_comm]; rfl
  · rw [List.length_cons, List.length_take]
    exact Nat.le_trans (by omega) (show 10000 ≤ sizeLine by decide)
  have g1 := gd_left okE hframe g L1
  refine Ev.go (Γ := Γw) (d := .list [.list ((dueF ((rowsOf (numsF sc)).take (leftF sc / 6)) (patOf sc 175)).map strD), .str (S (wordsF (leftF sc)))]) ?_ g1 fun b s2 rb k2 g2 => ?_
  · exact ev_list (.cons (ev_call okE hrd (by decide) (by rw [he]; rfl) Fd (room.le (by decide)) (.cons (ev_cutl (l := (rowsOf (numsF sc)).map rowD) (r := ((rowsOf (numsF sc)).take (leftF sc / 6)).map rowD) (b := some ((leftF sc / 6 : Nat) : Int)) (ev_name okE rfl) .none (.some ((ev_bin (ev_name (d := natD (leftF sc)) okE rfl) ev_int (op_div (by decide) (by decide))).to (congrArg D.int (hdiv _)))) (fun r => by rw [List.map_take]; exact RdAll.upto r _) (by rw [List.length_map]; exact Nat.le_trans hrl (by decide))) (by rfl) (.cons (ev_item (k := 0) (d := .str (S (patOf sc 175))) (ev_name (d := strL [patOf sc 175, patOf sc 49]) okE rfl) ev_int (by decide) rfl (by decide)) (by rfl) .nil))) (by rfl) (.cons (ev_name (d := .str (S (wordsF (leftF sc)))) okE rfl) (by rfl) .nil))
  refine wpAny_mono (op_eq_same (cp_found (due_sub hnr) (words_lt _)) (by decide) room1 ok s2 _ u b g2.N g2.W (ru.ext (kp_ext k2)) rb) (fun v s3 q => ?_) fun _ _ x => x
  obtain ⟨rv, k3⟩ := q
  cases rv.isBool
  have x2 := kp_ext k2
  have x3 := kp_ext k3
  refine ⟨rfl, g2.W.ext x3, fun b o h1 h2 e => x3 _ _ (x2 _ _ (L1.keep b o h1 (fun m => h2 ?_) e)), ?_⟩
  · obtain ⟨y, hy, hfy⟩ := List.mem_filterMap.mp m
    cases List.mem_singleton.mp hy
    rw [hframe] at hfy; cases hfy
    exact .head _
  · obtain ⟨_, _, _, rfl⟩ := L1.same
    obtain ⟨_, _, _, rfl, _⟩ := k2
    obtain ⟨_, _, _, rfl, _⟩ := k3
    exact ⟨_, _, _, rfl⟩
end
end Mine
end
section
open PySem PySem.Calls PyProof.Rows PySem.W
set_option maxRecDepth 100000
set_option linter.all false
set_option maxHeartbeats 1000000
namespace Mine
variable {prog : Program} {w : World}
/-- the law ends in True -/
theorem f_law {sc : List Int} (hsc : sc.length ≤ 63) (H : LawOk sc) : ∃ r, fnRec "law" = some r ∧ ∀ (ok : Addr → Prop) (A : Around) (s : Shared) (a : Addr) (vs : List Value), Room 31 A → A.frames = some [] → Fresh ok s.heap → Wd s.heap → IsFn s.heap a r .none .none → SlAll ok s.heap vs [.data (intsL sc)] →
    codeAny (model prog w) A (.call (.ref a) ⟨vs, []⟩) (fun rr s' => rr = .ok (.ret (.bool true)) ∧ Wd s'.heap ∧ (∀ b o, b ≠ tabP → s.heap.get? b = some o → s'.heap.get? b = some o) ∧ ∃ h tk dr, s' = { s with heap := h, toks := tk, drawn := dr }) s := by
  obtain ⟨r, hr⟩ : ∃ r, fnRec "law" = some r := ⟨_, rfl⟩
  refine ⟨r, hr, fun ok A s a vs room hfr N W F rd => ?_⟩
  refine fn_inS (k := 30) (law_sig hr) rfl room N W F rd fun s1 env pm cd doc L he okE low hown kp G hroom => ?_
  have hfr2 : (A.deeper env).frames = some [env] := Around.frames_deeper hfr
  have K := law_half (prog := prog) (w := w) hr he okE hroom hsc H (law_tape hr he okE hroom H (law_told hr he okE hroom H (law_end hr he okE hroom hfr2 H)))
  refine wpAny_mono (wpAny_noRaise (K ok s1 _ G)) (fun f s2 q => ?_) fun _ _ x => x
  obtain ⟨rfl, W2, k2, h2, t2, d2, e2⟩ := q
  have x1 := kp_ext kp
  refine ⟨rfl, W2, fun b o h1 e => k2 b o h1 (fun m => ?_) (x1 _ _ e), ?_⟩
  · rw [hown b m] at e; cases e
  · obtain ⟨_, _, _, rfl, _⟩ := kp
    subst e2
    exact ⟨_, _, _, rfl⟩
end Mine
end
section
set_option maxRecDepth 100000
set_option linter.all false
namespace Mine
/-! matching, forward and backward -/
inductive Mt : List Pt → List Nat → Prop
  | nil : Mt [] []
  | starE {ps v} : Mt ps v → Mt (.star :: ps) v
  | starC {ps c v} : Mt (.star :: ps) v → Mt (.star :: ps) (c :: v)
  | any {ps c v} : Mt ps v → Mt (.any :: ps) (c :: v)
  | ch {ps c v} : Mt ps v → Mt (.ch c :: ps) (c :: v)
inductive Acc (parts : List Pt) : List Nat → Nat → Prop
  | init : Acc parts [] 0
  | eps {u k} : Acc parts u k → parts[k]? = some .star → Acc parts u (k + 1)
  | step {u k c} : Acc parts u k → fitP parts c k = true → Acc parts (u ++ [c]) (nextP parts k)
theorem fit_at {parts : List Pt} {c k : Nat} (h : fitP parts c k = true) : ∃ p, parts[k]? = some p ∧ (p = .star ∨ p = .any ∨ p = .ch c) ∧ nextP parts k = if p = .star then k else k + 1 := by
  unfold fitP at h
  obtain ⟨h1, h2⟩ := Bool.and_eq_true_iff.mp h
  have hk : k < parts.length := of_decide_eq_true h1
  have e : parts.getD k .any = parts[k] := by rw [List.getD_eq_getElem?_getD, List.getElem?_eq_getElem hk]; rfl
  refine ⟨parts[k], List.getElem?_eq_getElem hk, ?_, ?_⟩
  · rw [e] at h2
    cases hp : parts[k] with
    | star => exact .inl rfl
    | any => exact .inr (.inl rfl)
    | ch x => rw [hp] at h2; exact .inr (.inr (by rw [beq_iff_eq.mp h2]))
  · unfold nextP
    rw [e]
theorem fit_of {parts : List Pt} {c k : Nat} {p : Pt} (h : parts[k]? = some p) (hp : p = .star ∨ p = .any ∨ p = .ch c) : fitP parts c k = true ∧ nextP parts k = if p = .star then k else k + 1 := by
  have hk : k < parts.length := (List.getElem?_eq_some_iff.mp h).1
  have e : parts.getD k .any = p := by rw [List.getD_eq_getElem?_getD, h]; rfl
  refine ⟨?_, by unfold nextP; rw [e]⟩
  unfold fitP
  rw [e]
  rcases hp with rfl | rfl | rfl <;> simp [hk]
theorem drop_at {parts : List Pt} {k : Nat} {p : Pt} (h : parts[k]? = some p) : parts.drop k = p :: parts.drop (k + 1) := by
  obtain ⟨hk, e⟩ := List.getElem?_eq_some_iff.mp h
  rw [List.drop_eq_getElem_cons hk, e]
theorem acc_le {parts : List Pt} {u : List Nat} {k : Nat} (h : Acc parts u k) : k ≤ parts.length := by
  induction h with
  | init => exact Nat.zero_le _
  | eps _ e _ => exact (List.getElem?_eq_some_iff.mp e).1
  | step _ f ih =>
    obtain ⟨p, e, _, en⟩ := fit_at f
    have := (List.getElem?_eq_some_iff.mp e).1
    rw [en]; split <;> omega
theorem acc_mt {parts : List Pt} {u : List Nat} {k : Nat} (h : Acc parts u k) : ∀ v, Mt (parts.drop k) v → Mt parts (u ++ v) := by
  induction h with
  | init => intro v m; exact m
  | eps _ e ih => intro v m; exact ih v (by rw [drop_at e]; exact .starE m)
  | step _ f ih =>
    intro v m
    obtain ⟨p, e, hp, en⟩ := fit_at f
    rw [List.append_assoc]
    refine ih _ ?_
    rw [drop_at e]
    rw [en] at m
    rcases hp with rfl | rfl | rfl
    · rw [if_pos rfl, drop_at e] at m
      exact .starC m
    · rw [if_neg (by simp)] at m
      exact .any m
    · rw [if_neg (by simp)] at m
      exact .ch m
theorem mt_acc {parts : List Pt} {ps : List Pt} {v : List Nat} (h : Mt ps v) : ∀ u k, ps = parts.drop k → Acc parts u k → Acc parts (u ++ v) parts.length := by
  have at0 : ∀ {p ps k}, p :: ps = parts.drop k → parts[k]? = some p ∧ ps = parts.drop (k + 1) := fun {p ps k} e => by
    have h1 : parts[k]? = some p := by
      have := congrArg (·[0]?) e
      simp only [List.getElem?_drop, List.getElem?_cons_zero] at this
      simpa using this.symm
    refine ⟨h1, ?_⟩
    rw [drop_at h1] at e
    exact (List.cons.inj e).2
  induction h with
  | nil =>
    intro u k e a
    have h1 := acc_le a
    have h2 : parts.length ≤ k := List.drop_eq_nil_iff.mp e.symm
    have : k = parts.length := by omega
    rw [List.append_nil, ← this]; exact a
  | starE _ ih =>
    intro u k e a
    obtain ⟨h1, h2⟩ := at0 e
    exact ih u (k + 1) h2 (.eps a h1)
  | @starC ps c v _ ih =>
    intro u k e a
    obtain ⟨h1, h2⟩ := at0 e
    obtain ⟨f, en⟩ := fit_of (c := c) h1 (.inl rfl)
    rw [if_pos rfl] at en
    have := ih (u ++ [c]) k e (by have := Acc.step a f; rwa [en] at this)
    rwa [List.append_assoc] at this
  | @any ps c v _ ih =>
    intro u k e a
    obtain ⟨h1, h2⟩ := at0 e
    obtain ⟨f, en⟩ := fit_of (c := c) h1 (.inr (.inl rfl))
    rw [if_neg (by simp)] at en
    have := ih (u ++ [c]) (k + 1) h2 (by have := Acc.step a f; rwa [en] at this)
    rwa [List.append_assoc] at this
  | @ch ps c v _ ih =>
    intro u k e a
    obtain ⟨h1, h2⟩ := at0 e
    obtain ⟨f, en⟩ := fit_of (c := c) h1 (.inr (.inr rfl))
    rw [if_neg (by simp)] at en
    have := ih (u ++ [c]) (k + 1) h2 (by have := Acc.step a f; rwa [en] at this)
    rwa [List.append_assoc] at this
theorem acc_iff {parts : List Pt} {u : List Nat} : Acc parts u parts.length ↔ Mt parts u := by
  constructor
  · intro a
    have := acc_mt a [] (by rw [List.drop_length]; exact .nil)
    rwa [List.append_nil] at this
  · intro m
    exact mt_acc m [] 0 rfl .init
/-! closing -/
theorem star_at {parts : List Pt} {k : Nat} : isNone (partD (parts.getD k .any)) = true ↔ parts[k]? = some .star := by
  rw [List.getD_eq_getElem?_getD]
  cases h : parts[k]? with
  | none => simp [partD, isNone]
  | some p => cases p <;> simp [partD, isNone]
theorem closed_sound {parts : List Pt} {pl : List Nat} {P : Nat → Prop} (h0 : ∀ i ∈ pl, P i) (hs : ∀ k, parts[k]? = some .star → P k → P (k + 1)) : ∀ i, ∀ j ∈ closedTo parts pl i, P j
  | 0, j, hj => h0 j hj
  | i + 1, j, hj => by
    rw [closedTo_succ] at hj
    unfold closedStep at hj
    rcases List.mem_append.mp hj with hj | hj
    · exact closed_sound h0 hs i j hj
    · split at hj
      · rename_i hc
        simp only [Bool.and_eq_true, List.contains_eq_mem, decide_eq_true_eq] at hc
        rw [List.mem_singleton.mp hj]
        exact hs i (star_at.mp hc.1.1) (closed_sound h0 hs i i hc.1.2)
      · cases hj
theorem closed_mono {parts : List Pt} {pl : List Nat} {j i : Nat} (h : j ∈ closedTo parts pl i) : ∀ n, j ∈ closedTo parts pl (i + n)
  | 0 => h
  | n + 1 => by
    rw [show i + (n + 1) = (i + n) + 1 by omega, closedTo_succ]
    unfold closedStep
    exact List.mem_append.mpr (.inl (closed_mono h n))
theorem closed_early {parts : List Pt} {pl : List Nat} {k : Nat} : ∀ n, k ∈ closedTo parts pl (k + n) → k ∈ closedTo parts pl k
  | 0, h => h
  | n + 1, h => by
    rw [show k + (n + 1) = (k + n) + 1 by omega, closedTo_succ] at h
    unfold closedStep at h
    rcases List.mem_append.mp h with h | h
    · exact closed_early n h
    · split at h
      · have := List.mem_singleton.mp h; omega
      · cases h
theorem closed_eps {parts : List Pt} {pl : List Nat} {k : Nat} (h : k ∈ closedF parts pl) (hs : parts[k]? = some .star) : k + 1 ∈ closedF parts pl := by
  have hk : k < parts.length := (List.getElem?_eq_some_iff.mp hs).1
  have h1 : k ∈ closedTo parts pl k := closed_early (parts.length - k) (by rw [show k + (parts.length - k) = parts.length by omega]; exact h)
  have h2 : k + 1 ∈ closedTo parts pl (k + 1) := by
    rw [closedTo_succ]
    unfold closedStep
    by_cases hm : k + 1 ∈ closedTo parts pl k
    · exact List.mem_append.mpr (.inl hm)
    · rw [if_pos]
      · simp
      · simp only [Bool.and_eq_true, List.contains_eq_mem, decide_eq_true_eq, Bool.not_eq_true', decide_eq_false_iff_not]
        exact ⟨⟨star_at.mpr hs, h1⟩, hm⟩
  have := closed_mono h2 (parts.length - (k + 1))
  rwa [show k + 1 + (parts.length - (k + 1)) = parts.length by omega] at this
theorem closed_in {parts : List Pt} {pl : List Nat} {k : Nat} (h : k ∈ pl) : k ∈ closedF parts pl := by
  have := closed_mono (parts := parts) (pl := pl) (j := k) (i := 0) h parts.length
  rwa [Nat.zero_add] at this
theorem fw_acc {parts : List Pt} {u : List Nat} {k : Nat} (h : Acc parts u k) : k ∈ fwAll parts (closedF parts [0]) u := by
  induction h with
  | init => exact closed_in (by simp)
  | @eps u k _ e ih =>
    rcases List.eq_nil_or_concat u with rfl | ⟨u', c, rfl⟩
    · exact closed_eps ih e
    · rw [List.concat_eq_append] at ih ⊢
      unfold fwAll at ih ⊢
      rw [List.foldl_append] at ih ⊢
      exact closed_eps ih e
  | @step u k c _ f ih =>
    unfold fwAll
    rw [List.foldl_append]
    refine closed_in ((sortN_mem fwSet_lt).mpr (List.mem_map.mpr ⟨k, List.mem_filter.mpr ⟨ih, f⟩, rfl⟩))
theorem acc_fw {parts : List Pt} : ∀ (u : List Nat) {k : Nat}, k ∈ fwAll parts (closedF parts [0]) u → Acc parts u k := by
  have key : ∀ (n : Nat) (u : List Nat), u.length = n → ∀ {k : Nat}, k ∈ fwAll parts (closedF parts [0]) u → Acc parts u k := by
    intro n
    induction n with
    | zero =>
      intro u hu k h
      cases u with
      | nil => exact closed_sound (P := Acc parts []) (fun i hi => by rw [List.mem_singleton.mp hi]; exact .init) (fun k e a => .eps a e) _ k h
      | cons => simp at hu
    | succ n ih =>
      intro u hu k h
      rcases List.eq_nil_or_concat u with rfl | ⟨u', c, rfl⟩
      · simp at hu
      rw [List.concat_eq_append] at hu h ⊢
      have hl : u'.length = n := by simpa using hu
      unfold fwAll at h
      rw [List.foldl_append] at h
      refine closed_sound (P := Acc parts (u' ++ [c])) (fun i hi => ?_) (fun k e a => .eps a e) _ k h
      obtain ⟨j, hj, rfl⟩ := List.mem_map.mp ((sortN_mem fwSet_lt).mp hi)
      obtain ⟨h1, h2⟩ := List.mem_filter.mp hj
      exact .step (ih u' hl h1) h2
  exact fun u {k} => key u.length u rfl
theorem fw_iff {parts : List Pt} {u : List Nat} : parts.length ∈ fwAll parts (closedF parts [0]) u ↔ Mt parts u :=
  ⟨fun h => acc_iff.mp (acc_fw u h), fun h => fw_acc (acc_iff.mpr h)⟩
end Mine
end
section
set_option maxRecDepth 100000
set_option linter.all false
namespace Mine
theorem mt_star {ps : List Pt} : ∀ {v : List Nat}, Mt (.star :: ps) v ↔ ∃ m, m ≤ v.length ∧ Mt ps (v.drop m)
  | [] => ⟨fun h => by cases h with | starE h => exact ⟨0, Nat.zero_le _, h⟩, fun ⟨m, _, h⟩ => .starE (by simpa using h)⟩
  | c :: v => ⟨fun h => by
      cases h with
      | starE h => exact ⟨0, Nat.zero_le _, h⟩
      | starC h =>
        obtain ⟨m, hm, h⟩ := mt_star.mp h
        exact ⟨m + 1, Nat.succ_le_succ hm, h⟩, fun ⟨m, hm, h⟩ => by
      cases m with
      | zero => exact .starE h
      | succ m => exact .starC (mt_star.mpr ⟨m, Nat.le_of_succ_le_succ hm, h⟩)⟩
theorem mt_any {ps : List Pt} {v : List Nat} : Mt (.any :: ps) v ↔ ∃ c w, v = c :: w ∧ Mt ps w :=
  ⟨fun h => by cases h with | any h => exact ⟨_, _, rfl, h⟩, fun ⟨c, w, e, h⟩ => e ▸ .any h⟩
theorem mt_ch {ps : List Pt} {x : Nat} {v : List Nat} : Mt (.ch x :: ps) v ↔ ∃ w, v = x :: w ∧ Mt ps w :=
  ⟨fun h => by cases h with | ch h => exact ⟨_, rfl, h⟩, fun ⟨w, e, h⟩ => e ▸ .ch h⟩
theorem mt_nil {v : List Nat} : Mt [] v ↔ v = [] := ⟨fun h => by cases h; rfl, fun e => e ▸ .nil⟩
theorem le_maxN {ns : List Nat} {k : Nat} : (ns ≠ [] ∧ k ≤ maxN ns) ↔ ∃ j ∈ ns, k ≤ j := by
  constructor
  · rintro ⟨h1, h2⟩
    exact ⟨_, maxN_mem h1, h2⟩
  · rintro ⟨j, hj, hk⟩
    exact ⟨(by rintro rfl; cases hj), Nat.le_trans hk (maxN_ge hj)⟩
/-- the places from the end -/
theorem bw_iff {name : List Nat} : ∀ (l : List Nat) {k : Nat}, k ∈ l.foldl (stepF name) [name.length] ↔ k ≤ name.length ∧ Mt (l.reverse.map toPt) (name.drop k) := by
  have key : ∀ (n : Nat) (l : List Nat), l.length = n → ∀ {k : Nat}, k ∈ l.foldl (stepF name) [name.length] ↔ k ≤ name.length ∧ Mt (l.reverse.map toPt) (name.drop k) := by
    intro n
    induction n with
    | zero =>
      intro l hl k
      cases l with
      | cons => simp at hl
      | nil =>
        simp only [List.foldl_nil, List.mem_singleton, List.reverse_nil, List.map_nil, mt_nil, List.drop_eq_nil_iff]
        omega
    | succ n ih =>
      intro l hl k
      rcases List.eq_nil_or_concat l with rfl | ⟨l', c, rfl⟩
      · simp at hl
      rw [List.concat_eq_append] at hl ⊢
      have hl' : l'.length = n := by simpa using hl
      have ih : ∀ {k : Nat}, k ∈ l'.foldl (stepF name) [name.length] ↔ k ≤ name.length ∧ Mt (l'.reverse.map toPt) (name.drop k) := ih l' hl'
      rw [List.foldl_append, List.reverse_append]
      simp only [List.foldl_cons, List.foldl_nil, List.reverse_cons, List.reverse_nil, List.nil_append, List.cons_append, List.map_cons]
      generalize l'.foldl (stepF name) [name.length] = ends at ih ⊢
      generalize l'.reverse.map toPt = ps at ih ⊢
      unfold stepF
      by_cases h42 : c = 42
      · subst h42
        rw [if_pos rfl, show toPt 42 = .star from rfl, mt_star]
        unfold starsF
        rw [List.mem_filter, List.mem_range]
        have e : (!ends.isEmpty && decide (k ≤ maxN ends)) = true ↔ (ends ≠ [] ∧ k ≤ maxN ends) := by
          simp [List.isEmpty_iff]
        rw [e, le_maxN]
        constructor
        · rintro ⟨h1, j, hj, hkj⟩
          obtain ⟨h2, h3⟩ := ih.mp hj
          refine ⟨by omega, j - k, by rw [List.length_drop]; omega, ?_⟩
          rw [List.drop_drop, show k + (j - k) = j by omega]
          exact h3
        · rintro ⟨h1, m, hm, h3⟩
          rw [List.length_drop] at hm
          rw [List.drop_drop] at h3
          exact ⟨by omega, k + m, ih.mpr ⟨by omega, h3⟩, by omega⟩
      · rw [if_neg h42]
        rw [List.mem_map]
        by_cases h63 : c = 63
        · subst h63
          rw [show toPt 63 = .any from rfl, mt_any]
          constructor
          · rintro ⟨j, hj, rfl⟩
            obtain ⟨h1, h2⟩ := List.mem_filter.mp hj
            have hj0 : 0 < j := by unfold hitF at h2; simp at h2; exact h2
            obtain ⟨h3, h4⟩ := ih.mp h1
            have hlt : j - 1 < name.length := by omega
            refine ⟨by omega, name[j - 1], name.drop j, ?_, h4⟩
            rw [List.drop_eq_getElem_cons hlt, show j - 1 + 1 = j by omega]
          · rintro ⟨h1, x, v, e, h4⟩
            have hlt : k < name.length := by
              have := congrArg List.length e
              rw [List.length_drop] at this
              simp at this; omega
            rw [List.drop_eq_getElem_cons hlt] at e
            refine ⟨k + 1, List.mem_filter.mpr ⟨ih.mpr ⟨hlt, by rw [(List.cons.inj e).2]; exact h4⟩, by simp [hitF]⟩, by omega⟩
        · have ht : toPt c = .ch c := by unfold toPt; rw [if_neg h42, if_neg h63]
          rw [ht, mt_ch]
          constructor
          · rintro ⟨j, hj, rfl⟩
            obtain ⟨h1, h2⟩ := List.mem_filter.mp hj
            unfold hitF at h2
            have hne : (63 == c) = false := by simp; exact fun q => h63 q.symm
            rw [hne] at h2
            simp only [Bool.false_or, Bool.and_eq_true, decide_eq_true_eq, beq_iff_eq] at h2
            obtain ⟨hj0, hc⟩ := h2
            obtain ⟨h3, h4⟩ := ih.mp h1
            have hlt : j - 1 < name.length := by omega
            refine ⟨by omega, name.drop j, ?_, h4⟩
            rw [List.getD_eq_getElem?_getD, List.getElem?_eq_getElem hlt] at hc
            rw [List.drop_eq_getElem_cons hlt, show j - 1 + 1 = j by omega, show name[j - 1] = c from hc]
          · rintro ⟨h1, v, e, h4⟩
            have hlt : k < name.length := by
              have := congrArg List.length e
              rw [List.length_drop] at this
              simp at this; omega
            rw [List.drop_eq_getElem_cons hlt] at e
            refine ⟨k + 1, List.mem_filter.mpr ⟨ih.mpr ⟨hlt, by rw [(List.cons.inj e).2]; exact h4⟩, ?_⟩, by omega⟩
            unfold hitF
            have hc : name.getD k 0 = c := by rw [List.getD_eq_getElem?_getD, List.getElem?_eq_getElem hlt]; exact (List.cons.inj e).1
            have e3 : k + 1 - 1 = k := by omega
            rw [e3, hc]
            simp
  exact fun l {k} => key l.length l rfl
theorem ends_iff {name pat : List Nat} : 0 ∈ endsF name pat ↔ Mt (pat.map toPt) name := by
  unfold endsF endsTo
  rw [List.take_of_length_le (by simp), bw_iff]
  simp
/-! stars side by side -/
theorem mt_congr {a b : List Pt} (h : ∀ v, Mt a v ↔ Mt b v) : ∀ (p : List Pt) (v : List Nat), Mt (p ++ a) v ↔ Mt (p ++ b) v
  | [], v => h v
  | .star :: p, v => by
    simp only [List.cons_append, mt_star]
    exact ⟨fun ⟨m, x, y⟩ => ⟨m, x, (mt_congr h p _).mp y⟩, fun ⟨m, x, y⟩ => ⟨m, x, (mt_congr h p _).mpr y⟩⟩
  | .any :: p, v => by
    simp only [List.cons_append, mt_any]
    exact ⟨fun ⟨m, x, z, y⟩ => ⟨m, x, z, (mt_congr h p _).mp y⟩, fun ⟨m, x, z, y⟩ => ⟨m, x, z, (mt_congr h p _).mpr y⟩⟩
  | .ch c :: p, v => by
    simp only [List.cons_append, mt_ch]
    exact ⟨fun ⟨x, z, y⟩ => ⟨x, z, (mt_congr h p _).mp y⟩, fun ⟨x, z, y⟩ => ⟨x, z, (mt_congr h p _).mpr y⟩⟩
theorem mt_star2 {qs : List Pt} (v : List Nat) : Mt (.star :: qs) v ↔ Mt (.star :: .star :: qs) v := by
  constructor
  · exact fun h => .starE h
  · intro h
    obtain ⟨m, hm, h⟩ := mt_star.mp h
    obtain ⟨m', hm', h⟩ := mt_star.mp h
    rw [List.length_drop] at hm'
    rw [List.drop_drop] at h
    exact mt_star.mpr ⟨m + m', by omega, h⟩
theorem parts_mt : ∀ (pat : List Nat) (qs : List Pt) (v : List Nat), Mt (partsF pat ++ qs) v ↔ Mt (pat.map toPt ++ qs) v := by
  have key : ∀ (n : Nat) (pat : List Nat), pat.length = n → ∀ (qs : List Pt) (v : List Nat), Mt (partsF pat ++ qs) v ↔ Mt (pat.map toPt ++ qs) v := by
    intro n
    induction n with
    | zero =>
      intro pat hp qs v
      cases pat with
      | cons => simp at hp
      | nil => rfl
    | succ n ih =>
      intro pat hp qs v
      rcases List.eq_nil_or_concat pat with rfl | ⟨p', c, rfl⟩
      · simp at hp
      rw [List.concat_eq_append] at hp ⊢
      have hl : p'.length = n := by simpa using hp
      have e1 : partsF (p' ++ [c]) = partStep (partsF p') c := by unfold partsF; rw [List.foldl_append]; rfl
      rw [e1, List.map_append, List.map_cons, List.map_nil, List.append_assoc, ← ih p' hl, partStep]
      by_cases hc : (([c] == [42]) && ((partsF p').drop ((partsF p').length - 1) == [Pt.star])) = true
      · rw [if_pos hc, List.append_nil]
        obtain ⟨h1, h2⟩ := Bool.and_eq_true_iff.mp hc
        have h1 : c = 42 := by simpa using h1
        have h2 : (partsF p').drop ((partsF p').length - 1) = [Pt.star] := by simpa using h2
        subst h1
        show Mt (partsF p' ++ qs) v ↔ Mt (partsF p' ++ (Pt.star :: qs)) v
        have e2 : partsF p' = (partsF p').take ((partsF p').length - 1) ++ [.star] := by
          conv => lhs; rw [← List.take_append_drop ((partsF p').length - 1) (partsF p'), h2]
        rw [e2, List.append_assoc, List.append_assoc]
        exact mt_congr mt_star2 _ _
      · rw [if_neg hc, List.append_assoc]
  exact fun pat => key pat.length pat rfl
theorem takes_iff {name pat : List Nat} : (fwAll (partsF pat) (closedF (partsF pat) [0]) name).contains (partsF pat).length = (endsF name pat).contains 0 := by
  have h : (partsF pat).length ∈ fwAll (partsF pat) (closedF (partsF pat) [0]) name ↔ 0 ∈ endsF name pat := by
    rw [fw_iff, ends_iff]
    have := parts_mt pat [] name
    simpa using this
  rw [Bool.eq_iff_iff, List.contains_iff_mem, List.contains_iff_mem]
  exact h
end Mine
end
section
set_option maxRecDepth 100000
set_option linter.all false
namespace Mine
/-! the tape read back -/
noncomputable def cellW (t : Wood) (r : Row) : List Nat := 4 :: (t.nm r.k ++ [r.many])
noncomputable def cells (t : Wood) (rows : List Row) : List Nat := (rows.map (cellW t)).flatten
noncomputable def tl (parts : List Pt) (pl : List Nat) (n : Nat) (rows : List Row) : List (List Nat) := (leafNames rows).filter fun x => (fwAll parts pl (x.drop n)).contains parts.length
theorem leaf_app (a b : List Row) : leafNames (a ++ b) = leafNames a ++ leafNames b := by simp [leafNames]
theorem tl_app {parts : List Pt} {pl : List Nat} {n : Nat} (a b : List Row) : tl parts pl n (a ++ b) = tl parts pl n a ++ tl parts pl n b := by simp [tl, leaf_app]
theorem cells_app {t : Wood} (a b : List Row) : cells t (a ++ b) = cells t a ++ cells t b := by simp [cells]
theorem cells_cons {t : Wood} (r : Row) (b : List Row) : cells t (r :: b) = cellW t r ++ cells t b := rfl
/-- a node and all that hangs under it -/
noncomputable def twig (t : Wood) (f : Nat) (front : List Nat) (k : Nat) : List Row := ⟨front ++ t.nm k, k, (t.kids (k + 1)).length⟩ :: rowsF t f (k + 1) (front ++ t.nm k)
theorem rowsF_eq {t : Wood} {f p : Nat} {front : List Nat} : rowsF t (f + 1) p front = (t.kids p).flatMap (twig t f front) := rfl
theorem rows_pre {t : Wood} : ∀ (f p : Nat) (front : List Nat), ∀ r ∈ rowsF t f p front, ∃ u, r.name = front ++ u
  | 0, p, front, r, h => by cases h
  | f + 1, p, front, r, h => by
    obtain ⟨k, hk, h⟩ := List.mem_flatMap.mp h
    rcases List.mem_cons.mp h with rfl | h
    · exact ⟨_, rfl⟩
    · obtain ⟨u, e⟩ := rows_pre f (k + 1) (front ++ t.nm k) r h
      exact ⟨t.nm k ++ u, by rw [e, List.append_assoc]⟩
theorem tl_sub {t : Wood} {parts : List Pt} {pl front : List Nat} {k : Nat} {rows : List Row} (h : ∀ r ∈ rows, ∃ u, r.name = (front ++ t.nm k) ++ u) : tl parts pl front.length rows = tl parts (fwAll parts pl (t.nm k)) (front ++ t.nm k).length rows := by
  unfold tl
  refine List.filter_congr fun x hx => ?_
  obtain ⟨r, hr, rfl⟩ := List.mem_map.mp hx
  obtain ⟨u, e⟩ := h r (List.mem_filter.mp hr).1
  rw [e, List.append_assoc, List.drop_left, ← List.append_assoc, List.drop_left]
  unfold fwAll
  rw [List.foldl_append]
theorem tl_cons {t : Wood} {parts : List Pt} {pl front : List Nat} {k m : Nat} {rows : List Row} (h : ∀ r ∈ rows, ∃ u, r.name = (front ++ t.nm k) ++ u) :
    tl parts pl front.length (⟨front ++ t.nm k, k, m⟩ :: rows) = (if (m == 0 && (fwAll parts pl (t.nm k)).contains parts.length) = true then [front ++ t.nm k] else []) ++ tl parts (fwAll parts pl (t.nm k)) (front ++ t.nm k).length rows := by
  rw [← tl_sub h]
  show tl parts pl front.length ([⟨front ++ t.nm k, k, m⟩] ++ rows) = _
  rw [tl_app]
  congr 1
  unfold tl leafNames
  by_cases hm : m = 0
  · subst hm
    simp only [List.filter_cons, List.filter_nil, beq_self_eq_true, if_true, List.map_cons, List.map_nil, List.drop_left, Bool.true_and]
  · have : (m == 0) = false := by simpa using hm
    simp [this]
structure WOk (t : Wood) : Prop extends t.Ok where
  nm : ∀ k, k < t.n → (t.nm k).length = 4
theorem cell_len {t : Wood} (ok : WOk t) {r : Row} (h : r.k < t.n) : (cellW t r).length = 6 := by
  simp [cellW, ok.nm _ h]
theorem rows_k {t : Wood} (ok : WOk t) : ∀ (f p : Nat) (front : List Nat), ∀ r ∈ rowsF t f p front, r.k < t.n
  | 0, p, front, r, h => by cases h
  | f + 1, p, front, r, h => by
    obtain ⟨k, hk, h⟩ := List.mem_flatMap.mp h
    rcases List.mem_cons.mp h with rfl | h
    · exact (ok.rng p k hk).2
    · exact rows_k ok f (k + 1) _ r h
theorem cells_len {t : Wood} (ok : WOk t) : ∀ {rows : List Row}, (∀ r ∈ rows, r.k < t.n) → (cells t rows).length = 6 * rows.length
  | [], _ => rfl
  | r :: rows, h => by
    rw [cells_cons, List.length_append, cell_len ok (h r (.head _)), cells_len ok fun x hx => h x (.tail _ hx), List.length_cons]
    omega
theorem loop_none {g : List Nat → Option Wk} {n : Nat} {B B1 B2 : List Nat} {t t2 : List (List Nat)} {e : Option (List Nat)} (h : g B = some (t, B1, none)) (k : loopF g n B1 = some (t2, B2, e)) : loopF g (n + 1) B = some (t ++ t2, B2, e) := by
  unfold loopF
  rw [h]
  dsimp only
  rw [k]
theorem loop_some {g : List Nat → Option Wk} {n : Nat} {B B1 : List Nat} {t : List (List Nat)} {e : List Nat} (h : g B = some (t, B1, some e)) : loopF g (n + 1) B = some (t, B1, some e) := by
  unfold loopF
  rw [h]
/-- one node is read -/
theorem walk_node {parts : List Pt} {f : Nat} {pl front nm B2 : List Nat} {many : Nat} (hn : nm.length = 4) : walkF parts (f + 1) pl front (4 :: (nm ++ many :: B2)) = match loopF (walkF parts f (fwAll parts pl nm) (front ++ nm)) many B2 with
    | none => none
    | some (t, B', er) => some ((if (many == 0 && (fwAll parts pl nm).contains parts.length) = true then [front ++ nm] else []) ++ t, B', er) := by
  conv => lhs; unfold walkF
  dsimp only
  rw [if_neg (by decide), if_neg (by rw [List.length_append]; omega)]
  have e1 : (nm ++ many :: B2).take 4 = nm := by rw [← hn, List.take_left]
  have e2 : (nm ++ many :: B2).drop 4 = many :: B2 := by rw [← hn, List.drop_left]
  rw [e1, e2]
  all_goals rfl
theorem full_walk {t : Wood} {parts : List Pt} (ok : WOk t) : ∀ (f p : Nat) (front pl rest : List Nat), t.n + 1 ≤ f + p →
    loopF (walkF parts f pl front) (t.kids p).length (cells t (rowsF t f p front) ++ rest) = some (tl parts pl front.length (rowsF t f p front), rest, none)
  | 0, p, front, pl, rest, h => by
    have : t.kids p = [] := by
      cases q : t.kids p with
      | nil => rfl
      | cons k _ => have := ok.rng p k (by rw [q]; exact .head _); omega
    rw [this]; rfl
  | f + 1, p, front, pl, rest, h => by
    rw [rowsF_eq]
    have hk := ok.rng p
    generalize t.kids p = ks at hk ⊢
    induction ks generalizing rest with
    | nil => rfl
    | cons k ks ih =>
      have hkk := hk k (.head _)
      rw [List.flatMap_cons, cells_app, List.append_assoc, tl_app, List.length_cons]
      have hpre := rows_pre (t := t) f (k + 1) (front ++ t.nm k)
      refine loop_none ?_ (ih rest fun j hj => hk j (.tail _ hj))
      have IH := full_walk (parts := parts) ok f (k + 1) (front ++ t.nm k) (fwAll parts pl (t.nm k)) (cells t (ks.flatMap (twig t f front)) ++ rest) (by omega)
      unfold twig at IH ⊢
      rw [cells_cons]
      have e : cellW t ⟨front ++ t.nm k, k, (t.kids (k + 1)).length⟩ ++ cells t (rowsF t f (k + 1) (front ++ t.nm k)) ++ (cells t (ks.flatMap (twig t f front)) ++ rest) = 4 :: (t.nm k ++ (t.kids (k + 1)).length :: (cells t (rowsF t f (k + 1) (front ++ t.nm k)) ++ (cells t (ks.flatMap (twig t f front)) ++ rest))) := by
        simp [cellW]
      unfold twig at e
      rw [e, walk_node (ok.nm k hkk.2), IH, tl_cons hpre]
end Mine
end
section
set_option maxRecDepth 100000
set_option linter.all false
namespace Mine
theorem words_6 {m m' : Nat} (h : m % 6 = m' % 6) : wordsF m = wordsF m' := by unfold wordsF; rw [h]
theorem words_small : ∀ m, m < 6 → wordsF m = if m = 0 ∨ m = 5 then uintMsg else shortMsg (m - 1) := fun m h => by
  unfold wordsF
  rw [Nat.mod_eq_of_lt h]
theorem walk_cut {parts : List Pt} {f : Nat} {pl front nm : List Nat} {many m : Nat} (hn : nm.length = 4) (hm : m < 6) : walkF parts (f + 1) pl front ((4 :: (nm ++ [many])).take m) = some ([], [], some (wordsF m)) := by
  obtain ⟨a, b, c, d, rfl⟩ := len4 hn
  rw [words_small m hm]
  rcases m with _ | _ | _ | _ | _ | _ | m
  · rfl
  · rfl
  · rfl
  · rfl
  · rfl
  · rfl
  · omega
theorem six_mod {m : Nat} (h : 6 ≤ m) : (m - 6) % 6 = m % 6 := (Nat.mod_eq_sub_mod h).symm
theorem six_div {m : Nat} (h : 6 ≤ m) : m / 6 = (m - 6) / 6 + 1 := Nat.div_eq_sub_div (by decide) h
theorem six_mod2 {m n : Nat} (h : 6 * n ≤ m) : (m - 6 * n) % 6 = m % 6 := Nat.sub_mul_mod h
theorem six_div2 {m n : Nat} (h : 6 * n ≤ m) : m / 6 = n + (m - 6 * n) / 6 := by
  have e : m = 6 * n + (m - 6 * n) := (Nat.add_sub_cancel' h).symm
  conv => lhs; rw [e]
  rw [Nat.mul_add_div (by decide)]
theorem short_walk {t : Wood} {parts : List Pt} (ok : WOk t) : ∀ (f p : Nat) (front pl : List Nat) (m : Nat), t.n + 1 ≤ f + p → m < (cells t (rowsF t f p front)).length →
    loopF (walkF parts f pl front) (t.kids p).length ((cells t (rowsF t f p front)).take m) = some (tl parts pl front.length ((rowsF t f p front).take (m / 6)), [], some (wordsF m))
  | 0, p, front, pl, m, h, hm => by exact absurd hm (Nat.not_lt_zero _)
  | f + 1, p, front, pl, m, h, hm => by
    rw [rowsF_eq] at hm ⊢
    have hk := ok.rng p
    generalize t.kids p = ks at hk hm ⊢
    induction ks generalizing m with
    | nil => exact absurd hm (Nat.not_lt_zero _)
    | cons k ks ih =>
      have hkk := hk k (.head _)
      have hnm := ok.nm k hkk.2
      have hpre := rows_pre (t := t) f (k + 1) (front ++ t.nm k)
      have hsk := rows_k ok f (k + 1) (front ++ t.nm k)
      have hsl := cells_len ok hsk
      have hfk : t.n + 1 ≤ f + (k + 1) := Nat.le_trans h (by rw [Nat.add_assoc, Nat.add_comm 1 p]; exact Nat.add_le_add_left (Nat.succ_le_succ hkk.1) f)
      have F := fun rest => full_walk (parts := parts) ok f (k + 1) (front ++ t.nm k) (fwAll parts pl (t.nm k)) rest hfk
      have IH := short_walk (parts := parts) ok f (k + 1) (front ++ t.nm k) (fwAll parts pl (t.nm k))
      have e0 : twig t f front k = ⟨front ++ t.nm k, k, (t.kids (k + 1)).length⟩ :: rowsF t f (k + 1) (front ++ t.nm k) := rfl
      rw [List.flatMap_cons, e0, List.cons_append] at hm ⊢
      rw [cells_cons, cells_app] at hm ⊢
      generalize rowsF t f (k + 1) (front ++ t.nm k) = sub at *
      generalize hmany : (t.kids (k + 1)).length = many at *
      generalize ks.flatMap (twig t f front) = rest at *
      have hc : cellW t ⟨front ++ t.nm k, k, many⟩ = 4 :: (t.nm k ++ [many]) := rfl
      rw [hc] at hm ⊢
      have hcl : (4 :: (t.nm k ++ [many])).length = 6 := by simp [hnm]
      rw [List.length_append, hcl, List.length_append] at hm
      rw [List.length_cons]
      by_cases h6 : m < 6
      · rw [List.take_append_of_le_length (by rw [hcl]; exact Nat.le_of_lt h6)]
        rw [loop_some (walk_cut hnm h6), Nat.div_eq_of_lt h6]
        rfl
      · have hm6 : 6 ≤ m := Nat.not_lt.mp h6
        have e1 : ∀ X : List Nat, ((4 :: (t.nm k ++ [many])) ++ X).take m = 4 :: (t.nm k ++ many :: X.take (m - 6)) := fun X => by
          conv => lhs; rw [show m = (4 :: (t.nm k ++ [many])).length + (m - 6) by rw [hcl]; exact (Nat.add_sub_cancel' hm6).symm]
          rw [List.take_length_add_append]
          simp
        rw [e1]
        by_cases hs : m - 6 < (cells t sub).length
        · rw [List.take_append_of_le_length (Nat.le_of_lt hs)]
          have e2 := IH (m - 6) hfk hs
          have e3 : walkF parts (f + 1) pl front (4 :: (t.nm k ++ many :: (cells t sub).take (m - 6))) = some (tl parts pl front.length (⟨front ++ t.nm k, k, many⟩ :: sub.take ((m - 6) / 6)), [], some (wordsF m)) := by
            rw [walk_node hnm, e2, tl_cons fun r hr => hpre r (List.mem_of_mem_take hr), words_6 (six_mod hm6)]
          rw [loop_some e3, six_div hm6, List.take_succ_cons, List.take_append_of_le_length (Nat.le_of_lt (Nat.div_lt_of_lt_mul (by rw [hsl] at hs; exact hs)))]
        · have hs6 : (cells t sub).length ≤ m - 6 := Nat.not_lt.mp hs
          have hs7 : 6 * sub.length ≤ m - 6 := by rw [← hsl]; exact hs6
          have e2 : (cells t sub ++ cells t rest).take (m - 6) = cells t sub ++ (cells t rest).take (m - 6 - (cells t sub).length) := by
            conv => lhs; rw [← Nat.add_sub_cancel' hs6]
            rw [List.take_length_add_append]
          rw [e2]
          have e3 : walkF parts (f + 1) pl front (4 :: (t.nm k ++ many :: (cells t sub ++ (cells t rest).take (m - 6 - (cells t sub).length)))) = some (tl parts pl front.length (⟨front ++ t.nm k, k, many⟩ :: sub), (cells t rest).take (m - 6 - (cells t sub).length), none) := by
            rw [walk_node hnm, F, tl_cons hpre]
          have e4 := ih (m - 6 - (cells t sub).length) (fun j hj => hk j (.tail _ hj)) (Nat.sub_lt_left_of_lt_add hs6 (Nat.sub_lt_left_of_lt_add hm6 hm))
          rw [loop_none e3 e4, words_6 (show (m - 6 - (cells t sub).length) % 6 = m % 6 by rw [hsl, six_mod2 hs7, six_mod hm6]), ← tl_app]
          have e5 : m / 6 = sub.length + (m - 6 - (cells t sub).length) / 6 + 1 := by rw [hsl, six_div hm6, six_div2 hs7]
          rw [e5, List.take_succ_cons, List.take_length_add_append]
          rfl
end Mine
end
section
set_option maxRecDepth 100000
set_option linter.all false
namespace Mine
theorem wood_nm (ns : List Int) {k : Nat} (h : k < ns.length) : (woodF ns).nm k = nameOf (octF (ns.getD k 0)) := by
  unfold Wood.nm woodF
  dsimp only
  rw [List.getD_eq_getElem?_getD, List.getElem?_map, List.getElem?_eq_getElem h, List.getD_eq_getElem?_getD, List.getElem?_eq_getElem h]
  rfl
theorem wood_wok {ns : List Int} (h : ns.length ≤ 10) : WOk (woodF ns) := { wood_ok h with nm := fun k hk => by rw [wood_nm ns hk, nameOf_len] }
theorem rows_fuel {t : Wood} (ok : t.Ok) : ∀ (f p : Nat) (front : List Nat), t.n + 1 ≤ f + p → rowsF t (f + 1) p front = rowsF t f p front
  | 0, p, front, h => by
    have : t.kids p = [] := by
      cases q : t.kids p with
      | nil => rfl
      | cons k _ => have := ok.rng p k (by rw [q]; exact .head _); omega
    rw [rowsF_eq, this]; rfl
  | f + 1, p, front, h => by
    rw [rowsF_eq, rowsF_eq]
    have hk := ok.rng p
    generalize t.kids p = ks at hk
    induction ks with
    | nil => rfl
    | cons k ks ih =>
      rw [List.flatMap_cons, List.flatMap_cons, ih fun j hj => hk j (.tail _ hj)]
      unfold twig
      rw [rows_fuel ok f (k + 1) _ (by have := (hk k (.head _)).1; omega)]
theorem rows_fuels {t : Wood} (ok : t.Ok) {f p : Nat} {front : List Nat} (h : t.n + 1 ≤ f + p) : ∀ d, rowsF t (f + d) p front = rowsF t f p front
  | 0 => rfl
  | d + 1 => by rw [← Nat.add_assoc, rows_fuel ok (f + d) p front (by omega), rows_fuels ok h d]
theorem rowsOf_11 {ns : List Int} (h : ns.length ≤ 10) : rowsOf ns = rowsF (woodF ns) 11 0 [] := by
  have := rows_fuels (wood_ok h) (f := ns.length + 1) (p := 0) (front := []) (Nat.le_refl _) (10 - ns.length)
  rw [show ns.length + 1 + (10 - ns.length) = 11 by omega] at this
  exact this.symm
/-- the rows of a wood -/
theorem row_facts {t : Wood} (ok : WOk t) {Q : Nat → Prop} (hQ : ∀ k, k < t.n → ∀ c ∈ t.nm k, Q c) (hkn : ∀ p, (t.kids p).length ≤ t.n) : ∀ (f p : Nat) (front : List Nat), (∀ c ∈ front, Q c) → ∀ r ∈ rowsF t f p front, r.k < t.n ∧ r.many ≤ t.n ∧ (∀ c ∈ r.name, Q c) ∧ ∃ j, r.name.length = front.length + 4 * j ∧ j + p ≤ t.n
  | 0, p, front, hf, r, h => by cases h
  | f + 1, p, front, hf, r, h => by
    obtain ⟨k, hk, h⟩ := List.mem_flatMap.mp h
    obtain ⟨h1, h2⟩ := ok.rng p k hk
    have hq : ∀ c ∈ front ++ t.nm k, Q c := fun c hc => (List.mem_append.mp hc).elim (hf c) (hQ k h2 c)
    rcases List.mem_cons.mp h with rfl | h
    · exact ⟨h2, hkn _, hq, 1, by rw [List.length_append, ok.nm k h2], by omega⟩
    · obtain ⟨a, b, c, j, e1, e2⟩ := row_facts ok hQ hkn f (k + 1) (front ++ t.nm k) hq r h
      refine ⟨a, b, c, j + 1, ?_, by omega⟩
      rw [e1, List.length_append, ok.nm k h2]; omega
theorem kids_len (ns : List Int) (p : Nat) : ((woodF ns).kids p).length ≤ (woodF ns).n := by
  rw [wood_kids]
  split
  · exact Nat.le_trans (List.length_filter_le _ _) (by rw [List.length_range]; exact Nat.le_refl _)
  · exact Nat.zero_le _
theorem alph_in {i : Nat} (h : i < 64) : alph i ∈ nameSigns := by
  have : ∀ i, i < 64 → alph i ∈ nameSigns := by decide +kernel
  exact this i h
theorem name_signs {x : Nat} (hx : x < 256) : ∀ c ∈ nameOf x, c ∈ nameSigns := fun c hc => by
  unfold nameOf at hc
  simp only [List.mem_cons, List.not_mem_nil, or_false] at hc
  rcases hc with rfl | rfl | rfl | rfl
  · exact alph_in (Nat.mod_lt _ (by decide))
  · exact alph_in (by omega)
  · decide +kernel
  · decide +kernel
theorem leaf_ne {t : Wood} (ok : WOk t) : ∀ (f p : Nat) (front : List Nat), t.n + 1 ≤ f + p → t.kids p ≠ [] → leafNames (rowsF t f p front) ≠ []
  | 0, p, front, h, hne => by
    obtain ⟨k, hk⟩ := List.exists_mem_of_ne_nil _ hne
    have := ok.rng p k hk; omega
  | f + 1, p, front, h, hne => by
    rw [rowsF_eq]
    obtain ⟨k, ks, e⟩ := List.exists_cons_of_ne_nil hne
    have hk := ok.rng p k (by rw [e]; exact .head _)
    rw [e, List.flatMap_cons, leaf_app]
    refine fun q => ?_
    have q := (List.append_eq_nil_iff.mp q).1
    unfold twig at q
    by_cases hm : t.kids (k + 1) = []
    · rw [hm] at q
      simp [leafNames] at q
    · have := leaf_ne ok f (k + 1) (front ++ t.nm k) (by omega) hm
      apply this
      unfold leafNames at q ⊢
      simp only [List.filter_cons] at q
      split at q
      · simp at q
      · exact q
theorem nums_six (sc : List Int) (k : Nat) (h : k < 6) : (numsF sc).getD k 0 = ([64, 257, 507, 65, 1027, 1023] : List Int).getD k 0 := by
  unfold numsF
  rw [List.getD_eq_getElem?_getD, List.getElem?_append_left (by simpa using h), List.getD_eq_getElem?_getD]
theorem kids0 (sc : List Int) : 0 ∈ kidsOf (numsF sc) 0 ∧ 3 ∈ kidsOf (numsF sc) 0 := by
  have h := (nums_len sc).1
  constructor
  · refine List.mem_filter.mpr ⟨List.mem_range.mpr (by omega), ?_⟩
    unfold placeF
    rw [nums_six sc 0 (by decide)]
    decide
  · refine List.mem_filter.mpr ⟨List.mem_range.mpr (by omega), ?_⟩
    unfold placeF
    rw [nums_six sc 3 (by decide)]
    decide
theorem two_of {l : List Nat} (h0 : 0 ∈ l) (h3 : 3 ∈ l) : 2 ≤ l.length := by
  rcases l with _ | ⟨a, _ | ⟨b, l⟩⟩
  · cases h0
  · have := List.mem_singleton.mp h0
    have := List.mem_singleton.mp h3
    omega
  · simp
theorem rows_ge {t : Wood} (f p : Nat) (front : List Nat) : (t.kids p).length ≤ (rowsF t (f + 1) p front).length := by
  rw [rowsF_eq]
  induction t.kids p with
  | nil => exact Nat.zero_le _
  | cons k ks ih =>
    rw [List.flatMap_cons, List.length_append, List.length_cons]
    unfold twig at ih ⊢
    rw [List.length_cons]
    omega
theorem body_cells {ns : List Int} (h : ns.length ≤ 10) : bodyF ns = cells (woodF ns) (rowsOf ns) := by
  unfold bodyF cells
  congr 1
  refine List.map_congr_left fun r hr => ?_
  have hk : r.k < ns.length := by
    rw [rowsOf_11 h] at hr
    exact rows_k (wood_wok h) _ _ _ r hr
  unfold cell cellW
  rw [wood_nm ns hk]
theorem tl_due {rows : List Row} {pat : List Nat} : tl (partsF pat) (closedF (partsF pat) [0]) ([] : List Nat).length rows = dueF rows pat := by
  unfold tl dueF
  refine List.filter_congr fun x _ => ?_
  rw [List.length_nil, List.drop_zero, takes_iff]
theorem piece_len (name : List Nat) (h : name.length ≤ 4) (d : Nat) : (pieceF name d).length ≤ 4 := by
  unfold pieceF
  split
  · exact h
  · rw [List.length_append, List.length_take]; simp; omega
  · rw [List.length_append, List.length_drop]; simp; omega
  · simp
theorem piece_signs {name : List Nat} (h : ∀ c ∈ name, c ∈ nameSigns) (d : Nat) : ∀ c ∈ pieceF name d, c ∈ patSigns := by
  have up : ∀ c, c ∈ nameSigns → c ∈ patSigns := fun c hc => .tail _ (.tail _ hc)
  have h61 : 61 ∈ nameSigns := by decide +kernel
  unfold pieceF
  split
  · exact fun c hc => up c (h c hc)
  · intro c hc
    rcases List.mem_append.mp hc with hc | hc
    · exact up c (h c (List.mem_of_mem_take hc))
    · simp only [List.mem_cons, List.not_mem_nil, or_false] at hc
      rcases hc with rfl | rfl | rfl
      · exact .tail _ (.head _)
      · exact up _ h61
      · exact up _ h61
  · intro c hc
    rcases List.mem_append.mp hc with hc | hc
    · rw [List.mem_singleton.mp hc]; exact .tail _ (.head _)
    · exact up c (h c (List.mem_of_mem_drop hc))
  · intro c hc
    rw [List.mem_singleton.mp hc]; exact .head _
theorem pat_facts {leaf : List Nat} (hl : leaf.length ≤ 48) (hs : ∀ c ∈ leaf, c ∈ nameSigns) (total : Int) : (patF leaf total).length ≤ 48 ∧ ∀ c ∈ patF leaf total, c ∈ patSigns := by
  unfold patF
  constructor
  · rw [List.length_flatten, List.map_map]
    have : ∀ l : List Nat, (l.map (List.length ∘ fun j => pieceF (chunk leaf j) (digitF total j))).sum ≤ 4 * l.length := by
      intro l
      induction l with
      | nil => exact Nat.le_refl _
      | cons j l ih =>
        rw [List.map_cons, List.sum_cons, List.length_cons]
        have := piece_len (chunk leaf j) (by unfold chunk; rw [List.length_take]; omega) (digitF total j)
        have e : (List.length ∘ fun j => pieceF (chunk leaf j) (digitF total j)) j = (pieceF (chunk leaf j) (digitF total j)).length := rfl
        omega
    have := this (List.range (leaf.length / 4))
    rw [List.length_range] at this
    omega
  · intro c hc
    obtain ⟨l, hl', hc⟩ := List.mem_flatten.mp hc
    obtain ⟨j, _, rfl⟩ := List.mem_map.mp hl'
    refine piece_signs (fun c hc => hs c ?_) _ c hc
    unfold chunk at hc
    exact List.mem_of_mem_drop (List.mem_of_mem_take hc)
theorem law_ok (sc : List Int) : LawOk sc := by
  have hn := nums_len sc
  have ok := wood_wok hn.2
  have h11 := rowsOf_11 hn.2
  have hb := body_cells hn.2
  have hkids : (woodF (numsF sc)).kids 0 = kidsOf (numsF sc) 0 := wood_kids' _ (Nat.zero_le _)
  have hN : (woodF (numsF sc)).n = (numsF sc).length := rfl
  have hk0 := kids0 sc
  have hsig : ∀ k, k < (woodF (numsF sc)).n → ∀ c ∈ (woodF (numsF sc)).nm k, c ∈ nameSigns := fun k hk => by
    rw [wood_nm _ hk]
    exact name_signs (octF_lt _)
  have facts := row_facts ok (Q := fun c => c ∈ nameSigns) hsig (kids_len _) 11 0 [] (fun c hc => by cases hc)
  rw [← h11] at facts
  have hne : leafNames (rowsOf (numsF sc)) ≠ [] := by
    rw [h11]
    refine leaf_ne ok 11 0 [] (by omega) (fun q => ?_)
    rw [hkids] at q
    rw [q] at hk0
    cases hk0.1
  have hlv : ∀ l ∈ leafNames (rowsOf (numsF sc)), l.length ≤ 48 ∧ l.length % 4 = 0 ∧ ∀ c ∈ l, c ∈ nameSigns := fun l hl => by
    obtain ⟨r, hr, rfl⟩ := List.mem_map.mp hl
    obtain ⟨_, _, hq, j, e1, e2⟩ := facts r (List.mem_filter.mp hr).1
    rw [e1]
    refine ⟨?_, ?_, hq⟩
    · rw [List.length_nil]; omega
    · rw [List.length_nil]; omega
  have htwo : 2 ≤ (rowsOf (numsF sc)).length := by
    rw [h11]
    refine Nat.le_trans ?_ (rows_ge 10 0 [])
    rw [hkids]
    exact two_of hk0.1 hk0.2
  have hpat : ∀ t : Int, (patOf sc t).length ≤ 48 ∧ ∀ c ∈ patOf sc t, c ∈ patSigns := fun t => by
    unfold patOf
    have hpos : 0 < (leafNames (rowsOf (numsF sc))).length := List.length_pos_iff.mpr hne
    have hm0 : 0 ≤ (totF sc t).fmod ((leafNames (rowsOf (numsF sc))).length : Nat) := Int.fmod_nonneg_of_pos _ (by omega)
    have hm1 : (totF sc t).fmod ((leafNames (rowsOf (numsF sc))).length : Nat) < ((leafNames (rowsOf (numsF sc))).length : Nat) := Int.fmod_lt_of_pos _ (by omega)
    have hmem : pickF (leafNames (rowsOf (numsF sc))) (totF sc t) ∈ leafNames (rowsOf (numsF sc)) := by
      unfold pickF
      have hlt : ((totF sc t).fmod ((leafNames (rowsOf (numsF sc))).length : Nat)).toNat < (leafNames (rowsOf (numsF sc))).length := by omega
      rw [List.getD_eq_getElem?_getD, List.getElem?_eq_getElem hlt]
      exact List.getElem_mem hlt
    obtain ⟨a, _, c⟩ := hlv _ hmem
    exact pat_facts a c _
  have hp : ∀ t : Int, PatOk (numsF sc) (patOf sc t) := fun t => by
    obtain ⟨a, b⟩ := hpat t
    refine ⟨by omega, b, Nat.le_trans (partsF_len _) (by omega), fun p hp x e => ?_, ?_⟩
    · have key : ∀ (pat : List Nat) (ps : List Pt), (∀ c ∈ pat, c < 128) → (∀ p ∈ ps, ∀ x, p = .ch x → x < 128) → ∀ p ∈ pat.foldl partStep ps, ∀ x, p = .ch x → x < 128 := by
        intro pat
        induction pat with
        | nil => intro ps _ h; exact h
        | cons c pat ih =>
          intro ps hc h
          refine ih _ (fun d hd => hc d (.tail _ hd)) fun p hp x e => ?_
          unfold partStep at hp
          rcases List.mem_append.mp hp with hp | hp
          · exact h p hp x e
          · split at hp
            · cases hp
            · rw [List.mem_singleton.mp hp] at e
              unfold toPt at e
              split at e
              · cases e
              · split at e
                · cases e
                · cases e; exact hc _ (.head _)
      have := key (patOf sc t) [] (fun c hc => patSign_lt c (b c hc)) (fun p hp => by cases hp) p hp x e
      omega
    · have F := full_walk (parts := partsF (patOf sc t)) ok 11 0 [] (closedF (partsF (patOf sc t)) [0]) [] (by omega)
      rw [← h11, List.append_nil, ← hb, hkids, tl_due] at F
      exact ⟨_, F⟩
  have hpos : 0 ≤ leftI sc ∧ leftI sc < 6 * ((rowsOf (numsF sc)).length : Nat) := by
    have h0 : 0 ≤ (totF sc 175).fmod 6 := Int.fmod_nonneg_of_pos _ (by decide)
    have h1 : (totF sc 175).fmod 6 < 6 := Int.fmod_lt_of_pos _ (by decide)
    unfold leftI
    omega
  refine ⟨hne, fun l hl => ⟨(hlv l hl).1, (hlv l hl).2.1⟩, fun r hr => ?_, fun r hr => ?_, htwo, hp 175, hp 49, hpos.1, ?_⟩
  · obtain ⟨_, _, hq, j, e1, e2⟩ := facts r hr
    refine ⟨?_, fun c hc => sign_lt c (hq c hc)⟩
    rw [e1, List.length_nil]; omega
  · obtain ⟨a, b, _⟩ := facts r hr
    exact ⟨a, Nat.le_trans b hn.2⟩
  · have hl : leftF sc < (cells (woodF (numsF sc)) (rowsF (woodF (numsF sc)) 11 0 [])).length := by
      rw [← h11, ← hb, body_len]
      unfold leftF
      omega
    have F := short_walk (parts := partsF (patOf sc 175)) ok 11 0 [] (closedF (partsF (patOf sc 175)) [0]) (leftF sc) (by omega) hl
    rw [← h11, ← hb, hkids, tl_due] at F
    exact ⟨_, F⟩
end Mine
end
section
open PySem PySem.Calls PyProof.Rows PySem.W
set_option maxRecDepth 100000
set_option linter.all false
set_option maxHeartbeats 1000000
namespace Mine
/-! what is looked at where the text's top has ended -/
noncomputable def isStrV : Value → Bool | .str .. => true | _ => false
noncomputable def isIntV : Value → Bool | .int .. => true | _ => false
noncomputable def isBoolV : Value → Bool | .bool .. => true | _ => false
noncomputable def intV : Value → Option Int | .int i _ => some i | _ => none
noncomputable def strV : Value → Option Str | .str x _ => some x | _ => none
noncomputable def plainV : Data → Bool | .plain => true | _ => false
noncomputable def codeName (h : Heap) (cd : Value) : Option Str := match cd with
  | .ref c => match h.get? c with
    | some o => match o.data with
      | .fields vs => match vs[1]? with
        | some (Value.str q _) => some q
        | _ => none
      | _ => none
    | none => none
  | _ => none
theorem codeName_spec {h : Heap} {cd : Value} {q : Str} (e : codeName h cd = some q) : h.CodeRec cd q := by
  unfold codeName at e
  split at e
  · split at e
    · split at e
      · split at e
        · cases e
          exact ⟨_, _, _, _, rfl, ‹_›, ‹_›, ‹_›⟩
        · cases e
      · cases e
    · cases e
  · cases e
noncomputable def bareFn (fd : FuncData) : FuncData := { fd with doc := .none, pyModule := .none, code := .none, defaults := .none, kwdefaults := .none }
theorem bare_eq {f g : FuncData} (e : bareFn f = bareFn g) : f = { g with doc := f.doc, pyModule := f.pyModule, code := f.code, defaults := f.defaults, kwdefaults := f.kwdefaults } := by
  cases f; cases g
  simp only [bareFn, FuncData.mk.injEq] at e ⊢
  simp_all
noncomputable def fnSeen (h : Heap) (v : Option Value) : Option (Value × FuncData × Option Str × Value × Value) := match v with
  | some (.ref a) => match h.get? a with
    | some o => match o.data with
      | .func fd => some (o.cls, bareFn fd, codeName h fd.code, fd.defaults, fd.kwdefaults)
      | _ => none
    | none => none
  | _ => none
theorem fnSeen_spec {h : Heap} {v : Option Value} {c : Value} {fd : FuncData} {q : Str} {dV kV : Value} (e : fnSeen h v = some (c, fd, some q, dV, kV)) : ∃ a o f, v = some (.ref a) ∧ h.get? a = some o ∧ o.cls = c ∧ o.data = .func f ∧ bareFn f = fd ∧ h.CodeRec f.code q ∧ f.defaults = dV ∧ f.kwdefaults = kV := by
  unfold fnSeen at e
  split at e
  · split at e
    · split at e
      · simp only [Option.some.injEq, Prod.mk.injEq] at e
        obtain ⟨e1, e2, e3, e4, e5⟩ := e
        exact ⟨_, _, _, rfl, ‹_›, e1, ‹_›, e2, codeName_spec e3, e4, e5⟩
      · cases e
    · cases e
  · cases e
noncomputable def fnGood (r : FnRec) (dV kV : Value) : Value × FuncData × Option Str × Value × Value := (.type "function", bareFn (docDef r.name r.params r.body r.scope .none .none .none), some r.name, dV, kV)
theorem isFn_of {h : Heap} {v : Option Value} {r : FnRec} {dV kV : Value} (e : fnSeen h v = some (fnGood r dV kV)) : ∃ a, v = some (.ref a) ∧ IsFn h a r dV kV := by
  obtain ⟨a, o, f, rfl, ho, _, hd, hb, hc, h1, h2⟩ := fnSeen_spec e
  refine ⟨a, rfl, o, f.pyModule, f.code, f.doc, ho, ?_, hc⟩
  rw [hd, bare_eq hb, ← h1, ← h2]
  rfl
noncomputable def streamSeen (h : Heap) (v : Option Value) : Option (Addr × Value × Value × Bool × Bool × Bool × Bool) := match v with
  | some (.ref a) => match h.get? a with
    | some o => match o.data with
      | .func fd => match fd.code with
        | .ref c => match h.get? c with
          | some oc => match oc.data with
            | .fields vs => some (c, oc.cls, vs.getD 11 .none, isStrV (vs.getD 18 .none), isIntV (vs.getD 7 .none), isBoolV (vs.getD 9 .none), isIntV (vs.getD 10 .none))
            | _ => none
          | none => none
        | _ => none
      | _ => none
    | none => none
  | _ => none
theorem streamSeen_spec {h : Heap} {a c P : Addr} {o : Obj} {fd : FuncData} (hne : c ≠ P) (ho : h.get? a = some o) (hd : o.data = .func fd) (e : streamSeen h (some (.ref a)) = some (c, .type "code", .ref P, true, true, true, true)) : fd.code = .ref c ∧ CodeHd h c P := by
  unfold streamSeen at e
  simp only [ho, hd] at e
  split at e
  · split at e
    · split at e
      · rename_i c' hcode _ oc hoc _ vs hvs
        simp only [Option.some.injEq, Prod.mk.injEq] at e
        obtain ⟨rfl, e1, e2, e3, e4, e5, e6⟩ := e
        have k3 : ∀ v, isStrV v = true → ∃ x t, v = .str x t := fun v h => by cases v <;> simp [isStrV] at h; exact ⟨_, _, rfl⟩
        have k4 : ∀ v, isIntV v = true → ∃ x t, v = .int x t := fun v h => by cases v <;> simp [isIntV] at h; exact ⟨_, _, rfl⟩
        have k5 : ∀ v, isBoolV v = true → ∃ x, v = .bool x := fun v h => by cases v <;> simp [isBoolV] at h; exact ⟨_, rfl⟩
        obtain ⟨f1, f2, e3⟩ := k3 _ e3
        obtain ⟨g1, g2, e4⟩ := k4 _ e4
        obtain ⟨i1, e5⟩ := k5 _ e5
        obtain ⟨j1, j2, e6⟩ := k4 _ e6
        refine ⟨hcode, oc, vs, f1, f2, g1, g2, i1, j1, j2, hoc, e1, hvs, ?_, e2, e3, e4, e5, e6, hne⟩
        rw [Array.getD_eq_getD_getElem?] at e2
        cases q : vs[11]? with
        | none => rw [q] at e2; cases e2
        | some v => rw [q] at e2; exact congrArg some e2
      · cases e
    · cases e
  · cases e
noncomputable def seqSeen (h : Heap) (a : Addr) : Option (Value × Array Value) := match h.get? a with
  | some o => match o.data with
    | .seq vs _ => some (o.cls, vs)
    | _ => none
  | none => none
theorem seqSeen_spec {h : Heap} {a : Addr} {c : Value} {vs : Array Value} (e : seqSeen h a = some (c, vs)) : ∃ o n, h.get? a = some o ∧ o.cls = c ∧ o.data = .seq vs n := by
  unfold seqSeen at e
  split at e
  · split at e
    · simp only [Option.some.injEq, Prod.mk.injEq] at e
      obtain ⟨e1, rfl⟩ := e
      exact ⟨_, _, ‹_›, e1, ‹_›⟩
    · cases e
  · cases e
noncomputable def bytesSeen : Option Value → Option (Array UInt8)
  | some (.bytes b _) => some b
  | _ => none
theorem bytesSeen_spec {v : Option Value} {b : Array UInt8} (e : bytesSeen v = some b) : ∃ t, v = some (.bytes b t) := by
  unfold bytesSeen at e
  split at e
  · cases e; exact ⟨_, rfl⟩
  · cases e
noncomputable def entSeen (e : DictEntry) : Int × Option Int × Option Str := (e.hash, intV e.key, strV e.val)
noncomputable def dictSeen (h : Heap) (v : Option Value) : Option (Addr × Value × Option Addr × Array (Option Value) × List (Int × Option Int × Option Str)) := match v with
  | some (.ref a) => match h.get? a with
    | some o => match o.data with
      | .dict es _ => some (a, o.cls, o.dict, o.slots, es.toList.map entSeen)
      | _ => none
    | none => none
  | _ => none
noncomputable def escSigns : List Int := [40, 41, 91, 93, 123, 125, 63, 42, 43, 45, 124, 94, 36, 92, 46, 38, 126, 35, 32, 9, 10, 13, 11, 12]
noncomputable def escGood (k : Int) : Int × Option Int × Option Str := (hashInt k, some k, some ⟨#[92, k.toNat]⟩)
noncomputable def kvOf (e : DictEntry) : Int × Value := ((intV e.key).getD 0, e.val)
theorem esc_keys : ∀ (l : List DictEntry) (ks : List Int), l.map entSeen = ks.map escGood → (l.map kvOf).map (·.1) = ks ∧ ∀ kv ∈ l.map kvOf, ∃ t, kv.2 = .str ⟨#[92, kv.1.toNat]⟩ t
  | [], [], _ => ⟨rfl, fun e h => (by cases h)⟩
  | [], _ :: _, h => by simp at h
  | _ :: _, [], h => by simp at h
  | e :: l, k :: ks, h => by
    rw [List.map_cons, List.map_cons] at h
    obtain ⟨h1, h2⟩ := List.cons.inj h
    obtain ⟨b, d⟩ := esc_keys l ks h2
    simp only [entSeen, escGood, Prod.mk.injEq] at h1
    obtain ⟨g1, g2, g3⟩ := h1
    obtain ⟨hash, key, val⟩ := e
    have hk : ∃ t, key = .int k t := by cases key <;> simp [intV] at g2; subst g2; exact ⟨_, rfl⟩
    have hv : ∃ t, val = .str ⟨#[92, k.toNat]⟩ t := by cases val <;> simp [strV] at g3; subst g3; exact ⟨_, rfl⟩
    obtain ⟨t, rfl⟩ := hk
    obtain ⟨u, rfl⟩ := hv
    refine ⟨by rw [List.map_cons, List.map_cons, b]; rfl, fun x hx => ?_⟩
    rcases List.mem_cons.mp hx with rfl | hx
    · exact ⟨u, rfl⟩
    · exact d x hx
theorem esc_list (prog : Program) (w : World) : ∀ (l : List DictEntry) (ks : List Int), l.map entSeen = ks.map escGood →
    Pairs (intKind prog w) l (l.map kvOf) ∧ (l.map kvOf).map (·.1) = ks ∧ (∀ e ∈ l, ∃ k, (intKind prog w).is k e.key = true ∧ e.hash = (intKind prog w).hash k) ∧ ∀ kv ∈ l.map kvOf, ∃ t, kv.2 = .str ⟨#[92, kv.1.toNat]⟩ t
  | [], [], _ => ⟨.nil, rfl, fun e h => (by cases h), fun e h => (by cases h)⟩
  | [], _ :: _, h => by simp at h
  | _ :: _, [], h => by simp at h
  | e :: l, k :: ks, h => by
    rw [List.map_cons, List.map_cons] at h
    obtain ⟨h1, h2⟩ := List.cons.inj h
    obtain ⟨a, b, c, d⟩ := esc_list prog w l ks h2
    simp only [entSeen, escGood, Prod.mk.injEq] at h1
    obtain ⟨g1, g2, g3⟩ := h1
    obtain ⟨hash, key, val⟩ := e
    have hk : ∃ t, key = .int k t := by cases key <;> simp [intV] at g2; subst g2; exact ⟨_, rfl⟩
    have hv : ∃ t, val = .str ⟨#[92, k.toNat]⟩ t := by cases val <;> simp [strV] at g3; subst g3; exact ⟨_, rfl⟩
    obtain ⟨t, rfl⟩ := hk
    obtain ⟨u, rfl⟩ := hv
    have hi : (intKind prog w).is k (.int k t) = true := by show Value.isInt k (.int k t) = true; simp [Value.isInt]
    refine ⟨.cons hi rfl a, by rw [List.map_cons, List.map_cons, b]; rfl, fun x hx => ?_, fun x hx => ?_⟩
    · rcases List.mem_cons.mp hx with rfl | hx
      · exact ⟨k, hi, g1⟩
      · exact c x hx
    · rcases List.mem_cons.mp hx with rfl | hx
      · exact ⟨u, rfl⟩
      · exact d x hx
theorem esc_spec {h : Heap} {v : Option Value} {a : Addr} (e : dictSeen h v = some (a, .type "dict", none, #[], escSigns.map escGood)) :
    ∃ kvs, v = some (.ref a) ∧ (∀ prog w, h.DictOf (intKind prog w) a kvs) ∧ (∃ t, valueAt kvs 43 = some (.str ⟨#[92, 43]⟩ t)) ∧ ∀ c ∈ nameSigns, c ≠ 43 → valueAt kvs (c : Nat) = none := by
  unfold dictSeen at e
  split at e
  · split at e
    · split at e
      · rename_i a' _ o ho _ es n hd
        simp only [Option.some.injEq, Prod.mk.injEq] at e
        obtain ⟨rfl, e1, e2, e3, e4⟩ := e
        have key := fun prog w => esc_list prog w _ _ e4
        obtain ⟨hks, hvs⟩ := esc_keys _ _ e4
        refine ⟨es.toList.map kvOf, rfl, fun prog w => ?_, ?_, fun c hc h43 => ?_⟩
        · obtain ⟨a1, a2, a3, _⟩ := key prog w
          refine ⟨o, es, n, ho, ⟨e1, e2, e3⟩, hd, fun x hx => a3 x (Array.mem_toList_iff.mpr hx), a1, ?_⟩
          rw [a2]
          decide
        · unfold valueAt
          cases q : (es.toList.map kvOf).find? (fun kv => decide (kv.1 = 43)) with
          | none =>
            have hm : (43 : Int) ∈ (es.toList.map kvOf).map (·.1) := by rw [hks]; decide
            obtain ⟨kv, hkv, he⟩ := List.mem_map.mp hm
            have := List.find?_eq_none.mp q kv hkv
            simp [he] at this
          | some kv =>
            have h1 := List.mem_of_find?_eq_some q
            have h2 : kv.1 = 43 := by simpa using List.find?_some q
            obtain ⟨t, ht⟩ := hvs kv h1
            refine ⟨t, ?_⟩
            rw [h2] at ht
            exact congrArg some ht
        · unfold valueAt
          have : (es.toList.map kvOf).find? (fun kv => decide (kv.1 = ((c : Nat) : Int))) = none := by
            refine List.find?_eq_none.mpr fun kv hkv he => ?_
            have h2 : kv.1 = ((c : Nat) : Int) := by simpa using he
            have h3 : ((c : Nat) : Int) ∈ escSigns := by
              rw [← hks, ← h2]
              exact List.mem_map.mpr ⟨kv, hkv, rfl⟩
            have h4 : ∀ c ∈ nameSigns, c ≠ 43 → ((c : Nat) : Int) ∉ escSigns := by decide +kernel
            exact h4 c hc h43 h3
          rw [this]; rfl
      · cases e
    · cases e
  · cases e
noncomputable def clsSeen (h : Heap) (C : Addr) : Option (Value × List Value × Addr × Bool × Bool × Bool × Nat × Option (Option Value)) := match h.get? C with
  | some o => match o.data with
    | .cls cd => some (o.cls, cd.mro, cd.ns, cd.hasDict, cd.abstract, cd.hasDel, o.slots.size, o.slots[4]?)
    | _ => none
  | none => none
theorem six {α : Type} {xs : Array α} (h : xs.size = 6) : ∃ a b c d e f, xs = #[a, b, c, d, e, f] := by
  obtain ⟨l⟩ := xs
  rcases l with _ | ⟨a, _ | ⟨b, _ | ⟨c, _ | ⟨d, _ | ⟨e, _ | ⟨f, _ | ⟨g, l⟩⟩⟩⟩⟩⟩⟩ <;> simp at h
  exact ⟨_, _, _, _, _, _, rfl⟩
theorem clsSeen_spec {h : Heap} {C N : Addr} (hn : h.isNs N = true) (e : clsSeen h C = some (.type "type", [.ref C, .type "object"], N, true, false, false, 6, some (some (.builtin "object.__new__")))) : ClsAt h C N (h.nsMap N) := by
  unfold clsSeen at e
  split at e
  · split at e
    · rename_i _ o ho _ cd hd
      simp only [Option.some.injEq, Prod.mk.injEq] at e
      obtain ⟨e1, e2, e3, e4, e5, e6, e7, e8⟩ := e
      obtain ⟨a, b, c, d, x, f, es⟩ := six e7
      rw [es] at e8
      have e8 : x = some (.builtin "object.__new__") := by simpa using e8
      subst e8
      obtain ⟨cls, dict, data, slots⟩ := o
      dsimp only at e1 hd es
      subst e1 hd es
      obtain ⟨nm, bs, mro, ns, qn, hd, sn, sub, ab, col, hdel⟩ := cd
      dsimp only at e2 e3 e4 e5 e6
      subst e2 e3 e4 e5 e6
      exact ⟨⟨_, _, _, _, _, _, _, _, _, _, _, _, ho⟩, .of_isNs hn⟩
    · cases e
  · cases e
noncomputable def bltSeen (h : Heap) (v : Option Value) : Option (Addr × Value × Option Addr × Bool) := match v with
  | some (.ref a) => match h.get? a with
    | some o => some (a, o.cls, o.dict, plainV o.data)
    | none => none
  | _ => none
theorem bltSeen_spec {h : Heap} {v : Option Value} {a : Addr} {c : Value} {d : Option Addr} (e : bltSeen h v = some (a, c, d, true)) : ∃ o, v = some (.ref a) ∧ h.get? a = some o ∧ o.cls = c ∧ o.dict = d ∧ o.data = .plain := by
  unfold bltSeen at e
  split at e
  · split at e
    · simp only [Option.some.injEq, Prod.mk.injEq] at e
      obtain ⟨rfl, e1, e2, e3⟩ := e
      refine ⟨_, rfl, ‹_›, e1, e2, ?_⟩
      unfold plainV at e3
      split at e3
      · assumption
      · cases e3
    · cases e
  · cases e
end Mine
end
section
open PySem PySem.Calls PyProof.Rows PySem.W
set_option maxRecDepth 100000
set_option linter.all false
set_option maxHeartbeats 1000000
set_option Elab.async false
namespace Mine
noncomputable abbrev pwT := PySem.Challenge.pw_kt0011_01
noncomputable def wf (b1 b2 : Bool) (w : World) : World := (w.withFollow "comprehension-iter-twice" b1).withFollow "special-get-raises" b2
/-- the law's def alone -/
noncomputable def q0 : Program := view pwT [29]
noncomputable def loose0 : List Str := ["_sre", "_wall", "read_uint1", "read_string1", "_Example", "_buffer", "_truth", "_B64", "b2a_base64", "b64encode", "_twin_re_1", "_special_chars_map", "escape", "_translate", "_law_stream", "_law_name", "_law_rows", "_law_pattern", "_law_parts", "_law_closed", "_law_walk", "_law_found", "_law_due"]
noncomputable def offNames : List Str := ["__setattr__", "value", "read", "__getattribute__", "__getattr__"]
structure Obs where
  size : Nat × Bool × Option Obj
  fns : List (Option (Value × FuncData × Option Str × Value × Value))
  free : List Bool
  strm : Option (Addr × Value × Value × Bool × Bool × Bool × Bool)
  enc : List (Option (Value × FuncData × Option Str × Value × Value))
  dv : Option (Value × Array Value)
  b64 : Option (Array UInt8)
  esc : Option (Addr × Value × Option Addr × Array (Option Value) × List (Int × Option Int × Option Str))
  ex : Option Value
  cls : Option (Value × List Value × Addr × Bool × Bool × Bool × Nat × Option (Option Value))
  ns : Bool × List Bool × Option Value
  init : Option (Value × FuncData × Option Str × Value × Value)
  blt : Option (Addr × Value × Option Addr × Bool)
noncomputable def topObs (s : Shared) : Obs where
  size := (s.heap.objs.size, (s.heap.get? 189).isSome, s.heap.get? tabP)
  fns := plainFns.map fun n => fnSeen (hideAll s.heap [tabP]) (s.heap.nsMap mainGlobals n)
  free := bltNames.map fun x => (s.heap.nsMap mainGlobals x).isNone
  strm := streamSeen (hideAll s.heap [tabP]) (s.heap.nsMap mainGlobals "_law_stream")
  enc := ([("b64encode" : Str), "b2a_base64"]).map fun n => fnSeen (hideAll s.heap [tabP]) (s.heap.nsMap mainGlobals n)
  dv := seqSeen (hideAll s.heap [tabP]) 96
  b64 := bytesSeen (s.heap.nsMap mainGlobals "_B64")
  esc := dictSeen (hideAll s.heap [tabP]) (s.heap.nsMap mainGlobals "_special_chars_map")
  ex := s.heap.nsMap mainGlobals "_Example"
  cls := clsSeen (hideAll s.heap [tabP]) clsP
  ns := ((hideAll s.heap [tabP]).isNs 68, offNames.map (fun x => ((hideAll s.heap [tabP]).nsMap 68 x).isNone), (hideAll s.heap [tabP]).nsMap 68 "__init__")
  init := fnSeen (hideAll s.heap [tabP]) (some (.ref 66))
  blt := bltSeen (hideAll s.heap [tabP]) (s.heap.nsMap mainGlobals "__builtins__")
noncomputable def initGood (r : FnRec) : Value × FuncData × Option Str × Value × Value := (.type "function", bareFn (methDef r.name "_Example.__init__" r.params r.body r.scope .none .none .none), some "_Example.__init__", .none, .none)
noncomputable def topGood : Obs where
  size := (190, true, some (tabObj #[]))
  fns := plainFns.map fun n => (fnRec n).map fun r => fnGood r .none .none
  free := bltNames.map fun _ => true
  strm := some (133, .type "code", .ref tabP, true, true, true, true)
  enc := [(fnRec "b64encode").map fun r => fnGood r (.ref 96) .none, (fnRec "b2a_base64").map fun r => fnGood r .none (.ref 88)]
  dv := some (.type "tuple", #[.none])
  b64 := some ((nameSigns.take 64).map (·.toUInt8)).toArray
  esc := some (110, .type "dict", none, #[], escSigns.map escGood)
  ex := some (.ref clsP)
  cls := some (.type "type", [.ref clsP, .type "object"], 68, true, false, false, 6, some (some (.builtin "object.__new__")))
  ns := (true, offNames.map (fun _ => true), some (.ref 66))
  init := initRec.map initGood
  blt := some (4, .type "module", some builtinsNs, true)
theorem left_ff : (fun w : World => (openEnds treeTable pwT (wf false false w) 6000).map (fun s => (openSeen q0 loose0 (importedModules pwT.main.body) (fun _ => true) true s, topObs s))) = fun w => some (openGood q0 loose0, topGood) := by
  unfold openEnds fencedOpening topFrom
  rw [Fast.te10274390034422433532, Fast.te14364793385576792824, Fast.te14289696077712309145, Fast.te1435165496053646825, Fast.te14082659384304107361, Fast.te8920871248978507458, Fast.te4187177175401517315, Fast.te5923862056798008813]
  kernel_rfl
end Mine
end
section
open PySem PySem.Calls PyProof.Rows PySem.W
set_option maxRecDepth 100000
set_option linter.all false
set_option maxHeartbeats 1000000
namespace Mine
theorem map_at {α β : Type} {f g : α → β} : ∀ {l : List α}, l.map f = l.map g → ∀ a ∈ l, f a = g a
  | [], _, a, h => by cases h
  | b :: l, e, a, h => by
    rw [List.map_cons, List.map_cons] at e
    obtain ⟨e1, e2⟩ := List.cons.inj e
    rcases List.mem_cons.mp h with rfl | h
    · exact e1
    · exact map_at e2 a h
theorem wd_of {w : World} {s : Shared} {XP : (Str → Option Value) → Heap → Prop} (G : Ground q0 loose0 [] XP w s (s.heap.nsMap mainGlobals) (s.heap.nsMap builtinsNs) s.heap) (e : topObs s = topGood) : Wd s.heap ∧ s.heap.get? tabP = some (tabObj #[]) := by
  have e1 : (s.heap.objs.size, (s.heap.get? 189).isSome, s.heap.get? tabP) = (190, true, some (tabObj #[])) := congrArg Obs.size e
  simp only [Prod.mk.injEq] at e1
  obtain ⟨hsz, h189, htab⟩ := e1
  have e2 : plainFns.map (fun n => fnSeen (hideAll s.heap [tabP]) (s.heap.nsMap mainGlobals n)) = plainFns.map fun n => (fnRec n).map fun r => fnGood r .none .none := congrArg Obs.fns e
  have e3 : bltNames.map (fun x => (s.heap.nsMap mainGlobals x).isNone) = bltNames.map fun _ => true := congrArg Obs.free e
  have e4 : streamSeen (hideAll s.heap [tabP]) (s.heap.nsMap mainGlobals "_law_stream") = some (133, .type "code", .ref tabP, true, true, true, true) := congrArg Obs.strm e
  have e5 : ([("b64encode" : Str), "b2a_base64"]).map (fun n => fnSeen (hideAll s.heap [tabP]) (s.heap.nsMap mainGlobals n)) = [(fnRec "b64encode").map fun r => fnGood r (.ref 96) .none, (fnRec "b2a_base64").map fun r => fnGood r .none (.ref 88)] := congrArg Obs.enc e
  have e6 : seqSeen (hideAll s.heap [tabP]) 96 = some (.type "tuple", #[.none]) := congrArg Obs.dv e
  have e7 : bytesSeen (s.heap.nsMap mainGlobals "_B64") = some ((nameSigns.take 64).map (·.toUInt8)).toArray := congrArg Obs.b64 e
  have e8 : dictSeen (hideAll s.heap [tabP]) (s.heap.nsMap mainGlobals "_special_chars_map") = some (110, .type "dict", none, #[], escSigns.map escGood) := congrArg Obs.esc e
  have e9 : s.heap.nsMap mainGlobals "_Example" = some (.ref clsP) := congrArg Obs.ex e
  have e10 : clsSeen (hideAll s.heap [tabP]) clsP = some (.type "type", [.ref clsP, .type "object"], 68, true, false, false, 6, some (some (.builtin "object.__new__"))) := congrArg Obs.cls e
  have e11 : ((hideAll s.heap [tabP]).isNs 68, offNames.map (fun x => ((hideAll s.heap [tabP]).nsMap 68 x).isNone), (hideAll s.heap [tabP]).nsMap 68 "__init__") = (true, offNames.map (fun _ => true), some (.ref 66)) := congrArg Obs.ns e
  have e12 : fnSeen (hideAll s.heap [tabP]) (some (.ref 66)) = initRec.map initGood := congrArg Obs.init e
  have e13 : bltSeen (hideAll s.heap [tabP]) (s.heap.nsMap mainGlobals "__builtins__") = some (4, .type "module", some builtinsNs, true) := congrArg Obs.blt e
  simp only [Prod.mk.injEq] at e11
  obtain ⟨n1, n2, n3⟩ := e11
  simp only [List.map_cons, List.map_nil, List.cons.injEq, and_true] at e5
  obtain ⟨e5a, e5b⟩ := e5
  have move : ∀ {a m}, a ≠ tabP → s.heap.Ns a m → (hideAll s.heap [tabP]).Ns a m := fun {a m} h ⟨o, es, ep, e, r⟩ => ⟨o, es, ep, hideAll_get _ e (fun q => h (List.mem_singleton.mp q)), r⟩
  have hx : Ext (hideAll s.heap [tabP]) s.heap := fun b o e => of_hideAll _ e
  have hlow : ∀ b o, (hideAll s.heap [tabP]).get? b = some o → b < topLine ∧ b ≠ tabP := fun b o e => ⟨by
    have := Heap.lt_size (hx b o e)
    rw [hsz] at this
    exact this, fun q => by rw [q, hideAll_none _ (.head _)] at e; cases e⟩
  refine ⟨⟨hideAll s.heap [tabP], 133, ⟨⟨s.heap.nsMap mainGlobals, s.heap.nsMap builtinsNs, move (by decide) G.T.g, move (by decide) G.T.b, G.T.builtins, fun x hx => ?_, fun n hn r hr => ?_, ?more, ?mk⟩, ?_, ?_⟩, hlow, ?_, hx, #[], htab, .inl rfl⟩, htab⟩
  · have := map_at e3 x hx
    exact Option.isNone_iff_eq_none.mp this
  · have h := map_at e2 n hn
    rw [hr] at h
    exact isFn_of h
  case mk =>
    have h := map_at e2 "_law_stream" (by decide)
    have hr : fnRec "_law_stream" = some _ := rfl
    rw [hr] at h
    obtain ⟨a, o, f, ha, ho, _, hd, hb, hc, h1, h2⟩ := fnSeen_spec h
    rw [ha] at e4
    obtain ⟨c1, c2⟩ := streamSeen_spec (by decide) ho hd e4
    refine ⟨a, o, f.pyModule, f.doc, _, hr, ha, ho, ?_, c1 ▸ hc, c2⟩
    have hb2 := bare_eq hb
    rw [hd, ← c1]
    congr 1
    rw [h1, h2] at hb2
    exact hb2
  case more =>
    obtain ⟨kvs, k1, k2, k3, k4⟩ := esc_spec e8
    obtain ⟨t, ht⟩ := bytesSeen_spec e7
    have hr1 : fnRec "b64encode" = some _ := rfl
    have hr2 : fnRec "b2a_base64" = some _ := rfl
    rw [hr1] at e5a
    rw [hr2] at e5b
    obtain ⟨a1, i1, i2⟩ := isFn_of e5a
    obtain ⟨a2, j1, j2⟩ := isFn_of e5b
    obtain ⟨od, nd, d1, d2, d3⟩ := seqSeen_spec e6
    refine ⟨⟨110, kvs, k1, by decide, k2, k3, k4⟩, ⟨t, ht⟩, ⟨_, a1, 96, hr1, i1, i2, od, nd, d1, d2, d3⟩, ⟨_, a2, _, hr2, j1, j2⟩, ⟨e9, ?_⟩, ?_⟩
    · have hi : initRec = some _ := rfl
      rw [hi] at e12
      obtain ⟨a, o, f, ha, ho, hc, hd, hb, hcd, h1, h2⟩ := fnSeen_spec e12
      cases ha
      have hb2 := bare_eq hb
      have nn : ∀ x ∈ offNames, (hideAll s.heap [tabP]).nsMap 68 x = none := fun x hx => Option.isNone_iff_eq_none.mp (map_at n2 x hx)
      refine ⟨⟨68, (hideAll s.heap [tabP]).nsMap 68, 66, o, f.pyModule, f.code, f.doc, _, clsSeen_spec n1 e10, n3, hi, ho, hc, ?_, hcd, nn _ (by decide), nn _ (by decide), nn _ (by decide), nn _ (by decide), nn _ (by decide)⟩⟩
      rw [hd]
      congr 1
      rw [h1, h2] at hb2
      exact hb2
    · obtain ⟨o, b1, b2, b3, b4, b5⟩ := bltSeen_spec e13
      exact ⟨4, o, b1, by decide, by decide, by decide, b2, b3, b4, b5⟩
  · obtain ⟨mc, a, b⟩ := G.T.nolimit
    exact ⟨mc, move (by decide) a, b⟩
  · obtain ⟨mc, a, b⟩ := G.T.nodigits
    exact ⟨mc, move (by decide) a, b⟩
  · obtain ⟨o, ho⟩ := Option.isSome_iff_exists.mp h189
    exact ⟨o, hideAll_get _ ho (by decide)⟩
end Mine
end
section
open PySem PySem.Calls PyProof.Rows PySem.W
set_option maxRecDepth 100000
set_option linter.all false
set_option maxHeartbeats 1000000
set_option Elab.async false
namespace Mine
theorem left_ft : (fun w : World => (openEnds treeTable pwT (wf false true w) 6000).map (fun s => (openSeen q0 loose0 (importedModules pwT.main.body) (fun _ => true) true s, topObs s))) = fun w => some (openGood q0 loose0, topGood) := by
  unfold openEnds fencedOpening topFrom
  rw [Fast.te10274390034422433532, Fast.te14364793385576792824, Fast.te14289696077712309145, Fast.te1435165496053646825, Fast.te14082659384304107361, Fast.te8920871248978507458, Fast.te4187177175401517315, Fast.te5923862056798008813]
  kernel_rfl
theorem left_tf : (fun w : World => (openEnds treeTable pwT (wf true false w) 6000).map (fun s => (openSeen q0 loose0 (importedModules pwT.main.body) (fun _ => true) true s, topObs s))) = fun w => some (openGood q0 loose0, topGood) := by
  unfold openEnds fencedOpening topFrom
  rw [Fast.te10274390034422433532, Fast.te14364793385576792824, Fast.te14289696077712309145, Fast.te1435165496053646825, Fast.te14082659384304107361, Fast.te8920871248978507458, Fast.te4187177175401517315, Fast.te5923862056798008813]
  kernel_rfl
theorem left_tt : (fun w : World => (openEnds treeTable pwT (wf true true w) 6000).map (fun s => (openSeen q0 loose0 (importedModules pwT.main.body) (fun _ => true) true s, topObs s))) = fun w => some (openGood q0 loose0, topGood) := by
  unfold openEnds fencedOpening topFrom
  rw [Fast.te10274390034422433532, Fast.te14364793385576792824, Fast.te14289696077712309145, Fast.te1435165496053646825, Fast.te14082659384304107361, Fast.te8920871248978507458, Fast.te4187177175401517315, Fast.te5923862056798008813]
  kernel_rfl
theorem wf_self (w : World) : ∃ b1 b2, wf b1 b2 w = w := by
  refine ⟨w.params.followText "comprehension-iter-twice", w.params.followText "special-get-raises", ?_⟩
  unfold wf
  rw [World.withFollow_self, World.withFollow_self]
noncomputable abbrev seenT (s : Shared) := openSeen q0 loose0 (importedModules pwT.main.body) (fun _ => true) true s
theorem left_all : LeftO pwT q0 loose0 (fun _ => true) (fun s => (seenT s, topObs s)) (fun _ => (openGood q0 loose0, topGood)) 6000 := by
  intro w
  have key : (openEnds treeTable pwT w 6000).map (fun s => (seenT s, topObs s)) = some (openGood q0 loose0, topGood) := by
    obtain ⟨b1, b2, e⟩ := wf_self w
    cases b1 <;> cases b2
    · have h := congrFun left_ff w
      rw [e] at h; exact h
    · have h := congrFun left_ft w
      rw [e] at h; exact h
    · have h := congrFun left_tf w
      rw [e] at h; exact h
    · have h := congrFun left_tt w
      rw [e] at h; exact h
  obtain ⟨s, h1, h2⟩ := Option.map_eq_some_iff.mp key
  rw [h1]
  obtain ⟨h3, h4⟩ := Prod.mk.inj h2
  show some (_, (_, _)) = some (_, (_, _))
  rw [h4]
  have h3' : seenT s = openGood q0 loose0 := h3
  show some (seenT s, (seenT s, _)) = _
  rw [h3']
/-- what is known where the call begins -/
noncomputable def Ready (w : World) (h : Heap) : Prop := Wd h ∧ h.get? tabP = some (tabObj #[])
theorem ready_of (w : World) (s : Shared) (e : (seenT s, topObs s) = (openGood q0 loose0, topGood)) : Ready w s.heap := by
  obtain ⟨e1, e2⟩ := Prod.mk.inj e
  have G := (ground_of_open (q := q0) (loose := loose0) (XP := fun _ _ => True) (w := w) (fun _ _ => trivial) (by rfl) e1).1
  exact wd_of G e2
theorem ready_keeps (w : World) (h h' : Heap) (r : Ready w h) (k : ∀ b o, h.get? b = some o → h'.get? b = some o) : Ready w h' := ⟨r.1.ext k, k _ _ r.2⟩
end Mine
end
section
open PySem PySem.Calls PyProof.Rows PySem.W
set_option maxRecDepth 100000
set_option linter.all false
set_option maxHeartbeats 1000000
set_option Elab.async false
namespace Mine
noncomputable abbrev lawT : OpenLaw := PySem.Challenge.rw_kt0011_01
theorem rd_ints {R : WRecords} {cl : Str → Option Addr} {h : Heap} {ok : Addr → Prop} : ∀ {xs : List WData} {vs : List Value} {as : List Addr}, WShape.hasItems R xs .int = true → ReadsAllW R cl h vs xs as → ∃ ns : List Int, xs = ns.map .int ∧ RdAll ok h vs (ns.map .int)
  | [], _, _, _, r => by cases r; exact ⟨[], rfl, .nil⟩
  | x :: xs, _, _, hs, r => by
    cases r with
    | cons a b =>
      unfold WShape.hasItems at hs
      obtain ⟨h1, h2⟩ := Bool.and_eq_true_iff.mp hs
      obtain ⟨i, rfl⟩ := hasW_int h1
      obtain ⟨ns, rfl, q⟩ := rd_ints (ok := ok) h2 b
      cases a
      exact ⟨i :: ns, rfl, .cons (.int _ _) q⟩
theorem pre_short {xs : List WData} (h : WTm.holds [] lawT.pre { args := [.list xs] } = true) : xs.length ≤ 63 := by
  have e : lawT.pre = .and (.not (.lt (.lit (.int ((63 : Nat) : Int))) (.len (.arg 0)))) (.lit (.bool true)) := rfl
  rw [e] at h
  simp only [WTm.holds, WTm.value, List.getElem?_cons_zero] at h
  by_cases q : xs.length ≤ 63
  · exact q
  · exfalso
    revert h
    simp [less?, Num.less?]
    rw [decide_eq_true (show (63 : Int) < (xs.length : Int) by omega)]
    rfl
/-- the law's def, as the head names it -/
theorem law_call (w : World) {s₀ s : Shared} {a : Addr} {r : FnRec} (hr : fnRec "law" = some r) (Y : Ready w s.heap) (F : IsFn s.heap a r .none .none) (hg : s.gens = #[]) {args : List WData} {vals : List Value} {as : List Addr}
    (hpre : lawT.row.toRowW.claim.pre args = true) (hrd : ReadsAllW lawT.row.toRowW.records (classAt s₀.heap) s.heap vals args as) :
    codeAny (model pwT w) callerA (.call (.ref a) ⟨vals, []⟩) (GoodWG lawT.row.toRowW.claim (classAt s₀.heap) (ExcName.means s₀.heap) args s) s := by
  obtain ⟨h1, h2⟩ := pre_splitW hpre
  obtain ⟨x, rest, rfl, h3, h4⟩ := hasAllW_cons h1
  obtain rfl := hasAllW_nil h4
  obtain ⟨xs, rfl, h5⟩ := hasW_list h3
  have hlen : xs.length ≤ 63 := pre_short h2
  cases hrd with
  | cons ha hb =>
    cases hb
    cases ha with
    | list e1 e2 e3 e4 =>
      obtain ⟨ns, rfl, q⟩ := rd_ints (ok := fun _ => True) h5 e4
      rw [List.length_map] at hlen
      obtain ⟨r', hr', K⟩ := f_law (prog := pwT) (w := w) hlen (law_ok ns)
      cases Option.some.inj (hr.symm.trans hr')
      refine codeAny_mono (K (fun _ => True) callerA s a _ ⟨rfl, by decide, by decide⟩ rfl (fun _ _ => trivial) Y.1 F (.cons (.list trivial ⟨_, e1, e2, _, e3⟩ q) .nil)) fun rr s' g => ?_
      obtain ⟨rfl, W, keep, h, tk, dr, rfl⟩ := g
      obtain ⟨c, ⟨⟨mg, mb, _, _, _, _, _, _, mk⟩, _, _⟩, _⟩ := Y.1.w0
      obtain ⟨_, _, _, _, _, _, _, _, _, _, hd⟩ := mk
      have ict : isCodeTable s.heap tabP := (hd.tab Y.2).isCodeTable
      obtain ⟨_, _, ps, ht, _⟩ := W.w0
      refine ⟨.inl ⟨.bool true, .bool true, [], rfl, fun _ => rfl, .bool true, ?_, fun _ => ⟨List.nodup_nil, fun _ hm => (by cases hm)⟩⟩, ⟨fun b o e => ?_, fun b o e => ?_⟩, rfl, .of_eq hg⟩
      · wrow_post
      · by_cases hb : b = tabP
        · subst hb
          have : o = tabObj #[] := Option.some.inj (e.symm.trans Y.2)
          subst this
          exact .inr (.inl ⟨ict, rfl, #[], ps, rfl, by rw [Array.empty_append]; exact ht⟩)
        · exact .inl (keep b o hb e)
      · by_cases hb : b = tabP
        · subst hb; exact ⟨_, ht⟩
        · exact ⟨o, keep b o hb e⟩
theorem dflts_none {mg : Str → Option Value} {h : Heap} {params : Arguments} {dV kV : Value} (D : Dflts mg h params [] dV kV) (hp : params.defaults = []) : dV = .none ∧ kV = .none :=
  ⟨D.pos.elim (·.2) fun q => absurd hp q.1, D.kw.elim (·.2) fun q => absurd rfl q.1⟩
theorem law_said : lawT.wellSaid = true := by
  rw [Fast.te9446332074065402090]
  kernel_rfl
theorem law_looks : (chainsOk q0 && opensWell lawT.row.prog && (frees lawT.row.toRowW && lawT.row.within.isEmpty)) = true := by kernel_rfl
theorem law_bare : lawT.row.prog.bare := ⟨rfl, rfl, rfl, rfl, rfl, by decide +kernel⟩
theorem law_prom : lawT.row.toRowW.promised := ⟨[.list [.int 3, .int 1]], by decide +kernel, by decide +kernel⟩
theorem law_holds : PySem.Challenge.rw_kt0011_01.Holds := by
  refine holds_law law_said fun said => ?_
  refine holds_open (q := q0) (loose := loose0) (Xt := fun _ => true) (XP := fun _ _ => True) (Yf := fun s => (seenT s, topObs s)) (Ya := fun _ => (openGood q0 loose0, topGood)) (YP := Ready) (N := 6000) left_all ready_of ready_keeps (fun _ _ => trivial) (fun _ _ _ _ _ => trivial) (by rfl) (by rfl) (by rfl) (fun _ _ => recFacts_nil rfl) (by rfl) said law_looks law_bare law_prom ?_
  intro w s₀ s₁ mg mb G Y a o pm cd doc dV kV ho hd hcd hD hmg hg args vals as hpre hlay hrd hwl hlo
  obtain ⟨rfl, rfl⟩ := dflts_none hD rfl
  exact enter_call (law_call w (r := ⟨_, _, _, _⟩) rfl Y ⟨o, pm, cd, doc, ho, hd, hcd⟩ hg hpre hrd)
end Mine
end
theorem PySem.Challenge.cw_kt0011_01_holds : PySem.Challenge.rw_kt0011_01.Holds :=
  Mine.law_holds
