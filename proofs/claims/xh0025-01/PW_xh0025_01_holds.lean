import PyProof.Rows.All
import Wide.All
import OpenK.AllK
import Wide.FinOn
import Lean
import PySem.Challenge.RW_xh0025_01
set_option Elab.async false
set_option maxRecDepth 100000
set_option linter.all false
set_option compiler.extract_closed false
set_option genSizeOf false
set_option tactic.hygienic false
section
namespace Mine
open PySem PySem.Calls PyProof.Rows
inductive Ky where
  | i (k : Int)
  | s (x : Str)
  deriving DecidableEq
inductive D where
  | none
  | bool (b : Bool)
  | int (i : Int)
  | str (x : Str)
  | tuple (ds : List D)
  | list (ds : List D)
  | dict (ks : List Ky) (vs : List D)
  | range (a b : Int)
  | items (ks : List Ky) (vs : List D)
  | values (ks : List Ky) (vs : List D)
  | raw (v : Value)
  | at (v : Value) (d : D)
noncomputable def Ky.is : Ky → Value → Bool
  | .i k, v => Value.isInt k v
  | .s x, v => Value.isStrOf x v
noncomputable def Ky.hash (w : World) : Ky → Int
  | .i k => hashInt k
  | .s x => hashStr w x
section
variable {prog : Program} {w : World} {A : Around} {E : Value → Shared → Prop} {s : Shared}
theorem eqBool_int_str {a : Int} {b : Str} {t u : Tok} {Q : Bool → Shared → Prop} (h : Q false s) : wpAny (model prog w) A (eqBool (.int a t) (.str b u)) Q E s := by
  unfold eqBool
  refine wpAny_holding (wpAny_ite ?_)
  rw [if_neg (by intro h; have := eq_of_beq h; exact nomatch this)]
  exact wpAny_bind (EqMixed.eq_int_str (wpAny_truthy_bool h))
theorem eqBool_str_int {a : Int} {b : Str} {t u : Tok} {Q : Bool → Shared → Prop} (h : Q false s) : wpAny (model prog w) A (eqBool (.str b u) (.int a t)) Q E s := by
  unfold eqBool
  refine wpAny_holding (wpAny_ite ?_)
  rw [if_neg (by intro h; have := eq_of_beq h; exact nomatch this)]
  exact wpAny_bind (EqMixed.eq_str_int (wpAny_truthy_bool h))
end
set_option tactic.hygienic true in
noncomputable def kyKind (prog : Program) (w : World) : KeyKind prog w Ky where
  is := Ky.is
  hash := Ky.hash w
  inj := fun v a b ha hb => by
    cases a <;> cases b <;> simp only [Ky.is] at ha hb
    · rw [Value.isInt_inj v _ _ ha hb]
    · obtain ⟨t, rfl⟩ := Value.isInt_shape ha; obtain ⟨u, h⟩ := Value.isStrOf_shape hb; exact nomatch h
    · obtain ⟨t, rfl⟩ := Value.isStrOf_shape ha; obtain ⟨u, h⟩ := Value.isInt_shape hb; exact nomatch h
    · rw [Value.isStrOf_inj v _ _ ha hb]
  byValue := fun k v h => by
    cases k <;> simp only [Ky.is] at h
    · obtain ⟨t, rfl⟩ := Value.isInt_shape h; rfl
    · obtain ⟨t, rfl⟩ := Value.isStrOf_shape h; rfl
  pyHash := fun {A E s k v Q} hv h => by
    cases k <;> simp only [Ky.is] at hv
    · obtain ⟨t, rfl⟩ := Value.isInt_shape hv; exact wpAny_pyHash_int h
    · obtain ⟨t, rfl⟩ := Value.isStrOf_shape hv; exact wpAny_pyHash_str h
  eqBool := fun {A E s a b u v Q} hu hv h => by
    cases a <;> cases b <;> simp only [Ky.is] at hu hv
    · obtain ⟨t, rfl⟩ := Value.isInt_shape hu
      obtain ⟨t', rfl⟩ := Value.isInt_shape hv
      refine wpAny_eqBool_int ?_
      rename_i x y
      have : (x == y) = decide (Ky.i x = Ky.i y) := by
        by_cases e : x = y
        · subst e; simp
        · simp [e]
      rw [this]; exact h
    · obtain ⟨t, rfl⟩ := Value.isInt_shape hu
      obtain ⟨t', rfl⟩ := Value.isStrOf_shape hv
      exact eqBool_int_str (by simpa using h)
    · obtain ⟨t, rfl⟩ := Value.isStrOf_shape hu
      obtain ⟨t', rfl⟩ := Value.isInt_shape hv
      exact eqBool_str_int (by simpa using h)
    · obtain ⟨t, rfl⟩ := Value.isStrOf_shape hu
      obtain ⟨t', rfl⟩ := Value.isStrOf_shape hv
      refine wpAny_eqBool_str ?_
      rename_i x y
      have : decide (x = y) = decide (Ky.s x = Ky.s y) := by
        by_cases e : x = y
        · subst e; simp
        · simp [e]
      rw [this]; exact h
  «strs» := fun k x t v h => by
    cases k <;> simp only [Ky.is] at h
    · simp [Value.isInt] at h
    · obtain ⟨u, hu⟩ := Value.isStrOf_shape h
      injection hu with hx
      subst hx
      cases v <;> rfl
structure Tab where
  P : Addr
  ps₀ : Array Value
  line : Int
  col : Int
  good : Obj → Prop
  isCode : ∀ o, good o → ∃ vs, o.data = .fields vs
noncomputable abbrev Fz := Addr → Option Obj
structure Gl where
  prog : Program
  w : World
  base : Fz
  os₀ : OsState
  tabs : List Tab
  sm : ∃ o, base sysModules = some o
noncomputable abbrev Gl.knd (G : Gl) : KeyKind G.prog G.w Ky := kyKind G.prog G.w
noncomputable abbrev Gl.M (G : Gl) : Model := model G.prog G.w
mutual
inductive Is (G : Gl) (S : Fz) : Value → D → Prop
  | none : Is G S .none .none
  | bool (b : Bool) : Is G S (.bool b) (.bool b)
  | int (i : Int) (t : Tok) : Is G S (.int i t) (.int i)
  | str (x : Str) (t : Tok) : Is G S (.str x t) (.str x)
  | tuple {a : Addr} {o : Obj} {n : Nat} {vs : List Value} {ds : List D} : S a = some o → o.cls = .type "tuple" → o.data = .seq vs.toArray n → Alls G S vs ds → Is G S (.ref a) (.tuple ds)
  | list {a : Addr} {o : Obj} {n : Nat} {vs : List Value} {ds : List D} : S a = some o → o.cls = .type "list" → o.data = .seq vs.toArray n → Alls G S vs ds → Is G S (.ref a) (.list ds)
  | dict {a : Addr} {es : Array DictEntry} {ep : Nat} {kvs : List (Ky × Value)} {ks : List Ky} {ds : List D} : S a = some { cls := .type "dict", data := .dict es ep } → KeysOf G.knd es → Pairs G.knd es.toList kvs →
      ks = kvs.map (·.1) → ks.Nodup → Alls G S (kvs.map (·.2)) ds → (a == sysModules) = false → Is G S (.ref a) (.dict ks ds)
  | range {a : Addr} {x y : Int} {t u v : Tok} : S a = some { cls := .type "range", data := .fields #[.int x t, .int y u, .int 1 v] } → Is G S (.ref a) (.range x y)
  | items {v d : Addr} {ks : List Ky} {ds : List D} : S v = some { cls := .type "dict_items", data := .fields #[.ref d] } → Is G S (.ref d) (.dict ks ds) → Is G S (.ref v) (.items ks ds)
  | values {v d : Addr} {ks : List Ky} {ds : List D} : S v = some { cls := .type "dict_values", data := .fields #[.ref d] } → Is G S (.ref d) (.dict ks ds) → Is G S (.ref v) (.values ks ds)
  | raw (v : Value) : Is G S v (.raw v)
  | at {v : Value} {d : D} : Is G S v d → Is G S v (.at v d)
inductive Alls (G : Gl) (S : Fz) : List Value → List D → Prop
  | nil : Alls G S [] []
  | cons {v : Value} {vs : List Value} {d : D} {ds : List D} : Is G S v d → Alls G S vs ds → Alls G S (v :: vs) (d :: ds)
end
noncomputable def Sub (S S' : Fz) : Prop := ∀ a o, S a = some o → S' a = some o
theorem Sub.refl (S : Fz) : Sub S S := fun _ _ e => e
theorem Sub.trans {S S' S'' : Fz} (h : Sub S S') (h' : Sub S' S'') : Sub S S'' := fun a o e => h' a o (h a o e)
theorem Is.mono {G : Gl} {S S' : Fz} (hs : Sub S S') {v : Value} {d : D} (h : Is G S v d) : Is G S' v d :=
  Is.rec (motive_1 := fun v d _ => Is G S' v d) (motive_2 := fun vs ds _ => Alls G S' vs ds) .none .bool .int .str (fun h h1 h2 _ r => .tuple (hs _ _ h) h1 h2 r) (fun h h1 h2 _ r => .list (hs _ _ h) h1 h2 r)
    (fun h h1 h2 h3 h4 _ h5 r => .dict (hs _ _ h) h1 h2 h3 h4 r h5) (fun h => .range (hs _ _ h)) (fun h _ r => .items (hs _ _ h) r) (fun h _ r => .values (hs _ _ h) r) .raw (fun _ r => .at r) .nil (fun _ _ h r => .cons h r) h
theorem Alls.mono {G : Gl} {S S' : Fz} (hs : Sub S S') {vs : List Value} {ds : List D} (h : Alls G S vs ds) : Alls G S' vs ds :=
  Alls.rec (motive_1 := fun v d _ => Is G S' v d) (motive_2 := fun vs ds _ => Alls G S' vs ds) .none .bool .int .str (fun h h1 h2 _ r => .tuple (hs _ _ h) h1 h2 r) (fun h h1 h2 _ r => .list (hs _ _ h) h1 h2 r)
    (fun h h1 h2 h3 h4 _ h5 r => .dict (hs _ _ h) h1 h2 h3 h4 r h5) (fun h => .range (hs _ _ h)) (fun h _ r => .items (hs _ _ h) r) (fun h _ r => .values (hs _ _ h) r) .raw (fun _ r => .at r) .nil (fun _ _ h r => .cons h r) h
noncomputable def SeqI (G : Gl) (S : Fz) (t : String) (v : Value) (ds : List D) : Prop := ∃ a o n vs, v = .ref a ∧ S a = some o ∧ o.cls = .type t ∧ o.data = .seq vs.toArray n ∧ Alls G S vs ds
noncomputable def DictI (G : Gl) (S : Fz) (v : Value) (ks : List Ky) (ds : List D) : Prop := ∃ a es ep kvs, v = .ref a ∧ S a = some { cls := .type "dict", data := .dict es ep } ∧ KeysOf G.knd es ∧ Pairs G.knd es.toList kvs ∧
      ks = kvs.map (·.1) ∧ ks.Nodup ∧ Alls G S (kvs.map (·.2)) ds ∧ (a == sysModules) = false
noncomputable def RangeI (S : Fz) (v : Value) (x y : Int) : Prop := ∃ a t u w, v = .ref a ∧ S a = some { cls := .type "range", data := .fields #[.int x t, .int y u, .int 1 w] }
noncomputable def ViewI (G : Gl) (S : Fz) (t : String) (v : Value) (ks : List Ky) (ds : List D) : Prop := ∃ a d, v = .ref a ∧ S a = some { cls := .type t, data := .fields #[.ref d] } ∧ Is G S (.ref d) (.dict ks ds)
noncomputable def IsI (G : Gl) (S : Fz) (v : Value) : D → Prop
  | .none => v = .none
  | .bool b => v = .bool b
  | .int i => ∃ t, v = .int i t
  | .str x => ∃ t, v = .str x t
  | .tuple ds => SeqI G S "tuple" v ds
  | .list ds => SeqI G S "list" v ds
  | .dict ks ds => DictI G S v ks ds
  | .range x y => RangeI S v x y
  | .items ks ds => ViewI G S "dict_items" v ks ds
  | .values ks ds => ViewI G S "dict_values" v ks ds
  | .raw u => v = u
  | .at u d => v = u ∧ Is G S u d
noncomputable def AllsJ (G : Gl) (S : Fz) (ds : List D) : List Value → Prop
  | [] => ds = []
  | v :: vs => ∃ d r, ds = d :: r ∧ Is G S v d ∧ Alls G S vs r
noncomputable def AllsI (G : Gl) (S : Fz) (vs : List Value) : List D → Prop
  | [] => vs = []
  | d :: ds => ∃ v r, vs = v :: r ∧ Is G S v d ∧ Alls G S r ds
section
variable {G : Gl} {S : Fz} {v : Value} {d : D} {vs : List Value} {ds : List D} {ks : List Ky}
theorem Is.inv (h : Is G S v d) : IsI G S v d := by
  cases h with
  | none => exact rfl
  | bool => exact rfl
  | int i t => exact ⟨t, rfl⟩
  | str x t => exact ⟨t, rfl⟩
  | tuple h h1 h2 r => exact ⟨_, _, _, _, rfl, h, h1, h2, r⟩
  | list h h1 h2 r => exact ⟨_, _, _, _, rfl, h, h1, h2, r⟩
  | dict h h1 h2 h3 h4 r h5 => exact ⟨_, _, _, _, rfl, h, h1, h2, h3, h4, r, h5⟩
  | range h => exact ⟨_, _, _, _, rfl, h⟩
  | items h r => exact ⟨_, _, rfl, h, r⟩
  | values h r => exact ⟨_, _, rfl, h, r⟩
  | raw => exact rfl
  | «at» h => exact ⟨rfl, h⟩
theorem Alls.inv (h : Alls G S vs ds) : AllsI G S vs ds := by
  cases h with
  | nil => exact rfl
  | cons h r => exact ⟨_, _, rfl, h, r⟩
theorem Alls.invV (h : Alls G S vs ds) : AllsJ G S ds vs := by
  cases h with
  | nil => exact rfl
  | cons h r => exact ⟨_, _, rfl, h, r⟩
theorem Alls.nilV (h : Alls G S [] ds) : ds = [] := h.invV
theorem Alls.consV (h : Alls G S (v :: vs) ds) : ∃ d r, ds = d :: r ∧ Is G S v d ∧ Alls G S vs r := h.invV
theorem Is.noneI (h : Is G S v .none) : v = .none := h.inv
theorem Is.boolI {b : Bool} (h : Is G S v (.bool b)) : v = .bool b := h.inv
theorem Is.intI {i : Int} (h : Is G S v (.int i)) : ∃ t, v = .int i t := h.inv
theorem Is.strI {x : Str} (h : Is G S v (.str x)) : ∃ t, v = .str x t := h.inv
theorem Is.tupleI (h : Is G S v (.tuple ds)) : SeqI G S "tuple" v ds := h.inv
theorem Is.listI (h : Is G S v (.list ds)) : SeqI G S "list" v ds := h.inv
theorem Is.dictI (h : Is G S v (.dict ks ds)) : DictI G S v ks ds := h.inv
theorem Is.rangeI {x y : Int} (h : Is G S v (.range x y)) : RangeI S v x y := h.inv
theorem Is.itemsI (h : Is G S v (.items ks ds)) : ViewI G S "dict_items" v ks ds := h.inv
theorem Is.valuesI (h : Is G S v (.values ks ds)) : ViewI G S "dict_values" v ks ds := h.inv
theorem Is.rawI {u : Value} (h : Is G S v (.raw u)) : v = u := h.inv
theorem Is.atI {u : Value} (h : Is G S v (.at u d)) : v = u ∧ Is G S u d := h.inv
theorem Alls.nilI (h : Alls G S vs []) : vs = [] := h.inv
theorem Alls.consI (h : Alls G S vs (d :: ds)) : ∃ v r, vs = v :: r ∧ Is G S v d ∧ Alls G S r ds := h.inv
end
theorem cps {b : Prop} (h : ∀ P : Prop, (b → P) → P) : b := h b id
theorem len0 {α : Type} : ∀ {l : List α}, l.length = 0 → l = []
  | [], _ => rfl
theorem lenS {α : Type} {n : Nat} : ∀ {l : List α}, l.length = n + 1 → ∃ a r, l = a :: r ∧ r.length = n
  | a :: r, h => ⟨a, r, rfl, Nat.succ.inj h⟩
theorem len1 {α : Type} {l : List α} (h : l.length = 1) : ∃ a, l = [a] := let ⟨a, r, e, h⟩ := lenS h; ⟨a, by rw [e, len0 h]⟩
theorem len2 {α : Type} {l : List α} (h : l.length = 2) : ∃ a b, l = [a, b] := let ⟨a, r, e, h⟩ := lenS h; let ⟨b, e'⟩ := len1 h; ⟨a, b, by rw [e, e']⟩
theorem len3 {α : Type} {l : List α} (h : l.length = 3) : ∃ a b c, l = [a, b, c] := let ⟨a, r, e, h⟩ := lenS h; let ⟨b, c, e'⟩ := len2 h; ⟨a, b, c, by rw [e, e']⟩
theorem len4 {α : Type} {l : List α} (h : l.length = 4) : ∃ a b c d, l = [a, b, c, d] := let ⟨a, r, e, h⟩ := lenS h; let ⟨b, c, d, e'⟩ := len3 h; ⟨a, b, c, d, by rw [e, e']⟩
section
variable {G : Gl} {S : Fz} {v : Value} {d : D} {vs ws : List Value} {ds es : List D}
theorem Alls.ind {M : List Value → List D → Prop} (h0 : M [] []) (h1 : ∀ v vs d ds, Is G S v d → Alls G S vs ds → M vs ds → M (v :: vs) (d :: ds)) (h : Alls G S vs ds) : M vs ds :=
  Alls.rec (motive_1 := fun _ _ _ => True) (motive_2 := fun vs ds _ => M vs ds) trivial (fun _ => trivial) (fun _ _ => trivial) (fun _ _ => trivial) (fun _ _ _ _ _ => trivial) (fun _ _ _ _ _ => trivial)
    (fun _ _ _ _ _ _ _ _ => trivial) (fun _ => trivial) (fun _ _ _ => trivial) (fun _ _ _ => trivial) (fun _ => trivial) (fun _ _ => trivial) h0 (fun a b _ c => h1 _ _ _ _ a b c) h
theorem Alls.length (h : Alls G S vs ds) : vs.length = ds.length :=
  Alls.ind (M := fun vs ds => vs.length = ds.length) rfl (fun _ _ _ _ _ _ e => congrArg Nat.succ e) h
theorem Alls.append (h : Alls G S vs ds) (k : Alls G S ws es) : Alls G S (vs ++ ws) (ds ++ es) :=
  Alls.ind (M := fun vs ds => Alls G S (vs ++ ws) (ds ++ es)) k (fun _ _ _ _ h _ r => .cons h r) h
theorem Alls.get' (h : Alls G S vs ds) : ∀ {k : Nat} {v : Value}, vs[k]? = some v → ∃ d, ds[k]? = some d ∧ Is G S v d :=
  Alls.ind (M := fun vs ds => ∀ {k : Nat} {v : Value}, vs[k]? = some v → ∃ d, ds[k]? = some d ∧ Is G S v d) (fun e => nomatch e) (fun v vs d ds h _ r {k x} e => match k, e with | 0, e => ⟨d, rfl, Option.some.inj e ▸ h⟩ | k + 1, e => r (k := k) e) h
theorem Alls.take (h : Alls G S vs ds) : ∀ (n : Nat), Alls G S (vs.take n) (ds.take n) :=
  Alls.ind (M := fun vs ds => ∀ (n : Nat), Alls G S (vs.take n) (ds.take n)) (fun n => by rw [List.take_nil, List.take_nil]; exact .nil) (fun v vs d ds h _ r n => match n with | 0 => .nil | n + 1 => .cons h (r n)) h
theorem Alls.drop (h : Alls G S vs ds) : ∀ (n : Nat), Alls G S (vs.drop n) (ds.drop n) :=
  Alls.ind (M := fun vs ds => ∀ (n : Nat), Alls G S (vs.drop n) (ds.drop n)) (fun n => by rw [List.drop_nil, List.drop_nil]; exact .nil) (fun v vs d ds h k r n => match n with | 0 => .cons h k | n + 1 => r n) h
theorem Alls.ints : ∀ {ns : List Int} {vs : List Value}, Alls G S vs (ns.map D.int) → IntsAre vs ns
  | [], _, h => h.nilI ▸ .nil
  | n :: ns, _, h => by
    obtain ⟨v, r, rfl, i, h2⟩ := h.consI
    obtain ⟨t, rfl⟩ := i.intI
    exact .cons _ _ (Alls.ints h2)
theorem Alls.of_ints {ns : List Int} (h : IntsAre vs ns) : Alls G S vs (ns.map D.int) := by
  induction h with
  | nil => exact .nil
  | cons n t _ ih => exact .cons (.int ..) ih
end
noncomputable def Ky.d : Ky → D
  | .i k => .int k
  | .s x => .str x
theorem Is.ky {G : Gl} {S : Fz} {v : Value} {k : Ky} (h : Is G S v k.d) : G.knd.is k v = true := by
  cases k with
  | i => obtain ⟨t, rfl⟩ := h.intI; simp [kyKind, Ky.is, Value.isInt]
  | s => obtain ⟨t, rfl⟩ := h.strI; simp [kyKind, Ky.is, Value.isStrOf]
theorem Is.of_ky {G : Gl} {S : Fz} {v : Value} {k : Ky} (h : G.knd.is k v = true) : Is G S v k.d := by
  cases k
  · obtain ⟨t, rfl⟩ := Value.isInt_shape h; exact .int ..
  · obtain ⟨t, rfl⟩ := Value.isStrOf_shape h; exact .str ..
end Mine
end

section
namespace Mine
open PySem PySem.Calls PyProof.Rows
noncomputable abbrev tabObj (vs : Array Value) : Obj := { cls := .none, data := .fields vs }
noncomputable def TabOk (G : Gl) (S : Fz) (h : Heap) : Prop := ∀ t ∈ G.tabs, ∃ ps, h.get? t.P = some (tabObj ps) ∧
  (ps = t.ps₀ ∨ ∃ c' o, ps = t.ps₀ ++ #[rawInt t.line, rawInt t.col, .ref c'] ∧ S c' = some o ∧ t.good o)
structure Inv (G : Gl) (S : Fz) (s : Shared) : Prop where
  sub : ∀ a o, S a = some o → s.heap.get? a = some o
  base : Sub G.base S
  tab : TabOk G S s.heap
  tabS : ∀ t ∈ G.tabs, S t.P = none
  bare : AllBare s.gens
  os : s.os = G.os₀
noncomputable def NoTab (G : Gl) (b : Addr) : Prop := ∀ t ∈ G.tabs, t.P ≠ b
structure Stp (G : Gl) (S : Fz) (s : Shared) (S' : Fz) (s' : Shared) : Prop where
  inv : Inv G S' s'
  sub : Sub S S'
  new : ∀ a o, S' a = some o → S a = some o ∨ s.heap.get? a = none
  keep : ∀ b o, NoTab G b → s.heap.get? b = some o → s'.heap.get? b = some o
  gens : ∀ (g : Nat) (x : GenState), s.gens[g]? = some x → s'.gens[g]? = some x
section
variable {G : Gl} {S S' S'' : Fz} {s s' s'' : Shared}
theorem Inv.noTab (I : Inv G S s) {b : Addr} {o : Obj} (h : s.heap.get? b = some o) (hc : o.cls ≠ .none) : NoTab G b := fun t ht e => by
  obtain ⟨ps, hp, _⟩ := I.tab t ht
  rw [e, h] at hp
  obtain rfl := Option.some.inj hp
  exact hc rfl
theorem Inv.noTabS (I : Inv G S s) {b : Addr} {o : Obj} (h : S b = some o) : NoTab G b := fun t ht e => by
  have := I.tabS t ht
  rw [e, h] at this
  exact nomatch this
theorem Inv.noTabFresh (I : Inv G S s) {b : Addr} (h : s.heap.get? b = none) : NoTab G b := fun t ht e => by
  obtain ⟨ps, hp, _⟩ := I.tab t ht
  rw [e, h] at hp
  exact nomatch hp
theorem Stp.refl (I : Inv G S s) : Stp G S s S s := ⟨I, Sub.refl _, fun _ _ e => .inl e, fun _ _ _ e => e, fun _ _ e => e⟩
theorem Stp.trans (h : Stp G S s S' s') (h' : Stp G S' s' S'' s'') : Stp G S s S'' s'' where
  inv := h'.inv
  sub := h.sub.trans h'.sub
  new := fun a o e => by
    rcases h'.new a o e with x | x
    · exact h.new a o x
    · refine .inr ?_
      cases q : s.heap.get? a with
      | none => rfl
      | some o' =>
        exfalso
        have nt : NoTab G a := h'.inv.noTabS e
        rw [h.keep a o' nt q] at x
        exact nomatch x
  keep := fun b o nt e => h'.keep b o nt (h.keep b o nt e)
  gens := fun g x e => h'.gens g x (h.gens g x e)
theorem Inv.fresh {s : Shared} : s.heap.get? s.heap.objs.size = none := by
  cases q : s.heap.get? s.heap.objs.size with
  | none => rfl
  | some o => exact absurd (Heap.lt_size q) (Nat.lt_irrefl _)
theorem TabOk.keeps {h h' : Heap} (T : TabOk G S h) (hs : Sub S S') (hk : ∀ b o, h.get? b = some o → o.cls = .none → h'.get? b = some o) : TabOk G S' h' := fun t ht => by
  obtain ⟨ps, hp, x⟩ := T t ht
  refine ⟨ps, hk _ _ hp rfl, x.imp id ?_⟩
  rintro ⟨c', o, e, q, g⟩
  exact ⟨c', o, e, hs _ _ q, g⟩
theorem Inv.keeps (I : Inv G S s) {h' : Heap} {t : Nat} (hk : ∀ b o, s.heap.get? b = some o → h'.get? b = some o) : Stp G S s S { s with heap := h', toks := t } where
  inv := ⟨fun a o e => hk _ _ (I.sub a o e), I.base, I.tab.keeps (Sub.refl _) fun b o e _ => hk b o e, I.tabS, I.bare, I.os⟩
  sub := Sub.refl _
  new := fun _ _ e => .inl e
  keep := fun b o _ e => hk b o e
  gens := fun _ _ e => e
theorem Inv.toks (I : Inv G S s) (t : Nat) : Stp G S s S { s with toks := t } := I.keeps fun _ _ e => e
noncomputable def Fz.put (S : Fz) (a : Addr) (o : Obj) : Fz := fun b => if b = a then some o else S b
theorem Fz.put_self (S : Fz) (a : Addr) (o : Obj) : S.put a o a = some o := by simp [Fz.put]
theorem Fz.put_ne (S : Fz) {a b : Addr} (o : Obj) (h : b ≠ a) : S.put a o b = S b := by simp [Fz.put, h]
theorem Fz.sub_put {S : Fz} {a : Addr} {o : Obj} (h : S a = none) : Sub S (S.put a o) := fun b o' e => by
  by_cases q : b = a
  · subst q; rw [h] at e; exact nomatch e
  · rw [Fz.put_ne _ _ q]; exact e
theorem Inv.freeze (I : Inv G S s) {a : Addr} {o : Obj} (ho : s.heap.get? a = some o) (hc : o.cls ≠ .none) (hS : S a = none) : Inv G (S.put a o) s where
  sub := fun b o' e => by
    by_cases q : b = a
    · subst q; rw [Fz.put_self] at e; obtain rfl := Option.some.inj e; exact ho
    · rw [Fz.put_ne _ _ q] at e; exact I.sub _ _ e
  base := I.base.trans (Fz.sub_put hS)
  tab := I.tab.keeps (Fz.sub_put hS) fun _ _ e _ => e
  tabS := fun t ht => by rw [Fz.put_ne _ _ (I.noTab ho hc t ht)]; exact I.tabS t ht
  bare := I.bare
  os := I.os
theorem Inv.push (I : Inv G S s) (o : Obj) (hf : o.isFreed = false) (hc : o.cls ≠ .none) {t : Nat} : Stp G S s (S.put s.heap.objs.size o) { s with heap := s.heap.push o, toks := t } := by
  have hS : S s.heap.objs.size = none := by
    cases q : S s.heap.objs.size with
    | none => rfl
    | some o' => have := I.sub _ _ q; rw [Inv.fresh] at this; exact nomatch this
  have st := I.keeps (h' := s.heap.push o) (t := t) fun b o' e => Heap.get?_push_of_some _ e
  refine ⟨st.inv.freeze (Heap.get?_push_size _ hf) hc hS, Fz.sub_put hS, fun a o' e => ?_, st.keep, st.gens⟩
  by_cases q : a = s.heap.objs.size
  · subst q; exact .inr Inv.fresh
  · rw [Fz.put_ne _ _ q] at e; exact .inl e
theorem Inv.but (I : Inv G S s) {h' : Heap} {t : Nat} {wr : List Addr} (hw : ∀ a ∈ wr, S a = none ∧ NoTab G a)
    (hk : ∀ b o, b ∉ wr → s.heap.get? b = some o → h'.get? b = some o) : Inv G S { s with heap := h', toks := t } where
  sub := fun a o e => hk _ _ (fun q => by have := (hw a q).1; rw [e] at this; exact nomatch this) (I.sub a o e)
  base := I.base
  tab := fun t ht => by
    obtain ⟨ps, hp, x⟩ := I.tab t ht
    exact ⟨ps, hk _ _ (fun q => (hw _ q).2 t ht rfl) hp, x⟩
  tabS := I.tabS
  bare := I.bare
  os := I.os
end
noncomputable def Post {α : Type} (G : Gl) (S : Fz) (s : Shared) (P : Fz → α → Prop) : α → Shared → Prop := fun a s' => ∃ S', Stp G S s S' s' ∧ P S' a
noncomputable def No : Value → Shared → Prop := fun _ _ => False
section
variable {G : Gl} {A : Around} {S S' : Fz} {s s' : Shared} {α β : Type}
theorem Post.mono {P P' : Fz → α → Prop} {a : α} (h : Post G S s P a s') (hp : ∀ S', Sub S S' → P S' a → P' S' a) : Post G S s P' a s' :=
  let ⟨S', st, p⟩ := h; ⟨S', st, hp S' st.sub p⟩
theorem Post.pre {P : Fz → α → Prop} {a : α} {s'' : Shared} (st : Stp G S s S' s') (h : Post G S' s' P a s'') : Post G S s P a s'' :=
  let ⟨S'', st', p⟩ := h; ⟨S'', st.trans st', p⟩
theorem wp_post {m : Sem α} {P P' : Fz → α → Prop} {E : Value → Shared → Prop} (h : wpAny G.M A m (Post G S s P) E s) (hp : ∀ S' a, Sub S S' → P S' a → P' S' a) : wpAny G.M A m (Post G S s P') E s :=
  wpAny_mono h (fun _ _ q => q.mono fun S' hs => hp S' _ hs) fun _ _ e => e
theorem wp_pre {m : Sem α} {P : Fz → α → Prop} {E : Value → Shared → Prop} (st : Stp G S s S' s') (h : wpAny G.M A m (Post G S' s' P) E s') : wpAny G.M A m (Post G S s P) E s' :=
  wpAny_mono h (fun _ _ q => q.pre st) fun _ _ e => e
theorem wp_seq {m : Sem α} {P : Fz → α → Prop} {Q : α → Shared → Prop} {E : Value → Shared → Prop} (h : wpAny G.M A m (Post G S s P) E s)
    (hf : ∀ S' a s', Stp G S s S' s' → P S' a → Q a s') : wpAny G.M A m Q E s :=
  wpAny_mono h (fun a s' ⟨S', st, p⟩ => hf S' a s' st p) fun _ _ e => e
end
structure Room (n : Nat) (A : Around) : Prop where
  handled : A.handled = none
  depth : A.depth + n ≤ 900
  units : A.units + 50 * n ≤ 9000
section
variable {n : Nat} {A : Around}
theorem Room.in1 (h : Room (n + 1) A) : Room n A.in1 := ⟨h.handled, by have := h.depth; show A.depth + n ≤ 900; lia, by have := h.units; show A.units + 1 + 50 * n ≤ 9000; lia⟩
theorem Room.deeper (h : Room (n + 1) A) (env : Env) : Room n (A.deeper env) := ⟨h.handled, by have := h.depth; show A.depth + 1 + n ≤ 900; lia, by have := h.units; show A.units + 3 + 50 * n ≤ 9000; lia⟩
theorem Room.less (h : Room n A) {m : Nat} (hm : m ≤ n) : Room m A := ⟨h.handled, by have := h.depth; lia, by have := h.units; lia⟩
theorem Room.lt (h : Room n A) : A.depth < recursionLimit := by have := h.depth; show A.depth < 1000; lia
theorem Room.cl (h : Room n A) : A.units < cLine := by have := h.units; show A.units < 9900; lia
end
end Mine
end

section
namespace Mine
open PySem PySem.Calls PyProof.Rows
structure Act (sc : Scope) (mc : List Str) where
  env : Env
  hsc : env.scope = sc
  mt : List Addr
variable {sc : Scope} {mc : List Str}
theorem Act.kindOf (act : Act sc mc) (x : Str) : act.env.kindOf x = sc.names.lookup x := by unfold Env.kindOf; rw [act.hsc]
structure Kept where
  objs : Fz
  gens : Nat → Option GenState
inductive Loc where
  | val (d : D)
  | own (d : D)
noncomputable abbrev LEnv := List (Str × Loc)
inductive Own (G : Gl) (S : Fz) : Obj → D → Prop
  | list {n : Nat} {vs : List Value} {ds : List D} : Alls G S vs ds → Own G S { cls := .type "list", data := .seq vs.toArray n } (.list ds)
  | dict {es : Array DictEntry} {ep : Nat} {kvs : List (Ky × Value)} {ks : List Ky} {ds : List D} : KeysOf G.knd es → Pairs G.knd es.toList kvs →
      ks = kvs.map (·.1) → ks.Nodup → Alls G S (kvs.map (·.2)) ds → Own G S { cls := .type "dict", data := .dict es ep } (.dict ks ds)
theorem Own.mono {G : Gl} {S S' : Fz} {o : Obj} {d : D} (h : Own G S o d) (hs : Sub S S') : Own G S' o d := by
  cases h with
  | list r => exact .list (r.mono hs)
  | dict a b c d r => exact .dict a b c d (r.mono hs)
theorem Own.cls {G : Gl} {S : Fz} {o : Obj} {d : D} (h : Own G S o d) : o.cls ≠ .none := by cases h <;> exact fun e => nomatch e
theorem Own.is {G : Gl} {S : Fz} {a : Addr} {o : Obj} {d : D} (h : Own G S o d) (hS : S a = none) (hb : Sub G.base S) : Is G (S.put a o) (.ref a) d := by
  cases h with
  | list r => exact .list (Fz.put_self ..) rfl rfl (r.mono (Fz.sub_put hS))
  | dict h1 h2 h3 h4 r =>
    refine .dict (Fz.put_self ..) h1 h2 h3 h4 (r.mono (Fz.sub_put hS)) (beq_eq_false_iff_ne.mpr fun e => ?_)
    obtain ⟨o, ho⟩ := G.sm
    rw [e, hb _ _ ho] at hS
    exact nomatch hS
noncomputable def Reads (env : Env) (h : Heap) (x : Str) (v : Value) : Prop :=
  (env.kindOf x = some .local ∧ ∃ m, h.Ns env.locals m ∧ m x = some v) ∨
  ((env.kindOf x = some .cell ∨ env.kindOf x = some .free) ∧ ∃ c, env.cells.lookup x = some c ∧ h.IsCell c (some v))
noncomputable def VarOk (G : Gl) (act : Act sc mc) (kp : Kept) (adr : Str → Addr) (S : Fz) (s : Shared) (x : Str) : Loc → Prop
  | .val d => ∃ v, Reads act.env s.heap x v ∧ Is G S v d
  | .own d => Reads act.env s.heap x (.ref (adr x)) ∧ (∃ o, s.heap.get? (adr x) = some o ∧ Own G S o d) ∧ S (adr x) = none ∧ kp.objs (adr x) = none ∧ adr x ∉ act.mt
structure OK (G : Gl) (act : Act sc mc) (kp : Kept) (adr : Str → Addr) (ρ : LEnv) (S : Fz) (s : Shared) : Prop where
  inv : Inv G S s
  kept : ∀ a o, kp.objs a = some o → s.heap.get? a = some o
  knt : ∀ a o, kp.objs a = some o → NoTab G a
  kgens : ∀ (g : Nat) (x : GenState), kp.gens g = some x → s.gens[g]? = some x
  fn : sc.kind = .function
  glob : act.env.globals = mainGlobals
  blt : act.env.builtins = builtinsNs
  ns : ∃ m, s.heap.Ns act.env.locals m
  mtL : act.env.locals ∈ act.mt
  mt : ∀ b ∈ act.mt, S b = none ∧ kp.objs b = none ∧ NoTab G b ∧ ∃ o, s.heap.get? b = some o
  mtc : ∀ x ∈ mc, ∃ c, act.env.cells.lookup x = some c ∧ c ∈ act.mt
  apart : act.env.cells.Pairwise (fun x y => x.2 ≠ y.2)
  clo : ∀ x, (sc.names.lookup x = some .cell ∨ sc.names.lookup x = some .free) → ∃ c, act.env.cells.lookup x = some c
  cells : ∀ p ∈ act.env.cells, NoTab G p.2 ∧ ∃ v, s.heap.IsCell p.2 v
  vars : ∀ x l, ρ.lookup x = some l → VarOk G act kp adr S s x l
  inj : ∀ x y dx dy, ρ.lookup x = some (.own dx) → ρ.lookup y = some (.own dy) → adr x = adr y → x = y
theorem cell_in {env : Env} {x : Str} {c : Addr} (h : env.cells.lookup x = some c) : (x, c) ∈ env.cells := mem_of_lookup h
section
variable {G : Gl} {A : Around} {act : Act sc mc} {kp : Kept} {adr : Str → Addr} {ρ : LEnv} {S S' : Fz} {s s' : Shared}
theorem Reads.of {env : Env} {h h' : Heap} {x : Str} {v : Value} (r : Reads env h x v) (hl : ∀ o, h.get? env.locals = some o → h'.get? env.locals = some o)
    (hc : ∀ c, env.cells.lookup x = some c → ∀ o, h.get? c = some o → h'.get? c = some o) : Reads env h' x v := by
  rcases r with ⟨k, m, hm, e⟩ | ⟨k, c, hx, o, ho, hd⟩
  · exact .inl ⟨k, m, hm.at' hl, e⟩
  · exact .inr ⟨k, c, hx, o, hc c hx o ho, hd⟩
theorem OK.fn' (O : OK G act kp adr ρ S s) : act.env.scope.kind = .function := by rw [act.hsc]; exact O.fn
theorem OK.ntL (O : OK G act kp adr ρ S s) : NoTab G act.env.locals := (O.mt _ O.mtL).2.2.1
theorem OK.step (O : OK G act kp adr ρ S s) (st : Stp G S s S' s') : OK G act kp adr ρ S' s' where
  inv := st.inv
  kept := fun a o e => st.keep a o (O.knt a o e) (O.kept a o e)
  knt := O.knt
  kgens := fun g x e => st.gens g x (O.kgens g x e)
  fn := O.fn
  glob := O.glob
  blt := O.blt
  ns := let ⟨m, hm⟩ := O.ns; ⟨m, hm.at' fun o e => st.keep _ _ O.ntL e⟩
  mtL := O.mtL
  mt := fun b hb => by
    obtain ⟨h1, h2, h3, o, ho⟩ := O.mt b hb
    refine ⟨?_, h2, h3, o, st.keep _ _ h3 ho⟩
    cases q : S' b with
    | none => rfl
    | some o' =>
      rcases st.new b o' q with e | e
      · rw [h1] at e; exact nomatch e
      · rw [ho] at e; exact nomatch e
  mtc := O.mtc
  apart := O.apart
  clo := O.clo
  cells := fun p hp => by
    obtain ⟨nt, v, o, ho, hd⟩ := O.cells p hp
    exact ⟨nt, v, o, st.keep _ _ nt ho, hd⟩
  vars := fun x l e => by
    have rd : ∀ v, Reads act.env s.heap x v → Reads act.env s'.heap x v := fun v r =>
      r.of (fun o ho => st.keep _ _ O.ntL ho) fun c hc o ho => st.keep _ _ (O.cells _ (cell_in hc)).1 ho
    have q := O.vars x l e
    cases l with
    | val d => obtain ⟨v, r, i⟩ := q; exact ⟨v, rd v r, i.mono st.sub⟩
    | own d =>
      obtain ⟨r, ⟨o, ho, w⟩, h1, h2, h3⟩ := q
      refine ⟨rd _ r, ⟨o, st.keep _ _ (O.inv.noTab ho w.cls) ho, w.mono st.sub⟩, ?_, h2, h3⟩
      cases q : S' (adr x) with
      | none => rfl
      | some o' =>
        rcases st.new _ o' q with e | e
        · rw [h1] at e; exact nomatch e
        · rw [ho] at e; exact nomatch e
  inj := O.inj
theorem OK.weaken (O : OK G act kp adr ρ S s) {ρ' : LEnv} (h : ∀ x l, ρ'.lookup x = some l → ρ.lookup x = some l) : OK G act kp adr ρ' S s :=
  { O with
    vars := fun x l e => O.vars x l (h x l e)
    inj := fun x y dx dy ex ey => O.inj x y dx dy (h _ _ ex) (h _ _ ey) }
structure Gro (kp : Kept) (S S' : Fz) : Prop where
  sub : Sub S S'
  new : ∀ a o, S' a = some o → S a = some o ∨ kp.objs a = none
theorem Gro.refl (kp : Kept) (S : Fz) : Gro kp S S := ⟨Sub.refl _, fun _ _ e => .inl e⟩
theorem Gro.trans {S'' : Fz} (h : Gro kp S S') (h' : Gro kp S' S'') : Gro kp S S'' := ⟨h.sub.trans h'.sub, fun a o e => (h'.new a o e).elim (h.new a o) .inr⟩
theorem OK.gro (O : OK G act kp adr ρ S s) (st : Stp G S s S' s') : Gro kp S S' := ⟨st.sub, fun a o e => (st.new a o e).imp id fun q => by
  cases h : kp.objs a with
  | none => rfl
  | some o' => rw [O.kept a o' h] at q; exact nomatch q⟩
theorem OK.freezeI (O : OK G act kp adr ρ S s) {x : Str} {d : D} (hx : ρ.lookup x = some (.own d)) :
    ∃ S', Gro kp S S' ∧ Is G S' (.ref (adr x)) d ∧ OK G act kp adr ((x, .val d) :: ρ) S' s := by
  obtain ⟨r, ⟨o, ho, w⟩, h1, h2, h3⟩ := O.vars x _ hx
  have hs := Fz.sub_put (o := o) h1
  refine ⟨S.put (adr x) o, ⟨hs, fun a o' e => ?_⟩, w.is h1 O.inv.base, { O with inv := O.inv.freeze ho w.cls h1, mt := fun b hb => ?_, vars := fun y l e => ?_, inj := fun y z dy dz ey ez => ?_ }⟩
  · by_cases q : a = adr x
    · subst q; exact .inr h2
    · rw [Fz.put_ne _ _ q] at e; exact .inl e
  · obtain ⟨a1, a2⟩ := O.mt b hb
    exact ⟨by rw [Fz.put_ne S o (a := adr x) (b := b) (fun q => h3 (by rw [← q]; exact hb))]; exact a1, a2⟩
  · by_cases q : y = x
    · subst q
      simp only [List.lookup_cons_self] at e
      obtain rfl := Option.some.inj e
      exact ⟨_, r, w.is h1 O.inv.base⟩
    · rw [List.lookup_cons, beq_eq_false_iff_ne.mpr q] at e
      have z := O.vars y l e
      cases l with
      | val dy => obtain ⟨v, r, i⟩ := z; exact ⟨v, r, i.mono hs⟩
      | own dy =>
        obtain ⟨r', ⟨o', ho', w'⟩, g1, g2, g3⟩ := z
        exact ⟨r', ⟨o', ho', w'.mono hs⟩, by rw [Fz.put_ne _ _ (fun h => q (O.inj y x dy d e hx h))]; exact g1, g2, g3⟩
  · by_cases qy : y = x
    · subst qy; simp at ey
    · by_cases qz : z = x
      · subst qz; simp at ez
      · rw [List.lookup_cons, beq_eq_false_iff_ne.mpr qy] at ey
        rw [List.lookup_cons, beq_eq_false_iff_ne.mpr qz] at ez
        exact O.inj y z dy dz ey ez
theorem OK.freeze (O : OK G act kp adr ρ S s) {x : Str} {d : D} (hx : ρ.lookup x = some (.own d)) :
    ∃ S', Gro kp S S' ∧ OK G act kp adr ((x, .val d) :: ρ) S' s :=
  let ⟨S', g, _, O'⟩ := O.freezeI hx; ⟨S', g, O'⟩
theorem OK.name (O : OK G act kp adr ρ S s) {x : Str} {d : D} {pos : Pos} {Q : Value → Shared → Prop} {E : Value → Shared → Prop} (hx : ρ.lookup x = some (.val d))
    (h : ∀ v, Is G S v d → Q v s) (hd : (x == ("__debug__" : Str)) = false := by decide) (hn : (x == ("__classdict__" : Str)) = false := by decide) : wpAny G.M A (eval (.Name x pos) act.env) Q E s := by
  obtain ⟨v, r, i⟩ := O.vars x _ hx
  refine wpAny_Name ?_ hd
  rcases r with ⟨k, m, hm, e⟩ | ⟨k | k, c, hc, hv⟩
  · exact wpAny_loadName_local O.fn' k hm e (h v i)
  · exact wpAny_loadName_cell O.fn' k hc hv (h v i)
  · exact wpAny_loadName_free O.fn' k hc hv (h v i) hn
abbrev Stores (sc : Scope) (mc : List Str) (x : Str) : Prop := sc.names.lookup x = some .local ∨ (sc.names.lookup x = some .cell ∧ x ∈ mc)
theorem lookup_cons_ne {x y : Str} {l : Loc} {ρ : LEnv} (h : y ≠ x) : List.lookup y ((x, l) :: ρ) = ρ.lookup y := by
  rw [List.lookup_cons, beq_eq_false_iff_ne.mpr h]
structure Stored (act : Act sc mc) (x : Str) (v : Value) (h h' : Heap) : Prop where
  reads : Reads act.env h' x v
  others : ∀ y u, y ≠ x → Reads act.env h y u → Reads act.env h' y u
  keep : ∀ b o, b ∉ act.mt → h.get? b = some o → h'.get? b = some o
  live : ∀ b o, h.get? b = some o → ∃ o', h'.get? b = some o'
  ns : ∃ m, h'.Ns act.env.locals m
  cells : ∀ p ∈ act.env.cells, (∃ v, h.IsCell p.2 v) → ∃ v, h'.IsCell p.2 v
  size : sc.names.lookup x = some .local → h'.objs.size = h.objs.size
theorem OK.store (O : OK G act kp adr ρ S s) {x : Str} {v : Value} {Q : Unit → Shared → Prop} {E : Value → Shared → Prop} (hx : Stores sc mc x)
    (h : ∀ h' t, Stored act x v s.heap h' → Q () { s with heap := h', toks := t }) : wpAny G.M A (storeName act.env x v) Q E s := by
  rcases hx with k | ⟨k, hm⟩ <;> rw [← act.kindOf] at k
  · obtain ⟨m, hm⟩ := O.ns
    refine wpAny_storeName_local k hm (fun h' hn hs => h h' _ ?_) (by rw [O.fn']; rfl)
    have cne : ∀ c w, s.heap.IsCell c w → c ≠ act.env.locals := fun c w hc e => by
      obtain ⟨o, es, ep, ho, hd, _⟩ := hm
      obtain ⟨o', ho', hd'⟩ := hc
      rw [e, ho] at ho'
      obtain rfl := Option.some.inj ho'
      rw [hd] at hd'
      exact nomatch hd'
    refine ⟨.inl ⟨k, _, hn, by simp⟩, fun y u hy r => ?_, fun b o hb e => hs.extBut b o (fun q => hb (q ▸ O.mtL)) e, fun b o e => ?_, ⟨_, hn⟩, fun p hp ⟨w, hw⟩ => ⟨w, hw.sameBut hs (cne _ _ hw)⟩, fun _ => hs.1⟩
    · rcases r with ⟨ky, m', hm', e⟩ | ⟨ky, c, hc, hv⟩
      · refine .inl ⟨ky, _, hn, ?_⟩
        have : m y = m' y := by
          obtain ⟨o, es, ep, ho, hd, _, h1⟩ := hm
          obtain ⟨o', es', ep', ho', hd', _, h1'⟩ := hm'
          rw [ho] at ho'
          obtain rfl := Option.some.inj ho'
          rw [hd] at hd'
          obtain ⟨rfl, rfl⟩ := PySem.Data.dict.inj hd'
          rw [← h1, ← h1']
        simp [hy, this, e]
      · exact .inr ⟨ky, c, hc, hv.sameBut hs (cne _ _ hv)⟩
    · by_cases q : b = act.env.locals
      · subst q; obtain ⟨o', _, _, ho', _⟩ := hn; exact ⟨o', ho'⟩
      · exact ⟨o, hs.extBut b o q e⟩
  · obtain ⟨c, hc, hcm⟩ := O.mtc x hm
    obtain ⟨_, v₀, hv₀⟩ := O.cells _ (cell_in hc)
    refine wpAny_storeName_cell O.fn' k hc hv₀ fun h' hv hs => h h' _ ?_
    have cL : act.env.locals ≠ c := fun e => by
      obtain ⟨m, o, es, ep, ho, hd, _⟩ := O.ns
      obtain ⟨o', ho', hd'⟩ := hv₀
      rw [e] at ho
      have ho' : s.heap.get? c = some o' := ho'
      rw [ho] at ho'
      obtain rfl := Option.some.inj ho'
      rw [hd] at hd'
      exact nomatch hd'
    refine ⟨.inr ⟨.inl k, c, hc, hv⟩, fun y u hy r => ?_, fun b o hb e => hs.extBut b o (fun q => hb (q ▸ hcm)) e, fun b o e => ?_, ?_, fun p hp ⟨w, hw⟩ => ?_, fun k' => nomatch (k.symm.trans ((act.kindOf x).trans k') : some NameKind.cell = some .local)⟩
    · rcases r with ⟨ky, m', hm', e⟩ | ⟨ky, c', hc', hv'⟩
      · exact .inl ⟨ky, m', hm'.sameBut hs cL, e⟩
      · refine .inr ⟨ky, c', hc', hv'.sameBut hs fun e => hy ?_⟩
        subst e
        exact name_of_addr O.apart (cell_in hc') (cell_in hc)
    · by_cases q : b = c
      · subst q; obtain ⟨o', ho', _⟩ := hv; exact ⟨o', ho'⟩
      · exact ⟨o, hs.extBut b o q e⟩
    · obtain ⟨m, hm⟩ := O.ns; exact ⟨m, hm.sameBut hs cL⟩
    · by_cases q : p.2 = c
      · rw [q]; exact ⟨_, hv⟩
      · exact ⟨w, hw.sameBut hs q⟩
theorem OK.after (O : OK G act kp adr ρ S s) {x : Str} {v : Value} {h' : Heap} {t : Nat} (st : Stored act x v s.heap h') {ρ' : LEnv} (hρ : ∀ y l, y ≠ x → ρ'.lookup y = some l → ρ.lookup y = some l) {adr' : Str → Addr}
    (ha : ∀ y, y ≠ x → adr' y = adr y) (hv : ∀ l, ρ'.lookup x = some l → VarOk G act kp adr' S { s with heap := h', toks := t } x l)
    (hi : ∀ y dx dy, y ≠ x → ρ'.lookup x = some (.own dx) → ρ'.lookup y = some (.own dy) → adr' x ≠ adr y) : OK G act kp adr' ρ' S { s with heap := h', toks := t } where
  inv := O.inv.but (wr := act.mt) (fun a ha => ⟨(O.mt a ha).1, (O.mt a ha).2.2.1⟩) st.keep
  kept := fun a o e => st.keep _ _ (fun hm => by rw [(O.mt a hm).2.1] at e; exact nomatch e) (O.kept a o e)
  knt := O.knt
  kgens := O.kgens
  fn := O.fn
  glob := O.glob
  blt := O.blt
  ns := st.ns
  mtL := O.mtL
  mt := fun b hb => by
    (refine cps fun ZP zk => ?_; obtain ⟨h1, h2, h3, o, ho⟩ := O.mt b hb; refine zk ?_)
    exact ⟨h1, h2, h3, st.live _ _ ho⟩
  mtc := O.mtc
  apart := O.apart
  clo := O.clo
  cells := fun p hp => ⟨(O.cells p hp).1, st.cells p hp (O.cells p hp).2⟩
  vars := fun y l e => by
    by_cases q : y = x
    · subst q; exact hv l e
    · have z := O.vars y l (hρ y l q e)
      cases l with
      | val dy => obtain ⟨u, r, i⟩ := z; exact ⟨u, st.others y u q r, i⟩
      | own dy =>
        (refine cps fun ZP zk => ?_; obtain ⟨r, ⟨o, ho, w⟩, g1, g2, g3⟩ := z; refine zk ?_)
        unfold VarOk
        rw [ha y q]
        exact ⟨st.others y _ q r, ⟨o, st.keep _ _ g3 ho, w⟩, g1, g2, g3⟩
  inj := fun y z dy dz ey ez e => by
    by_cases qy : y = x <;> by_cases qz : z = x
    · rw [qy, qz]
    · subst qy
      rw [ha z qz] at e
      exact absurd e (hi z dy dz qz ey ez)
    · subst qz
      rw [ha y qy] at e
      exact absurd e.symm (hi y dz dy qy ez ey)
    · rw [ha y qy, ha z qz] at e
      exact O.inj y z dy dz (hρ _ _ qy ey) (hρ _ _ qz ez) e
theorem OK.storeValSz (O : OK G act kp adr ρ S s) {x : Str} {v : Value} {d : D} {Q : Unit → Shared → Prop} {E : Value → Shared → Prop} (hx : Stores sc mc x) (hv : Is G S v d)
    (h : ∀ h' t, OK G act kp adr ((x, .val d) :: ρ) S { s with heap := h', toks := t } → (sc.names.lookup x = some .local → h'.objs.size = s.heap.objs.size) → Q () { s with heap := h', toks := t }) : wpAny G.M A (storeName act.env x v) Q E s :=
  O.store hx fun h' t st => h h' t (O.after st (fun y l hy e => by rwa [lookup_cons_ne hy] at e) (fun _ _ => rfl)
    (fun l e => by simp only [List.lookup_cons_self] at e; obtain rfl := Option.some.inj e; exact ⟨v, st.reads, hv⟩) fun y dx dy _ e _ => by simp at e) st.size
theorem OK.storeVal (O : OK G act kp adr ρ S s) {x : Str} {v : Value} {d : D} {Q : Unit → Shared → Prop} {E : Value → Shared → Prop} (hx : Stores sc mc x) (hv : Is G S v d)
    (h : ∀ h' t, OK G act kp adr ((x, .val d) :: ρ) S { s with heap := h', toks := t } → Q () { s with heap := h', toks := t }) : wpAny G.M A (storeName act.env x v) Q E s :=
  O.storeValSz hx hv fun h' t o _ => h h' t o
structure Fresh (G : Gl) (act : Act sc mc) (kp : Kept) (adr : Str → Addr) (ρ : LEnv) (S : Fz) (s : Shared) (a : Addr) (d : D) : Prop where
  obj : ∃ o, s.heap.get? a = some o ∧ Own G S o d
  S : S a = none
  kp : kp.objs a = none
  mt : a ∉ act.mt
  ne : ∀ y d, ρ.lookup y = some (.own d) → adr y ≠ a
theorem OK.storeOwn (O : OK G act kp adr ρ S s) {x : Str} {a : Addr} {d : D} {Q : Unit → Shared → Prop} {E : Value → Shared → Prop} (hx : Stores sc mc x) (hv : Fresh G act kp adr ρ S s a d)
    (h : ∀ h' t, OK G act kp (fun y => if y = x then a else adr y) ((x, .own d) :: ρ) S { s with heap := h', toks := t } → Q () { s with heap := h', toks := t }) : wpAny G.M A (storeName act.env x (.ref a)) Q E s :=
  O.store hx fun h' t st => h h' t (O.after st (fun y l hy e => by rwa [lookup_cons_ne hy] at e) (fun y hy => by simp [hy])
    (fun l e => by
      simp only [List.lookup_cons_self] at e
      obtain rfl := Option.some.inj e
      (refine cps fun ZP zk => ?_; obtain ⟨⟨o, ho, w⟩, h1, h2, h3, _⟩ := hv; refine zk ?_)
      show Reads _ _ _ (.ref (if x = x then a else adr x)) ∧ _
      simp only [if_true]
      exact ⟨st.reads, ⟨o, st.keep _ _ h3 ho, w⟩, h1, h2, h3⟩)
    fun y dx dy hy _ e => by
      rw [lookup_cons_ne hy] at e
      simp only [if_true]
      exact (hv.ne y dy e).symm)
end

/-! judgements -/
noncomputable def Ev (G : Gl) (A : Around) (act : Act sc mc) (ρ : LEnv) (e : Expr) (d : D) : Prop := ∀ kp adr S s, OK G act kp adr ρ S s → wpAny G.M A (eval e act.env) (Post G S s fun S' v => Is G S' v d) No s
noncomputable def Te (G : Gl) (A : Around) (act : Act sc mc) (ρ : LEnv) (e : Expr) (b : Bool) : Prop := ∀ kp adr S s, OK G act kp adr ρ S s → wpAny G.M A (isTrue e act.env (eval e act.env)) (Post G S s fun _ b' => b' = b) No s
noncomputable def EvO (G : Gl) (A : Around) (act : Act sc mc) (ρ : LEnv) (e : Expr) (d : D) : Prop := ∀ kp adr S s, OK G act kp adr ρ S s → wpAny G.M A (eval e act.env)
  (fun v s' => ∃ S' a o, Stp G S s S' s' ∧ v = .ref a ∧ s'.heap.get? a = some o ∧ Own G S' o d ∧ S' a = none ∧ s.heap.get? a = none) No s
theorem EvO.ev {G : Gl} {A : Around} {act : Act sc mc} {ρ : LEnv} {e : Expr} {d : D} (h : EvO G A act ρ e d) : Ev G A act ρ e d := fun kp adr S s O =>
  wpAny_mono (h kp adr S s O) (fun v s' ⟨S', a, o, st, hv, ho, w, hS, hn⟩ => by
    subst hv
    refine ⟨S'.put a o, ?_, w.is hS st.inv.base⟩
    exact ⟨st.inv.freeze ho w.cls hS, st.sub.trans (Fz.sub_put hS), fun b o' e => by
      by_cases q : b = a
      · subst q; exact .inr hn
      · rw [Fz.put_ne _ _ q] at e; exact st.new b o' e, st.keep, st.gens⟩) fun _ _ e => e
end Mine
end

section
namespace Mine
variable {sc : Scope} {mc : List Str}
open PySem PySem.Calls PyProof.Rows
noncomputable def Op2 (G : Gl) (A : Around) (m : Value → Value → Sem Value) (a b c : D) : Prop := ∀ S s va vb, Inv G S s → Is G S va a → Is G S vb b → wpAny G.M A (m va vb) (Post G S s fun S' v => Is G S' v c) No s
noncomputable def Cmp (G : Gl) (A : Around) (op : CmpOp) (a b : D) (r : Bool) : Prop := ∀ S s va vb, Inv G S s → Is G S va a → Is G S vb b → wpAny G.M A (compareOp op va vb) (Post G S s fun _ v => v = .bool r) No s
noncomputable def Tru (G : Gl) (A : Around) (a : D) (r : Bool) : Prop := ∀ S s va, Inv G S s → Is G S va a → wpAny G.M A (truthy va) (Post G S s fun _ v => v = r) No s
section
variable {G : Gl} {A : Around} {act : Act sc mc} {ρ : LEnv} {l r e t x y : Expr} {a b c d : D} {pos : Pos} {p q : Bool}
theorem Ev.eq {d d' : D} (h : Ev G A act ρ e d) (he : d = d') : Ev G A act ρ e d' := he ▸ h
theorem Ev.int (i : Int) {k : Nat} : Ev G A act ρ (.Constant (.int i) k pos) (.int i) := fun _ _ _ s O => wpAny_Constant_int ⟨_, O.inv.toks _, .int ..⟩
theorem Ev.str (x : Str) {k : Nat} : Ev G A act ρ (.Constant (.str x) k pos) (.str x) := fun _ _ _ s O => wpAny_Constant_str ⟨_, O.inv.toks _, .str ..⟩
theorem Ev.bool (b : Bool) {k : Nat} : Ev G A act ρ (.Constant (.bool b) k pos) (.bool b) := fun _ _ _ s O => wpAny_Constant_bool ⟨_, .refl O.inv, .bool ..⟩
theorem Ev.none {k : Nat} : Ev G A act ρ (.Constant .none k pos) .none := fun _ _ _ s O => wpAny_Constant_none ⟨_, .refl O.inv, .none⟩
theorem Ev.name {n : Str} (hx : ρ.lookup n = some (.val d)) (hd : (n == ("__debug__" : Str)) = false := by decide) (hn : (n == ("__classdict__" : Str)) = false := by decide) : Ev G A act ρ (.Name n pos) d :=
  fun _ _ _ _ O => O.name hx (fun _ i => ⟨_, .refl O.inv, i⟩) hd hn
theorem Ev.bin {op : Operator} (hl : Ev G A act ρ l a) (hr : Ev G A act ρ r b) (ho : Op2 G A (binaryOp op) a b c) : Ev G A act ρ (.BinOp l op r pos) c := fun kp adr S s O =>
  wpAny_BinOp (wp_seq (hl kp adr S s O) fun S₁ va s₁ st₁ ia => wp_seq (hr kp adr S₁ s₁ (O.step st₁)) fun S₂ vb s₂ st₂ ib =>
    wp_pre (st₁.trans st₂) (ho S₂ s₂ va vb st₂.inv (ia.mono st₂.sub) ib))
theorem Ev.cmp {op : CmpOp} (hl : Ev G A act ρ l a) (hr : Ev G A act ρ r b) (ho : Cmp G A op a b p) (hm : behindInMarks op r = false := by with_unfolding_all rfl) : Ev G A act ρ (.Compare l [op] [r] pos) (.bool p) := fun kp adr S s O =>
  wpAny_Compare1 (wp_seq (hl kp adr S s O) fun S₁ va s₁ st₁ ia => wp_seq (hr kp adr S₁ s₁ (O.step st₁)) fun S₂ vb s₂ st₂ ib =>
    wp_pre (st₁.trans st₂) (wp_post (ho S₂ s₂ va vb st₂.inv (ia.mono st₂.sub) ib) fun _ _ _ e => e ▸ .bool p)) hm
theorem Te.cmp {op : CmpOp} (hl : Ev G A act ρ l a) (hr : Ev G A act ρ r b) (ho : Cmp G A op a b p) (hm : behindInMarks op r = false := by with_unfolding_all rfl) : Te G A act ρ (.Compare l [op] [r] pos) p := fun kp adr S s O =>
  wpAny_isTrue_Compare1 (wp_seq (hl kp adr S s O) fun S₁ va s₁ st₁ ia => wp_seq (hr kp adr S₁ s₁ (O.step st₁)) fun S₂ vb s₂ st₂ ib =>
    wp_seq (ho S₂ s₂ va vb st₂.inv (ia.mono st₂.sub) ib) fun S₃ v s₃ st₃ e => e ▸ wpAny_truthy_bool ⟨S₃, (st₁.trans st₂).trans st₃, rfl⟩) hm
theorem Te.and_nil : Te G A act ρ (.BoolOp .And [] pos) true := fun _ _ _ _ O => isTrue_and_nil ⟨_, .refl O.inv, rfl⟩
theorem Te.or_nil : Te G A act ρ (.BoolOp .Or [] pos) false := fun _ _ _ _ O => isTrue_or_nil ⟨_, .refl O.inv, rfl⟩
theorem Te.and {rest : List Expr} (h : Te G A act ρ x p) (h' : p = true → Te G A act ρ (.BoolOp .And rest pos) q) : Te G A act ρ (.BoolOp .And (x :: rest) pos) (p && q) := fun kp adr S s O =>
  isTrue_and (wp_seq (h kp adr S s O) fun S₁ b s₁ st₁ e => by
    subst e
    cases b with
    | true => exact wp_pre st₁ (h' rfl kp adr S₁ s₁ (O.step st₁))
    | false => exact ⟨S₁, st₁, rfl⟩)
theorem Te.or {rest : List Expr} (h : Te G A act ρ x p) (h' : p = false → Te G A act ρ (.BoolOp .Or rest pos) q) : Te G A act ρ (.BoolOp .Or (x :: rest) pos) (p || q) := fun kp adr S s O =>
  isTrue_or (wp_seq (h kp adr S s O) fun S₁ b s₁ st₁ e => by
    subst e
    cases b with
    | true => exact ⟨S₁, st₁, rfl⟩
    | false => exact wp_pre st₁ (h' rfl kp adr S₁ s₁ (O.step st₁)))
theorem Te.eq (h : Te G A act ρ x p) (e : p = q) : Te G A act ρ x q := e ▸ h
theorem Te.of (h : Ev G A act ρ x d) (ht : Tru G A d p) (he : ∀ env whole, isTrue x env whole = (do let v ← whole; standAt x.pos; holding [v] (truthy v)) := by intro _ _; rfl) : Te G A act ρ x p := fun kp adr S s O =>
  isTrue_plain (wp_seq (h kp adr S s O) fun S₁ v s₁ st₁ i => wp_pre st₁ (ht S₁ s₁ v st₁.inv i)) (he _ _)
theorem Ev.neg {i : Int} (h : Ev G A act ρ x (.int i)) : Ev G A act ρ (.UnaryOp .USub x pos) (.int (-i)) := fun kp adr S s O =>
  UnaryOp_ (wp_seq (h kp adr S s O) fun S₁ v s₁ st₁ i => by obtain ⟨t, rfl⟩ := i.intI; exact neg_int ⟨S₁, st₁.trans (st₁.inv.toks _), .int ..⟩)
theorem Ev.not (h : Ev G A act ρ x d) (ht : Tru G A d p) : Ev G A act ρ (.UnaryOp .Not x pos) (.bool (!p)) := fun kp adr S s O =>
  UnaryOp_ (wp_seq (h kp adr S s O) fun S₁ v s₁ st₁ i => not_of (wp_seq (ht S₁ s₁ v st₁.inv i) fun S₂ b s₂ st₂ e => by subst e; exact ⟨S₂, st₁.trans st₂, .bool _⟩))
inductive Evs (G : Gl) (A : Around) (act : Act sc mc) (ρ : LEnv) : List Expr → List D → Prop
  | nil : Evs G A act ρ [] []
  | cons {e : Expr} {es : List Expr} {d : D} {ds : List D} : Ev G A act ρ e d → Evs G A act ρ es ds → (∀ env, starEach (e :: es) env = (false, eval e env) :: starEach es env) → Evs G A act ρ (e :: es) (d :: ds)
theorem Evs.more {es : List Expr} {ds : List D} (h : Ev G A act ρ e d) (hs : Evs G A act ρ es ds) (he : ∀ env, starEach (e :: es) env = (false, eval e env) :: starEach es env := by intro _; rfl) : Evs G A act ρ (e :: es) (d :: ds) := .cons h hs he
theorem Evs.spliced {es : List Expr} {ds : List D} (h : Evs G A act ρ es ds) : ∀ kp adr S s, OK G act kp adr ρ S s → wpAny G.M A (spliced (backTo pos (starEach es act.env))) (Post G S s fun S' vs => Alls G S' vs ds) No s := by
  induction h with
  | nil => exact fun _ _ _ _ O => spliced_none ⟨_, .refl O.inv, .nil⟩
  | cons h _ he ih =>
    intro kp adr S s O
    refine spliced_more (wp_seq (h kp adr S s O) fun S₁ v s₁ st₁ i => wp_seq (ih kp adr S₁ s₁ (O.step st₁)) fun S₂ vs s₂ st₂ is => ⟨S₂, st₁.trans st₂, .cons (i.mono st₂.sub) is⟩) (he _)
end
section
variable {G : Gl} {A : Around} {S : Fz} {s : Shared} {E : Value → Shared → Prop}
theorem new_tuple (I : Inv G S s) {vs : List Value} {ds : List D} (h : Alls G S vs ds) (hl : ds.length ≤ sizeLine) : wpAny G.M A (newTuple vs) (Post G S s fun S' v => Is G S' v (.tuple ds)) E s := by
  refine wpAny_newObj_type (T := "tuple") (data := .seq vs.toArray) ?_ (by show vs.toArray.size ≤ sizeLine; rw [List.size_toArray, h.length]; exact hl)
  exact ⟨_, I.push { cls := .type "tuple", data := .seq vs.toArray } rfl (fun e => nomatch e) (t := s.toks), .tuple (Fz.put_self ..) rfl rfl (h.mono (I.push { cls := .type "tuple", data := .seq vs.toArray } rfl (fun e => nomatch e) (t := s.toks)).sub)⟩
theorem Inv.pushO (I : Inv G S s) {o : Obj} {d : D} (w : Own G S o d) (hf : o.isFreed = false) {t : Nat} : ∃ S' a o', Stp G S s S' { s with heap := s.heap.push o, toks := t } ∧ Value.ref s.heap.objs.size = .ref a ∧ (s.heap.push o).get? a = some o' ∧ Own G S' o' d ∧ S' a = none ∧ s.heap.get? a = none := by
  refine ⟨S, s.heap.objs.size, o, I.keeps fun b o' e => Heap.get?_push_of_some _ e, rfl, Heap.get?_push_size _ hf, w, ?_, Inv.fresh⟩
  cases q : S s.heap.objs.size with
  | none => rfl
  | some o' => have := I.sub _ _ q; rw [Inv.fresh] at this; exact nomatch this
end
section
variable {G : Gl} {A : Around} {act : Act sc mc} {ρ : LEnv} {es : List Expr} {ds : List D} {pos : Pos} {k : Nat}
theorem Ev.tuple (h : Evs G A act ρ es ds) (hl : ds.length ≤ sizeLine := by first | decide | exact Nat.le_of_ble_eq_true rfl) : Ev G A act ρ (.Tuple es k pos) (.tuple ds) := fun kp adr S s O =>
  Tuple_ (wp_seq (h.spliced kp adr S s O) fun S₁ vs s₁ st₁ is => wp_pre st₁ (new_tuple st₁.inv is hl))
theorem EvO.list (h : Evs G A act ρ es ds) (hl : ds.length ≤ sizeLine := by first | decide | exact Nat.le_of_ble_eq_true rfl) : EvO G A act ρ (.List es pos) (.list ds) := fun kp adr S s O =>
  List_ (wp_seq (h.spliced kp adr S s O) fun S₁ vs s₁ st₁ is => by
    refine wpAny_newObj_type (T := "list") (data := .seq vs.toArray) ?_ (by show vs.toArray.size ≤ sizeLine; rw [List.size_toArray, is.length]; exact hl)
    (refine cps fun ZP zk => ?_; obtain ⟨S', a, o', st, e, ho, w, hS, hn⟩ := st₁.inv.pushO (o := { cls := .type "list", data := .seq vs.toArray }) (.list is) rfl (t := s₁.toks); refine zk ?_)
    refine ⟨S', a, o', st₁.trans st, e, ho, w, hS, ?_⟩
    cases q : s.heap.get? a with
    | none => rfl
    | some o => rw [st₁.keep _ _ (st₁.inv.noTabFresh hn) q] at hn; exact nomatch hn)
end
end Mine
end

section
namespace Mine
open PySem PySem.Calls PyProof.Rows PySem.SeqAt
noncomputable def deqs (f : D → D → Option Bool) : List D → List D → Option Bool
  | [], [] => some true
  | a :: as, b :: bs => match f a b, deqs f as bs with
    | some x, some y => some (x && y)
    | _, _ => none
  | _, _ => none
noncomputable def dfind (k : Ky) : List Ky → List D → Option D
  | k' :: ks, v :: vs => if k' = k then some v else dfind k ks vs
  | _, _ => none
noncomputable def deqd (f : D → D → Option Bool) (ks' : List Ky) (vs' : List D) : List Ky → List D → Option Bool
  | [], [] => some true
  | k :: ks, v :: vs => match dfind k ks' vs' with
    | none => some false
    | some v' => match f v v', deqd f ks' vs' ks vs with
      | some x, some y => some (x && y)
      | _, _ => none
  | _, _ => none
noncomputable def deqStep (o : Option (D → D → Option Bool)) (d e : D) : Option Bool := match d with
  | .none => (match e with | .none => some true | _ => none)
  | .bool a => (match e with | .bool b => some (a == b) | _ => none)
  | .int a => (match e with | .int b => some (a == b) | _ => none)
  | .str a => (match e with | .str b => some (a == b) | _ => none)
  | .tuple as => (match e with | .tuple bs => (match o with | some f => if as.length = bs.length then deqs f as bs else none | none => none) | _ => none)
  | .list as => (match e with | .list bs => (match o with | some f => if as.length = bs.length then deqs f as bs else some false | none => none) | _ => none)
  | _ => none
noncomputable def deq : Nat → D → D → Option Bool
  | 0 => deqStep none
  | n + 1 => deqStep (some (deq n))
inductive DeqV (o : Option (D → D → Option Bool)) : D → D → Bool → Prop
  | none : DeqV o .none .none true
  | bool (a b : Bool) : DeqV o (.bool a) (.bool b) (a == b)
  | int (a b : Int) : DeqV o (.int a) (.int b) (a == b)
  | str (a b : Str) : DeqV o (.str a) (.str b) (a == b)
  | tuple {f : D → D → Option Bool} {as bs : List D} {r : Bool} : o = some f → as.length = bs.length → deqs f as bs = some r → DeqV o (.tuple as) (.tuple bs) r
  | list {f : D → D → Option Bool} {as bs : List D} {r : Bool} : o = some f → as.length = bs.length → deqs f as bs = some r → DeqV o (.list as) (.list bs) r
  | listNe {f : D → D → Option Bool} {as bs : List D} : o = some f → as.length ≠ bs.length → DeqV o (.list as) (.list bs) false
set_option tactic.hygienic true in
theorem deq_view {o : Option (D → D → Option Bool)} {d e : D} {r : Bool} (h : deqStep o d e = some r) : DeqV o d e r := by
  cases d with
  | none => cases e with
    | none => cases h; exact .none
    | _ => exact nomatch h
  | bool a => cases e with
    | bool b => cases h; exact .bool a b
    | _ => exact nomatch h
  | int a => cases e with
    | int b => cases h; exact .int a b
    | _ => exact nomatch h
  | str a => cases e with
    | str b => cases h; exact .str a b
    | _ => exact nomatch h
  | tuple as => cases e with
    | tuple bs =>
      cases o with
      | none => exact nomatch h
      | some f =>
        have h : (if as.length = bs.length then deqs f as bs else none) = some r := h
        split at h
        · rename_i hl; exact .tuple rfl hl h
        · exact nomatch h
    | _ => exact nomatch h
  | list as => cases e with
    | list bs =>
      cases o with
      | none => exact nomatch h
      | some f =>
        have h : (if as.length = bs.length then deqs f as bs else some false) = some r := h
        split at h
        · rename_i hl; exact .list rfl hl h
        · rename_i hl; obtain rfl := Option.some.inj h; exact .listNe rfl hl
    | _ => exact nomatch h
  | _ => exact nomatch h
noncomputable def deqO : Nat → Option (D → D → Option Bool)
  | 0 => none
  | n + 1 => some (deq n)
theorem deq_step (n : Nat) : deq n = deqStep (deqO n) := by cases n <;> rfl
theorem deqs_cons {f : D → D → Option Bool} {a b : D} {as bs : List D} {r : Bool} (h : deqs f (a :: as) (b :: bs) = some r) : ∃ x y, f a b = some x ∧ deqs f as bs = some y ∧ r = (x && y) := by
  have h : (match f a b, deqs f as bs with | some x, some y => some (x && y) | _, _ => none) = some r := h
  generalize f a b = p at h ⊢
  generalize deqs f as bs = q at h ⊢
  cases p with
  | none => exact nomatch h
  | some x => cases q with
    | none => exact nomatch h
    | some y => exact ⟨x, y, rfl, rfl, (Option.some.inj h).symm⟩
theorem seq_inj {o o' : Obj} {vs ws : List Value} {n m : Nat} (h : some o = some o') (h1 : o.data = .seq vs.toArray n) (h2 : o'.data = .seq ws.toArray m) : vs = ws := by
  injection h with h
  rw [h, h2] at h1
  injection h1 with h' _
  simpa using (congrArg Array.toList h').symm
theorem SeqI.inj {G : Gl} {S : Fz} {t : String} {v : Value} {ds es : List D} (h : SeqI G S t v ds) (h' : SeqI G S t v es) : ∃ vs, Alls G S vs ds ∧ Alls G S vs es := by
  obtain ⟨a, o, m, vs, rfl, h1, _, h1d, t⟩ := h
  obtain ⟨b, o', m', ws, e, h1', _, h1d', t'⟩ := h'
  obtain rfl := PySem.Value.ref.inj e
  exact ⟨vs, t, seq_inj (h1.symm.trans h1') h1d h1d' ▸ t'⟩
theorem alls_det {G : Gl} {S : Fz} {f : D → D → Option Bool} (ih : ∀ (v : Value) (d e : D) (r : Bool), Is G S v d → Is G S v e → f d e = some r → d = e) : ∀ (vs : List Value) (ds es : List D) (r : Bool), Alls G S vs ds → Alls G S vs es → deqs f ds es = some r → ds = es
  | [], _, _, _, h, h', _ => h.nilV.trans h'.nilV.symm
  | v :: vs, _, _, r, h, h', hd => by
    obtain ⟨d, ds, rfl, h, t⟩ := h.consV
    obtain ⟨e, es, rfl, h', t'⟩ := h'.consV
    obtain ⟨x, y, hx, hy, _⟩ := deqs_cons hd
    rw [ih _ _ _ x h h' hx, alls_det ih vs ds es y t t' hy]
theorem det_step {G : Gl} {S : Fz} {o : Option (D → D → Option Bool)} (ih : ∀ f, o = some f → ∀ (v : Value) (d e : D) (r : Bool), Is G S v d → Is G S v e → f d e = some r → d = e) {v : Value} {d e : D} {r : Bool} (h : Is G S v d) (h' : Is G S v e) (hd : deqStep o d e = some r) : d = e := by
  cases deq_view hd with
  | none => rfl
  | bool a b => rw [PySem.Value.bool.inj (h.boolI.symm.trans h'.boolI)]
  | int a b => obtain ⟨t, e⟩ := h.intI; obtain ⟨u, e'⟩ := h'.intI; rw [(PySem.Value.int.inj (e.symm.trans e')).1]
  | str a b => obtain ⟨t, e⟩ := h.strI; obtain ⟨u, e'⟩ := h'.strI; rw [(PySem.Value.str.inj (e.symm.trans e')).1]
  | tuple q hl hd => obtain ⟨vs, t, t'⟩ := h.tupleI.inj h'.tupleI; rw [alls_det (ih _ q) _ _ _ r t t' hd]
  | list q hl hd => obtain ⟨vs, t, t'⟩ := h.listI.inj h'.listI; rw [alls_det (ih _ q) _ _ _ r t t' hd]
  | listNe q hl => obtain ⟨vs, t, t'⟩ := h.listI.inj h'.listI; exact absurd (t.length.symm.trans t'.length) hl
theorem Is.det {G : Gl} {S : Fz} : ∀ (n : Nat) (v : Value) (d e : D) (r : Bool), Is G S v d → Is G S v e → deq n d e = some r → d = e
  | 0, v, d, e, r, h, h', hd => det_step (o := Option.none) (fun f q => nomatch q) h h' hd
  | n + 1, v, d, e, r, h, h', hd => det_step (o := some (deq n)) (fun f q => Option.some.inj q ▸ Is.det n) h h' hd
theorem deqs_refl {f : D → D → Option Bool} (ih : ∀ (d : D) (r : Bool), f d d = some r → r = true) : ∀ (ds : List D) (r : Bool), deqs f ds ds = some r → r = true
  | [], r, h => by cases h; rfl
  | d :: ds, r, h => by
    obtain ⟨x, y, hx, hy, e⟩ := deqs_cons h
    rw [e, ih d x hx, deqs_refl ih ds y hy]; rfl
theorem refl_step {o : Option (D → D → Option Bool)} (ih : ∀ f, o = some f → ∀ (d : D) (r : Bool), f d d = some r → r = true) {d : D} {r : Bool} (h : deqStep o d d = some r) : r = true := by
  cases d with
  | none => exact (Option.some.inj h).symm
  | bool a => exact (Option.some.inj h).symm.trans (beq_self_eq_true a)
  | int a => exact (Option.some.inj h).symm.trans (beq_self_eq_true a)
  | str a => exact (Option.some.inj h).symm.trans (beq_self_eq_true a)
  | tuple as => cases o with
    | none => exact nomatch h
    | some f => exact deqs_refl (ih f rfl) as r ((if_pos rfl).symm.trans h)
  | list as => cases o with
    | none => exact nomatch h
    | some f => exact deqs_refl (ih f rfl) as r ((if_pos rfl).symm.trans h)
  | _ => exact nomatch h
theorem deq_refl' : ∀ (n : Nat) (d : D) (r : Bool), deq n d d = some r → r = true
  | 0, d, r, h => refl_step (o := none) (fun f q => nomatch q) h
  | n + 1, d, r, h => refl_step (o := some (deq n)) (fun f q => Option.some.inj q ▸ deq_refl' n) h
theorem isList_of {G : Gl} {S : Fz} {s : Shared} (I : Inv G S s) {a : Addr} {vs : List Value} {n : Nat} {o : Obj} (h : S a = some o) (hc : o.cls = .type "list") (hd : o.data = .seq vs.toArray n) : s.heap.IsList a vs.toArray := ⟨_, I.sub _ _ h, hc, n, hd⟩
theorem isTuple_of {G : Gl} {S : Fz} {s : Shared} (I : Inv G S s) {a : Addr} {vs : List Value} {n : Nat} {o : Obj} (h : S a = some o) (hc : o.cls = .type "tuple") (hd : o.data = .seq vs.toArray n) : s.heap.IsTuple a vs.toArray := ⟨_, I.sub _ _ h, hc, n, hd⟩
theorem dictOf_of {G : Gl} {S : Fz} {s : Shared} (I : Inv G S s) {a : Addr} {es : Array DictEntry} {ep : Nat} {kvs : List (Ky × Value)} (h : S a = some { cls := .type "dict", data := .dict es ep }) (h2 : KeysOf G.knd es) (h3 : Pairs G.knd es.toList kvs)
    (h5 : (kvs.map (·.1)).Nodup) : s.heap.DictOf G.knd a kvs := ⟨_, es, ep, I.sub _ _ h, ⟨rfl, rfl, rfl⟩, rfl, h2, h3, h5⟩
theorem deqs_get {f : D → D → Option Bool} : ∀ {as bs : List D} {r : Bool}, deqs f as bs = some r → as.length = bs.length ∧ ∃ e : Nat → Bool, (∀ (j : Nat) (a b : D), as[j]? = some a → bs[j]? = some b → f a b = some (e j)) ∧ r = (List.range as.length).all e
  | [], [], r, h => ⟨rfl, fun _ => true, fun j a b h => (nomatch h), (Option.some.inj h).symm⟩
  | a :: as, b :: bs, r, h => by
    obtain ⟨x, y, hx, hy, h⟩ := deqs_cons h
    obtain ⟨hl, e, he, hr⟩ := deqs_get hy
    refine ⟨by simp [hl], fun j => match j with | 0 => x | j + 1 => e j, fun j a' b' ha hb => ?_, ?_⟩
    · cases j with
      | zero => simp at ha hb; subst ha hb; exact hx
      | succ j => simp at ha hb; exact he j a' b' ha hb
    · simp only [List.length_cons, List.range_succ_eq_map, List.all_cons, List.all_map, Function.comp_def]
      rw [h]
      rw [hr]
  | [], _ :: _, r, h => nomatch (show (none : Option Bool) = some r from h)
  | _ :: _, [], r, h => nomatch (show (none : Option Bool) = some r from h)
theorem dfind_valueAt {G : Gl} {S : Fz} {k : Ky} : ∀ {kvs : List (Ky × Value)} {ds : List D}, Alls G S (kvs.map (·.2)) ds →
    (dfind k (kvs.map (·.1)) ds = none ∧ valueAt kvs k = none) ∨ ∃ d v, dfind k (kvs.map (·.1)) ds = some d ∧ valueAt kvs k = some v ∧ Is G S v d
  | [], _, h => by rw [h.nilV]; exact .inl ⟨rfl, rfl⟩
  | (k', v) :: kvs, _, h => by
    obtain ⟨d0, r0, rfl, h, t⟩ := h.consV
    by_cases q : k' = k
    · subst q
      refine .inr ⟨_, v, ?_, ?_, h⟩
      · exact if_pos rfl
      · simp [valueAt]
    · have e : dfind k (((k', v) :: kvs).map (·.1)) (d0 :: r0) = dfind k (kvs.map (·.1)) r0 := if_neg q
      have e' : valueAt ((k', v) :: kvs) k = valueAt kvs k := by simp [valueAt, q]
      rw [e, e']
      exact dfind_valueAt t
inductive VView (A : Around) (s : Shared) : Value → Value → Bool → Prop
  | none : VView A s .none .none true
  | bool (a b : Bool) : VView A s (.bool a) (.bool b) (a == b)
  | int (a b : Int) (t u : Tok) : VView A s (.int a t) (.int b u) (a == b)
  | str (a b : Str) (t u : Tok) : VView A s (.str a t) (.str b u) (a == b)
  | tuples {a b : Addr} {va vb : Array Value} {e : Nat → Bool} : s.heap.IsTuple a va → s.heap.IsTuple b vb → (∀ (j : Nat) (h1 : j < va.size) (h2 : j < vb.size), EqAt A.in1 s va[j] vb[j] (e j)) → VView A s (.ref a) (.ref b) ((List.range (min va.size vb.size)).all e && va.size == vb.size)
  | lists {a b : Addr} {va vb : Array Value} {e : Nat → Bool} : s.heap.IsList a va → s.heap.IsList b vb → va.size = vb.size → (∀ (j : Nat) (h1 : j < va.size) (h2 : j < vb.size), EqAt A.in1 s va[j] vb[j] (e j)) → VView A s (.ref a) (.ref b) ((List.range va.size).all e)
  | listsNe {a b : Addr} {va vb : Array Value} : s.heap.IsList a va → s.heap.IsList b vb → (va.size != vb.size) = true → VView A s (.ref a) (.ref b) false
theorem vview {G : Gl} {S : Fz} {s : Shared} {A : Around} (I : Inv G S s) {o : Option (D → D → Option Bool)} (hf : ∀ f, o = some f → ∀ (v w : Value) (d e : D) (r : Bool), Is G S v d → Is G S w e → f d e = some r → EqAt A.in1 s v w r) {v w : Value} {d e : D} {r : Bool} (h : Is G S v d) (h' : Is G S w e) (hd : deqStep o d e = some r) : VView A s v w r := by
  have elems : ∀ {f : D → D → Option Bool} {vs ws : List Value} {ds es : List D} {r : Bool}, o = some f → Alls G S vs ds → Alls G S ws es → deqs f ds es = some r → ∃ g : Nat → Bool, (∀ (j : Nat) (h1 : j < vs.toArray.size) (h2 : j < ws.toArray.size), EqAt A.in1 s vs.toArray[j] ws.toArray[j] (g j)) ∧ r = (List.range ds.length).all g := fun {f vs ws ds es r} ho t t' hd => by
    obtain ⟨_, g, hg, hr⟩ := deqs_get hd
    refine ⟨g, fun j h1 h2 => ?_, hr⟩
    obtain ⟨d, q1, q2⟩ := t.get' (k := j) (v := vs[j]'(by simpa using h1)) (by simp)
    obtain ⟨d', q1', q2'⟩ := t'.get' (k := j) (v := ws[j]'(by simpa using h2)) (by simp)
    simpa using hf f ho _ _ d d' (g j) q2 q2' (hg j d d' q1 q1')
  cases deq_view hd with
  | none => cases h.noneI; cases h'.noneI; exact .none
  | bool a b => cases h.boolI; cases h'.boolI; exact .bool a b
  | int a b => obtain ⟨t, rfl⟩ := h.intI; obtain ⟨u, rfl⟩ := h'.intI; exact .int a b t u
  | str a b => obtain ⟨t, rfl⟩ := h.strI; obtain ⟨u, rfl⟩ := h'.strI; exact .str a b t u
  | tuple q hl hd =>
    obtain ⟨a, _, _, vs, rfl, h1, h1c, h1d, t⟩ := h.tupleI
    obtain ⟨b, _, _, ws, rfl, h1', h1c', h1d', t'⟩ := h'.tupleI
    obtain ⟨g, hg, hr⟩ := elems q t t' hd
    have := VView.tuples (isTuple_of I h1 h1c h1d) (isTuple_of I h1' h1c' h1d') hg
    have l1 := t.length
    have l2 := t'.length
    have e1 : ((List.range (min vs.toArray.size ws.toArray.size)).all g && vs.toArray.size == ws.toArray.size) = r := by
      simp only [List.size_toArray, l1, l2, hl, Nat.min_self, beq_self_eq_true, Bool.and_true]
      rw [hr, hl]
    rw [e1] at this
    exact this
  | list q hl hd =>
    obtain ⟨a, _, _, vs, rfl, h1, h1c, h1d, t⟩ := h.listI
    obtain ⟨b, _, _, ws, rfl, h1', h1c', h1d', t'⟩ := h'.listI
    obtain ⟨g, hg, hr⟩ := elems q t t' hd
    have l1 := t.length
    have l2 := t'.length
    have := VView.lists (isList_of I h1 h1c h1d) (isList_of I h1' h1c' h1d') (by simp only [List.size_toArray, l1, l2, hl]) hg
    rw [show (List.range vs.toArray.size).all g = r by simp only [List.size_toArray, l1]; rw [hr]] at this
    exact this
  | listNe q hl =>
    obtain ⟨a, _, _, vs, rfl, h1, h1c, h1d, t⟩ := h.listI
    obtain ⟨b, _, _, ws, rfl, h1', h1c', h1d', t'⟩ := h'.listI
    have l1 := t.length
    have l2 := t'.length
    exact .listsNe (isList_of I h1 h1c h1d) (isList_of I h1' h1c' h1d') (by simp only [List.size_toArray, l1, l2]; simpa using hl)
theorem VView.rc {A : Around} {s : Shared} {v w : Value} {r : Bool} (hu : A.units < cLine) : VView A s v w r → RcAt A s v w r
  | .none => .none_none
  | .bool _ _ => .bool_bool _ _
  | .int _ _ _ _ => .int_int _ _ _ _
  | .str _ _ _ _ => .str_str _ _ _ _
  | .tuples a b c => RcAt.tuples a b hu c
  | .lists a b c d => RcAt.lists a b c hu d
  | .listsNe a b c => RcAt.lists_lengths a b c hu
theorem VView.rcNe {A : Around} {s : Shared} {v w : Value} {r : Bool} (hu : A.units < cLine) : VView A s v w r → RcNeAt A s v w (!r)
  | .none => .none_none
  | .bool _ _ => .bool_bool _ _
  | .int _ _ _ _ => .int_int _ _ _ _
  | .str _ _ _ _ => .str_str _ _ _ _
  | .tuples a b c => RcNeAt.tuples a b hu c
  | .lists a b c d => RcNeAt.lists a b c hu d
  | .listsNe a b c => RcNeAt.lists_lengths a b c hu
theorem VView.eq {A : Around} {s : Shared} {v w : Value} {r : Bool} (hu : A.units < cLine) (hvw : v ≠ w) (V : VView A s v w r) : EqAt A s v w r := by
  cases V with
  | none => exact absurd rfl hvw
  | bool => exact .bool_bool _ _
  | int => exact .int_int _ _ _ _
  | str => exact .str_str _ _ _ _
  | tuples a b c => exact .of_refs (fun q => hvw (by rw [q])) (RcAt.tuples a b hu c)
  | lists a b c d => exact .of_refs (fun q => hvw (by rw [q])) (RcAt.lists a b c hu d)
  | listsNe a b c => exact .of_refs (fun q => hvw (by rw [q])) (RcAt.lists_lengths a b c hu)
theorem eqAt_step {G : Gl} {S : Fz} {s : Shared} (I : Inv G S s) {n : Nat} (hf : ∀ f, deqO n = some f → ∀ (A : Around) (v w : Value) (d e : D) (r : Bool), A.units + n < cLine + 1 → Is G S v d → Is G S w e → f d e = some r → EqAt A s v w r) {A : Around} {v w : Value} {d e : D} {r : Bool} (hu : A.units + n < cLine)
    (h : Is G S v d) (h' : Is G S w e) (hd : deq n d e = some r) : EqAt A s v w r := by
  by_cases hvw : v = w
  · subst hvw
    obtain rfl := Is.det _ _ _ _ _ h h' hd
    rw [deq_refl' _ _ _ hd]
    exact .same _
  · rw [deq_step] at hd
    exact (vview I (fun f e v w d e' r => hf f e A.in1 v w d e' r (by show A.units + 1 + n < cLine + 1; lia)) h h' hd).eq (Nat.lt_of_le_of_lt (Nat.le_add_right ..) hu) hvw
theorem eqAt {G : Gl} {S : Fz} {s : Shared} (I : Inv G S s) : ∀ (n : Nat) (A : Around) (v w : Value) (d e : D) (r : Bool), A.units + n < cLine → Is G S v d → Is G S w e → deq n d e = some r → EqAt A s v w r
  | 0, A, v, w, d, e, r, hu, h, h', hd => eqAt_step I (n := 0) (fun f (q : Option.none = some f) => nomatch q) hu h h' hd
  | n + 1, A, v, w, d, e, r, hu, h, h', hd => eqAt_step I (n := n + 1) (fun f (q : some (deq n) = some f) => Option.some.inj q ▸ fun A v w d e r hu => eqAt I n A v w d e r (Nat.lt_of_succ_lt_succ hu)) hu h h' hd
section
variable {G : Gl} {A : Around} {S : Fz} {s : Shared} {n : Nat} {v w : Value} {d e : D} {r : Bool}
theorem deq_vview (I : Inv G S s) (hu : A.units + n < cLine) (h : Is G S v d) (h' : Is G S w e) (hd : deq n d e = some r) : VView A s v w r := by
  rw [deq_step] at hd
  refine vview I (fun f e => ?_) h h' hd
  cases n with
  | zero => exact nomatch e
  | succ n => exact Option.some.inj e ▸ fun v w d e r h h' hd => eqAt I n A.in1 v w d e r (by show A.units + 1 + n < cLine; lia) h h' hd
theorem rcEq (I : Inv G S s) (hu : A.units + n < cLine) (h : Is G S v d) (h' : Is G S w e) (hd : deq n d e = some r) : RcAt A s v w r := (deq_vview I hu h h' hd).rc (by lia)
theorem rcNe (I : Inv G S s) (hu : A.units + n < cLine) (h : Is G S v d) (h' : Is G S w e) (hd : deq n d e = some r) : RcNeAt A s v w (!r) := (deq_vview I hu h h' hd).rcNe (by lia)
end
theorem Room.u8 {n : Nat} {A : Around} (h : Room n A) : A.units + 8 < cLine := by have := h.units; show A.units + 8 < 9900; lia
theorem Room.u8' {n : Nat} {A : Around} (h : Room n A) : A.in1.units + 8 < cLine := by have := h.units; show A.units + 1 + 8 < 9900; lia
section
variable {G : Gl} {A : Around} {n : Nat} {d e : D} {r : Bool} {ks ks' : List Ky} {vs vs' : List D}
theorem Cmp.eq (hA : Room n A) (h : deq 8 d e = some r) : Cmp G A .Eq d e r := fun S s va vb I ha hb => rcEq I hA.u8 ha hb h _ _ _ _ ⟨S, .refl I, rfl⟩
theorem Cmp.ne (hA : Room n A) (h : deq 8 d e = some r) : Cmp G A .NotEq d e (!r) := fun S s va vb I ha hb => rcNe I hA.u8 ha hb h _ _ _ _ ⟨S, .refl I, rfl⟩
theorem deqd_none {f : D → D → Option Bool} {ks ks' : List Ky} {vs vs' : List D} {k : Ky} {v : D} (h : dfind k ks' vs' = none) : deqd f ks' vs' (k :: ks) (v :: vs) = some false := by
  show (match dfind k ks' vs' with | none => some false | some v' => match f v v', deqd f ks' vs' ks vs with | some x, some y => some (x && y) | _, _ => none) = some false
  rw [h]
theorem deqd_some {f : D → D → Option Bool} {ks ks' : List Ky} {vs vs' : List D} {k : Ky} {v v' : D} {r : Bool} (h : dfind k ks' vs' = some v') (e : deqd f ks' vs' (k :: ks) (v :: vs) = some r) : ∃ x y, f v v' = some x ∧ deqd f ks' vs' ks vs = some y ∧ r = (x && y) := by
  have e : (match dfind k ks' vs' with | none => some false | some v' => match f v v', deqd f ks' vs' ks vs with | some x, some y => some (x && y) | _, _ => none) = some r := e
  rw [h] at e
  have e : (match f v v', deqd f ks' vs' ks vs with | some x, some y => some (x && y) | _, _ => none) = some r := e
  generalize f v v' = p at e ⊢
  generalize deqd f ks' vs' ks vs = q at e ⊢
  cases p with
  | none => exact nomatch e
  | some x => cases q with
    | none => exact nomatch e
    | some y => exact ⟨x, y, rfl, rfl, (Option.some.inj e).symm⟩
theorem dict_hits {S : Fz} {s : Shared} (I : Inv G S s) (hu : A.units + 8 < cLine) {kb : List (Ky × Value)} {ds' : List D} (t' : Alls G S (kb.map (·.2)) ds') :
    ∀ (kvs : List (Ky × Value)) (ds : List D) (r : Bool), Alls G S (kvs.map (·.2)) ds → deqd (deq 8) (kb.map (·.1)) ds' (kvs.map (·.1)) ds = some r → PySem.W.KeqHits A s kb kvs r
  | [], _, r, i, hq => by obtain rfl := i.nilV; obtain rfl := Option.some.inj hq; exact .nil
  | (k, v) :: kvs, _, r, i, hq => by
    obtain ⟨d0, r0, rfl, i, t2⟩ := i.consV
    rcases dfind_valueAt (k := k) t' with ⟨a, b⟩ | ⟨d', u, a, b, c⟩
    · obtain rfl := Option.some.inj ((deqd_none a).symm.trans hq)
      exact .miss b
    · obtain ⟨x, y, hx, hy, rfl⟩ := deqd_some a hq
      exact .hit b (eqAt I 8 A _ _ _ _ x hu i c hx) (dict_hits I hu t' kvs _ y t2 hy)
noncomputable def deqD (ks : List Ky) (vs : List D) (ks' : List Ky) (vs' : List D) : Option Bool := if ks.length = ks'.length then deqd (deq 8) ks' vs' ks vs else some false
set_option tactic.hygienic true in
theorem Cmp.neD (hA : Room n A) (h : deqD ks vs ks' vs' = some r) : Cmp G A .NotEq (.dict ks vs) (.dict ks' vs') (!r) := fun S s va vb I ha hb => by
  (refine cps fun ZP zk => ?_; obtain ⟨a, es, ep, ka, rfl, h1, h2, h3, h4, h5, t, h6⟩ := ha.dictI; refine zk ?_)
  (refine cps fun ZP zk => ?_; obtain ⟨b, es', ep', kb, rfl, h1', h2', h3', h4', h5', t', h6'⟩ := hb.dictI; refine zk ?_)
  subst h4 h4'
  unfold deqD at h
  split at h
  · rename_i hl
    refine PySem.W.keq_ne (r := r) h6 h6' (dictOf_of I h1 h2 h3 h5) (dictOf_of I h1' h2' h3' h5') hA.cl (fun _ => dict_hits I hA.u8' t' _ _ _ t h) ⟨S, .refl I, ?_⟩
    have : (ka.length == kb.length) = true := by simpa using hl
    rw [this]; rfl
  · rename_i hl
    obtain rfl := Option.some.inj h
    have : (ka.length == kb.length) = false := by simpa using hl
    refine PySem.W.keq_ne (r := true) h6 h6' (dictOf_of I h1 h2 h3 h5) (dictOf_of I h1' h2' h3' h5') hA.cl (fun q => by rw [q] at this; simp at this) ⟨S, .refl I, ?_⟩
    rw [this]; rfl
end
end Mine
end

section
namespace Mine
variable {sc : Scope} {mc : List Str}
open PySem PySem.Calls PyProof.Rows
noncomputable def Loc.frozen : Loc → Loc
  | .val d => .val d
  | .own d => .val d
noncomputable def LEnv.frozen : LEnv → LEnv
  | [] => []
  | (x, l) :: r => (x, l.frozen) :: LEnv.frozen r
theorem lookup_frozen {x : Str} : ∀ {ρ : LEnv}, ρ.frozen.lookup x = (ρ.lookup x).map Loc.frozen
  | [] => rfl
  | (y, l) :: r => by
    simp only [LEnv.frozen, List.lookup_cons]
    cases x == y with
    | true => rfl
    | false => exact lookup_frozen
theorem Own.is' {G : Gl} {S S' : Fz} {a : Addr} {o : Obj} {d : D} (h : Own G S o d) (hS : S a = none) (hb : Sub G.base S) (hs : Sub S S') (ha : S' a = some o) : Is G S' (.ref a) d := by
  cases h with
  | list r => exact .list ha rfl rfl (r.mono hs)
  | dict h1 h2 h3 h4 r =>
    refine .dict ha h1 h2 h3 h4 (r.mono hs) (beq_eq_false_iff_ne.mpr fun e => ?_)
    obtain ⟨o, ho⟩ := G.sm
    rw [e, hb _ _ ho] at hS
    exact nomatch hS
section
open Classical
variable {G : Gl} {act : Act sc mc} {kp : Kept} {adr : Str → Addr} {ρ : LEnv} {S S₁ S' : Fz} {s s' : Shared}
noncomputable def lent (ρ : LEnv) (adr : Str → Addr) (S : Fz) (h : Heap) : Fz := fun a => if ∃ x d, ρ.lookup x = some (.own d) ∧ adr x = a then h.get? a else S a
set_option tactic.hygienic true in
theorem OK.lend (O : OK G act kp adr ρ S s) : OK G act kp adr ρ.frozen (lent ρ adr S s.heap) s ∧ Sub S (lent ρ adr S s.heap) ∧
    (∀ a o, lent ρ adr S s.heap a = some o → S a = none → (∀ vs, o.data ≠ .fields vs) ∧ o.cls ≠ .none) := by
  have sub : Sub S (lent ρ adr S s.heap) := fun a o e => by
    unfold lent
    split
    · exact O.inv.sub _ _ e
    · exact e
  have new : ∀ a o, lent ρ adr S s.heap a = some o → S a = none → (∀ vs, o.data ≠ .fields vs) ∧ o.cls ≠ .none := fun a o e hn => by
    unfold lent at e
    split at e
    · rename_i h
      obtain ⟨x, d, hx, rfl⟩ := h
      obtain ⟨_, ⟨o', ho, w⟩, _⟩ := O.vars x _ hx
      rw [ho] at e
      obtain rfl := Option.some.inj e
      cases w <;> exact ⟨fun vs => by simp, by simp⟩
    · rw [hn] at e; exact nomatch e
  have hsub : ∀ a o, lent ρ adr S s.heap a = some o → s.heap.get? a = some o := fun a o e => by
    unfold lent at e
    split at e
    · exact e
    · exact O.inv.sub _ _ e
  refine ⟨{ O with
    inv := ⟨hsub, O.inv.base.trans sub, O.inv.tab.keeps sub fun _ _ e _ => e, fun t ht => ?_, O.inv.bare, O.inv.os⟩
    mt := fun b hb => ?_
    vars := fun x l e => ?_
    inj := fun x y dx dy ex ey => ?_ }, sub, new⟩
  · cases q : lent ρ adr S s.heap t.P with
    | none => rfl
    | some o =>
      exact absurd rfl (O.inv.noTab (hsub _ _ q) (new _ _ q (O.inv.tabS t ht)).2 t ht)
  · obtain ⟨h1, h2⟩ := O.mt b hb
    refine ⟨?_, h2⟩
    unfold lent
    split
    · rename_i h
      obtain ⟨x, d, hx, rfl⟩ := h
      exact absurd hb (O.vars x _ hx).2.2.2.2
    · exact h1
  · rw [lookup_frozen] at e
    cases hx : ρ.lookup x with
    | none => rw [hx] at e; cases e
    | some l' =>
      rw [hx] at e
      have q := O.vars x l' hx
      cases l' with
      | val d =>
        cases e
        obtain ⟨v, r, i⟩ := q
        exact ⟨v, r, i.mono sub⟩
      | own d =>
        cases e
        obtain ⟨r, ⟨o, ho, w⟩, h1, _⟩ := q
        refine ⟨_, r, w.is' h1 O.inv.base sub ?_⟩
        unfold lent
        rw [if_pos ⟨x, d, hx, rfl⟩]
        exact ho
  · rw [lookup_frozen] at ex
    cases hx : ρ.lookup x with
    | none => rw [hx] at ex; cases ex
    | some l' => rw [hx] at ex; cases l' <;> cases ex
set_option tactic.hygienic true in
theorem Stp.back (I : Inv G S s) (sub : Sub S S₁) (new : ∀ a o, S₁ a = some o → S a = none → (∀ vs, o.data ≠ .fields vs) ∧ o.cls ≠ .none) (st : Stp G S₁ s S' s') : ∃ S'', Stp G S s S'' s' ∧ Sub S'' S' := by
  let S'' : Fz := fun a => if S a = none ∧ S₁ a ≠ none then none else S' a
  have s1 : Sub S S'' := fun a o e => by
    show (if S a = none ∧ S₁ a ≠ none then none else S' a) = some o
    rw [if_neg (by rw [e]; exact fun h => nomatch h.1)]
    exact st.sub _ _ (sub _ _ e)
  have s2 : Sub S'' S' := fun a o e => by
    have e : (if S a = none ∧ S₁ a ≠ none then none else S' a) = some o := e
    split at e
    · exact nomatch e
    · exact e
  refine ⟨S'', ⟨⟨fun a o e => st.inv.sub _ _ (s2 _ _ e), I.base.trans s1, fun t ht => ?_, fun t ht => ?_, st.inv.bare, st.inv.os⟩, s1, fun a o e => ?_, st.keep, st.gens⟩, s2⟩
  · obtain ⟨ps, hp, x⟩ := st.inv.tab t ht
    refine ⟨ps, hp, x.imp id ?_⟩
    rintro ⟨c', o, e, q, g⟩
    refine ⟨c', o, e, ?_, g⟩
    show (if S c' = none ∧ S₁ c' ≠ none then none else S' c') = some o
    rw [if_neg ?_]
    · exact q
    · rintro ⟨h1, h2⟩
      cases q1 : S₁ c' with
      | none => exact h2 q1
      | some o' =>
        have := st.sub _ _ q1
        rw [q] at this
        obtain rfl := Option.some.inj this
        obtain ⟨vs, e⟩ := t.isCode _ g; exact (new _ _ q1 h1).1 vs e
  · have := st.inv.tabS t ht
    show (if S t.P = none ∧ S₁ t.P ≠ none then none else S' t.P) = none
    split
    · rfl
    · exact this
  · have e' : (if S a = none ∧ S₁ a ≠ none then none else S' a) = some o := e
    split at e'
    · exact nomatch e'
    · rename_i h
      rcases st.new a o e' with q | q
      · cases hS : S a with
        | none => exact absurd ⟨hS, by rw [q]; simp⟩ h
        | some o' =>
          have := sub _ _ hS
          rw [q] at this
          obtain rfl := Option.some.inj this
          exact .inl rfl
      · exact .inr q
end
noncomputable def D.atom : D → Bool
  | .none => true
  | .bool _ => true
  | .int _ => true
  | .str _ => true
  | _ => false
theorem Is.atom {G : Gl} {S S' : Fz} {v : Value} {d : D} (h : Is G S v d) (ha : d.atom = true) : Is G S' v d := by
  cases d with
  | none => rw [h.noneI]; exact .none
  | bool => rw [h.boolI]; exact .bool _
  | int => obtain ⟨t, rfl⟩ := h.intI; exact .int _ _
  | str => obtain ⟨t, rfl⟩ := h.strI; exact .str _ _
  | _ => exact nomatch ha
section
variable {G : Gl} {A : Around} {act : Act sc mc} {ρ : LEnv} {e : Expr} {d : D} {b : Bool}
theorem Ev.lend (h : Ev G A act ρ.frozen e d) (ha : d.atom = true) : Ev G A act ρ e d := fun kp adr S s O => by
  obtain ⟨O', sub, new⟩ := O.lend
  refine wpAny_mono (h kp adr _ s O') (fun b' s' ⟨S', st, p⟩ => ?_) fun _ _ e => e
  obtain ⟨S'', st', _⟩ := st.back O.inv sub new
  exact ⟨S'', st', p.atom ha⟩
end

/-! statements -/
inductive FD where
  | next
  | brk
  | cont
  | ret (d : D)
noncomputable def FlowIs (G : Gl) (S : Fz) : Flow → FD → Prop
  | .next, .next => True
  | .brk, .brk => True
  | .cont, .cont => True
  | .ret v, .ret d => Is G S v d
  | _, _ => False
noncomputable def RunPost (G : Gl) (act : Act sc mc) (kp : Kept) (S : Fz) (Q : FD → LEnv → Prop) : Flow → Shared → Prop := fun f s' => ∃ S' adr' ρ' fd, Gro kp S S' ∧ OK G act kp adr' ρ' S' s' ∧ FlowIs G S' f fd ∧ Q fd ρ'
noncomputable def Run (G : Gl) (A : Around) (act : Act sc mc) (m : Sem Flow) (ρ : LEnv) (Q : FD → LEnv → Prop) : Prop := ∀ kp adr S s, OK G act kp adr ρ S s → wpAny G.M A m (RunPost G act kp S Q) No s
section
variable {G : Gl} {A : Around} {act : Act sc mc} {ρ ρ' : LEnv} {Q Q' : FD → LEnv → Prop} {m : Sem Flow} {d : D} {x : Str} {e t : Expr} {pos npos : Pos} {b : Bool} {kp : Kept} {S S' : Fz} {f : Flow} {s' : Shared}
theorem RunPost.pre (g : Gro kp S S') (h : RunPost G act kp S' Q f s') : RunPost G act kp S Q f s' := let ⟨S'', a, r, fd, g', x⟩ := h; ⟨S'', a, r, fd, g.trans g', x⟩
theorem RunPost.mono (h : RunPost G act kp S Q f s') (hq : ∀ fd ρ, Q fd ρ → Q' fd ρ) : RunPost G act kp S Q' f s' := let ⟨S'', a, r, fd, g', o, i, q⟩ := h; ⟨S'', a, r, fd, g', o, i, hq _ _ q⟩
theorem Run.mono (h : Run G A act m ρ Q) (hq : ∀ fd ρ, Q fd ρ → Q' fd ρ) : Run G A act m ρ Q' := fun kp adr S s O => wpAny_mono (h kp adr S s O) (fun _ _ h => h.mono hq) fun _ _ e => e
theorem Run.weaken (h : Run G A act m ρ' Q) (hw : ∀ x l, ρ'.lookup x = some l → ρ.lookup x = some l) : Run G A act m ρ Q := fun kp adr S s O => h kp adr S s (O.weaken hw)
theorem Run.freeze (x : Str) (d : D) (hx : ρ.lookup x = some (.own d)) (h : Run G A act m ((x, .val d) :: ρ) Q) : Run G A act m ρ Q := fun kp adr S s O => by
  obtain ⟨S', g, O'⟩ := O.freeze hx
  exact wpAny_mono (h kp adr S' s O') (fun _ _ h => h.pre g) fun _ _ e => e
theorem Run.nil (h : Q .next ρ) : Run G A act (execs [] act.env) ρ Q := fun kp adr S s O => wpAny_execs_nil ⟨S, adr, ρ, .next, .refl .., O, trivial, h⟩
noncomputable def Then (G : Gl) (A : Around) (act : Act sc mc) (rest : List Stmt) (Q : FD → LEnv → Prop) : FD → LEnv → Prop
  | .next, ρ => Run G A act (execs rest act.env) ρ Q
  | fd, ρ => Q fd ρ
theorem Run.cons {st : Stmt} {rest : List Stmt} (h : Run G A act (exec st act.env) ρ (Then G A act rest Q)) : Run G A act (execs (st :: rest) act.env) ρ Q := fun kp adr S s O =>
  wpAny_execs_cons (wpAny_mono (h kp adr S s O) (fun f s' ⟨S', adr', ρ', fd, g, O', i, q⟩ => by
    cases f <;> cases fd <;> try exact i.elim
    · exact wpAny_mono (q kp adr' S' s' O') (fun _ _ h => h.pre g) fun _ _ e => e
    · exact ⟨S', adr', ρ', _, g, O', i, q⟩
    · exact ⟨S', adr', ρ', _, g, O', i, q⟩
    · exact ⟨S', adr', ρ', _, g, O', i, q⟩) fun _ _ e => e)
theorem Run.assign (he : Ev G A act ρ e d) (hx : Stores sc mc x) (h : Q .next ((x, .val d) :: ρ)) (hs : swapsWith e (some (.Name x npos)) pos.line act.env = pure false := by rfl) :
    Run G A act (exec (.Assign [.Name x npos] e pos) act.env) ρ Q := fun kp adr S s O =>
  wpAny_Assign_Name (wp_seq (he kp adr S s O) fun S₁ v s₁ st i => (O.step st).storeVal hx i fun h' t O' => ⟨S₁, adr, _, .next, O.gro st, O', trivial, h⟩) hs
theorem OK.fresh {adr : Str → Addr} {s : Shared} (O : OK G act kp adr ρ S s) (st : Stp G S s S' s') {a : Addr} {o : Obj} (ho : s'.heap.get? a = some o) (w : Own G S' o d) (hS : S' a = none) (hn : s.heap.get? a = none) : Fresh G act kp adr ρ S' s' a d where
  obj := ⟨o, ho, w⟩
  S := hS
  kp := by
    cases q : kp.objs a with
    | none => rfl
    | some o' => rw [O.kept _ _ q] at hn; exact nomatch hn
  mt := fun h => by obtain ⟨_, _, _, o', ho'⟩ := O.mt a h; rw [ho'] at hn; exact nomatch hn
  ne := fun y dy hy q => by
    obtain ⟨_, ⟨o', ho', _⟩, _⟩ := O.vars y _ hy
    rw [q, hn] at ho'; exact nomatch ho'
theorem Run.assignOwn (he : EvO G A act ρ e d) (hx : Stores sc mc x) (h : Q .next ((x, .own d) :: ρ)) (hs : swapsWith e (some (.Name x npos)) pos.line act.env = pure false := by rfl) :
    Run G A act (exec (.Assign [.Name x npos] e pos) act.env) ρ Q := fun kp adr S s O =>
  wpAny_Assign_Name (wpAny_mono (he kp adr S s O) (fun v s₁ ⟨S₁, a, o, st, hv, ho, w, hS, hn⟩ => by
    subst hv
    exact (O.step st).storeOwn hx (O.fresh st ho w hS hn) fun h' t O' => ⟨S₁, _, _, .next, O.gro st, O', trivial, h⟩) fun _ _ e => e) hs
theorem Run.ret (he : Ev G A act ρ e d) (h : Q (.ret d) ρ) : Run G A act (exec (.Return (some e) pos) act.env) ρ Q := fun kp adr S s O =>
  wpAny_Return_some (wp_seq (he kp adr S s O) fun S₁ v s₁ st i => ⟨S₁, adr, ρ, .ret d, O.gro st, O.step st, i, h⟩)
theorem Run.ite {body orelse : List Stmt} (ht : Te G A act ρ t b) (h1 : b = true → Run G A act (execs body act.env) ρ Q) (h2 : b = false → Run G A act (execs orelse act.env) ρ Q) :
    Run G A act (exec (.If t body orelse pos) act.env) ρ Q := fun kp adr S s O =>
  wpAny_If (wp_seq (ht kp adr S s O) fun S₁ b' s₁ st e => by
    subst e
    cases b' with
    | true => exact wpAny_mono (h1 rfl kp adr S₁ s₁ (O.step st)) (fun _ _ h => h.pre (O.gro st)) fun _ _ e => e
    | false => exact wpAny_mono (h2 rfl kp adr S₁ s₁ (O.step st)) (fun _ _ h => h.pre (O.gro st)) fun _ _ e => e)
theorem Run.aug {op : Operator} {d₀ d₁ : D} (hx : ρ.lookup x = some (.val d₀)) (he : Ev G A act ρ e d₁) (ho : Op2 G A (inplaceOp op) d₀ d₁ d) (hst : Stores sc mc x) (h : Q .next ((x, .val d) :: ρ))
    (hd : (x == ("__debug__" : Str)) = false := by decide) (hn : (x == ("__classdict__" : Str)) = false := by decide) : Run G A act (exec (.AugAssign (.Name x npos) op e pos) act.env) ρ Q := fun kp adr S s O =>
  wpAny_AugAssign_Name (by
    have nm : wpAny G.M A (loadName act.env x) (fun v s' => s' = s ∧ Is G S v d₀) No s := by
      obtain ⟨v, r, i⟩ := O.vars x _ hx
      rcases r with ⟨k, m, hm, e⟩ | ⟨k | k, c, hc, hv⟩
      · exact wpAny_loadName_local O.fn' k hm e ⟨rfl, i⟩
      · exact wpAny_loadName_cell O.fn' k hc hv ⟨rfl, i⟩
      · exact wpAny_loadName_free O.fn' k hc hv ⟨rfl, i⟩ hn
    refine wpAny_mono nm (fun v s' hv => ?_) fun _ _ e => e
    obtain ⟨rfl, i⟩ := hv
    exact wp_seq (he kp adr S s' O) fun S₁ v₁ s₁ st i₁ => wp_seq (ho S₁ s₁ v v₁ st.inv (i.mono st.sub) i₁) fun S₂ v₂ s₂ st₂ i₂ =>
      (O.step (st.trans st₂)).storeVal hst i₂ fun h' t O' => ⟨S₂, adr, _, .next, O.gro (st.trans st₂), O', trivial, h⟩)
theorem Run.while {body : List Stmt} (I : Nat → LEnv → Prop) (n : Nat) (h0 : I n ρ)
    (turn : ∀ n ρ, I n ρ → ∃ b, Te G A act ρ t b ∧ (b = true → Run G A act (execs body act.env) ρ (fun fd ρ' => match fd with
      | .next => ∃ m, m < n ∧ I m ρ'
      | .cont => ∃ m, m < n ∧ I m ρ'
      | .brk => Q .next ρ'
      | .ret d => Q (.ret d) ρ')) ∧ (b = false → Q .next ρ)) :
    Run G A act (exec (.While t body [] pos) act.env) ρ Q := fun kp adr S s O => by
  refine wpAny_While (codeAny_whileLoop (fun n s' => ∃ S' adr' ρ', Gro kp S S' ∧ OK G act kp adr' ρ' S' s' ∧ I n ρ') ?_ n ⟨S, adr, ρ, .refl .., O, h0⟩)
  rintro n s' ⟨S', adr', ρ', g, O', hI⟩
  (refine cps fun ZP zk => ?_; obtain ⟨b, ht, hb, hf⟩ := turn n ρ' hI; refine zk ?_)
  refine wpAny_mono (ht kp adr' S' s' O') (fun b' s₁ ⟨S₁, st, e⟩ => ?_) fun _ _ e => e.elim
  subst e
  cases b' with
  | true =>
    refine wpAny_mono (hb rfl kp adr' S₁ s₁ (O'.step st)) (fun f s₂ ⟨S₂, adr₂, ρ₂, fd, g₂, O₂, i₂, q₂⟩ => ?_) fun _ _ e => e.elim
    have gg := (g.trans (O'.gro st)).trans g₂
    cases f <;> cases fd <;> try exact i₂.elim
    · obtain ⟨m, hm, hI⟩ := q₂; exact ⟨m, hm, S₂, adr₂, ρ₂, gg, O₂, hI⟩
    · exact ⟨S₂, adr₂, ρ₂, .next, gg, O₂, trivial, q₂⟩
    · obtain ⟨m, hm, hI⟩ := q₂; exact ⟨m, hm, S₂, adr₂, ρ₂, gg, O₂, hI⟩
    · exact ⟨S₂, adr₂, ρ₂, .ret _, gg, O₂, i₂, q₂⟩
  | false => exact wpAny_execs_nil ⟨S₁, adr', ρ', .next, g.trans (O'.gro st), O'.step st, trivial, hf rfl⟩
end
end Mine
end

section
namespace Mine
variable {sc : Scope} {mc : List Str}
open PySem PySem.Calls PyProof.Rows
structure Foot where
  adr : List Addr
  gen : List Nat
structure SameAt (ft : Foot) (s s' : Shared) : Prop where
  adr : ∀ a ∈ ft.adr, ∀ o, s.heap.get? a = some o → s'.heap.get? a = some o
  gen : ∀ g ∈ ft.gen, ∀ x : GenState, s.gens[g]? = some x → s'.gens[g]? = some x
theorem SameAt.refl (ft : Foot) (s : Shared) : SameAt ft s s := ⟨fun _ _ _ e => e, fun _ _ _ e => e⟩
theorem SameAt.trans {ft : Foot} {s s' s'' : Shared} (h : SameAt ft s s') (h' : SameAt ft s' s'') : SameAt ft s s'' :=
  ⟨fun a ha o e => h'.adr a ha o (h.adr a ha o e), fun g hg x e => h'.gen g hg x (h.gen g hg x e)⟩
structure Good (G : Gl) (ft : Foot) (S : Fz) (s : Shared) : Prop where
  adr : ∀ a ∈ ft.adr, S a = none ∧ NoTab G a ∧ ∃ o, s.heap.get? a = some o
  gen : ∀ g ∈ ft.gen, g < s.gens.size
structure After (G : Gl) (ft : Foot) (S : Fz) (s : Shared) (S' : Fz) (s' : Shared) : Prop where
  inv : Inv G S' s'
  sub : Sub S S'
  same : SameAt ft s s'
  off : ∀ a ∈ ft.adr, S' a = none
structure Nx (G : Gl) (ft : Foot) (S : Fz) (s : Shared) (S' : Fz) (s' : Shared) (ft' : Foot) : Prop where
  inv : Inv G S' s'
  sub : Sub S S'
  new : ∀ a o, S' a = some o → S a = some o ∨ s.heap.get? a = none
  keep : ∀ b o, b ∉ ft.adr → NoTab G b → s.heap.get? b = some o → s'.heap.get? b = some o
  gens : ∀ g (x : GenState), g ∉ ft.gen → s.gens[g]? = some x → s'.gens[g]? = some x
  adr : ∀ a ∈ ft'.adr, a ∈ ft.adr ∨ s.heap.get? a = none
  gen : ∀ g ∈ ft'.gen, g ∈ ft.gen ∨ s.gens.size ≤ g
noncomputable def Drawn (G : Gl) (A : Around) (tgt : Expr) (it : Value) (Q : Option Value → Shared → Prop) (s : Shared) : Prop :=
  wpAny G.M A (pyNext it) (fun r s₁ => match r with | none => Q none s₁ | some v => wpAny G.M A (letOwnedTupleGo tgt it v) (fun _ s₂ => Q (some v) s₂) No s₁) No s
noncomputable def Yields (G : Gl) (A : Around) (tgt : Expr) (it : Value) : List D → Foot → Fz → Shared → Prop
  | [], ft, S, s => Good G ft S s ∧ ∀ S' s', After G ft S s S' s' → Drawn G A tgt it (fun r s'' => r = none ∧ ∃ S'' ft', Nx G ft S' s' S'' s'' ft') s'
  | x :: xs, ft, S, s => Good G ft S s ∧ ∀ S' s', After G ft S s S' s' → Drawn G A tgt it (fun r s'' => ∃ v S'' ft', r = some v ∧ Nx G ft S' s' S'' s'' ft' ∧ Is G S'' v x ∧ Yields G A tgt it xs ft' S'' s'') s'
section
variable {G : Gl} {A : Around} {tgt : Expr} {it : Value} {xs : List D} {ft : Foot} {S S' : Fz} {s s' : Shared}
theorem Yields.good (h : Yields G A tgt it xs ft S s) : Good G ft S s := by cases xs <;> exact h.1
theorem After.good (g : Good G ft S s) (a : After G ft S s S' s') : Good G ft S' s' where
  adr := fun b hb => by
    obtain ⟨_, h2, o, ho⟩ := g.adr b hb
    exact ⟨a.off b hb, h2, o, a.same.adr b hb o ho⟩
  gen := fun n hn => by
    have q := a.same.gen n hn (s.gens[n]'(g.gen n hn)) (by simp [g.gen n hn])
    exact (Array.getElem?_eq_some_iff.mp q).1
theorem Yields.later (h : Yields G A tgt it xs ft S s) (a : After G ft S s S' s') : Yields G A tgt it xs ft S' s' := by
  have tr : ∀ {S'' s''}, After G ft S' s' S'' s'' → After G ft S s S'' s'' := fun b => ⟨b.inv, a.sub.trans b.sub, a.same.trans b.same, b.off⟩
  cases xs with
  | nil => exact ⟨a.good h.1, fun S'' s'' b => h.2 S'' s'' (tr b)⟩
  | cons x xs => exact ⟨a.good h.1, fun S'' s'' b => h.2 S'' s'' (tr b)⟩
theorem After.refl (I : Inv G S s) (g : Good G ft S s) : After G ft S s S s := ⟨I, Sub.refl _, .refl .., fun a ha => (g.adr a ha).1⟩
theorem Stp.after (st : Stp G S s S' s') (g : Good G ft S s) : After G ft S s S' s' := ⟨st.inv, st.sub, ⟨fun a ha o e => st.keep a o (g.adr a ha).2.1 e, fun n _ x e => st.gens n x e⟩, fun a ha => by
  obtain ⟨h1, _, o, ho⟩ := g.adr a ha
  cases q : S' a with
  | none => rfl
  | some o' =>
    rcases st.new a o' q with e | e
    · rw [h1] at e; exact nomatch e
    · rw [ho] at e; exact nomatch e⟩
noncomputable def Selfy (G : Gl) (A : Around) (it : Value) (ft : Foot) (S : Fz) (s : Shared) : Prop := ∀ S' s', After G ft S s S' s' → ∀ Q E, Q it s' → wpAny G.M A (pyIter it) Q E s'
noncomputable def SrcAt (G : Gl) (A : Around) (tgt : Expr) (xs : List D) (S : Fz) (s : Shared) : Value → Shared → Prop := fun it s₂ =>
  ∃ S₂ ft, Stp G S s S₂ s₂ ∧ (∀ a ∈ ft.adr, s.heap.get? a = none) ∧ (∀ g ∈ ft.gen, s.gens.size ≤ g) ∧ Yields G A tgt it xs ft S₂ s₂ ∧ Selfy G A it ft S₂ s₂
noncomputable def Src (G : Gl) (A : Around) (act : Act sc mc) (ρ : LEnv) (tgt e : Expr) (xs : List D) : Prop := ∀ kp adr S s, OK G act kp adr ρ S s →
  wpAny G.M A (eval e act.env) (fun v s₁ => wpAny G.M A (pyIter v) (SrcAt G A tgt xs S s) No s₁) No s
end
noncomputable def Kept.with (kp : Kept) (ft : Foot) (s : Shared) : Kept := ⟨fun a => if a ∈ ft.adr then s.heap.get? a else kp.objs a, fun g => if g ∈ ft.gen then s.gens[g]? else kp.gens g⟩
section
variable {G : Gl} {A : Around} {act : Act sc mc} {kp : Kept} {adr : Str → Addr} {ρ ρ' : LEnv} {ft ft' : Foot} {S S' : Fz} {s s' : Shared} {tgt e : Expr} {it : Value} {xs : List D} {Q : FD → LEnv → Prop} {pos : Pos} {body : List Stmt}
structure Aside (act : Act sc mc) (kp : Kept) (adr : Str → Addr) (ρ : LEnv) (ft : Foot) : Prop where
  mt : ∀ a ∈ ft.adr, a ∉ act.mt
  cells : ∀ a ∈ ft.adr, ∀ p ∈ act.env.cells, p.2 ≠ a
  own : ∀ a ∈ ft.adr, ∀ x d, ρ.lookup x = some (.own d) → adr x ≠ a
  ko : ∀ a ∈ ft.adr, kp.objs a = none
  kgn : ∀ g ∈ ft.gen, kp.gens g = none
theorem OK.apart' (O : OK G act kp adr ρ S s) (h : ∀ a ∈ ft.adr, s.heap.get? a = none) (hg : ∀ g ∈ ft.gen, s.gens.size ≤ g) : Aside act kp adr ρ ft where
  mt := fun a ha q => by obtain ⟨_, _, _, o, ho⟩ := O.mt a q; rw [h a ha] at ho; exact nomatch ho
  cells := fun a ha p hp q => by obtain ⟨_, v, o, ho, _⟩ := O.cells p hp; rw [q, h a ha] at ho; exact nomatch ho
  own := fun a ha x d hx q => by obtain ⟨_, ⟨o, ho, _⟩, _⟩ := O.vars x _ hx; rw [q, h a ha] at ho; exact nomatch ho
  ko := fun a ha => by
    cases q : kp.objs a with
    | none => rfl
    | some o => have := O.kept a o q; rw [h a ha] at this; exact nomatch this
  kgn := fun g hg' => by
    cases q : kp.gens g with
    | none => rfl
    | some x => have := (Array.getElem?_eq_some_iff.mp (O.kgens g x q)).1; exact absurd (hg g hg') (Nat.not_le.mpr this)
set_option tactic.hygienic true in
theorem OK.with (O : OK G act kp adr ρ S s) (g : Good G ft S s) (ap : Aside act kp adr ρ ft) : OK G act (kp.with ft s) adr ρ S s :=
  { O with
    kept := fun a o e => by
      unfold Kept.with at e
      simp only at e
      split at e
      · exact e
      · exact O.kept a o e
    knt := fun a o e => by
      unfold Kept.with at e
      simp only at e
      split at e
      · rename_i h; exact (g.adr a h).2.1
      · exact O.knt a o e
    kgens := fun n x e => by
      unfold Kept.with at e
      simp only at e
      split at e
      · exact e
      · exact O.kgens n x e
    mt := fun b hb => by
      obtain ⟨h1, h2, h3⟩ := O.mt b hb
      refine ⟨h1, ?_, h3⟩
      unfold Kept.with
      simp only
      rw [if_neg fun h => ap.mt b h hb]
      exact h2
    vars := fun x l e => by
      have q := O.vars x l e
      cases l with
      | val d => exact q
      | own d =>
        obtain ⟨r, w, h1, h2, h3⟩ := q
        refine ⟨r, w, h1, ?_, h3⟩
        unfold Kept.with
        simp only
        rw [if_neg fun h => ap.own _ h x d e rfl]
        exact h2 }
set_option tactic.hygienic true in
theorem OK.without (O : OK G act (kp.with ft s) adr ρ S' s') (hkp : ∀ a ∈ ft.adr, kp.objs a = none) (hkg : ∀ g ∈ ft.gen, kp.gens g = none) : OK G act kp adr ρ S' s' :=
  { O with
    kept := fun a o e => O.kept a o (by
      unfold Kept.with; simp only
      rw [if_neg fun h => by rw [hkp a h] at e; exact nomatch e]; exact e)
    knt := fun a o e => O.knt a o (by
      unfold Kept.with; simp only
      rw [if_neg fun h => by rw [hkp a h] at e; exact nomatch e]; exact e)
    kgens := fun n x e => O.kgens n x (by
      unfold Kept.with; simp only
      rw [if_neg fun h => by rw [hkg n h] at e; exact nomatch e]; exact e)
    mt := fun b hb => by
      obtain ⟨h1, h2, h3⟩ := O.mt b hb
      refine ⟨h1, ?_, h3⟩
      unfold Kept.with at h2
      simp only at h2
      split at h2
      · rename_i h; exact hkp b h
      · exact h2
    vars := fun x l e => by
      have q := O.vars x l e
      cases l with
      | val d => exact q
      | own d =>
        obtain ⟨r, w, h1, h2, h3⟩ := q
        refine ⟨r, w, h1, ?_, h3⟩
        unfold Kept.with at h2
        simp only at h2
        split at h2
        · rename_i h; exact hkp _ h
        · exact h2 }
set_option tactic.hygienic true in
theorem Gro.without (g : Gro (kp.with ft s) S S') (hl : ∀ a ∈ ft.adr, ∃ o, s.heap.get? a = some o) (hk : ∀ a ∈ ft.adr, kp.objs a = none) : Gro kp S S' := ⟨g.sub, fun a o e => (g.new a o e).imp id fun h => by
  unfold Kept.with at h
  simp only at h
  split at h
  · rename_i hm; exact hk a hm
  · exact h⟩
theorem OK.afterTurn (O : OK G act (kp.with ft s) adr ρ S' s') (g : Good G ft S s) (gr : Gro (kp.with ft s) S S') : After G ft S s S' s' where
  inv := O.inv
  sub := gr.sub
  same := ⟨fun a ha o e => O.kept a o (by unfold Kept.with; simp only; rw [if_pos ha]; exact e), fun n hn x e => O.kgens n x (by unfold Kept.with; simp only; rw [if_pos hn]; exact e)⟩
  off := fun a ha => by
    obtain ⟨h1, _, o, ho⟩ := g.adr a ha
    cases q : S' a with
    | none => rfl
    | some o' =>
      rcases gr.new a o' q with e | e
      · rw [h1] at e; exact nomatch e
      · unfold Kept.with at e
        simp only at e
        rw [if_pos ha, ho] at e
        exact nomatch e
theorem OK.nx (O : OK G act kp adr ρ S s) (ap : Aside act kp adr ρ ft) (n : Nx G ft S s S' s' ft') : OK G act kp adr ρ S' s' where
  inv := n.inv
  kept := fun a o e => n.keep a o (fun h => by rw [ap.ko a h] at e; exact nomatch e) (O.knt a o e) (O.kept a o e)
  knt := O.knt
  kgens := fun g x e => n.gens g x (fun h => by rw [ap.kgn g h] at e; exact nomatch e) (O.kgens g x e)
  fn := O.fn
  glob := O.glob
  blt := O.blt
  ns := let ⟨m, hm⟩ := O.ns; ⟨m, hm.at' fun o e => n.keep _ _ (fun h => ap.mt _ h O.mtL) O.ntL e⟩
  mtL := O.mtL
  mt := fun b hb => by
    obtain ⟨h1, h2, h3, o, ho⟩ := O.mt b hb
    refine ⟨?_, h2, h3, o, n.keep _ _ (fun h => ap.mt b h hb) h3 ho⟩
    cases q : S' b with
    | none => rfl
    | some o' =>
      rcases n.new b o' q with e | e
      · rw [h1] at e; exact nomatch e
      · rw [ho] at e; exact nomatch e
  mtc := O.mtc
  apart := O.apart
  clo := O.clo
  cells := fun p hp => by
    obtain ⟨nt, v, o, ho, hd⟩ := O.cells p hp
    exact ⟨nt, v, o, n.keep _ _ (fun h => ap.cells _ h p hp rfl) nt ho, hd⟩
  vars := fun x l e => by
    have rd : ∀ v, Reads act.env s.heap x v → Reads act.env s'.heap x v := fun v r =>
      r.of (fun o ho => n.keep _ _ (fun h => ap.mt _ h O.mtL) O.ntL ho) fun c hc o ho => n.keep _ _ (fun h => ap.cells _ h _ (cell_in hc) rfl) (O.cells _ (cell_in hc)).1 ho
    have q := O.vars x l e
    cases l with
    | val d => obtain ⟨v, r, i⟩ := q; exact ⟨v, rd v r, i.mono n.sub⟩
    | own d =>
      obtain ⟨r, ⟨o, ho, w⟩, h1, h2, h3⟩ := q
      refine ⟨rd _ r, ⟨o, n.keep _ _ (fun h => ap.own _ h x d e rfl) (O.inv.noTab ho w.cls) ho, w.mono n.sub⟩, ?_, h2, h3⟩
      cases q : S' (adr x) with
      | none => rfl
      | some o' =>
        rcases n.new _ o' q with e | e
        · rw [h1] at e; exact nomatch e
        · rw [ho] at e; exact nomatch e
  inj := O.inj
theorem OK.nxGro (O : OK G act kp adr ρ S s) (n : Nx G ft S s S' s' ft') : Gro kp S S' := ⟨n.sub, fun a o e => (n.new a o e).imp id fun q => by
  cases h : kp.objs a with
  | none => rfl
  | some o' => rw [O.kept a o' h] at q; exact nomatch q⟩
theorem Aside.nx (O : OK G act kp adr ρ S s) (ap : Aside act kp adr ρ ft) (n : Nx G ft S s S' s' ft') : Aside act kp adr ρ ft' := by
  have key : ∀ a ∈ ft'.adr, a ∈ ft.adr ∨ s.heap.get? a = none := n.adr
  exact {
    mt := fun a ha q => (key a ha).elim (fun h => ap.mt a h q) fun h => by obtain ⟨_, _, _, o, ho⟩ := O.mt a q; rw [h] at ho; exact nomatch ho
    cells := fun a ha p hp q => (key a ha).elim (fun h => ap.cells a h p hp q) fun h => by obtain ⟨_, v, o, ho, _⟩ := O.cells p hp; rw [q, h] at ho; exact nomatch ho
    own := fun a ha x d hx q => (key a ha).elim (fun h => ap.own a h x d hx q) fun h => by obtain ⟨_, ⟨o, ho, _⟩, _⟩ := O.vars x _ hx; rw [q, h] at ho; exact nomatch ho
    ko := fun a ha => (key a ha).elim (ap.ko a) fun h => by
      cases q : kp.objs a with
      | none => rfl
      | some o => have := O.kept a o q; rw [h] at this; exact nomatch this
    kgn := fun g hg => (n.gen g hg).elim (ap.kgn g) fun h => by
      cases q : kp.gens g with
      | none => rfl
      | some x => have := (Array.getElem?_eq_some_iff.mp (O.kgens g x q)).1; exact absurd h (Nat.not_le.mpr this) }
end
noncomputable def Takes (G : Gl) (A : Around) (act : Act sc mc) (tgt : Expr) (d : D) (ρ ρ' : LEnv) : Prop := ∀ kp adr S s v, OK G act kp adr ρ S s → Is G S v d →
  wpAny G.M A (assign tgt act.env v) (fun _ s' => ∃ S' adr', Gro kp S S' ∧ OK G act kp adr' ρ' S' s' ∧ (∀ x d, ρ'.lookup x = some (.own d) → ∃ d₀, ρ.lookup x = some (.own d₀) ∧ adr' x = adr x)) No s
section
variable {G : Gl} {A : Around} {act : Act sc mc} {ρ ρ' : LEnv} {tgt e : Expr} {xs : List D} {Q : FD → LEnv → Prop} {pos : Pos} {body : List Stmt}
theorem Run.for (hsrc : Src G A act ρ tgt e xs) (I : List D → LEnv → Prop) (h0 : I xs ρ)
    (turn : ∀ x xs ρ, I (x :: xs) ρ → ∃ ρ₁, Takes G A act tgt x ρ ρ₁ ∧ Run G A act (execs body act.env) ρ₁ (fun fd ρ' => match fd with
      | .next => I xs ρ'
      | .cont => I xs ρ'
      | .brk => Q .next ρ'
      | .ret d => Q (.ret d) ρ'))
    (done : ∀ ρ, I [] ρ → Q .next ρ) (hs : ∀ x, foldedSetIterable e act.env x = pure x := by intro _; rfl) :
    Run G A act (exec (.For tgt e body [] pos) act.env) ρ Q := fun kp adr S s O => by
  refine wpAny_For (wpAny_mono (hsrc kp adr S s O) (fun v s₁ h₁ => wpAny_mono h₁ (fun it s₂ ⟨S₂, ft, st, hf, hg, hy, _⟩ => ?_) fun _ _ e => e) fun _ _ e => e) hs
  have O₂ := O.step st
  have ap := O.apart' hf hg
  refine codeAny_forLoop_any (fun n s' => ∃ xs S' adr' ρ' ft, n = xs.length + 1 ∧ Gro kp S S' ∧ OK G act kp adr' ρ' S' s' ∧ Aside act kp adr' ρ' ft ∧ Yields G A tgt it xs ft S' s' ∧ I xs ρ') ?_ (xs.length + 1)
    ⟨xs, S₂, adr, ρ, ft, rfl, O.gro st, O₂, ap, hy, h0⟩
  rintro n s' ⟨xs, S', adr', ρ', ft, rfl, g, O', ap, hy, hI⟩
  have gd := hy.good
  cases xs with
  | nil =>
    refine wpAny_mono (hy.2 S' s' (.refl O'.inv gd)) (fun r s₃ h => ?_) fun _ _ e => e.elim
    cases r with
    | none =>
      (refine cps fun ZP zk => ?_; obtain ⟨_, S₃, ft₃, nx⟩ := h; refine zk ?_)
      exact wpAny_execs_nil ⟨S₃, adr', ρ', .next, g.trans (O'.nxGro nx), O'.nx ap nx, trivial, done _ hI⟩
    | some v =>
      refine wpAny_mono h (fun _ s₄ h => ?_) fun _ _ e => e.elim
      cases h.1
  | cons x xs =>
    refine wpAny_mono (hy.2 S' s' (.refl O'.inv gd)) (fun r s₃ h => ?_) fun _ _ e => e.elim
    cases r with
    | none => (refine cps fun ZP zk => ?_; obtain ⟨_, _, _, h, _⟩ := h; refine zk ?_); exact nomatch h
    | some v =>
      refine wpAny_mono h (fun _ s₄ h => ?_) fun _ _ e => e.elim
      (refine cps fun ZP zk => ?_; obtain ⟨v', S₄, ft₄, hv, nx, i, hy₄⟩ := h; refine zk ?_)
      obtain rfl := Option.some.inj hv
      have O₄ := O'.nx ap nx
      have ap₄ := ap.nx O' nx
      (refine cps fun ZP zk => ?_; obtain ⟨ρ₁, tk, run⟩ := turn x xs ρ' hI; refine zk ?_)
      have gd₄ := hy₄.good
      have W := O₄.with gd₄ ap₄
      refine wpAny_mono (tk _ adr' S₄ s₄ v W i) (fun _ s₅ ⟨S₅, adr₅, g₅, O₅, own₅⟩ => ?_) fun _ _ e => e.elim
      refine wpAny_mono (run _ adr₅ S₅ s₅ O₅) (fun f s₆ ⟨S₆, adr₆, ρ₆, fd, g₆, O₆, i₆, q₆⟩ => ?_) fun _ _ e => e.elim
      have gg := g₅.trans g₆
      have live : ∀ a ∈ ft₄.adr, ∃ o, s₄.heap.get? a = some o := fun a ha => (gd₄.adr a ha).2.2
      have O₆' := O₆.without ap₄.ko ap₄.kgn
      have g₆' := (g.trans (O'.nxGro nx)).trans (gg.without live ap₄.ko)
      have af := O₆.afterTurn gd₄ gg
      have own : ∀ a ∈ ft₄.adr, ∀ x d, ρ₆.lookup x = some (.own d) → adr₆ x ≠ a := fun a ha x d hx q => by
        obtain ⟨_, _, _, h4, _⟩ := O₆.vars x _ hx
        unfold Kept.with at h4
        simp only at h4
        obtain ⟨o, ho⟩ := live a ha
        rw [q, if_pos ha, ho] at h4
        exact nomatch h4
      have ap₆ : Aside act kp adr₆ ρ₆ ft₄ := ⟨ap₄.mt, ap₄.cells, own, ap₄.ko, ap₄.kgn⟩
      cases f <;> cases fd <;> try exact i₆.elim
      · exact ⟨xs.length + 1, by simp, xs, S₆, adr₆, ρ₆, ft₄, rfl, g₆', O₆', ap₆, hy₄.later af, q₆⟩
      · exact ⟨S₆, adr₆, ρ₆, .next, g₆', O₆', trivial, q₆⟩
      · exact ⟨xs.length + 1, by simp, xs, S₆, adr₆, ρ₆, ft₄, rfl, g₆', O₆', ap₆, hy₄.later af, q₆⟩
      · exact ⟨S₆, adr₆, ρ₆, .ret _, g₆', O₆', i₆, q₆⟩
theorem Takes.name {x : Str} {d : D} {npos : Pos} (hx : Stores sc mc x) : Takes G A act (.Name x npos) d ρ ((x, .val d) :: ρ) := fun kp adr S s v O i =>
  wpAny_assign_Name (O.storeVal hx i fun h' t O' => ⟨S, adr, .refl .., O', fun y dy hy => by
    by_cases q : y = x
    · subst q; simp at hy
    · rw [lookup_cons_ne q] at hy; exact ⟨dy, hy, rfl⟩⟩)
end
end Mine
end

section
namespace Mine
variable {sc : Scope} {mc : List Str}
open PySem PySem.Calls PyProof.Rows
noncomputable def ownedTypes : List String := ["enumerate", "zip", "dict_itemiterator", "dict_reverseitemiterator", "odict_iterator", "itertools.zip_longest", "itertools.pairwise"]
section
variable {M : Model} {A : Around} {E : Value → Shared → Prop} {s : Shared}
set_option tactic.hygienic true in
theorem quietGo {tgt : Expr} {I : Addr} {v : Value} {o : Obj} {n : String} {Q : Unit → Shared → Prop} (ho : s.heap.get? I = some o) (hc : o.cls = .type n) (hn : ownedTypes.contains n = false) (h : Q () s) :
    wpAny M A (letOwnedTupleGo tgt (.ref I) v) Q E s := by
  have key : wpAny M A (do
      let (.ref r, .ref a) := ((.ref I : Value), v) | pure ()
      let o ← load r
      match o.cls, o.data with
      | .type n, .fields vs =>
        if ownedTypes.contains n && vs[0]? == some (rawInt a) then
          rule "for.unpacks-the-owned-tuple"
          updateField r 0 .none
      | _, _ => pure ()) Q E s := by
    cases v <;> try exact wpAny_pure h
    rename_i a
    refine wpAny_bind (wpAny_load ho ?_)
    rw [hc]
    generalize o.data = dt
    cases dt with
    | fields vs =>
      show wpAny M A (if (ownedTypes.contains n && vs[0]? == some (rawInt a)) = true then _ else _) Q E s
      rw [hn]
      exact wpAny_pure h
    | _ => exact wpAny_pure h
  cases tgt <;> first | exact wpAny_pure h | exact key
end
section
variable {G : Gl} {A : Around} {tgt : Expr}
theorem Yields.walks {I : Addr} {fp wr : List Addr} {n : Nat} {P : Nat → Value → Prop} {St : Nat → Heap → Prop} (W : Walks G.prog G.w A I fp wr n P St) {S₀ : Fz} {xs : List D}
    (hgo : ∀ i h, St i h → ∃ o T, h.get? I = some o ∧ o.cls = .type T ∧ ownedTypes.contains T = false) (hn : xs.length = n) (hfp : ∀ b ∈ fp, b ∈ wr ∨ ∃ o, S₀ b = some o)
    (hlive : ∀ i h, St i h → ∀ b ∈ wr, ∃ o, h.get? b = some o) (hP : ∀ i v, i < n → P i v → ∃ x, xs[i]? = some x ∧ Is G S₀ v x) :
    ∀ k i S s, k = n - i → i ≤ n → Sub S₀ S → Inv G S s → St i s.heap → (∀ b ∈ wr, S b = none ∧ NoTab G b) → Yields G A tgt (.ref I) (xs.drop i) ⟨wr, []⟩ S s := by
  intro k
  induction k with
  | zero =>
    intro i S s hk hi hs I' hst hw
    have hin : i = n := by lia
    subst hin
    rw [List.drop_of_length_le (by lia)]
    refine ⟨⟨fun a ha => ⟨(hw a ha).1, (hw a ha).2, hlive _ _ hst a ha⟩, fun _ h => nomatch h⟩, fun S' s' af => ?_⟩
    have hst' : St i s'.heap := W.frame _ _ _ hst fun b hb o e => by
      rcases hfp b hb with h | ⟨o', h⟩
      · exact af.same.adr b h o e
      · have h2 := hs _ _ h
        have h3 := I'.sub _ _ h2
        rw [e] at h3
        obtain rfl := Option.some.inj h3
        exact af.inv.sub _ _ (af.sub _ _ h2)
    refine W.done s' _ _ hst' fun h' tk hkeep => ?_
    refine ⟨rfl, S', ⟨wr, []⟩, ?_⟩
    exact ⟨af.inv.but (wr := wr) (fun a ha => ⟨af.off a ha, (hw a ha).2⟩) hkeep, Sub.refl _, fun _ _ e => .inl e, fun b o hb _ e => hkeep b o hb e, fun _ _ _ e => e, fun a ha => .inl ha, fun g hg => nomatch hg⟩
  | succ k ih =>
    intro i S s hk hi hs I' hst hw
    have hlt : i < n := by lia
    have hx : i < xs.length := by lia
    rw [List.drop_eq_getElem_cons hx]
    refine ⟨⟨fun a ha => ⟨(hw a ha).1, (hw a ha).2, hlive _ _ hst a ha⟩, fun _ h => nomatch h⟩, fun S' s' af => ?_⟩
    have hst' : St i s'.heap := W.frame _ _ _ hst fun b hb o e => by
      rcases hfp b hb with h | ⟨o', h⟩
      · exact af.same.adr b h o e
      · have h2 := hs _ _ h
        have h3 := I'.sub _ _ h2
        rw [e] at h3
        obtain rfl := Option.some.inj h3
        exact af.inv.sub _ _ (af.sub _ _ h2)
    refine W.item i s' _ _ hlt hst' fun v h' tk hPv hst₁ hkeep => ?_
    (refine cps fun ZP zk => ?_; obtain ⟨o, T, ho, hc, hT⟩ := hgo _ _ hst₁; refine zk ?_)
    refine quietGo ho hc hT ?_
    have I₁ := af.inv.but (h' := h') (t := tk) (wr := wr) (fun a ha => ⟨af.off a ha, (hw a ha).2⟩) hkeep
    obtain ⟨x, hx1, hx2⟩ := hP i v hlt hPv
    have hxx : x = xs[i] := by rw [List.getElem?_eq_getElem hx] at hx1; exact (Option.some.inj hx1).symm
    subst hxx
    exact ⟨v, S', ⟨wr, []⟩, rfl, ⟨I₁, Sub.refl _, fun _ _ e => .inl e, fun b o hb _ e => hkeep b o hb e, fun _ _ _ e => e, fun a ha => .inl ha, fun g hg => nomatch hg⟩,
      hx2.mono (hs.trans af.sub), ih (i + 1) S' _ (by lia) (by lia) (hs.trans af.sub) I₁ hst₁ fun b hb => ⟨af.off b hb, (hw b hb).2⟩⟩
theorem Selfy.walks {I : Addr} {fp wr : List Addr} {n : Nat} {P : Nat → Value → Prop} {St : Nat → Heap → Prop} (W : Walks G.prog G.w A I fp wr n P St) {S : Fz} {s : Shared} (hfp : ∀ b ∈ fp, b ∈ wr ∨ ∃ o, S b = some o)
    (I' : Inv G S s) (hst : St 0 s.heap) : Selfy G A (.ref I) ⟨wr, []⟩ S s := fun S' s' af Q E hQ =>
  W.self 0 s' Q E (W.frame _ _ _ hst fun b hb o e => by
    rcases hfp b hb with h | ⟨o', h⟩
    · exact af.same.adr b h o e
    · have h3 := I'.sub _ _ h
      rw [e] at h3
      obtain rfl := Option.some.inj h3
      exact af.inv.sub _ _ (af.sub _ _ h)) hQ
theorem Both.walks {I : Addr} {fp wr : List Addr} {n : Nat} {P : Nat → Value → Prop} {St : Nat → Heap → Prop} (W : Walks G.prog G.w A I fp wr n P St) {S : Fz} {s : Shared} {xs : List D}
    (hgo : ∀ i h, St i h → ∃ o T, h.get? I = some o ∧ o.cls = .type T ∧ ownedTypes.contains T = false) (hn : xs.length = n) (hfp : ∀ b ∈ fp, b ∈ wr ∨ ∃ o, S b = some o)
    (hlive : ∀ i h, St i h → ∀ b ∈ wr, ∃ o, h.get? b = some o) (hP : ∀ i v, i < n → P i v → ∃ x, xs[i]? = some x ∧ Is G S v x) (I' : Inv G S s) (hst : St 0 s.heap) (hw : ∀ b ∈ wr, S b = none ∧ NoTab G b) :
    Yields G A tgt (.ref I) xs ⟨wr, []⟩ S s ∧ Selfy G A (.ref I) ⟨wr, []⟩ S s :=
  ⟨by have := Yields.walks (tgt := tgt) W hgo hn hfp hlive hP _ 0 S s rfl (Nat.zero_le _) (Sub.refl _) I' hst hw; simpa using this, Selfy.walks W hfp I' hst⟩
theorem Yields.walksT {elts : List Expr} {kk : Nat} {tp : Pos} {I : Addr} {fp wr : List Addr} {n : Nat} {Pt : Nat → Array Value → Prop} {St : Nat → Heap → Prop} {Mid : Nat → Addr → Heap → Prop} (W : WalksT G.prog G.w A I fp wr n Pt St Mid) {S₀ : Fz} {xs : List D}
    (hn : xs.length = n) (hfp : ∀ b ∈ fp, b ∈ wr ∨ ∃ o, S₀ b = some o)
    (hlive : ∀ i h, St i h → ∀ b ∈ wr, ∃ o, h.get? b = some o) (hP : ∀ i vals, i < n → Pt i vals → ∃ ds, xs[i]? = some (.tuple ds) ∧ Alls G S₀ vals.toList ds) :
    ∀ k i S s, k = n - i → i ≤ n → Sub S₀ S → Inv G S s → St i s.heap → (∀ b ∈ wr, S b = none ∧ NoTab G b) → Yields G A (.Tuple elts kk tp) (.ref I) (xs.drop i) ⟨wr, []⟩ S s := by
  intro k
  induction k with
  | zero =>
    intro i S s hk hi hs I' hst hw
    have hin : i = n := by lia
    subst hin
    rw [List.drop_of_length_le (by lia)]
    refine ⟨⟨fun a ha => ⟨(hw a ha).1, (hw a ha).2, hlive _ _ hst a ha⟩, fun _ h => nomatch h⟩, fun S' s' af => ?_⟩
    have hst' : St i s'.heap := W.frame _ _ _ hst fun b hb o e => by
      rcases hfp b hb with h | ⟨o', h⟩
      · exact af.same.adr b h o e
      · have h2 := hs _ _ h
        have h3 := I'.sub _ _ h2
        rw [e] at h3
        obtain rfl := Option.some.inj h3
        exact af.inv.sub _ _ (af.sub _ _ h2)
    refine W.done s' _ _ hst' fun h' tk hkeep => ?_
    refine ⟨rfl, S', ⟨wr, []⟩, ?_⟩
    exact ⟨af.inv.but (wr := wr) (fun a ha => ⟨af.off a ha, (hw a ha).2⟩) hkeep, Sub.refl _, fun _ _ e => .inl e, fun b o hb _ e => hkeep b o hb e, fun _ _ _ e => e, fun a ha => .inl ha, fun g hg => nomatch hg⟩
  | succ k ih =>
    intro i S s hk hi hs I' hst hw
    have hlt : i < n := by lia
    have hx : i < xs.length := by lia
    rw [List.drop_eq_getElem_cons hx]
    refine ⟨⟨fun a ha => ⟨(hw a ha).1, (hw a ha).2, hlive _ _ hst a ha⟩, fun _ h => nomatch h⟩, fun S' s' af => ?_⟩
    have hst' : St i s'.heap := W.frame _ _ _ hst fun b hb o e => by
      rcases hfp b hb with h | ⟨o', h⟩
      · exact af.same.adr b h o e
      · have h2 := hs _ _ h
        have h3 := I'.sub _ _ h2
        rw [e] at h3
        obtain rfl := Option.some.inj h3
        exact af.inv.sub _ _ (af.sub _ _ h2)
    refine W.item i s' _ _ hlt hst' fun T vals h' tk hPv hsz hT hmid hkeep => ?_
    refine W.go elts kk tp i T _ _ _ hmid fun h'' hst₁ hkeep₂ => ?_
    have kk2 : ∀ b o, b ∉ wr → s'.heap.get? b = some o → h''.get? b = some o := fun b o hb e => hkeep₂ b o hb (hkeep b o hb e)
    have I₁ := af.inv.but (h' := h'') (t := tk) (wr := wr) (fun a ha => ⟨af.off a ha, (hw a ha).2⟩) kk2
    obtain ⟨ds, hx1, hx2⟩ := hP i vals hlt hPv
    have hxx : xs[i] = .tuple ds := by rw [List.getElem?_eq_getElem hx] at hx1; exact Option.some.inj hx1
    obtain ⟨o, ho, hc, nn, hd⟩ := hT
    have hTw := W.apart _ _ _ hmid
    have ho'' : h''.get? T = some o := hkeep₂ _ _ hTw ho
    have hTn : s'.heap.get? T = none := by
      cases q : s'.heap.get? T with
      | none => rfl
      | some o' => exact absurd (Heap.lt_size q) (Nat.not_lt.mpr hsz)
    have hTS : S' T = none := by
      cases q : S' T with
      | none => rfl
      | some o' => have := af.inv.sub _ _ q; rw [hTn] at this; exact nomatch this
    have hcn : o.cls ≠ .none := by rw [hc]; exact fun e => nomatch e
    have I₂ := I₁.freeze ho'' hcn hTS
    have hs2 : Sub S' (S'.put T o) := Fz.sub_put hTS
    refine ⟨.ref T, S'.put T o, ⟨wr, []⟩, rfl, ⟨I₂, hs2, fun a o' e => ?_, fun b o hb _ e => kk2 b o hb e, fun _ _ _ e => e, fun a ha => .inl ha, fun g hg => nomatch hg⟩, ?_, ?_⟩
    · by_cases q : a = T
      · subst q; exact .inr hTn
      · rw [Fz.put_ne _ _ q] at e; exact .inl e
    · rw [hxx]
      exact .tuple (Fz.put_self ..) hc (by rw [hd]) (hx2.mono ((hs.trans af.sub).trans hs2))
    · refine ih (i + 1) _ _ (by lia) (by lia) ((hs.trans af.sub).trans hs2) I₂ hst₁ fun b hb => ⟨?_, (hw b hb).2⟩
      rw [Fz.put_ne S' o (a := T) (b := b) fun q => hTw (by rw [← q]; exact hb)]
      exact af.off b hb
end
noncomputable def ri (x y : Int) : List Int := (List.range (y - x).toNat).map fun (i : Nat) => x + (i : Int)
noncomputable def chars (x : Str) : List D := x.cps.toList.map fun c => D.str ⟨#[c]⟩
noncomputable def pairD (k : Ky) (d : D) : D := .tuple [k.d, d]
inductive Iter : D → List D → Prop
  | list (ds : List D) : Iter (.list ds) ds
  | tuple (ds : List D) : Iter (.tuple ds) ds
  | range {x y : Int} (hx : -(2 ^ 62) ≤ x) (hx' : x < 2 ^ 62) (hy : -(2 ^ 62) ≤ y) (hy' : y < 2 ^ 62) : Iter (.range x y) ((ri x y).map D.int)
  | dict (ks : List Ky) (ds : List D) : Iter (.dict ks ds) (ks.map Ky.d)
  | values (ks : List Ky) (ds : List D) : Iter (.values ks ds) ds
  | str (x : Str) : Iter (.str x) (chars x)
section
variable {G : Gl} {A : Around} {tgt : Expr} {S : Fz} {s : Shared} {n : Nat}
theorem Inv.sizeS (I : Inv G S s) : S s.heap.objs.size = none := by
  cases q : S s.heap.objs.size with
  | none => rfl
  | some o' => have := I.sub _ _ q; rw [Inv.fresh] at this; exact nomatch this
theorem SrcAt.push (I : Inv G S s) {o : Obj} (hf : o.isFreed = false) {it : Value} {xs : List D} (h : ∀ (I' : Inv G S { s with heap := s.heap.push o }), Yields G A tgt it xs ⟨[s.heap.objs.size], []⟩ S { s with heap := s.heap.push o } ∧ Selfy G A it ⟨[s.heap.objs.size], []⟩ S { s with heap := s.heap.push o }) :
    SrcAt G A tgt xs S s it { s with heap := s.heap.push o } := by
  have st := I.keeps (h' := s.heap.push o) (t := s.toks) fun b o' e => Heap.get?_push_of_some _ e
  exact ⟨S, ⟨[s.heap.objs.size], []⟩, st, fun a ha => by rw [List.mem_singleton.mp ha]; exact Inv.fresh, fun g hg => (nomatch hg), h st.inv⟩
theorem Iter.src (hA : Room n A) {d : D} {xs : List D} (hi : Iter d xs) (I : Inv G S s) {v : Value} (h : Is G S v d) : wpAny G.M A (pyIter v) (SrcAt G A tgt xs S s) No s := by
  have fr : ∀ {a : Addr} {o : Obj}, S a = some o → a ≠ s.heap.objs.size := fun h q => by rw [q, I.sizeS] at h; exact nomatch h
  have wr : ∀ b ∈ [s.heap.objs.size], S b = none ∧ NoTab G b := fun b hb => by rw [List.mem_singleton.mp hb]; exact ⟨I.sizeS, I.noTabFresh Inv.fresh⟩
  cases hi with
  | list ds =>
    (refine cps fun ZP zk => ?_; obtain ⟨a, o, m, vs, rfl, h1, hc, hd, t⟩ := h.listI; refine zk ?_)
    have hl := isList_of I h1 hc hd
    refine wpAny_pyIter_list hl (SrcAt.push I rfl fun I' => ?_)
    exact Both.walks (Walks.list hA.handled s.heap.objs.size a (fr h1) vs.toArray) (fun i h hst => let ⟨o, ho, hc, _⟩ := hst.1; ⟨o, _, ho, hc, by decide⟩) (by simp [t.length])
      (fun b hb => by simp at hb; rcases hb with rfl | rfl; · simp
                      · exact .inr ⟨_, h1⟩) (fun i h hst b hb => by rw [List.mem_singleton.mp hb]; obtain ⟨o, ho, _⟩ := hst.1; exact ⟨o, ho⟩)
      (fun i v _ hv => by obtain ⟨x, q1, q2⟩ := t.get' (k := i) (v := v) (by simpa using hv); exact ⟨x, q1, q2⟩) I' ⟨⟨_, Heap.get?_push_size _ rfl, rfl, rfl⟩, ⟨_, Heap.get?_push_of_some _ (I.sub _ _ h1), hc, _, hd⟩⟩ wr
  | tuple ds =>
    (refine cps fun ZP zk => ?_; obtain ⟨a, o, m, vs, rfl, h1, hc, hd, t⟩ := h.tupleI; refine zk ?_)
    have hl := isTuple_of I h1 hc hd
    refine wpAny_pyIter_tuple hl (SrcAt.push I rfl fun I' => ?_)
    exact Both.walks (Walks.tuple hA.handled s.heap.objs.size a (fr h1) vs.toArray) (fun i h hst => let ⟨o, ho, hc, _⟩ := hst.1; ⟨o, _, ho, hc, by decide⟩) (by simp [t.length])
      (fun b hb => by simp at hb; rcases hb with rfl | rfl; · simp
                      · exact .inr ⟨_, h1⟩) (fun i h hst b hb => by rw [List.mem_singleton.mp hb]; obtain ⟨o, ho, _⟩ := hst.1; exact ⟨o, ho⟩)
      (fun i v _ hv => by obtain ⟨x, q1, q2⟩ := t.get' (k := i) (v := v) (by simpa using hv); exact ⟨x, q1, q2⟩) I' ⟨⟨_, Heap.get?_push_size _ rfl, rfl, rfl⟩, ⟨_, Heap.get?_push_of_some _ (I.sub _ _ h1), hc, _, hd⟩⟩ wr
  | @range x y hx hx' hy hy' =>
    (refine cps fun ZP zk => ?_; obtain ⟨a, t, u, v', rfl, h1⟩ := h.rangeI; refine zk ?_)
    have hs := small_one hx hx' hy hy'
    refine wpAny_pyIter_range (I.sub _ _ h1) hs (SrcAt.push I rfl fun I' => ?_)
    refine Both.walks (Walks.range hA.handled s.heap.objs.size x 1 (y - x).toNat) (fun i h hst => ⟨_, _, hst, rfl, by decide⟩) (by simp [ri])
      (fun b hb => .inl hb) (fun i h hst b hb => by rw [List.mem_singleton.mp hb]; exact ⟨_, hst⟩)
      (fun i v hin hv => by obtain ⟨tk, rfl⟩ := hv; exact ⟨.int (x + i * 1), by simp [ri, hin], .int ..⟩) I' ?_ wr
    rw [rangeSize_nat]
    show IsRangeIter _ _ _ _ _
    have e : x + ((0 : Nat) : Int) * 1 = x := by simp
    have e2 : (((y - x).toNat : Int) - ((0 : Nat) : Int)) = ((y - x).toNat : Int) := by simp
    rw [e, e2]
    exact Heap.get?_push_size _ rfl
  | dict ks ds =>
    (refine cps fun ZP zk => ?_; obtain ⟨a, es, ep, kvs, rfl, h1, h2, h3, h4, h5, t, h6⟩ := h.dictI; refine zk ?_)
    subst h4
    have hm : s.heap.DictAt G.knd a kvs ep := ⟨_, es, I.sub _ _ h1, ⟨rfl, rfl, rfl⟩, rfl, h2, h3, h5⟩
    refine wpAny_pyIter_dict h6 hm (SrcAt.push I rfl fun I' => ?_)
    exact Both.walks (Walks.dictKeys hA.handled s.heap.objs.size a (fr h1) kvs ep) (fun i h hst => let ⟨o, ho, hc, _⟩ := hst.1; ⟨o, _, ho, hc, by decide⟩) (by simp)
      (fun b hb => by simp at hb; rcases hb with rfl | rfl; · simp
                      · exact .inr ⟨_, h1⟩) (fun i h hst b hb => by rw [List.mem_singleton.mp hb]; obtain ⟨o, ho, _⟩ := hst.1; exact ⟨o, ho⟩)
      (fun i v _ hv => by obtain ⟨k, x, q1, q2⟩ := hv; exact ⟨k.d, by simp [q1], .of_ky q2⟩) I' ⟨⟨_, Heap.get?_push_size _ rfl, rfl, rfl⟩, ⟨_, es, Heap.get?_push_of_some _ (I.sub _ _ h1), ⟨rfl, rfl, rfl⟩, rfl, h2, h3, h5⟩⟩ wr
  | values ks ds =>
    obtain ⟨v, a, rfl, h0, hd⟩ := h.valuesI
    (refine cps fun ZP zk => ?_; obtain ⟨_, es, ep, kvs, q0, h1, h2, h3, h4, h5, t, h6⟩ := hd.dictI; refine zk ?_)
    obtain rfl := PySem.Value.ref.inj q0
    have h5' : (kvs.map (·.1)).Nodup := h4 ▸ h5
    have hm : s.heap.DictAt G.knd a kvs ep := ⟨_, es, I.sub _ _ h1, ⟨rfl, rfl, rfl⟩, rfl, h2, h3, h5'⟩
    refine wpAny_pyIter_values ⟨_, I.sub _ _ h0, rfl, rfl⟩ hm (SrcAt.push I rfl fun I' => ?_)
    exact Both.walks (Walks.dictValues hA.handled s.heap.objs.size a (fr h1) kvs ep) (fun i h hst => let ⟨o, ho, hc, _⟩ := hst.1; ⟨o, _, ho, hc, by decide⟩) (by have := t.length; simpa using this.symm)
      (fun b hb => by simp at hb; rcases hb with rfl | rfl; · simp
                      · exact .inr ⟨_, h1⟩) (fun i h hst b hb => by rw [List.mem_singleton.mp hb]; obtain ⟨o, ho, _⟩ := hst.1; exact ⟨o, ho⟩)
      (fun i v _ hv => by obtain ⟨k, q1⟩ := hv; obtain ⟨x, q2, q3⟩ := t.get' (k := i) (v := v) (by simp [q1]); exact ⟨x, q2, q3⟩) I' ⟨⟨_, Heap.get?_push_size _ rfl, rfl, rfl⟩, ⟨_, es, Heap.get?_push_of_some _ (I.sub _ _ h1), ⟨rfl, rfl, rfl⟩, rfl, h2, h3, h5'⟩⟩ wr
  | str x =>
    obtain ⟨t, rfl⟩ := h.strI
    · 
      have hP : ∀ i v, i < x.cps.size → SignAt x i v → ∃ d, (chars x)[i]? = some d ∧ Is G S v d := fun i v hi hv => by
        obtain ⟨c, u, q1, rfl⟩ := hv
        refine ⟨.str ⟨#[c]⟩, ?_, .str ..⟩
        simp [chars, q1]
      cases ha : x.cps.all (· < 128)
      · refine wpAny_pyIter_wide ha (SrcAt.push I rfl fun I' => ?_)
        exact Both.walks (Walks.strWide hA.handled s.heap.objs.size x t) (fun i h hst => let ⟨o, ho, hc, _⟩ := hst; ⟨o, _, ho, hc, by decide⟩) (by simp [chars])
          (fun b hb => .inl hb) (fun i h hst b hb => by rw [List.mem_singleton.mp hb]; obtain ⟨o, ho, _⟩ := hst; exact ⟨o, ho⟩) hP I' ⟨_, Heap.get?_push_size _ rfl, rfl, rfl⟩ wr
      · refine wpAny_pyIter_ascii ha (SrcAt.push I rfl fun I' => ?_)
        exact Both.walks (Walks.strAscii hA.handled s.heap.objs.size x t) (fun i h hst => let ⟨o, ho, hc, _⟩ := hst; ⟨o, _, ho, hc, by decide⟩) (by simp [chars])
          (fun b hb => .inl hb) (fun i h hst b hb => by rw [List.mem_singleton.mp hb]; obtain ⟨o, ho, _⟩ := hst; exact ⟨o, ho⟩) hP I' ⟨_, Heap.get?_push_size _ rfl, rfl, rfl⟩ wr
theorem SrcAt.pre {xs : List D} {S' : Fz} {s' : Shared} {it : Value} {s₂ : Shared} (st : Stp G S s S' s') (h : SrcAt G A tgt xs S' s' it s₂) : SrcAt G A tgt xs S s it s₂ := by
  obtain ⟨S₂, ft, st₂, h1, h2, h3, h4⟩ := h
  refine ⟨S₂, ft, st.trans st₂, fun a ha => ?_, fun g hg => ?_, h3, h4⟩
  · cases q : s.heap.get? a with
    | none => rfl
    | some o =>
      have nt := st.inv.noTabFresh (h1 a ha)
      have := st.keep a o nt q
      rw [h1 a ha] at this
      exact nomatch this
  · have := h2 g hg
    rcases Nat.lt_or_ge g s.gens.size with q | q
    · have := st.gens g (s.gens[g]'q) (by simp [q])
      have := (Array.getElem?_eq_some_iff.mp this).1
      lia
    · exact q
theorem Src.of {act : Act sc mc} {ρ : LEnv} {e : Expr} {d : D} {xs : List D} (hA : Room n A) (he : Ev G A act ρ e d) (hi : Iter d xs) : Src G A act ρ tgt e xs := fun kp adr S s O =>
  wp_seq (he kp adr S s O) fun S₁ v s₁ st i => wpAny_mono (hi.src hA st.inv i) (fun it s₂ h => SrcAt.pre st h) fun _ _ e => e
end
end Mine
end

section
namespace Mine
variable {sc : Scope} {mc : List Str}
open PySem PySem.Calls PyProof.Rows
noncomputable def relS (scope sc : Scope) : Scope := { scope with names := scope.names.map fun (n, k) => if (k == .free && sc.kind == .function && sc.names.lookup n == some .cell) then (n, .cell) else (n, k) }
noncomputable def cellNames : List (Str × NameKind) → List Str
  | [] => []
  | (n, k) :: r => if k == .cell then n :: cellNames r else cellNames r
noncomputable def closeList (cells : List (Str × Addr)) : List (Str × NameKind) → List (Str × Addr) → List (Str × Addr)
  | [], acc => acc
  | (n, k) :: r, acc => if k == .free then closeList cells r ((n, (cells.lookup n).getD 0) :: acc) else closeList cells r acc
theorem closureFor_eq (scope : Scope) (env : Env) (h : ∀ x ∈ scope.names, x.2 = .free → ∃ c, env.cells.lookup x.1 = some c) : closureFor scope env = pure (closeList env.cells scope.names []) := by
  have key : ∀ (l : List (Str × NameKind)) (acc : List (Str × Addr)), (∀ x ∈ l, x.2 = .free → ∃ c, env.cells.lookup x.1 = some c) →
      forIn l acc (fun (x : Str × NameKind) (r : List (Str × Addr)) => (if (x.2 == NameKind.free) = true then do
        let a ← cellOf env x.1
        pure (ForInStep.yield ((x.1, a) :: r)) else pure (ForInStep.yield r) : Sem (ForInStep (List (Str × Addr))))) = (pure (closeList env.cells l acc) : Sem _) := by
    intro l
    induction l with
    | nil => intro acc _; rfl
    | cons x l ih =>
      intro acc hx
      obtain ⟨n, k⟩ := x
      rw [List.forIn_cons]
      by_cases hk : (k == NameKind.free) = true
      · obtain ⟨c, hc⟩ := hx (n, k) (.head _) (by simpa using hk)
        have hc : env.cells.lookup n = some c := hc
        simp only [hk, if_true, closeList]
        have e : cellOf env n = pure c := by unfold cellOf; rw [hc]
        rw [e, hc]
        show (forIn l ((n, c) :: acc) _ : Sem _) = _
        exact ih _ fun y hy => hx y (.tail _ hy)
      · simp only [hk, Bool.false_eq_true, if_false, closeList]
        show (forIn l acc _ : Sem _) = _
        exact ih _ fun y hy => hx y (.tail _ hy)
  have := key scope.names [] h
  show (forIn scope.names [] _ >>= fun cs => pure cs) = _
  rw [show (forIn scope.names ([] : List (Str × Addr)) (fun (x : Str × NameKind) (r : List (Str × Addr)) => (match x with
      | (name, kind) => if (kind == NameKind.free) = true then do
        let a ← cellOf env name
        pure (ForInStep.yield ((name, a) :: r)) else pure (ForInStep.yield r) : Sem (ForInStep (List (Str × Addr))))) : Sem _) = pure (closeList env.cells scope.names []) from this]
  rfl
set_option tactic.hygienic true in
theorem closeList_mem {cells : List (Str × Addr)} : ∀ {l : List (Str × NameKind)} {acc : List (Str × Addr)} {p : Str × Addr}, p ∈ closeList cells l acc → p ∈ acc ∨ ((p.1, NameKind.free) ∈ l ∧ p.2 = (cells.lookup p.1).getD 0)
  | [], acc, p, h => .inl h
  | (n, k) :: r, acc, p, h => by
    rw [closeList] at h
    split at h
    · rename_i hk
      have hk : k = .free := by simpa using hk
      subst hk
      rcases closeList_mem h with q | ⟨q, e⟩
      · rcases List.mem_cons.mp q with rfl | q
        · exact .inr ⟨.head _, rfl⟩
        · exact .inl q
      · exact .inr ⟨.tail _ q, e⟩
    · rcases closeList_mem h with q | ⟨q, e⟩
      · exact .inl q
      · exact .inr ⟨.tail _ q, e⟩
set_option tactic.hygienic true in
theorem closeList_has {cells : List (Str × Addr)} : ∀ {l : List (Str × NameKind)} {acc : List (Str × Addr)} {x : Str}, ((x, NameKind.free) ∈ l ∨ x ∈ acc.map (·.1)) → x ∈ (closeList cells l acc).map (·.1)
  | [], acc, x, h => h.elim (fun h => nomatch h) id
  | (n, k) :: r, acc, x, h => by
    rw [closeList]
    split
    · refine closeList_has ?_
      rcases h with h | h
      · rcases List.mem_cons.mp h with e | h
        · obtain ⟨rfl, rfl⟩ := Prod.mk.inj e; exact .inr (.head _)
        · exact .inl h
      · exact .inr (.tail _ h)
    · rename_i hk
      refine closeList_has ?_
      rcases h with h | h
      · rcases List.mem_cons.mp h with e | h
        · obtain ⟨rfl, rfl⟩ := Prod.mk.inj e; simp at hk
        · exact .inl h
      · exact .inr h
theorem cellsFrom_mem : ∀ {l : List (Str × NameKind)} {n : Nat} {acc : List (Str × Addr)} {p : Str × Addr}, p ∈ cellsFrom n l acc → p ∈ acc ∨ (p.1 ∈ cellNames l ∧ n ≤ p.2)
  | [], n, acc, p, h => .inl h
  | (x, k) :: r, n, acc, p, h => by
    rw [cellsFrom] at h
    by_cases hk : (k == NameKind.cell) = true
    · rw [if_pos hk] at h
      simp only [cellNames, hk, if_true]
      rcases cellsFrom_mem h with q | ⟨q, e⟩
      · rcases List.mem_cons.mp q with rfl | q
        · exact .inr ⟨.head _, Nat.le_refl _⟩
        · exact .inl q
      · exact .inr ⟨.tail _ q, by lia⟩
    · rw [if_neg hk] at h
      simp only [cellNames, hk]
      exact cellsFrom_mem h
theorem cellsFrom_has : ∀ {l : List (Str × NameKind)} {n : Nat} {acc : List (Str × Addr)} {x : Str}, (x ∈ cellNames l ∨ x ∈ acc.map (·.1)) → x ∈ (cellsFrom n l acc).map (·.1)
  | [], n, acc, x, h => h.elim (fun h => nomatch h) id
  | (y, k) :: r, n, acc, x, h => by
    rw [cellsFrom]
    by_cases hk : (k == NameKind.cell) = true
    · rw [if_pos hk]
      simp only [cellNames, hk, if_true] at h
      refine cellsFrom_has ?_
      rcases h with h | h
      · rcases List.mem_cons.mp h with e | h
        · subst e; exact .inr (.head _)
        · exact .inl h
      · exact .inr (.tail _ h)
    · rw [if_neg hk]
      simp only [cellNames, hk] at h
      exact cellsFrom_has h
theorem cellsFrom_new : ∀ (l : List (Str × NameKind)) (h : Heap) (acc : List (Str × Addr)), (acc.Pairwise fun x y => x.2 ≠ y.2) → (∀ p ∈ acc, p.2 < h.objs.size) →
    ((cellsFrom h.objs.size l acc).Pairwise fun x y => x.2 ≠ y.2) ∧ (∀ p ∈ cellsFrom h.objs.size l acc, p ∈ acc ∨ (pushCells h l).IsCell p.2 none)
  | [], h, acc, hp, hl => ⟨hp, fun p hm => .inl hm⟩
  | (x, k) :: r, h, acc, hp, hl => by
    rw [cellsFrom, pushCells]
    by_cases hk : (k == NameKind.cell) = true
    · rw [if_pos hk, if_pos hk]
      have := cellsFrom_new r (h.push { cls := .type "cell", data := .cell none }) ((x, h.objs.size) :: acc) (List.pairwise_cons.mpr ⟨fun y hy e => by
        have h1 := hl y hy
        have e : h.objs.size = y.2 := e
        rw [e] at h1
        exact Nat.lt_irrefl _ h1, hp⟩) (fun p hm => by
          rw [Heap.size_push]
          rcases List.mem_cons.mp hm with rfl | hm
          · exact Nat.lt_succ_self _
          · exact Nat.lt_succ_of_lt (hl p hm))
      rw [Heap.size_push] at this
      refine ⟨this.1, fun p hm => ?_⟩
      rcases this.2 p hm with q | q
      · rcases List.mem_cons.mp q with rfl | q
        · exact .inr ⟨_, pushCells_keeps _ _ _ _ (Heap.get?_push_size _ rfl), rfl⟩
        · exact .inl q
      · exact .inr q
    · rw [if_neg hk, if_neg hk]
      exact cellsFrom_new r h acc hp hl
end Mine
end

section
namespace Mine
variable {sc : Scope} {mc : List Str}
open PySem PySem.Calls PyProof.Rows
noncomputable def LEnv.vals : LEnv → LEnv
  | [] => []
  | (x, .val d) :: r => (x, .val d) :: LEnv.vals r
  | (x, .own d) :: r => (LEnv.vals r).filter fun p => !(p.1 == x)
theorem lookup_filter {p : Str → Bool} {x : Str} {l : Loc} : ∀ {ρ : LEnv}, (ρ.filter fun q => p q.1).lookup x = some l → ρ.lookup x = some l ∧ p x = true
  | [], h => by simp at h
  | (y, l') :: r, h => by
    rw [List.filter_cons] at h
    by_cases hp : p y = true
    · simp only [hp, if_true] at h
      rw [List.lookup_cons] at h ⊢
      by_cases q : x = y
      · subst q; simp at h ⊢; exact ⟨h, hp⟩
      · rw [beq_eq_false_iff_ne.mpr q] at h ⊢; exact lookup_filter h
    · simp only [hp, Bool.false_eq_true, if_false] at h
      obtain ⟨h1, h2⟩ := lookup_filter h
      have : x ≠ y := fun q => by subst q; exact hp h2
      rw [List.lookup_cons, beq_eq_false_iff_ne.mpr this]
      exact ⟨h1, h2⟩
theorem lookup_vals {x : Str} {l : Loc} : ∀ {ρ : LEnv}, ρ.vals.lookup x = some l → ρ.lookup x = some l ∧ ∃ d, l = .val d
  | [], h => by simp [LEnv.vals] at h
  | (y, .val d) :: r, h => by
    rw [LEnv.vals, List.lookup_cons] at h
    rw [List.lookup_cons]
    by_cases q : x = y
    · subst q; simp at h ⊢; exact ⟨h, d, h.symm⟩
    · rw [beq_eq_false_iff_ne.mpr q] at h ⊢; exact lookup_vals h
  | (y, .own d) :: r, h => by
    rw [LEnv.vals] at h
    obtain ⟨h1, h2⟩ := lookup_filter (p := fun z => !(z == y)) h
    have q : x ≠ y := by simpa using h2
    rw [List.lookup_cons, beq_eq_false_iff_ne.mpr q]
    exact lookup_vals h1
noncomputable def LEnv.inner (scope : Scope) (ρ : LEnv) : LEnv := ρ.vals.filter fun p => scope.names.lookup p.1 == some .free
theorem lookup_inner {scope : Scope} {x : Str} {l : Loc} {ρ : LEnv} (h : (ρ.inner scope).lookup x = some l) : ρ.lookup x = some l ∧ scope.names.lookup x = some .free ∧ ∃ d, l = .val d := by
  obtain ⟨h1, h2⟩ := lookup_filter (p := fun z => scope.names.lookup z == some .free) h
  obtain ⟨h3, h4⟩ := lookup_vals h1
  exact ⟨h3, by simpa using h2, h4⟩
noncomputable def compFit (scope sc : Scope) : Bool := scope.kind == .function && decide ((scope.names.map (·.1)).Nodup) && scope.names.all fun x => x.2 != .free || sc.names.lookup x.1 == some .cell || sc.names.lookup x.1 == some .free
theorem lookup_of_mem {α : Type} : ∀ {l : List (Str × α)} {n : Str} {c : α}, (l.map (·.1)).Nodup → (n, c) ∈ l → l.lookup n = some c
  | (k, v) :: r, n, c, hn, h => by
    simp only [List.map_cons, List.nodup_cons] at hn
    rcases List.mem_cons.mp h with e | h
    · obtain ⟨rfl, rfl⟩ := Prod.mk.inj e; simp
    · have : n ≠ k := fun q => hn.1 (by rw [← q]; exact List.mem_map_of_mem h)
      rw [List.lookup_cons, beq_eq_false_iff_ne.mpr this]
      exact lookup_of_mem hn.2 h
theorem lookup_some_of_mem {α : Type} : ∀ {l : List (Str × α)} {n : Str}, n ∈ l.map (·.1) → ∃ c, l.lookup n = some c
  | (k, v) :: r, n, h => by
    by_cases q : n = k
    · subst q; exact ⟨v, by simp⟩
    · rw [List.lookup_cons, beq_eq_false_iff_ne.mpr q]
      simp only [List.map_cons, List.mem_cons] at h
      exact lookup_some_of_mem (h.resolve_left q)
theorem mem_cellNames {x : Str} : ∀ {l : List (Str × NameKind)}, x ∈ cellNames l ↔ (x, NameKind.cell) ∈ l
  | [] => by simp [cellNames]
  | (y, k) :: r => by
    by_cases hk : (k == NameKind.cell) = true
    · have : k = .cell := by simpa using hk
      subst this
      simp [cellNames, mem_cellNames]
    · simp only [cellNames, hk, Bool.false_eq_true, if_false, mem_cellNames, List.mem_cons, Prod.mk.injEq]
      constructor
      · exact .inr
      · rintro (⟨_, e⟩ | h)
        · subst e; simp at hk
        · exact h
theorem relS_lookup {scope sc : Scope} {x : Str} {k : NameKind} (h : scope.names.lookup x = some k) : ∃ k', (relS scope sc).names.lookup x = some k' ∧ (k = .free → k' = .cell ∨ k' = .free) ∧ (k ≠ .free → k' = k) := by
  unfold relS
  simp only
  generalize hl : scope.names = l at h
  clear hl
  induction l with
  | nil => simp at h
  | cons p r ih =>
    obtain ⟨y, ky⟩ := p
    rw [List.lookup_cons] at h
    rw [List.map_cons]
    by_cases q : x = y
    · subst q
      simp at h
      subst h
      by_cases hc : (ky == NameKind.free && sc.kind == ScopeKind.function && List.lookup x sc.names == some NameKind.cell) = true
      · have : ky = .free := by simp at hc; exact hc.1.1
        exact ⟨.cell, by simp [hc], fun _ => .inl rfl, fun h => absurd this h⟩
      · exact ⟨ky, by simp [hc], fun h => .inr h, fun _ => rfl⟩
    · rw [beq_eq_false_iff_ne.mpr q] at h
      obtain ⟨k', h1, h2⟩ := ih h
      refine ⟨k', ?_, h2⟩
      split <;> (rw [List.lookup_cons, beq_eq_false_iff_ne.mpr q]; exact h1)
theorem relS_lookup_inv {scope sc : Scope} {x : Str} {k' : NameKind} (h : (relS scope sc).names.lookup x = some k') : ∃ k, scope.names.lookup x = some k ∧ (k = .free → k' = .cell ∨ k' = .free) ∧ (k ≠ .free → k' = k) := by
  have : x ∈ scope.names.map (·.1) := by
    have h1 := List.mem_map_of_mem (f := (·.1)) (mem_of_lookup h)
    unfold relS at h1
    simp only [List.map_map] at h1
    have e : (scope.names.map ((·.1) ∘ fun (x : Str × NameKind) => if (x.2 == NameKind.free && sc.kind == ScopeKind.function && List.lookup x.1 sc.names == some NameKind.cell) = true then (x.1, NameKind.cell) else (x.1, x.2))) = scope.names.map (·.1) := by
      refine List.map_congr_left fun p _ => ?_
      simp only [Function.comp]
      split <;> rfl
    have h2 : x ∈ scope.names.map ((·.1) ∘ fun (x : Str × NameKind) => if (x.2 == NameKind.free && sc.kind == ScopeKind.function && List.lookup x.1 sc.names == some NameKind.cell) = true then (x.1, NameKind.cell) else (x.1, x.2)) := h1
    rw [e] at h2
    exact h2
  obtain ⟨k, hk⟩ := lookup_some_of_mem this
  obtain ⟨k'', h1, h2⟩ := relS_lookup (sc := sc) hk
  rw [h] at h1
  obtain rfl := Option.some.inj h1
  exact ⟨k, hk, h2⟩
set_option tactic.hygienic true in
theorem closeList_eq {cells : List (Str × Addr)} : ∀ {l : List (Str × NameKind)} {acc : List (Str × Addr)}, closeList cells l acc = ((l.filter fun x => x.2 == .free).map fun x => (x.1, (cells.lookup x.1).getD 0)).reverse ++ acc
  | [], acc => rfl
  | (n, k) :: r, acc => by
    rw [closeList, List.filter_cons]
    split
    · rename_i hk
      rw [closeList_eq]
      simp
    · exact closeList_eq
open Classical in
noncomputable def kpAll (G : Gl) (s : Shared) : Kept := ⟨fun b => if NoTab G b then s.heap.get? b else none, fun g => s.gens[g]?⟩
section
variable {G : Gl} {A : Around} {act : Act sc mc} {kp : Kept} {adr : Str → Addr} {ρ : LEnv} {S S₃ : Fz} {s s₃ : Shared} {scope : Scope}
noncomputable def compAct (act : Act sc mc) (scope : Scope) (C : Addr) : Act (relS scope sc) (cellNames scope.names) where
  env := { scope := relS scope sc, locals := C, globals := act.env.globals, cells := cellsFrom (C + 1) scope.names (closeList act.env.cells scope.names []), qual := act.env.qual, func := none, code := act.env.code, frame := act.env.frame, builtins := act.env.builtins }
  hsc := rfl
  mt := C :: ((cellsFrom (C + 1) scope.names (closeList act.env.cells scope.names [])).filter fun p => (cellNames scope.names).contains p.1).map (·.2)
theorem compFit.spec (h : compFit scope sc = true) : scope.kind = .function ∧ (scope.names.map (·.1)).Nodup ∧ ∀ x ∈ scope.names, x.2 = .free → sc.names.lookup x.1 = some .cell ∨ sc.names.lookup x.1 = some .free := by
  simp only [compFit, Bool.and_eq_true, decide_eq_true_eq, List.all_eq_true, Bool.or_eq_true, beq_iff_eq, bne_iff_ne, ne_eq] at h
  obtain ⟨⟨h1, h2⟩, h3⟩ := h
  refine ⟨h1, h2, fun x hx hf => ?_⟩
  rcases h3 x hx with (q | q) | q
  · exact absurd hf q
  · exact .inl q
  · exact .inr q
set_option tactic.hygienic true in
theorem OK.inner (O : OK G act kp adr ρ S s) (hfit : compFit scope sc = true) (st : Stp G S s S₃ s₃) :
    OK G (compAct act scope s₃.heap.objs.size) (kpAll G s) adr (ρ.inner scope) S₃ { s₃ with heap := pushCells (s₃.heap.push { cls := .type "dict", data := .dict #[] }) scope.names } := by
  obtain ⟨hk, hn, hf⟩ := compFit.spec hfit
  have O₃ := O.step st
  generalize hC : s₃.heap.objs.size = C
  have grow : ∀ b o, s₃.heap.get? b = some o → (pushCells (s₃.heap.push { cls := .type "dict", data := .dict #[] }) scope.names).get? b = some o := fun b o e => pushCells_keeps _ _ _ _ (Heap.get?_push_of_some _ e)
  have hcl : ∀ p ∈ closeList act.env.cells scope.names [], p ∈ act.env.cells ∧ (p.1, NameKind.free) ∈ scope.names := fun p hp => by
    rcases closeList_mem hp with q | ⟨q, e⟩
    · exact nomatch q
    · obtain ⟨c, hc⟩ := O.clo p.1 (hf _ q rfl)
      rw [hc] at e
      obtain ⟨x, y⟩ := p
      simp only [Option.getD_some] at e
      subst e
      exact ⟨cell_in hc, q⟩
  have hcl2 : (closeList act.env.cells scope.names []).Pairwise fun x y => x.2 ≠ y.2 := by
    rw [closeList_eq, List.append_nil, List.pairwise_reverse, List.pairwise_map]
    have nd : (scope.names.filter fun x => x.2 == .free).Pairwise fun x y => x.1 ≠ y.1 := (List.pairwise_map.mp hn).filter _
    refine nd.imp_of_mem fun {x y} hx hy hne e => ?_
    obtain ⟨hx1, hx2⟩ := List.mem_filter.mp hx
    obtain ⟨hy1, hy2⟩ := List.mem_filter.mp hy
    obtain ⟨c, hc⟩ := O.clo x.1 (hf _ hx1 (by simpa using hx2))
    obtain ⟨c', hc'⟩ := O.clo y.1 (hf _ hy1 (by simpa using hy2))
    rw [hc, hc'] at e
    simp only [Option.getD_some] at e
    subst e
    exact hne (name_of_addr O.apart (cell_in hc) (cell_in hc'))
  have szC : (s₃.heap.push { cls := .type "dict", data := .dict #[] }).objs.size = C + 1 := by rw [Heap.size_push, hC]
  have hlt : ∀ p ∈ closeList act.env.cells scope.names [], p.2 < (s₃.heap.push { cls := .type "dict", data := .dict #[] }).objs.size := fun p hp => by
    obtain ⟨_, v, o, ho, _⟩ := O₃.cells p (hcl p hp).1
    rw [Heap.size_push]
    exact Nat.lt_succ_of_lt (Heap.lt_size ho)
  obtain ⟨new1, new2⟩ := cellsFrom_new scope.names (s₃.heap.push { cls := .type "dict", data := .dict #[] }) (closeList act.env.cells scope.names []) hcl2 hlt
  rw [szC] at new1 new2
  have ownCell : ∀ p ∈ cellsFrom (C + 1) scope.names (closeList act.env.cells scope.names []), p.1 ∈ cellNames scope.names → C + 1 ≤ p.2 := fun p hp hx => by
    rcases cellsFrom_mem hp with q | ⟨_, q⟩
    · have h1 := (hcl p q).2
      have h2 := mem_cellNames.mp hx
      have e1 := lookup_of_mem hn h1
      have e2 := lookup_of_mem hn h2
      rw [e1] at e2
      cases e2
    · exact q
  have st₄ := st.inv.keeps (h' := pushCells (s₃.heap.push { cls := .type "dict", data := .dict #[] }) scope.names) (t := s₃.toks) grow
  have fresh : ∀ b, C ≤ b → s₃.heap.get? b = none := fun b hb => by
    cases q : s₃.heap.get? b with
    | none => rfl
    | some o => exact absurd (Heap.lt_size q) (by rw [hC]; exact Nat.not_lt.mpr hb)
  have freshS : ∀ b, C ≤ b → S₃ b = none := fun b hb => by
    cases q : S₃ b with
    | none => rfl
    | some o => have := st.inv.sub _ _ q; rw [fresh b hb] at this; exact nomatch this
  have freshK : ∀ b, C ≤ b → (kpAll G s).objs b = none := fun b hb => by
    unfold kpAll
    simp only
    split
    · rename_i nt
      cases q : s.heap.get? b with
      | none => rfl
      | some o => have := st.keep b o nt q; rw [fresh b hb] at this; exact nomatch this
    · rfl
  have nsC : (pushCells (s₃.heap.push { cls := .type "dict", data := .dict #[] }) scope.names).Ns C fun _ => none := by
    rw [← hC]; exact (Heap.Ns.new s₃.heap (.type "dict")).keeps (pushCells_keeps _ _)
  exact {
    inv := st₄.inv
    kept := fun a o e => by
      unfold kpAll at e
      simp only at e
      split at e
      · rename_i nt; exact grow _ _ (st.keep a o nt e)
      · exact nomatch e
    knt := fun a o e => by
      unfold kpAll at e
      simp only at e
      split at e
      · assumption
      · exact nomatch e
    kgens := fun g x e => st.gens g x e
    fn := hk
    glob := O.glob
    blt := O.blt
    ns := ⟨_, nsC⟩
    mtL := .head _
    mt := fun b hb => by
      have hCb : C ≤ b ∧ ∃ o, (pushCells (s₃.heap.push { cls := .type "dict", data := .dict #[] }) scope.names).get? b = some o := by
        rcases List.mem_cons.mp hb with rfl | hb
        · obtain ⟨o, _, _, ho, _⟩ := nsC; exact ⟨Nat.le_refl _, o, ho⟩
        · obtain ⟨p, hp, rfl⟩ := List.mem_map.mp hb
          obtain ⟨hp1, hp2⟩ := List.mem_filter.mp hp
          have hx : p.1 ∈ cellNames scope.names := by simpa using hp2
          have hge := ownCell p hp1 hx
          refine ⟨by lia, ?_⟩
          rcases new2 p hp1 with q | ⟨o, ho, _⟩
          · have := hlt p q
            rw [szC] at this
            exact absurd this (Nat.not_lt.mpr hge)
          · exact ⟨o, ho⟩
      exact ⟨freshS b hCb.1, freshK b hCb.1, st.inv.noTabFresh (fresh b hCb.1), hCb.2⟩
    mtc := fun x hx => by
      obtain ⟨c, hc⟩ := lookup_some_of_mem (cellsFrom_has (n := C + 1) (acc := closeList act.env.cells scope.names []) (.inl hx))
      refine ⟨c, hc, .tail _ (List.mem_map.mpr ⟨(x, c), List.mem_filter.mpr ⟨mem_of_lookup hc, by simpa using hx⟩, rfl⟩)⟩
    apart := new1
    clo := fun x hx => by
      have : x ∈ cellNames scope.names ∨ x ∈ (closeList act.env.cells scope.names []).map (·.1) := by
        have hx' : ∃ k', (relS scope sc).names.lookup x = some k' ∧ (k' = .cell ∨ k' = .free) := hx.elim (fun h => ⟨_, h, .inl rfl⟩) fun h => ⟨_, h, .inr rfl⟩
        obtain ⟨k', h1, h2⟩ := hx'
        obtain ⟨k, h3, h4, h5⟩ := relS_lookup_inv h1
        by_cases q : k = .free
        · subst q; exact .inr (closeList_has (.inl (mem_of_lookup h3)))
        · have := h5 q
          subst this
          rcases h2 with rfl | rfl
          · exact .inl (mem_cellNames.mpr (mem_of_lookup h3))
          · exact absurd rfl q
      exact lookup_some_of_mem (cellsFrom_has this)
    cells := fun p hp => by
      rcases new2 p hp with q | ⟨o, ho, hd⟩
      · obtain ⟨nt, v, o, ho, hd⟩ := O₃.cells p (hcl p q).1
        exact ⟨nt, v, o, grow _ _ ho, hd⟩
      · rcases cellsFrom_mem hp with q | ⟨_, q⟩
        · obtain ⟨nt, v, o, ho, hd⟩ := O₃.cells p (hcl p q).1
          exact ⟨nt, v, o, grow _ _ ho, hd⟩
        · exact ⟨st.inv.noTabFresh (fresh p.2 (by lia)), .none, o, ho, hd⟩
    vars := fun x l e => by
      obtain ⟨h1, h2, d, rfl⟩ := lookup_inner e
      obtain ⟨v, r, i⟩ := O₃.vars x _ h1
      refine ⟨v, ?_, i⟩
      have hkd := hf _ (mem_of_lookup h2) rfl
      obtain ⟨k', h3, h4, _⟩ := relS_lookup (sc := sc) h2
      have kk : (compAct act scope C).env.kindOf x = some .cell ∨ (compAct act scope C).env.kindOf x = some .free := by
        rw [Act.kindOf, h3]
        rcases h4 rfl with rfl | rfl
        · exact .inl rfl
        · exact .inr rfl
      rcases r with ⟨k, _⟩ | ⟨_, c, hc, hv⟩
      · rw [act.kindOf] at k
        have k : sc.names.lookup x = some .local := k
        rcases hkd with q | q <;> (have q : sc.names.lookup x = _ := q; rw [k] at q; cases q)
      · refine .inr ⟨kk, c, ?_, let ⟨o, ho, hd⟩ := hv; ⟨o, grow _ _ ho, hd⟩⟩
        have hmem : x ∈ (closeList act.env.cells scope.names []).map (·.1) := closeList_has (.inl (mem_of_lookup h2))
        obtain ⟨c', hc'⟩ := lookup_some_of_mem (cellsFrom_has (n := C + 1) (l := scope.names) (.inr hmem))
        have hm := mem_of_lookup hc'
        rcases cellsFrom_mem hm with q | ⟨q, _⟩
        · have := (hcl _ q).1
          rcases closeList_mem q with q' | ⟨_, e'⟩
          · exact nomatch q'
          · simp only at e'
            rw [hc] at e'
            simp only [Option.getD_some] at e'
            rw [e'] at hc'
            exact hc'
        · have h2' := mem_cellNames.mp q
          have e1 := lookup_of_mem hn h2'
          rw [h2] at e1
          cases e1
    inj := fun x y dx dy ex ey => by
      obtain ⟨_, _, d, q⟩ := lookup_inner ex
      exact nomatch q }
end
end Mine
end

section
namespace Mine
variable {sc : Scope} {mc : List Str}
open PySem PySem.Calls PyProof.Rows
structure AccO (G : Gl) (act : Act sc mc) (kp : Kept) (S : Fz) (s : Shared) (Dd : Addr) (d : D) : Prop where
  obj : ∃ o, s.heap.get? Dd = some o ∧ Own G S o d
  S : S Dd = none
  ko : kp.objs Dd = none
  mt : Dd ∉ act.mt
  cells : ∀ p ∈ act.env.cells, p.2 ≠ Dd
noncomputable def App (G : Gl) (A : Around) (act : Act sc mc) (ρ : LEnv) (tail : Value → Sem Unit) (d d' : D) : Prop := ∀ kp adr S s Dd, OK G act kp adr ρ S s → AccO G act kp S s Dd d →
  (∀ x d, ρ.lookup x = some (.own d) → False) →
  wpAny G.M A (tail (.ref Dd)) (fun _ s' => ∃ S', Gro kp S S' ∧ OK G act kp adr ρ S' s' ∧ AccO G act kp S' s' Dd d') No s
noncomputable def testsTree (ifs : List Expr) (env : Env) : Sem Bool := forIn ifs true fun c r => if r = true then do let ok ← isTrue c env (eval c env); pure (ForInStep.yield ok) else pure (ForInStep.yield r)
noncomputable def turnTree (p : Pos) (tgt : Expr) (ifs : List Expr) (it : Value) (env : Env) (tail : Sem Unit) (c : Code) : Sem Fin := standAt p >>= fun _ => pyNext it >>= fun r => match r with
  | none => pure (.done .next)
  | some v => letOwnedTupleGo tgt it v >>= fun _ => assign tgt env v >>= fun _ => testsTree ifs env >>= fun ok => if ok = true then (tail >>= fun _ => again c) else again c
noncomputable def Tests (G : Gl) (A : Around) (act : Act sc mc) (ρ : LEnv) : List Expr → Bool → Prop
  | [], b => b = true
  | c :: cs, b => ∃ b1 b2, Te G A act ρ c b1 ∧ (b1 = true → Tests G A act ρ cs b2) ∧ b = (b1 && b2)
section
variable {G : Gl} {A : Around} {act : Act sc mc} {kp : Kept} {adr : Str → Addr} {ρ ρ₁ : LEnv} {S S' : Fz} {s s' : Shared} {d d' : D} {Dd : Addr} {tgt : Expr} {ifs : List Expr} {b : Bool}
theorem testsFalse (env : Env) : ∀ ifs : List Expr, (forIn ifs false (fun c r => if r = true then do let ok ← isTrue c env (eval c env); pure (ForInStep.yield ok) else pure (ForInStep.yield r)) : Sem Bool) = pure false
  | [] => rfl
  | c :: cs => by
    rw [List.forIn_cons]
    show (forIn cs false _ : Sem Bool) = _
    exact testsFalse env cs
theorem Tests.wp : ∀ {ifs : List Expr} {b : Bool} {S : Fz} {s : Shared}, Tests G A act ρ ifs b → OK G act kp adr ρ S s → wpAny G.M A (testsTree ifs act.env) (Post G S s fun _ r => r = b) No s
  | [], b, S, s, h, O => wpAny_pure ⟨S, .refl O.inv, (show b = true from h).symm⟩
  | c :: cs, b, S, s, ⟨b1, b2, h1, h2, e⟩, O => by
    unfold testsTree
    rw [List.forIn_cons]
    show wpAny G.M A ((do let ok ← isTrue c act.env (eval c act.env); pure (ForInStep.yield ok)) >>= _) _ _ _
    refine wpAny_bind (wpAny_bind (wpAny_mono (h1 kp adr S s O) (fun r s₁ ⟨S₁, st, er⟩ => wpAny_pure ?_) fun _ _ e => e))
    subst er
    cases r with
    | true =>
      refine wpAny_mono (Tests.wp (h2 rfl) (O.step st)) (fun r s₂ ⟨S₂, st₂, er⟩ => ⟨S₂, st.trans st₂, ?_⟩) fun _ _ e => e
      rw [er, e]; rfl
    | false =>
      show wpAny G.M A (forIn cs false _) _ _ _
      rw [testsFalse]
      exact wpAny_pure ⟨S₁, st, by rw [e]; rfl⟩
theorem AccO.nx {ft ft' : Foot} (a : AccO G act kp S s Dd d) (I : Inv G S s) (n : Nx G ft S s S' s' ft') (hf : Dd ∉ ft.adr) : AccO G act kp S' s' Dd d := by
  obtain ⟨o, ho, w⟩ := a.obj
  have hS : S' Dd = none := by
    cases q : S' Dd with
    | none => rfl
    | some o' =>
      rcases n.new _ o' q with e | e
      · rw [a.S] at e; exact nomatch e
      · rw [ho] at e; exact nomatch e
  exact ⟨⟨o, n.keep _ _ hf (I.noTab ho w.cls) ho, w.mono n.sub⟩, hS, a.ko, a.mt, a.cells⟩
theorem AccO.step (a : AccO G act kp S s Dd d) (I : Inv G S s) (st : Stp G S s S' s') : AccO G act kp S' s' Dd d := by
  obtain ⟨o, ho, w⟩ := a.obj
  have hS : S' Dd = none := by
    cases q : S' Dd with
    | none => rfl
    | some o' =>
      rcases st.new _ o' q with e | e
      · rw [a.S] at e; exact nomatch e
      · rw [ho] at e; exact nomatch e
  exact ⟨⟨o, st.keep _ _ (I.noTab ho w.cls) ho, w.mono st.sub⟩, hS, a.ko, a.mt, a.cells⟩
theorem comp_loop {c : Code} {it : Value} {p : Pos} {tail : Value → Sem Unit} (hq : c.quiet = true)
    (hden : ∀ (Q : PySem.Fin → Shared → Prop) (E : Value → Shared → Prop) (s : Shared), wpAny G.M A (turnTree p tgt ifs it act.env (tail (.ref Dd)) c) Q No s → wpAny G.M (A.under c) (G.M.den c) Q E s)
    (hown : ∀ x d, ρ.lookup x = some (.own d) → False)
    (J : List D → D → Prop)
    (turn : ∀ x xs d, J (x :: xs) d → ∃ ρ₁ b d', Takes G A act tgt x ρ ρ₁ ∧ (∀ y l, ρ.lookup y = some l → ρ₁.lookup y = some l) ∧ Tests G A act ρ₁ ifs b ∧ (b = true → App G A act ρ₁ tail d d') ∧ (b = false → d' = d) ∧ J xs d')
    {R : Result → Shared → Prop} (hR : ∀ S' s' d', J [] d' → Gro kp S S' → OK G act kp adr ρ S' s' → AccO G act kp S' s' Dd d' → R (.ok .next) s')
    {xs : List D} {ft : Foot} (h0 : J xs d) (O : OK G act kp adr ρ S s) (acc : AccO G act kp S s Dd d) (ap : Aside act kp adr ρ ft) (hf : Dd ∉ ft.adr) (hy : Yields G A tgt it xs ft S s) :
    codeAny G.M A c R s := by
  refine codeAny_loop hq (fun n s' => ∃ xs d S' ft, n = xs.length + 1 ∧ Gro kp S S' ∧ OK G act kp adr ρ S' s' ∧ AccO G act kp S' s' Dd d ∧ Aside act kp adr ρ ft ∧ Dd ∉ ft.adr ∧ Yields G A tgt it xs ft S' s' ∧ J xs d) ?_ (xs.length + 1)
    ⟨xs, d, S, ft, rfl, .refl .., O, acc, ap, hf, hy, h0⟩
  rintro n s' ⟨xs, d, S', ft, rfl, g, O', acc, ap, hf, hy, hJ⟩
  refine hden _ _ _ ?_
  have gd := hy.good
  unfold turnTree
  refine wpAny_bind (wpAny_standAt (wpAny_bind ?_))
  cases xs with
  | nil =>
    refine wpAny_mono (hy.2 S' s' (.refl O'.inv gd)) (fun r s₃ h => ?_) fun _ _ e => e.elim
    cases r with
    | none =>
      (refine cps fun ZP zk => ?_; obtain ⟨_, S₃, ft₃, nx⟩ := h; refine zk ?_)
      exact wpAny_pure (hR _ _ _ hJ (g.trans (O'.nxGro nx)) (O'.nx ap nx) (acc.nx O'.inv nx hf))
    | some v => exact wpAny_bind (wpAny_mono h (fun _ s₄ h => nomatch h.1) fun _ _ e => e)
  | cons x xs =>
    refine wpAny_mono (hy.2 S' s' (.refl O'.inv gd)) (fun r s₃ h => ?_) fun _ _ e => e.elim
    cases r with
    | none => (refine cps fun ZP zk => ?_; obtain ⟨_, _, _, h, _⟩ := h; refine zk ?_); exact nomatch h
    | some v =>
      refine wpAny_bind (wpAny_mono h (fun _ s₄ h => ?_) fun _ _ e => e.elim)
      (refine cps fun ZP zk => ?_; obtain ⟨v', S₄, ft₄, hv, nx, i, hy₄⟩ := h; refine zk ?_)
      obtain rfl := Option.some.inj hv
      have O₄ := O'.nx ap nx
      have ap₄ := ap.nx O' nx
      have acc₄ := acc.nx O'.inv nx hf
      have hf₄ : Dd ∉ ft₄.adr := fun h => by
        rcases nx.adr _ h with q | q
        · exact hf q
        · obtain ⟨o, ho, _⟩ := acc.obj; rw [ho] at q; exact nomatch q
      (refine cps fun ZP zk => ?_; obtain ⟨ρ₁, b, d', tk, hρ, ht, ha, hb, hJ'⟩ := turn x xs d hJ; refine zk ?_)
      have gd₄ := hy₄.good
      have live : ∀ a ∈ ft₄.adr, ∃ o, s₄.heap.get? a = some o := fun a ha => (gd₄.adr a ha).2.2
      have W := O₄.with gd₄ ap₄
      -- the filled one kept too
      have gdD : Good G ⟨[Dd], []⟩ S₄ s₄ := ⟨fun a ha => by
        rw [List.mem_singleton.mp ha]
        obtain ⟨o, ho, w⟩ := acc₄.obj
        exact ⟨acc₄.S, O₄.inv.noTab ho w.cls, o, ho⟩, fun _ h => nomatch h⟩
      have apD : Aside act (kp.with ft₄ s₄) adr ρ ⟨[Dd], []⟩ := ⟨fun a ha => by rw [List.mem_singleton.mp ha]; exact acc₄.mt, fun a ha => by rw [List.mem_singleton.mp ha]; exact acc₄.cells,
        fun a _ x d hx => (hown x d hx).elim, fun a ha => by
          rw [List.mem_singleton.mp ha]
          unfold Kept.with; simp only
          rw [if_neg hf₄]; exact acc₄.ko, fun _ h => nomatch h⟩
      have W₂ := W.with gdD apD
      refine wpAny_bind (wpAny_mono (tk _ adr S₄ s₄ v W₂ i) (fun _ s₅ ⟨S₅, adr₅, g₅, O₅, own₅⟩ => ?_) fun _ _ e => e.elim)
      have hown₁ : ∀ x d, ρ₁.lookup x = some (.own d) → False := fun x d hx => by obtain ⟨d₀, h, _⟩ := own₅ x d hx; exact hown x d₀ h
      refine wpAny_bind (wpAny_mono (ht.wp O₅) (fun ok s₆ ⟨S₆, st₆, e₆⟩ => ?_) fun _ _ e => e.elim)
      subst e₆
      have O₆ := O₅.step st₆
      have g₆ := g₅.trans (O₅.gro st₆)
      have afD := O₆.afterTurn gdD g₆
      have O₆' := O₆.without apD.ko apD.kgn
      have g₆' : Gro (kp.with ft₄ s₄) S₄ S₆ := g₆.without (fun a ha => (gdD.adr a ha).2.2) apD.ko
      have acc₆ : AccO G act (kp.with ft₄ s₄) S₆ s₆ Dd d := by
        obtain ⟨o, ho, w⟩ := acc₄.obj
        exact ⟨⟨o, afD.same.adr Dd (.head _) o ho, w.mono g₆'.sub⟩, afD.off Dd (.head _), apD.ko Dd (.head _), acc₄.mt, acc₄.cells⟩
      have fin : ∀ S₇ s₇ d', Gro (kp.with ft₄ s₄) S₄ S₇ → OK G act (kp.with ft₄ s₄) adr₅ ρ₁ S₇ s₇ → AccO G act (kp.with ft₄ s₄) S₇ s₇ Dd d' → J xs d' →
          ∃ m, m < (x :: xs).length + 1 ∧ ∃ xs d S' ft, m = xs.length + 1 ∧ Gro kp S S' ∧ OK G act kp adr ρ S' s₇ ∧ AccO G act kp S' s₇ Dd d ∧ Aside act kp adr ρ ft ∧ Dd ∉ ft.adr ∧ Yields G A tgt it xs ft S' s₇ ∧ J xs d := by
        intro S₇ s₇ d' g₇ O₇ acc₇ hJ₇
        have af := O₇.afterTurn gd₄ g₇
        have O₈ := O₇.without ap₄.ko ap₄.kgn
        have O₉ : OK G act kp adr ρ S₇ s₇ := { O₈ with
          vars := fun y l e => by
            have q := O₈.vars y l (hρ y l e)
            cases l with
            | val d => exact q
            | own d => exact (hown _ _ e).elim
          inj := fun y z dy dz ey ez => (hown _ _ ey).elim }
        have acc₉ : AccO G act kp S₇ s₇ Dd d' := ⟨acc₇.obj, acc₇.S, acc.ko, acc₇.mt, acc₇.cells⟩
        exact ⟨xs.length + 1, by simp, xs, d', S₇, ft₄, rfl, (g.trans (O'.nxGro nx)).trans (g₇.without live ap₄.ko), O₉, acc₉, ap₄, hf₄, hy₄.later af, hJ₇⟩
      cases ok with
      | true =>
        simp only [if_true]
        refine wpAny_bind (wpAny_mono (ha rfl _ adr₅ S₆ s₆ Dd O₆' acc₆ hown₁) (fun _ s₇ ⟨S₇, g₇, O₇, acc₇⟩ => ?_) fun _ _ e => e.elim)
        exact wpAny_pure ⟨rfl, fin S₇ s₇ d' (g₆'.trans g₇) O₇ acc₇ hJ'⟩
      | false =>
        simp only [Bool.false_eq_true, if_false]
        have := hb rfl
        subst this
        exact wpAny_pure ⟨rfl, fin S₆ s₆ d' g₆' O₆' acc₆ hJ'⟩
end
end Mine
end

section
namespace Mine
variable {sc : Scope} {mc : List Str}
open PySem PySem.Calls PyProof.Rows
theorem newCompEnv {G : Gl} {A : Around} {E : Value → Shared → Prop} {s : Shared} {scope : Scope} {cl : List (Str × Addr)} {env : Env} {Q : Env → Shared → Prop}
    (h : Q { scope := scope, locals := s.heap.objs.size, globals := env.globals, cells := cellsFrom (s.heap.objs.size + 1) scope.names cl, qual := env.qual, func := none, code := env.code, frame := env.frame, builtins := env.builtins }
      { s with heap := pushCells (s.heap.push { cls := .type "dict", data := .dict #[] }) scope.names }) :
    wpAny G.M A (newFunctionEnv scope env.globals cl [] env.qual none .none (some env)) Q E s := by
  simp only [newFunctionEnv, Option.isSome_some, if_true]
  refine wpAny_bind (wpAny_alloc ?_)
  refine wpAny_bind (wpAny_layCells _ (fun name kind cells => by cases hkc : kind == NameKind.cell <;> simp [hkc]) _ _ _ _ ?_)
  rw [show ({ s with heap := s.heap.push { cls := .type "dict", data := .dict #[] } } : Shared).heap.objs.size = s.heap.objs.size + 1 from Heap.size_push ..]
  exact wpAny_bind (wpAny_pure (wpAny_pure h))
theorem relabel_eq (act : Act sc mc) (scope : Scope) : relabel scope act.env = relS scope sc := by
  unfold relabel relS
  simp only [Act.kindOf, act.hsc]
section
variable {G : Gl} {A : Around} {act : Act sc mc} {kp : Kept} {adr : Str → Addr} {ρ : LEnv} {S S' : Fz} {s s' : Shared} {d : D} {tgt iter e : Expr} {ifs : List Expr} {scope : Scope} {C Dd : Addr}
theorem inner_out (O : OK G act kp adr ρ S s) {ρ' : LEnv} {sc' : Scope} {mc' : List Str} {act' : Act sc' mc'} {S₄ : Fz} (st : Sub S S₄) (new : ∀ a o, S₄ a = some o → S a = some o ∨ s.heap.get? a = none) (g : Gro (kpAll G s) S₄ S') (O' : OK G act' (kpAll G s) adr ρ' S' s')
    (acc : AccO G act' (kpAll G s) S' s' Dd d) : Stp G S s S' s' ∧ s.heap.get? Dd = none ∧ ∃ o, s'.heap.get? Dd = some o ∧ Own G S' o d ∧ S' Dd = none := by
  have key : ∀ b, (kpAll G s).objs b = none → NoTab G b → s.heap.get? b = none := fun b h nt => by
    unfold kpAll at h
    simp only at h
    rw [if_pos nt] at h
    exact h
  refine ⟨⟨O'.inv, st.trans g.sub, fun a o e => ?_, fun b o nt e => ?_, fun n x e => O'.kgens n x e⟩, ?_, ?_⟩
  · rcases g.new a o e with h | h
    · exact new a o h
    · exact .inr (key a h (O'.inv.noTabS e))
  · refine O'.kept b o ?_
    unfold kpAll; simp only
    rw [if_pos nt]; exact e
  · obtain ⟨o, ho, w⟩ := acc.obj
    exact key Dd acc.ko (O'.inv.noTab ho w.cls)
  · obtain ⟨o, ho, w⟩ := acc.obj
    exact ⟨o, ho, w, acc.S⟩
theorem comp_core {gs : List Comprehension} {pos : Pos} {p : Pos} {newAcc : Sem Value} {tail : Env → Value → Sem Unit} {o₀ : Obj} {d₀ : D} {use : Option (Value → Sem Unit)} {Q : Value → Shared → Prop} {xs : List D} (hfit : compFit scope sc = true)
    (hcl : clausesOf e = ⟨tgt, iter, ifs, 0⟩ :: gs) (hs : ∀ x, foldedSetIterable iter act.env x = pure x)
    (hnew : ∀ (s : Shared) (Q : Value → Shared → Prop), Q (.ref s.heap.objs.size) { s with heap := s.heap.push o₀ } → wpAny G.M A newAcc Q No s) (hown : ∀ S, Own G S o₀ d₀) (hfree : o₀.isFreed = false)
    (hstart : ∀ (it acc : Value) (env : Env) (R : Result → Shared → Prop) (s : Shared), codeAny G.M A (.compLoop e 0 it acc env) R s →
      wpAny G.M A (pyIter it) (fun it' s' => codeAny G.M A (.compLoop e 0 it' acc env) R s') (notedBy G.M A env fun x s' => R (.error x) s') s → codeAny G.M A (.compStart e 0 it acc env) R s)
    (hq : ∀ it acc env, (Code.compLoop e 0 it acc env).quiet = true)
    (hden : ∀ (it : Value) (Dd : Addr) (env : Env) (Q : PySem.Fin → Shared → Prop) (E : Value → Shared → Prop) (s : Shared), wpAny G.M A (turnTree p tgt ifs it env (tail env (.ref Dd)) (.compLoop e 0 it (.ref Dd) env)) Q No s →
      wpAny G.M (A.under (.compLoop e 0 it (.ref Dd) env)) (G.M.den (.compLoop e 0 it (.ref Dd) env)) Q E s)
    (hsrc : Src G A act ρ tgt iter xs) (J : List D → D → Prop) (h0 : J xs d₀)
    (turn : ∀ (act' : Act (relS scope sc) (cellNames scope.names)) x xs d, J (x :: xs) d → ∃ ρ₁ b d', Takes G A act' tgt x (ρ.inner scope) ρ₁ ∧ (∀ y l, (ρ.inner scope).lookup y = some l → ρ₁.lookup y = some l) ∧ Tests G A act' ρ₁ ifs b ∧
      (b = true → App G A act' ρ₁ (tail act'.env) d d') ∧ (b = false → d' = d) ∧ J xs d')
    (O : OK G act kp adr ρ S s)
    (hQ : ∀ S' s' C Dd d', J [] d' → Stp G S s S' s' → s.heap.get? Dd = none → (∃ o, s'.heap.get? Dd = some o ∧ Own G S' o d') → S' Dd = none → (∃ m, s'.heap.Ns C m) → s.heap.get? C = none → S' C = none → NoTab G C → C ≠ Dd →
      compPost G.M A No use Q (.ref Dd) C (.ok .next) s') :
    wpAny G.M A (comprehension e scope act.env pos newAcc false (eval iter act.env) use) Q No s := by
  obtain ⟨hk, hn, hf⟩ := compFit.spec hfit
  have hclos : closureFor scope act.env = pure (closeList act.env.cells scope.names []) := closureFor_eq scope act.env fun x hx hxf => O.clo _ (hf x hx hxf)
  refine wpAny_comprehension_free (g := ⟨tgt, iter, ifs, 0⟩) (gs := gs) hcl hs hclos hk (fun x hx hl => lookup_of_mem hn (by obtain ⟨a, b⟩ := x; cases hl; exact hx)) ?_
  refine wpAny_mono (hsrc kp adr S s O) (fun v s₁ h₁ => wpAny_mono h₁ (fun it s₂ ⟨S₂, ft, st₂, hft, hgt, hy, hself⟩ => ?_) fun _ _ e => e) fun _ _ e => e
  refine hnew s₂ _ ?_
  have st₃ := st₂.inv.keeps (h' := s₂.heap.push o₀) (t := s₂.toks) fun b o e => Heap.get?_push_of_some _ e
  have stt := st₂.trans st₃
  refine newCompEnv (G := G) (env := act.env) ?_
  rw [relabel_eq]
  -- the inner block
  have O₄ := O.inner (scope := scope) hfit stt
  generalize hs₄ : ({ s₂ with heap := pushCells ((s₂.heap.push o₀).push { cls := .type "dict", data := .dict #[] }) scope.names } : Shared) = s₄
  have O₄ : OK G (compAct act scope (s₂.heap.push o₀).objs.size) (kpAll G s) adr (ρ.inner scope) S₂ s₄ := by rw [← hs₄]; exact O₄
  have grow : ∀ b o, s₂.heap.get? b = some o → s₄.heap.get? b = some o := fun b o e => by
    rw [← hs₄]; exact pushCells_keeps _ _ _ _ (Heap.get?_push_of_some _ (Heap.get?_push_of_some _ e))
  have st₄ : Stp G S₂ s₂ S₂ s₄ := by
    rw [← hs₄]; exact st₂.inv.keeps (t := s₂.toks) fun b o e => pushCells_keeps _ _ _ _ (Heap.get?_push_of_some _ (Heap.get?_push_of_some _ e))
  have hDn : s₂.heap.get? s₂.heap.objs.size = none := Inv.fresh
  have hDs : s.heap.get? s₂.heap.objs.size = none := by
    cases q : s.heap.get? s₂.heap.objs.size with
    | none => rfl
    | some o => have := st₂.keep _ o (st₂.inv.noTabFresh hDn) q; rw [hDn] at this; exact nomatch this
  have acc : AccO G (compAct act scope (s₂.heap.push o₀).objs.size) (kpAll G s) S₂ s₄ s₂.heap.objs.size d₀ := by
    refine ⟨⟨o₀, ?_, hown _⟩, st₂.inv.sizeS, ?_, ?_, ?_⟩
    · rw [← hs₄]; exact pushCells_keeps _ _ _ _ (Heap.get?_push_of_some _ (Heap.get?_push_size _ hfree))
    · unfold kpAll; simp only
      split
      · exact hDs
      · rfl
    · intro hm
      rcases List.mem_cons.mp hm with h | h
      · have := Heap.size_push s₂.heap o₀
        rw [← h] at this
        exact absurd this (Nat.ne_of_lt (Nat.lt_succ_self _))
      · obtain ⟨q, hq, h⟩ := List.mem_map.mp h
        obtain ⟨hq1, hq2⟩ := List.mem_filter.mp hq
        obtain ⟨_, v, o, ho, hd⟩ := O₄.cells q hq1
        rw [h, ← hs₄] at ho
        have : (pushCells ((s₂.heap.push o₀).push { cls := .type "dict", data := .dict #[] }) scope.names).get? s₂.heap.objs.size = some o₀ := pushCells_keeps _ _ _ _ (Heap.get?_push_of_some _ (Heap.get?_push_size _ hfree))
        rw [this] at ho
        obtain rfl := Option.some.inj ho
        have := hown S₂
        cases this <;> exact nomatch hd
    · intro q hq h
      obtain ⟨_, v, o, ho, hd⟩ := O₄.cells q hq
      rw [h, ← hs₄] at ho
      have : (pushCells ((s₂.heap.push o₀).push { cls := .type "dict", data := .dict #[] }) scope.names).get? s₂.heap.objs.size = some o₀ := pushCells_keeps _ _ _ _ (Heap.get?_push_of_some _ (Heap.get?_push_size _ hfree))
      rw [this] at ho
      obtain rfl := Option.some.inj ho
      have := hown S₂
      cases this <;> exact nomatch hd
  have gd := hy.good
  have af := st₄.after gd
  have hy₄ := hy.later af
  have hDft : s₂.heap.objs.size ∉ ft.adr := fun h => by obtain ⟨_, _, o, ho⟩ := gd.adr _ h; rw [hDn] at ho; exact nomatch ho
  have ap : Aside (compAct act scope (s₂.heap.push o₀).objs.size) (kpAll G s) adr (ρ.inner scope) ft := {
    mt := fun a ha hm => by
      obtain ⟨_, _, o, ho⟩ := gd.adr a ha
      have hlt := Heap.lt_size ho
      rcases List.mem_cons.mp hm with h | h
      · rw [h, Heap.size_push] at hlt; exact absurd hlt (Nat.not_lt.mpr (Nat.le_succ _))
      · obtain ⟨q, hq, h⟩ := List.mem_map.mp h
        obtain ⟨hq1, hq2⟩ := List.mem_filter.mp hq
        rcases cellsFrom_mem hq1 with hc | ⟨_, hc⟩
        · rcases closeList_mem hc with z | ⟨z, _⟩
          · exact nomatch z
          · have h2 : q.1 ∈ cellNames scope.names := by simpa using hq2
            have e1 := lookup_of_mem hn z
            have e2 := lookup_of_mem hn (mem_cellNames.mp h2)
            rw [e1] at e2; cases e2
        · rw [h, Heap.size_push] at hc; exact absurd (Nat.lt_of_lt_of_le hlt (Nat.le_trans (Nat.le_succ _) (Nat.le_trans (Nat.le_succ _) hc))) (Nat.lt_irrefl _)
    cells := fun a ha q hq h => by
      obtain ⟨_, _, o, ho⟩ := gd.adr a ha
      have hlt := Heap.lt_size ho
      rcases cellsFrom_mem hq with hc | ⟨_, hc⟩
      · rcases closeList_mem hc with z | ⟨z, e'⟩
        · exact nomatch z
        · obtain ⟨c, hc'⟩ := O.clo _ (hf _ z rfl)
          rw [hc'] at e'
          simp only [Option.getD_some] at e'
          obtain ⟨_, v, o', ho', _⟩ := O.cells _ (cell_in hc')
          have := hft a ha
          rw [← h, e'] at this
          have ho' : s.heap.get? c = some o' := ho'
          rw [this] at ho'; exact nomatch ho'
      · rw [h, Heap.size_push] at hc; exact absurd (Nat.lt_of_lt_of_le hlt (Nat.le_trans (Nat.le_succ _) (Nat.le_trans (Nat.le_succ _) hc))) (Nat.lt_irrefl _)
    own := fun a ha x d hx => by obtain ⟨_, _, d', q⟩ := lookup_inner hx; exact nomatch q
    ko := fun a ha => by
      unfold kpAll; simp only
      split
      · exact hft a ha
      · rfl
    kgn := fun n hn' => by
      have := hgt n hn'
      unfold kpAll; simp only
      exact Array.getElem?_eq_none this }
  have loop : codeAny G.M A (.compLoop e 0 it (.ref s₂.heap.objs.size) (compAct act scope (s₂.heap.push o₀).objs.size).env) (compPost G.M A No use Q (.ref s₂.heap.objs.size) (s₂.heap.push o₀).objs.size) s₄ := by
    refine comp_loop (act := compAct act scope (s₂.heap.push o₀).objs.size) (tail := tail (compAct act scope (s₂.heap.push o₀).objs.size).env) (hq _ _ _) (fun Q E s h => hden _ _ _ Q E s h) (fun x d hx => by obtain ⟨_, _, d', q⟩ := lookup_inner hx; exact nomatch q) J
      (fun x xs d hJ => turn _ x xs d hJ) (fun S' s' d' hJ g O' acc' => ?_) h0 O₄ acc ap hDft hy₄
    have new : ∀ a o, S₂ a = some o → S a = some o ∨ s.heap.get? a = none := st₂.new
    obtain ⟨st', hDs', o, ho, w, hS⟩ := inner_out O st₂.sub new g O' acc'
    obtain ⟨hC1, hC2, hC3, hC4⟩ := O'.mt (s₂.heap.push o₀).objs.size (.head _)
    refine hQ S' s' _ _ d' hJ st' hDs' ⟨o, ho, w⟩ hS O'.ns ?_ hC1 hC3 fun h => acc'.mt (h ▸ .head _)
    unfold kpAll at hC2
    simp only at hC2
    rw [if_pos hC3] at hC2
    exact hC2
  show codeAny G.M A (.compStart e 0 it (.ref s₂.heap.objs.size) (compAct act scope (s₂.heap.push o₀).objs.size).env) (compPost G.M A No use Q (.ref s₂.heap.objs.size) (s₂.heap.push o₀).objs.size) s₄
  exact hstart _ _ _ _ _ loop (hself S₂ s₄ af _ _ loop)
end
end Mine
end

section
namespace Mine
variable {sc : Scope} {mc : List Str}
open PySem PySem.Calls PyProof.Rows
section
variable {G : Gl} {A : Around} {act : Act sc mc} {kp : Kept} {adr : Str → Addr} {ρ ρ' : LEnv} {S S' : Fz} {s s' : Shared} {a : Addr} {o : Obj} {d : D}
theorem Own.noCell {G : Gl} {S : Fz} {o : Obj} {d : D} (h : Own G S o d) {v} : o.data ≠ .cell v := by cases h <;> exact fun e => nomatch e
theorem OK.ownCell (O : OK G act kp adr ρ S s) (ho : s.heap.get? a = some o) (w : Own G S o d) : ∀ p ∈ act.env.cells, p.2 ≠ a := fun p hp e => by
  obtain ⟨_, v, o', ho', hd⟩ := O.cells p hp
  rw [e, ho] at ho'
  obtain rfl := Option.some.inj ho'
  exact w.noCell hd
theorem OK.touch (O : OK G act kp adr ρ S s) {h' : Heap} {t : Nat} (hs : Heap.SameBut a s.heap h') (hS : S a = none) (hk : kp.objs a = none) (hm : a ∉ act.mt) (hc : ∀ p ∈ act.env.cells, p.2 ≠ a) (nt : NoTab G a)
    (hρ : ∀ y l, ρ'.lookup y = some l → (ρ.lookup y = some l ∧ ∀ d, l = .own d → adr y ≠ a) ∨ (∃ d d' o, l = .own d' ∧ ρ.lookup y = some (.own d) ∧ adr y = a ∧ h'.get? a = some o ∧ Own G S o d')) :
    OK G act kp adr ρ' S { s with heap := h', toks := t } := by
  have keep : ∀ b o, b ≠ a → s.heap.get? b = some o → h'.get? b = some o := fun b o hb e => by rw [hs.2 b hb]; exact e
  have rd : ∀ x v, Reads act.env s.heap x v → Reads act.env h' x v := fun x v r => r.of (fun o e => keep _ o (fun q => hm (q ▸ O.mtL)) e) fun c hcx o e => keep _ o (hc _ (cell_in hcx)) e
  exact { O with
    inv := O.inv.but (wr := [a]) (fun b hb => by rw [List.mem_singleton.mp hb]; exact ⟨hS, nt⟩) fun b o hb e => keep b o (fun q => hb (q ▸ .head _)) e
    kept := fun b o e => keep b o (fun q => by rw [q, hk] at e; exact nomatch e) (O.kept b o e)
    ns := let ⟨m, h⟩ := O.ns; ⟨m, h.at' fun o e => keep _ o (fun q => hm (q ▸ O.mtL)) e⟩
    mt := fun b hb => by
      (refine cps fun ZP zk => ?_; obtain ⟨h1, h2, h3, o, ho⟩ := O.mt b hb; refine zk ?_)
      exact ⟨h1, h2, h3, o, keep _ o (fun q => hm (q ▸ hb)) ho⟩
    cells := fun p hp => by
      obtain ⟨nt', v, o, ho, hd⟩ := O.cells p hp
      exact ⟨nt', v, o, keep _ o (hc p hp) ho, hd⟩
    vars := fun x l e => by
      rcases hρ x l e with ⟨h, hn⟩ | ⟨d, d', o, hl, h, ha, ho, w⟩
      · have q := O.vars x l h
        cases l with
        | val d => obtain ⟨v, r, i⟩ := q; exact ⟨v, rd x v r, i⟩
        | own d =>
          (refine cps fun ZP zk => ?_; obtain ⟨r, ⟨o, ho, w⟩, h1, h2, h3⟩ := q; refine zk ?_)
          exact ⟨rd _ _ r, ⟨o, keep _ o (hn d rfl) ho, w⟩, h1, h2, h3⟩
      · subst hl
        obtain ⟨r, _, h1, h2, h3⟩ := O.vars x _ h
        exact ⟨rd _ _ r, ⟨o, by rw [ha]; exact ho, w⟩, h1, h2, h3⟩
    inj := fun x y dx dy ex ey e => by
      have own : ∀ x dx, ρ'.lookup x = some (.own dx) → ∃ d, ρ.lookup x = some (.own d) := fun x dx ex => by
        rcases hρ x _ ex with ⟨h, _⟩ | ⟨d, _, _, _, h, _⟩
        · exact ⟨_, h⟩
        · exact ⟨_, h⟩
      obtain ⟨d1, h1⟩ := own _ _ ex
      obtain ⟨d2, h2⟩ := own _ _ ey
      exact O.inj x y d1 d2 h1 h2 e }
theorem OK.turnOwn (O : OK G act kp adr ρ S s) {x : Str} {d' : D} {h' : Heap} {t : Nat} (hx : ρ.lookup x = some (.own d)) (hs : Heap.SameBut (adr x) s.heap h') (ho : ∃ o, h'.get? (adr x) = some o ∧ Own G S o d') :
    OK G act kp adr ((x, .own d') :: ρ) S { s with heap := h', toks := t } := by
  (refine cps fun ZP zk => ?_; obtain ⟨r, ⟨o, ho₀, w⟩, h1, h2, h3⟩ := O.vars x _ hx; refine zk ?_)
  obtain ⟨o', ho', w'⟩ := ho
  refine O.touch hs h1 h2 h3 (O.ownCell ho₀ w) (O.inv.noTab ho₀ w.cls) fun y l e => ?_
  by_cases q : y = x
  · subst q
    simp only [List.lookup, BEq.rfl] at e
    obtain rfl := Option.some.inj e
    exact .inr ⟨d, d', o', rfl, hx, rfl, ho', w'⟩
  · rw [lookup_cons_ne q] at e
    exact .inl ⟨e, fun d₂ hl q' => q (O.inj y x _ _ (hl ▸ e) hx q')⟩
theorem AccO.touch (O : OK G act kp adr ρ S s) (ac : AccO G act kp S s a d) {d' : D} {h' : Heap} {t : Nat} (hs : Heap.SameBut a s.heap h') (ho : ∃ o, h'.get? a = some o ∧ Own G S o d')
    (hown : ∀ x d, ρ.lookup x = some (.own d) → False) : OK G act kp adr ρ S { s with heap := h', toks := t } ∧ AccO G act kp S { s with heap := h', toks := t } a d' := by
  obtain ⟨o, ho₀, w⟩ := ac.obj
  exact ⟨O.touch hs ac.S ac.ko ac.mt ac.cells (O.inv.noTab ho₀ w.cls) fun y l e => .inl ⟨e, fun d₂ hl => (hown y d₂ (hl ▸ e)).elim⟩, ho, ac.S, ac.ko, ac.mt, ac.cells⟩
theorem Own.plain {S : Fz} {h : Heap} {ds : List D} (ho : h.get? a = some o) (w : Own G S o (.list ds)) : ∃ vs, h.PlainList a vs.toArray ∧ Alls G S vs ds := by
  cases w with
  | list r => exact ⟨_, ⟨_, ho⟩, r⟩
theorem Own.ofPlain {S : Fz} {h : Heap} {ds : List D} {vs : List Value} {items : Array Value} (hl : h.PlainList a items) (e : items = vs.toArray) (r : Alls G S vs ds) : ∃ o, h.get? a = some o ∧ Own G S o (.list ds) := by
  subst e
  obtain ⟨n, e⟩ := hl
  exact ⟨_, e, .list r⟩
theorem Own.dictOf {S : Fz} {h : Heap} {ks : List Ky} {ds : List D} (ho : h.get? a = some o) (w : Own G S o (.dict ks ds)) : ∃ kvs : List (Ky × Value), h.DictOf G.knd a kvs ∧ ks = kvs.map (·.1) ∧ Alls G S (kvs.map (·.2)) ds := by
  cases w with
  | dict h1 h2 h3 h4 r => exact ⟨_, ⟨_, _, _, ho, ⟨rfl, rfl, rfl⟩, rfl, h1, h2, h3 ▸ h4⟩, h3, r⟩
theorem Own.ofDictOf {S : Fz} {h : Heap} {ks : List Ky} {ds : List D} {kvs : List (Ky × Value)} (hd : h.DictOf G.knd a kvs) (e : ks = kvs.map (·.1)) (r : Alls G S (kvs.map (·.2)) ds) : ∃ o, h.get? a = some o ∧ Own G S o (.dict ks ds) := by
  (refine cps fun ZP zk => ?_; obtain ⟨o, es, ep, ho, ⟨x1, x2, x3⟩, hd, h1, h2, h3⟩ := hd; refine zk ?_)
  refine ⟨o, ho, ?_⟩
  cases o
  subst x1 x2 x3 hd
  exact .dict h1 h2 e (e ▸ h3) r
noncomputable def listTail (elt : Expr) (env : Env) (acc : Value) : Sem Unit := eval elt env >>= fun x => call (.builtin "list.append") [acc, x] >>= fun _ => pure ()
theorem App.list {elt : Expr} {ds : List D} (h : Ev G A act ρ elt d) (hn : ds.length ≤ sizeLine) : App G A act ρ (listTail elt act.env) (.list ds) (.list (ds ++ [d])) := fun kp adr S s Dd O ac hown => by
  refine wpAny_bind (wp_seq (h kp adr S s O) fun S₁ v s₁ st i => ?_)
  have O₁ := O.step st
  have ac₁ := ac.step O.inv st
  obtain ⟨o, ho, w⟩ := ac₁.obj
  obtain ⟨vs, hp, r⟩ := Own.plain ho w
  refine wpAny_bind (wpAny_list_append_plain hp (fun h' hp' hs => wpAny_pure ?_) (by rw [List.size_toArray, r.length]; exact hn))
  obtain ⟨O₂, ac₂⟩ := AccO.touch (t := s₁.toks) O₁ ac₁ hs (Own.ofPlain (vs := vs ++ [v]) hp' (by simp) (r.append (.cons i .nil))) hown
  exact ⟨S₁, O.gro st, O₂, ac₂⟩
theorem list_den {elt tgt iter : Expr} {ifs : List Expr} {scope : Scope} {pos : Pos} {it : Value} {Dd : Addr} {env : Env} (Q : PySem.Fin → Shared → Prop) (E : Value → Shared → Prop) (s : Shared)
    (h : wpAny G.M A (turnTree iter.pos tgt ifs it env (listTail elt env (.ref Dd)) (.compLoop (.ListComp elt [⟨tgt, iter, ifs, 0⟩] scope pos) 0 it (.ref Dd) env)) Q No s) :
    wpAny G.M (A.under (.compLoop (.ListComp elt [⟨tgt, iter, ifs, 0⟩] scope pos) 0 it (.ref Dd) env)) (G.M.den (.compLoop (.ListComp elt [⟨tgt, iter, ifs, 0⟩] scope pos) 0 it (.ref Dd) env)) Q E s := by
  show wpAny _ _ ((compTurn (.ListComp elt [⟨tgt, iter, ifs, 0⟩] scope pos) 0 it (.ref Dd) env).onRaise (fun x => do noteFrame x env; theTreesLotGoes x)) _ _ s
  refine wpAny_noted (wpAny_mono ?_ (fun _ _ q => q) (fun _ _ e => False.elim e))
  rw [compTurn_list]
  exact h
end
end Mine
end

section
namespace Mine
variable {sc : Scope} {mc : List Str}
open PySem PySem.Calls PyProof.Rows
noncomputable def LocOk (G : Gl) (act : Act sc mc) (kp : Kept) (adr : Str → Addr) (ρ : LEnv) (S : Fz) (s : Shared) (v : Value) : Loc → Prop
  | .val d => Is G S v d
  | .own d => ∃ a, v = .ref a ∧ Fresh G act kp adr ρ S s a d
noncomputable def isOwn : Loc → Bool
  | .own _ => true
  | .val _ => false
inductive LocsOk (G : Gl) (act : Act sc mc) (kp : Kept) (adr : Str → Addr) (ρ : LEnv) (S : Fz) (s : Shared) : List Value → List Loc → Prop
  | nil : LocsOk G act kp adr ρ S s [] []
  | cons {v : Value} {l : Loc} {vs : List Value} {ls : List Loc} : LocOk G act kp adr ρ S s v l → LocsOk G act kp adr ρ S s vs ls → (isOwn l = true → v ∉ vs) → LocsOk G act kp adr ρ S s (v :: vs) (l :: ls)
inductive Storers (G : Gl) (A : Around) (act : Act sc mc) : List (Value → Sem Unit) → List Str → Prop
  | nil : Storers G A act [] []
  | cons {t : Value → Sem Unit} {ts : List (Value → Sem Unit)} {x : Str} {xs : List Str} : (∀ v Q E s, wpAny G.M A (storeName act.env x v) Q E s → wpAny G.M A (t v) Q E s) → Stores sc mc x → Storers G A act ts xs → Storers G A act (t :: ts) (x :: xs)
noncomputable def bindLs : List Str → List Loc → LEnv → LEnv
  | x :: xs, l :: ls, ρ => bindLs xs ls ((x, l) :: ρ)
  | _, _, ρ => ρ
section
variable {G : Gl} {A : Around} {act : Act sc mc} {kp : Kept} {adr : Str → Addr} {ρ ρ' : LEnv} {S S' : Fz} {s s' : Shared} {a : Addr} {o : Obj} {d : D}
theorem OK.storeLoc (O : OK G act kp adr ρ S s) {x : Str} {v : Value} {l : Loc} {Q : Unit → Shared → Prop} (hx : Stores sc mc x) (hv : LocOk G act kp adr ρ S s v l)
    (h : ∀ h' t adr', OK G act kp adr' ((x, l) :: ρ) S { s with heap := h', toks := t } → (∀ b o, b ∉ act.mt → s.heap.get? b = some o → h'.get? b = some o) →
      (∀ y, y ≠ x → adr' y = adr y) → (isOwn l = true → v = .ref (adr' x)) → (isOwn l = false → adr' = adr) → Q () { s with heap := h', toks := t }) : wpAny G.M A (storeName act.env x v) Q No s := by
  cases l with
  | val d =>
    exact O.store hx fun h' t st => h h' t adr (O.after st (fun y l hy e => by rwa [lookup_cons_ne hy] at e) (fun _ _ => rfl)
      (fun l e => by simp only [List.lookup_cons_self] at e; obtain rfl := Option.some.inj e; exact ⟨v, st.reads, hv⟩) fun y dx dy _ e _ => by simp at e) st.keep (fun _ _ => rfl) (fun e => nomatch e) fun _ => rfl
  | own d =>
    obtain ⟨a, rfl, hv⟩ := hv
    exact O.store hx fun h' t st => h h' t (fun y => if y = x then a else adr y) (O.after st (fun y l hy e => by rwa [lookup_cons_ne hy] at e) (fun y hy => by simp [hy])
      (fun l e => by
        simp only [List.lookup_cons_self] at e
        obtain rfl := Option.some.inj e
        (refine cps fun ZP zk => ?_; obtain ⟨⟨o, ho, w⟩, h1, h2, h3, _⟩ := hv; refine zk ?_)
        show Reads _ _ _ (.ref (if x = x then a else adr x)) ∧ _
        simp only [if_true]
        exact ⟨st.reads, ⟨o, st.keep _ _ h3 ho, w⟩, h1, h2, h3⟩)
      fun y dx dy hy _ e => by
        rw [lookup_cons_ne hy] at e
        simp only [if_true]
        exact (hv.ne y dy e).symm) st.keep (fun y hy => by simp [hy]) (fun _ => by simp) fun e => nomatch e
theorem LocsOk.later {vs : List Value} {ls : List Loc} (h : LocsOk G act kp adr ρ S s vs ls) {x : Str} {v : Value} {l : Loc} {h' : Heap} {t : Nat} {adr' : Str → Addr} (hk : ∀ b o, b ∉ act.mt → s.heap.get? b = some o → h'.get? b = some o)
    (ha : ∀ y, y ≠ x → adr' y = adr y) (hv : isOwn l = true → v = .ref (adr' x) ∧ v ∉ vs) : LocsOk G act kp adr' ((x, l) :: ρ) S { s with heap := h', toks := t } vs ls := by
  induction h with
  | nil => exact .nil
  | @cons u l' vs ls hl _ hn ih =>
    refine .cons ?_ (ih fun h => ⟨(hv h).1, fun m => (hv h).2 (.tail _ m)⟩) hn
    cases l' with
    | val d => exact hl
    | own d =>
      obtain ⟨a, rfl, ⟨⟨o, ho, w⟩, h1, h2, h3, h4⟩⟩ := hl
      refine ⟨a, rfl, ⟨o, hk _ _ h3 ho, w⟩, h1, h2, h3, fun y dy e => ?_⟩
      by_cases q : y = x
      · subst q
        simp only [List.lookup, BEq.rfl] at e
        obtain rfl := Option.some.inj e
        intro e
        have := hv rfl
        rw [this.1, e] at this
        exact this.2 (.head _)
      · rw [lookup_cons_ne q] at e
        rw [ha y q]
        exact h4 y dy e
theorem Storers.run {ts : List (Value → Sem Unit)} {xs : List Str} (h : Storers G A act ts xs) : ∀ {adr : Str → Addr} {ρ : LEnv} {s : Shared} {vs : List Value} {ls : List Loc} {Q : Unit → Shared → Prop}, OK G act kp adr ρ S s →
    LocsOk G act kp adr ρ S s vs ls → vs.length = ts.length →
    (∀ s' adr', OK G act kp adr' (bindLs xs ls ρ) S s' → (ls.all (fun l => !isOwn l) = true → adr' = adr) → Q () s') → wpAny G.M A (assignInOrder ts vs) Q No s := by
  induction h with
  | nil =>
    intro adr ρ s vs ls Q O hl hn hQ
    cases hl with
    | nil => exact assignInOrder_nil (hQ _ _ O fun _ => rfl)
    | cons => simp at hn
  | @cons t ts x xs ht hx _ ih =>
    intro adr ρ s vs ls Q O hl hn hQ
    cases hl with
    | nil => simp at hn
    | @cons v l vs ls hv hl hne =>
      refine assignInOrder_cons (ht v _ _ _ (O.storeLoc hx hv fun h' t adr' O' hk ha hv' hv'' => ?_))
      refine ih O' (hl.later hk ha fun h => ⟨hv' h, hne h⟩) (by simpa using hn) fun s' adr'' O'' h'' => hQ s' adr'' O'' fun h => ?_
      rw [List.all_cons, Bool.and_eq_true] at h
      rw [h'' h.2, hv'' (by simpa using h.1)]
inductive Elts (sc : Scope) (mc : List Str) : List Expr → List Str → Prop
  | nil : Elts sc mc [] []
  | cons {x : Str} {p : Pos} {es : List Expr} {xs : List Str} : Stores sc mc x → Elts sc mc es xs → Elts sc mc (.Name x p :: es) (x :: xs)
theorem Elts.stores {es : List Expr} {xs : List Str} (h : Elts sc mc es xs) : Storers G A act ((assignEach es act.env).map (·.2)) xs ∧ (assignEach es act.env).length = xs.length ∧ (assignEach es act.env).findIdx? (·.1) = none := by
  induction h with
  | nil => exact ⟨.nil, rfl, rfl⟩
  | @cons x p es xs hx _ ih =>
    show Storers G A act ((((false, assign (.Name x p) act.env)) :: assignEach es act.env).map (·.2)) _ ∧ (((false, assign (.Name x p) act.env)) :: assignEach es act.env).length = _ ∧ (((false, assign (.Name x p) act.env)) :: assignEach es act.env).findIdx? (·.1) = none
    exact ⟨.cons (fun v Q E s h => assign_Name h) hx ih.1, by simp [ih.2.1], by rw [List.findIdx?_cons]; simp [ih.2.2]⟩
theorem Is.tup {v : Value} {ds : List D} (I : Inv G S s) (h : Is G S v (.tuple ds)) : ∃ a vs, v = .ref a ∧ s.heap.IsTuple a vs.toArray ∧ Alls G S vs ds := by
  exact let ⟨a, o, n, vs, e, h1, h2, h3, r⟩ := h.tupleI; ⟨a, vs, e, ⟨o, I.sub _ _ h1, h2, n, h3⟩, r⟩
theorem Alls.locs {vs : List Value} {ds : List D} (h : Alls G S vs ds) : LocsOk G act kp adr ρ S s vs (ds.map .val) := match h with
  | .nil => .nil
  | .cons i r => .cons i r.locs fun e => nomatch e
theorem Inv.ext (I : Inv G S s) {h' : Heap} {t : Nat} (he : Heap.ExtBut s.heap.objs.size s.heap h') : Stp G S s S { s with heap := h', toks := t } :=
  I.keeps fun b o e => he b o (fun q => by rw [q, Inv.fresh] at e; exact nomatch e) e
theorem Takes.tuple {n : Nat} (hA : Room n A) {es : List Expr} {xs : List Str} {ds : List D} {k : Nat} {pos : Pos} (he : Elts sc mc es xs) (hl : xs.length = ds.length) : Takes G A act (.Tuple es k pos) (.tuple ds) ρ (bindLs xs (ds.map .val) ρ) := fun kp adr S s v O i => by
  obtain ⟨a, vs, rfl, ht, r⟩ := i.tup O.inv
  obtain ⟨h1, h2, h3⟩ := he.stores (G := G) (A := A) (act := act)
  refine wpAny_assign_Tuple hA.handled ht (by rw [h2, List.size_toArray, r.length, hl]) h3 fun h' hx => ?_
  have st := O.inv.ext (t := s.toks) hx
  refine h1.run (vs := vs) (O.step st) r.locs (by rw [List.length_map, h2, r.length, hl]) fun s' adr' O' hadr => ?_
  have hadr := hadr (by simp [isOwn, List.all_map])
  subst hadr
  refine ⟨S, adr', .refl .., O', fun y dy hy => ⟨dy, ?_, rfl⟩⟩
  clear O' h1 h2 h3 r ht i st
  have key : ∀ (xs : List Str) (ds : List D) (ρ : LEnv), (bindLs xs (ds.map Loc.val) ρ).lookup y = some (.own dy) → ρ.lookup y = some (.own dy) := by
    intro xs
    induction xs with
    | nil => intro ds ρ h; exact h
    | cons x xs ih =>
      intro ds ρ h
      cases ds with
      | nil => exact h
      | cons d ds =>
        have := ih ds _ h
        by_cases q : y = x
        · subst q; simp at this
        · rwa [lookup_cons_ne q] at this
  exact key _ _ _ hy
theorem Run.unpack {n : Nat} (hA : Room n A) {es : List Expr} {xs : List Str} {ds : List D} {k : Nat} {pos tpos : Pos} {e : Expr} {Q : FD → LEnv → Prop} (hv : Ev G A act ρ e (.tuple ds)) (he : Elts sc mc es xs) (hl : xs.length = ds.length) (h : Q .next (bindLs xs (ds.map .val) ρ))
    (hs : swapsWithSole [.Tuple es k tpos] e pos.line act.env = pure false := by rfl)
    (hw : swappedStores [.Tuple es k tpos] e act.env = pure none := by rfl) : Run G A act (exec (.Assign [.Tuple es k tpos] e pos) act.env) ρ Q := fun kp adr S s O =>
  Assign_Tuple (wp_seq (hv kp adr S s O) fun S₁ v s₁ st i => wpAny_mono (Takes.tuple hA he hl kp adr S₁ s₁ v (O.step st) i) (fun _ s₂ ⟨S₂, adr₂, g, O₂, _⟩ =>
    ⟨S₂, adr₂, _, .next, (O.gro st).trans g, O₂, trivial, h⟩) fun _ _ e => e) hs hw
end
end Mine
end

section
namespace Mine
variable {sc : Scope} {mc : List Str}
open PySem PySem.Calls PyProof.Rows
noncomputable def dput (ks : List Ky) (ds : List D) (k : Ky) (d : D) : List Ky × List D :=
  if k ∈ ks then (ks, List.zipWith (fun k' d' => if k' = k then d else d') ks ds) else (ks ++ [k], ds ++ [d])
noncomputable def dmk (l : List (Ky × D)) : List Ky × List D := l.foldl (fun q kd => dput q.1 q.2 kd.1 kd.2) ([], [])
section
variable {G : Gl} {A : Around} {act : Act sc mc} {kp : Kept} {adr : Str → Addr} {ρ ρ' : LEnv} {S S' : Fz} {s s' : Shared} {a : Addr} {o : Obj} {d : D}
theorem stored_keys {kvs : List (Ky × Value)} {k : Ky} {v : Value} {ds : List D} (r : Alls G S (kvs.map (·.2)) ds) (i : Is G S v d) :
    (stored kvs k v).map (·.1) = (dput (kvs.map (·.1)) ds k d).1 ∧ Alls G S ((stored kvs k v).map (·.2)) (dput (kvs.map (·.1)) ds k d).2 := by
  unfold stored dput
  have e : (kvs.any fun kv => decide (kv.1 = k)) = decide (k ∈ kvs.map (·.1)) := by
    rw [Bool.eq_iff_iff]; simp
  rw [e]
  by_cases hk : k ∈ kvs.map (·.1)
  · simp only [hk, decide_true, if_true]
    clear hk e
    constructor
    · clear r
      induction kvs with
      | nil => rfl
      | cons q kvs ih => simp only [List.map_cons, List.map_map] at ih ⊢; rw [ih]; split <;> rfl
    · generalize hv : kvs.map (·.2) = vs at r
      induction kvs generalizing vs ds with
      | nil => subst hv; cases r; exact .nil
      | cons q kvs ih =>
        subst hv
        cases r with
        | cons j r =>
          simp only [List.map_cons, List.zipWith]
          refine .cons ?_ (ih _ rfl r)
          split <;> assumption
  · simp only [hk, decide_false, Bool.false_eq_true, if_false, List.map_append, List.map_cons, List.map_nil]
    exact ⟨trivial, r.append (.cons i .nil)⟩
noncomputable def dictTail (kx vx : Expr) (env : Env) : Value → Sem Unit
  | .ref D => eval kx env >>= fun kv => holding [kv] (eval vx env) >>= fun vv => standAt { kx.pos with endLine := vx.pos.endLine, endCol := vx.pos.endCol } >>= fun _ => holding [kv, vv] (dictSet D kv vv)
  | _ => unsupported "internal:dictcomp"
theorem Ky.kindIs {k : Ky} {v : Value} {S : Fz} (h : Is G S v k.d) : G.knd.is k v = true := by
  exact Is.ky h
theorem App.dict {kx vx : Expr} {ks : List Ky} {ds : List D} {k : Ky} (hk : Ev G A act ρ kx k.d) (hv : Ev G A act ρ vx d) (hn : ks.length ≤ sizeLine) : App G A act ρ (dictTail kx vx act.env) (.dict ks ds) (.dict (dput ks ds k d).1 (dput ks ds k d).2) := fun kp adr S s Dd O ac hown => by
  unfold dictTail
  refine wpAny_bind (wp_seq (hk kp adr S s O) fun S₁ kv s₁ st ik => wpAny_bind (wpAny_holding (wp_seq (hv kp adr S₁ s₁ (O.step st)) fun S₂ vv s₂ st₂ iv => wpAny_bind (wpAny_standAt (wpAny_holding ?_)))))
  have st' := st.trans st₂
  have O₁ := O.step st'
  have ac₁ := ac.step O.inv st'
  obtain ⟨o, ho, w⟩ := ac₁.obj
  (refine cps fun ZP zk => ?_; obtain ⟨kvs, hd, e, r⟩ := Own.dictOf ho w; refine zk ?_)
  have hl : kvs.length ≤ sizeLine := by rw [e, List.length_map] at hn; exact hn
  refine wpAny_dictSet_pairs (Ky.kindIs (ik.mono st₂.sub)) hd (fun h' hd' hs => ?_) hl
  obtain ⟨q1, q2⟩ := stored_keys (k := k) r iv
  obtain ⟨O₂, ac₂⟩ := AccO.touch (t := s₂.toks + 1) O₁ ac₁ hs (Own.ofDictOf (ks := (dput ks ds k d).1) (ds := (dput ks ds k d).2) hd' (by rw [q1, e]) (by rw [e]; exact q2)) hown
  exact ⟨S₂, O.gro st', O₂, ac₂⟩
theorem dict_den {kx vx tgt iter : Expr} {ifs : List Expr} {scope : Scope} {pos : Pos} {it : Value} {Dd : Addr} {env : Env} (Q : PySem.Fin → Shared → Prop) (E : Value → Shared → Prop) (s : Shared)
    (h : wpAny G.M A (turnTree iter.pos tgt ifs it env (dictTail kx vx env (.ref Dd)) (.compLoop (.DictComp kx vx [⟨tgt, iter, ifs, 0⟩] scope pos) 0 it (.ref Dd) env)) Q No s) :
    wpAny G.M (A.under (.compLoop (.DictComp kx vx [⟨tgt, iter, ifs, 0⟩] scope pos) 0 it (.ref Dd) env)) (G.M.den (.compLoop (.DictComp kx vx [⟨tgt, iter, ifs, 0⟩] scope pos) 0 it (.ref Dd) env)) Q E s := by
  show wpAny _ _ ((compTurn (.DictComp kx vx [⟨tgt, iter, ifs, 0⟩] scope pos) 0 it (.ref Dd) env).onRaise (fun x => do noteFrame x env; theTreesLotGoes x)) _ _ s
  refine wpAny_noted (wpAny_mono ?_ (fun _ _ q => q) (fun _ _ e => False.elim e))
  rw [compTurn_dict]
  exact h
noncomputable def CompRuns (G : Gl) (A : Around) (act : Act sc mc) (ρ : LEnv) (m : Option (Value → Sem Unit) → Sem Value) (d : D) : Prop := ∀ kp adr S s use Q, OK G act kp adr ρ S s →
  (∀ S' s' C Dd, Stp G S s S' s' → s.heap.get? Dd = none → (∃ o, s'.heap.get? Dd = some o ∧ Own G S' o d) → S' Dd = none → (∃ m, s'.heap.Ns C m) → s.heap.get? C = none → S' C = none → NoTab G C → C ≠ Dd →
    compPost G.M A No use Q (.ref Dd) C (.ok .next) s') → wpAny G.M A (m use) Q No s
theorem Stp.butNew (st : Stp G S s S' s') {C : Addr} {h' : Heap} {t : Nat} (hs : Heap.SameBut C s'.heap h') (hC : s.heap.get? C = none) (hS : S' C = none) (nt : NoTab G C) : Stp G S s S' { s' with heap := h', toks := t } where
  inv := st.inv.but (wr := [C]) (fun b hb => by rw [List.mem_singleton.mp hb]; exact ⟨hS, nt⟩) fun b o hb e => by rw [hs.2 b fun q => hb (q ▸ .head _)]; exact e
  sub := st.sub
  new := st.new
  keep := fun b o nb e => by rw [hs.2 b fun q => by rw [q, hC] at e; exact nomatch e]; exact st.keep b o nb e
  gens := st.gens
theorem CompRuns.evO {e : Expr} {m : Option (Value → Sem Unit) → Sem Value} (h : CompRuns G A act ρ m d) (he : eval e act.env = m none) : EvO G A act ρ e d := fun kp adr S s O => by
  rw [he]
  refine h kp adr S s none _ O fun S' s' C Dd st hD ⟨o, ho, w⟩ hSD ⟨mm, hm⟩ hC hSC nt hne => ⟨mm, hm, fun h' hs => ?_⟩
  exact ⟨S', Dd, o, st.butNew (t := s'.toks) hs hC hSC nt, rfl, by show h'.get? Dd = some o; rw [hs.2 Dd hne.symm]; exact ho, w, hSD, hD⟩
noncomputable def swapB (scope sc : Scope) (t : Str) (l l' : Int) : Bool := (if sc.kind.isAnnotationScope then ScopeKind.function else sc.kind) == .function && sc.names.lookup t == some .local && l == l' && !(scope.names.any fun (n, k) => n == t && (k == .local || k == .cell))
theorem Run.assignComp {e : Expr} {m : Option (Value → Sem Unit) → Sem Value} {x : Str} {npos pos : Pos} {Q : FD → LEnv → Prop} (h : CompRuns G A act ρ m d) (he : eval e act.env = m none) (hu : ∀ use, evalThenUse e act.env use = m (some use) >>= fun _ => pure ())
    (hx : Stores sc mc x) (hq : Q .next ((x, .own d) :: ρ)) (b : Bool) (hb : swapsWith e (some (.Name x npos)) pos.line act.env = pure b) : Run G A act (exec (.Assign [.Name x npos] e pos) act.env) ρ Q := fun kp adr S s O => by
  rw [exec_Assign]
  refine wpAny_bind (wpAny_standAt ?_)
  rw [show swapsWithSole [.Name x npos] e pos.line act.env = pure b from hb]
  refine wpAny_bind (wpAny_pure ?_)
  cases b with
  | false =>
    simp only [Bool.false_eq_true, if_false]
    refine wpAny_bind (wpAny_mono ((h.evO he) kp adr S s O) (fun v s₁ ⟨S₁, a, o, st, hv, ho, w, hS, hn⟩ => ?_) fun _ _ e => e)
    subst hv
    refine wpAny_bind (show wpAny G.M A (pure none) _ _ _ from wpAny_pure (show wpAny G.M A (PySem.assign (Expr.Name x npos) act.env (Value.ref a) >>= fun _ => pure Flow.next) _ _ _ from wpAny_bind (wpAny_mono (Q := fun _ s' => RunPost G act kp S Q .next s') ?_ (fun _ _ h => wpAny_pure h) fun _ _ e => e)))
    exact wpAny_assign_Name ((O.step st).storeOwn hx (O.fresh st ho w hS hn) fun h' t O' => ⟨S₁, _, _, .next, O.gro st, O', trivial, hq⟩)
  | true =>
    simp only [if_true]
    rw [hu]
    refine wpAny_bind (wpAny_bind (h kp adr S s _ _ O fun S' s' C Dd st hD ⟨o, ho, w⟩ hSD ⟨mm, hm⟩ hC hSC nt hne => ?_))
    have O₁ := O.step st
    have hCm : C ∉ act.mt := fun hm => by obtain ⟨_, _, _, o, ho⟩ := O.mt C hm; rw [hC] at ho; exact nomatch ho
    have hCk : kp.objs C = none := by
      cases q : kp.objs C with
      | none => rfl
      | some o => have := O.kept _ _ q; rw [hC] at this; exact nomatch this
    refine wpAny_assign_Name (OK.storeLoc (l := .own d) O₁ hx ⟨Dd, rfl, O.fresh st ho w hSD hD⟩ fun h' t adr' O' hk ha hv _ => ?_)
    have hv := hv rfl
    refine ⟨mm, hm.at' (fun o e => hk _ _ hCm e), fun h'' hs => wpAny_pure (wpAny_pure ?_)⟩
    refine ⟨S', adr', (x, .own d) :: ρ, .next, O.gro st, O'.touch (t := t) hs hSC hCk hCm (fun p hp q => ?_) nt fun y l e => .inl ⟨e, fun d' hl q => ?_⟩, trivial, hq⟩
    · obtain ⟨_, v, o, ho, _⟩ := O.cells p hp
      rw [q, hC] at ho; exact nomatch ho
    · subst hl
      by_cases qy : y = x
      · subst qy
        rw [q] at hv
        injection hv with hv
        exact hne hv.symm
      · rw [lookup_cons_ne qy] at e
        rw [ha y qy] at q
        obtain ⟨_, ⟨o, ho, _⟩, _⟩ := O.vars y _ e
        rw [q, hC] at ho; exact nomatch ho
theorem inner_not {scope : Scope} {x y : Str} {l : Loc} (hx : scope.names.lookup x ≠ some .free) (h : (ρ.inner scope).lookup y = some l) : y ≠ x := fun e => by
  obtain ⟨_, h, _⟩ := lookup_inner h
  exact hx (e ▸ h)
theorem CompRuns.list {α : Type} {scope : Scope} {elt tgt iter : Expr} {ifs : List Expr} {pos : Pos} (as : List α) (φ : α → D) (ρ' : α → LEnv) (p : α → Bool) (f : α → D)
    (hsrc : Src G A act ρ tgt iter (as.map φ)) (hlen : as.length ≤ sizeLine)
    (turn : ∀ (act' : Act (relS scope sc) (cellNames scope.names)) a, a ∈ as → Takes G A act' tgt (φ a) (ρ.inner scope) (ρ' a) ∧ (∀ y l, (ρ.inner scope).lookup y = some l → (ρ' a).lookup y = some l) ∧
      Tests G A act' (ρ' a) ifs (p a) ∧ (p a = true → Ev G A act' (ρ' a) elt (f a)))
    (hfit : compFit scope sc = true) (hs : ∀ x, foldedSetIterable iter act.env x = pure x) :
    CompRuns G A act ρ (fun use => comprehension (.ListComp elt [⟨tgt, iter, ifs, 0⟩] scope pos) scope act.env iter.pos (newList []) false (eval iter act.env) use) (.list ((as.filter p).map f)) := fun kp adr S s use Q O hQ => by
  refine comp_core (o₀ := { cls := .type "list", data := .seq #[] }) (d₀ := .list []) (tail := fun env acc => listTail elt env acc) (p := iter.pos) (gs := []) hfit rfl hs (fun s Q h => wpAny_newList h) (fun S => .list (vs := []) .nil) rfl
    (fun it acc env R s h0 h => codeAny_compStart_list h0 h) (fun _ _ _ => rfl) (fun it Dd env Q E s h => list_den Q E s h) hsrc
    (fun xs d => ∃ done rest, as = done ++ rest ∧ xs = rest.map φ ∧ d = .list ((done.filter p).map f)) ⟨[], as, rfl, rfl, rfl⟩ ?_ O ?_
  · rintro act' x xs d ⟨done, rest, e, hx, rfl⟩
    cases rest with
    | nil => simp at hx
    | cons a rest =>
      simp only [List.map_cons, List.cons.injEq] at hx
      obtain ⟨rfl, rfl⟩ := hx
      (refine cps fun ZP zk => ?_; obtain ⟨t1, t2, t3, t4⟩ := turn act' a (by rw [e]; simp); refine zk ?_)
      have hle : ((done.filter p).map f).length ≤ sizeLine := by
        rw [List.length_map]
        refine Nat.le_trans (List.length_filter_le _ _) (Nat.le_trans ?_ hlen)
        rw [e, List.length_append]; exact Nat.le_add_right _ _
      cases hp : p a with
      | true =>
        rw [hp] at t3
        refine ⟨ρ' a, true, _, t1, t2, t3, fun _ => App.list (t4 hp) hle, (fun e => nomatch e), done ++ [a], rest, by rw [e]; simp, rfl, by simp [List.filter_append, hp]⟩
      | false =>
        rw [hp] at t3
        exact ⟨ρ' a, false, _, t1, t2, t3, (fun e => nomatch e), fun _ => rfl, done ++ [a], rest, by rw [e]; simp, rfl, by simp [List.filter_append, hp]⟩
  · rintro S' s' C Dd d' ⟨done, rest, e, hx, rfl⟩ st hD ho hS hm hC hSC nt hne
    have : rest = [] := by simpa using hx.symm
    subst this
    rw [List.append_nil] at e
    subst e
    exact hQ S' s' C Dd st hD ho hS hm hC hSC nt hne
theorem dmk_snoc (l : List (Ky × D)) (k : Ky) (d : D) : dmk (l ++ [(k, d)]) = dput (dmk l).1 (dmk l).2 k d := by
  unfold dmk; rw [List.foldl_append]; rfl
theorem dmk_len (l : List (Ky × D)) : (dmk l).1.length ≤ l.length := by
  have : ∀ (l : List (Ky × D)) q, (l.foldl (fun q kd => dput q.1 q.2 kd.1 kd.2) q).1.length ≤ q.1.length + l.length := by
    intro l
    induction l with
    | nil => intro q; exact Nat.le_refl _
    | cons x l ih =>
      intro q
      refine Nat.le_trans (ih _) ?_
      have : (dput q.1 q.2 x.1 x.2).1.length ≤ q.1.length + 1 := by
        unfold dput; split
        · exact Nat.le_succ _
        · simp
      simp only [List.length_cons]; lia
  simpa [dmk] using this l ([], [])
theorem CompRuns.dict {α : Type} {scope : Scope} {kx vx tgt iter : Expr} {ifs : List Expr} {pos : Pos} (as : List α) (φ : α → D) (ρ' : α → LEnv) (p : α → Bool) (kf : α → Ky) (f : α → D)
    (hsrc : Src G A act ρ tgt iter (as.map φ)) (hlen : as.length ≤ sizeLine)
    (turn : ∀ (act' : Act (relS scope sc) (cellNames scope.names)) a, a ∈ as → Takes G A act' tgt (φ a) (ρ.inner scope) (ρ' a) ∧ (∀ y l, (ρ.inner scope).lookup y = some l → (ρ' a).lookup y = some l) ∧
      Tests G A act' (ρ' a) ifs (p a) ∧ (p a = true → Ev G A act' (ρ' a) kx (kf a).d ∧ Ev G A act' (ρ' a) vx (f a)))
    (hfit : compFit scope sc = true) (hs : ∀ x, foldedSetIterable iter act.env x = pure x) :
    CompRuns G A act ρ (fun use => comprehension (.DictComp kx vx [⟨tgt, iter, ifs, 0⟩] scope pos) scope act.env iter.pos newDict false (eval iter act.env) use)
      (.dict (dmk ((as.filter p).map fun a => (kf a, f a))).1 (dmk ((as.filter p).map fun a => (kf a, f a))).2) := fun kp adr S s use Q O hQ => by
  refine comp_core (o₀ := { cls := .type "dict", data := .dict #[] }) (d₀ := .dict [] []) (tail := fun env acc => dictTail kx vx env acc) (p := iter.pos) (gs := []) hfit rfl hs (fun s Q h => wpAny_newObj_type (T := "dict") (data := .dict #[]) h (Nat.zero_le _)) (fun S => .dict (kvs := []) (by intro e he; simp at he) .nil rfl .nil .nil) rfl
    (fun it acc env R s h0 h => codeAny_compStart_dict h0 h) (fun _ _ _ => rfl) (fun it Dd env Q E s h => dict_den Q E s h) hsrc
    (fun xs d => ∃ done rest, as = done ++ rest ∧ xs = rest.map φ ∧ d = .dict (dmk ((done.filter p).map fun a => (kf a, f a))).1 (dmk ((done.filter p).map fun a => (kf a, f a))).2) ⟨[], as, rfl, rfl, rfl⟩ ?_ O ?_
  · rintro act' x xs d ⟨done, rest, e, hx, rfl⟩
    cases rest with
    | nil => simp at hx
    | cons a rest =>
      simp only [List.map_cons, List.cons.injEq] at hx
      obtain ⟨rfl, rfl⟩ := hx
      (refine cps fun ZP zk => ?_; obtain ⟨t1, t2, t3, t4⟩ := turn act' a (by rw [e]; simp); refine zk ?_)
      have hle : (dmk ((done.filter p).map fun a => (kf a, f a))).1.length ≤ sizeLine := by
        refine Nat.le_trans (dmk_len _) ?_
        rw [List.length_map]
        refine Nat.le_trans (List.length_filter_le _ _) (Nat.le_trans ?_ hlen)
        rw [e, List.length_append]; exact Nat.le_add_right _ _
      cases hp : p a with
      | true =>
        rw [hp] at t3
        refine ⟨ρ' a, true, _, t1, t2, t3, fun _ => App.dict (t4 hp).1 (t4 hp).2 hle, (fun e => nomatch e), done ++ [a], rest, by rw [e]; simp, rfl, ?_⟩
        rw [List.filter_append, List.map_append, show ([a].filter p) = [a] by simp [hp]]
        show _ = D.dict (dmk (_ ++ [(kf a, f a)])).1 (dmk (_ ++ [(kf a, f a)])).2
        rw [dmk_snoc]
      | false =>
        rw [hp] at t3
        exact ⟨ρ' a, false, _, t1, t2, t3, (fun e => nomatch e), fun _ => rfl, done ++ [a], rest, by rw [e]; simp, rfl, by simp [List.filter_append, hp]⟩
  · rintro S' s' C Dd d' ⟨done, rest, e, hx, rfl⟩ st hD ho hS hm hC hSC nt hne
    have : rest = [] := by simpa using hx.symm
    subst this
    rw [List.append_nil] at e
    subst e
    exact hQ S' s' C Dd st hD ho hS hm hC hSC nt hne
end
end Mine
end

section
namespace Mine
variable {sc : Scope} {mc : List Str}
open PySem PySem.Calls PyProof.Rows
section
variable {G : Gl} {A : Around} {S S' : Fz} {s s' : Shared} {a b : Int} {x y : Str} {n : Nat} {d e : D}
theorem Is.int' {v : Value} {i : Int} (h : Is G S v (.int i)) : ∃ t, v = .int i t := h.intI
theorem Is.str' {v : Value} {x : Str} (h : Is G S v (.str x)) : ∃ t, v = .str x t := h.strI
theorem Inv.sk (I : Inv G S s) {P : Fz → Value → Prop} {v : Value} {t : Nat} (h : P S v) : Post G S s P v { s with toks := t } := ⟨S, I.toks t, h⟩
theorem Op2.add : Op2 G A (binaryOp .Add) (.int a) (.int b) (.int (a + b)) := fun S s va vb I ha hb => by
  obtain ⟨ta, rfl⟩ := ha.intI; obtain ⟨tb, rfl⟩ := hb.intI; exact add_int (I.sk (.int ..))
theorem Op2.sub : Op2 G A (binaryOp .Sub) (.int a) (.int b) (.int (a - b)) := fun S s va vb I ha hb => by
  obtain ⟨ta, rfl⟩ := ha.intI; obtain ⟨tb, rfl⟩ := hb.intI; exact PyProof.Rows.sub_int (I.sk (.int ..))
theorem Op2.mul (hm : IntMulOk a b) : Op2 G A (binaryOp .Mult) (.int a) (.int b) (.int (a * b)) := fun S s va vb I ha hb => by
  obtain ⟨ta, rfl⟩ := ha.intI; obtain ⟨tb, rfl⟩ := hb.intI; exact PyProof.Rows.mul_int (I.sk (.int ..)) hm
theorem Op2.fdiv (h0 : 0 < b) (hb : b < 1073741824) : Op2 G A (binaryOp .FloorDiv) (.int a) (.int b) (.int (a / b)) := fun S s va vb I ha hb' => by
  obtain ⟨ta, rfl⟩ := ha.intI; obtain ⟨tb, rfl⟩ := hb'.intI
  rw [← Int.fdiv_eq_ediv_of_nonneg a (Int.le_of_lt h0)]
  exact PyProof.Rows.floordiv_int (fun e => by rw [e] at h0; exact absurd h0 (by decide)) (I.sk (.int ..)) (.inl (PyProof.noPylong_small (by omega)))
theorem Op2.mod (h0 : 0 < b) : Op2 G A (binaryOp .Mod) (.int a) (.int b) (.int (a % b)) := fun S s va vb I ha hb' => by
  obtain ⟨ta, rfl⟩ := ha.intI; obtain ⟨tb, rfl⟩ := hb'.intI
  rw [← Int.fmod_eq_emod_of_nonneg a (Int.le_of_lt h0)]
  exact PyProof.Rows.mod_int' (fun e => by rw [e] at h0; exact absurd h0 (by decide)) (I.sk (.int ..))
theorem Op2.iadd : Op2 G A (inplaceOp .Add) (.int a) (.int b) (.int (a + b)) := fun S s va vb I ha hb => by
  obtain ⟨ta, rfl⟩ := ha.intI; obtain ⟨tb, rfl⟩ := hb.intI; exact iadd_int (I.sk (.int ..))
theorem Op2.isub : Op2 G A (inplaceOp .Sub) (.int a) (.int b) (.int (a - b)) := fun S s va vb I ha hb => by
  obtain ⟨ta, rfl⟩ := ha.intI; obtain ⟨tb, rfl⟩ := hb.intI; exact isub_int (I.sk (.int ..))
theorem mulOk_left (h1 : -18446744073709551616 < a) (h2 : a < 18446744073709551616) : IntMulOk a b := IntMulOk.of_left (intBits_le_64 h1 h2)
theorem Cmp.lt : Cmp G A .Lt (.int a) (.int b) (decide (a < b)) := fun S s va vb I ha hb => by
  obtain ⟨ta, rfl⟩ := ha.intI; obtain ⟨tb, rfl⟩ := hb.intI; exact lt_int ⟨S, .refl I, rfl⟩
theorem Cmp.gt : Cmp G A .Gt (.int a) (.int b) (decide (b < a)) := fun S s va vb I ha hb => by
  obtain ⟨ta, rfl⟩ := ha.intI; obtain ⟨tb, rfl⟩ := hb.intI; exact gt_int ⟨S, .refl I, rfl⟩
theorem Cmp.le : Cmp G A .LtE (.int a) (.int b) (decide (a ≤ b)) := fun S s va vb I ha hb => by
  obtain ⟨ta, rfl⟩ := ha.intI; obtain ⟨tb, rfl⟩ := hb.intI; exact le_int ⟨S, .refl I, rfl⟩
theorem Cmp.eqI : Cmp G A .Eq (.int a) (.int b) (a == b) := fun S s va vb I ha hb => by
  obtain ⟨ta, rfl⟩ := ha.intI; obtain ⟨tb, rfl⟩ := hb.intI; exact eq_int ⟨S, .refl I, rfl⟩
theorem Cmp.neI : Cmp G A .NotEq (.int a) (.int b) (a != b) := fun S s va vb I ha hb => by
  obtain ⟨ta, rfl⟩ := ha.intI; obtain ⟨tb, rfl⟩ := hb.intI; exact ne_int ⟨S, .refl I, rfl⟩
theorem Cmp.eqS (hA : Room n A) : Cmp G A .Eq (.str x) (.str y) (x == y) := Cmp.eq hA rfl
theorem Cmp.notInS : Cmp G A .NotIn (.str y) (.str x) (!Txt.contains x y) := fun S s va vb I ha hb => by
  obtain ⟨ta, rfl⟩ := ha.strI; obtain ⟨tb, rfl⟩ := hb.strI; exact SB.notContains ⟨S, .refl I, rfl⟩
noncomputable def D.isNone : D → Bool
  | .none => true
  | .raw v => v == .none
  | .at v _ => v == .none
  | _ => false
theorem Is.noneEq {v : Value} (h : Is G S v d) : (v == .none) = d.isNone := by
  cases d with
  | none => rw [h.noneI]; rfl
  | bool => rw [h.boolI]; rfl
  | int => obtain ⟨t, rfl⟩ := h.intI; rfl
  | str => obtain ⟨t, rfl⟩ := h.strI; rfl
  | raw u => rw [h.rawI]; rfl
  | «at» u d => rw [h.atI.1]; rfl
  | range => obtain ⟨_, _, _, _, rfl, _⟩ := h.rangeI; rfl
  | tuple => obtain ⟨_, _, _, _, rfl, _⟩ := h.tupleI; rfl
  | list => obtain ⟨_, _, _, _, rfl, _⟩ := h.listI; rfl
  | dict => obtain ⟨_, _, _, _, rfl, _⟩ := h.dictI; rfl
  | items => obtain ⟨_, _, rfl, _⟩ := h.itemsI; rfl
  | values => obtain ⟨_, _, rfl, _⟩ := h.valuesI; rfl
theorem Cmp.isNone : Cmp G A .Is d .none d.isNone := fun S s va vb I ha hb => by
  rw [hb.noneI]; exact is_none_gen ⟨S, .refl I, by rw [ha.noneEq]⟩
theorem Cmp.isBool {p q : Bool} : Cmp G A .Is (.bool p) (.bool q) (p == q) := fun S s va vb I ha hb => by
  rw [ha.boolI, hb.boolI]; cases p <;> cases q <;> exact wpAny_pure ⟨S, .refl I, rfl⟩
theorem Tru.bool {p : Bool} : Tru G A (.bool p) p := fun S s va I ha => by rw [ha.boolI]; exact wpAny_truthy_bool ⟨S, .refl I, rfl⟩
theorem Op2.addS (h : x.length + y.length ≤ sizeLine) : Op2 G A (binaryOp .Add) (.str x) (.str y) (.str (x ++ y)) := fun S s va vb I ha hb => by
  obtain ⟨ta, rfl⟩ := ha.strI; obtain ⟨tb, rfl⟩ := hb.strI; exact SB.add (fun t' k => I.sk (.str ..)) h
theorem Op2.mulS (h : MulOk x a) : Op2 G A (binaryOp .Mult) (.str x) (.int a) (.str (Txt.mul x a)) := fun S s va vb I ha hb => by
  obtain ⟨ta, rfl⟩ := ha.strI; obtain ⟨tb, rfl⟩ := hb.intI; exact SB.mul h fun t' k => I.sk (.str ..)
theorem Is.lst {v : Value} {ds : List D} (I : Inv G S s) (h : Is G S v (.list ds)) : ∃ a vs, v = .ref a ∧ s.heap.IsList a vs.toArray ∧ Alls G S vs ds := by
  exact let ⟨a, o, n, vs, e, h1, h2, h3, r⟩ := h.listI; ⟨a, vs, e, ⟨o, I.sub _ _ h1, h2, n, h3⟩, r⟩
noncomputable def PostO (G : Gl) (S : Fz) (s : Shared) (d : D) : Value → Shared → Prop := fun v s' => ∃ S' a o, Stp G S s S' s' ∧ v = .ref a ∧ s'.heap.get? a = some o ∧ Own G S' o d ∧ S' a = none ∧ s.heap.get? a = none
theorem PostO.pre {v : Value} (st : Stp G S s S' s') (h : PostO G S' s' d v s'') : PostO G S s d v s'' := by
  obtain ⟨S'', a, o, st', hv, ho, w, hS, hn⟩ := h
  refine ⟨S'', a, o, st.trans st', hv, ho, w, hS, ?_⟩
  cases q : s.heap.get? a with
  | none => rfl
  | some o' => rw [st.keep _ _ (st.inv.noTabFresh hn) q] at hn; exact nomatch hn
theorem PostO.push (I : Inv G S s) {o : Obj} {d : D} (w : Own G S o d) (hf : o.isFreed = false) {t : Nat} : PostO G S s d (.ref s.heap.objs.size) { s with heap := s.heap.push o, toks := t } := by
  (refine cps fun ZP zk => ?_; obtain ⟨S', a, o', st, e, ho, w', hS, hn⟩ := I.pushO w hf (t := t); refine zk ?_)
  exact ⟨S', a, o', st, e, ho, w', hS, hn⟩
noncomputable def Op2O (G : Gl) (A : Around) (m : Value → Value → Sem Value) (a b c : D) : Prop := ∀ S s va vb, Inv G S s → Is G S va a → Is G S vb b → wpAny G.M A (m va vb) (PostO G S s c) No s
theorem EvO.bin {act : Act sc mc} {ρ : LEnv} {l r : Expr} {pos : Pos} {d₁ d₂ : D} {op : Operator} (hl : Ev G A act ρ l d₁) (hr : Ev G A act ρ r d₂) (ho : Op2O G A (binaryOp op) d₁ d₂ d) : EvO G A act ρ (.BinOp l op r pos) d := fun kp adr S s O =>
  wpAny_BinOp (wp_seq (hl kp adr S s O) fun S₁ va s₁ st₁ ia => wp_seq (hr kp adr S₁ s₁ (O.step st₁)) fun S₂ vb s₂ st₂ ib =>
    wpAny_mono (ho S₂ s₂ va vb st₂.inv (ia.mono st₂.sub) ib) (fun _ _ h => h.pre (st₁.trans st₂)) fun _ _ e => e)
theorem Op2O.addL {ds es : List D} (h : ds.length + es.length ≤ sizeLine) : Op2O G A (binaryOp .Add) (.list ds) (.list es) (.list (ds ++ es)) := fun S s va vb I ha hb => by
  obtain ⟨l, vs, rfl, hl, r⟩ := ha.lst I
  obtain ⟨b, ws, rfl, hb, r'⟩ := hb.lst I
  (refine cps fun ZP zk => ?_; obtain ⟨⟨cls, dd, data, sl⟩, ho, hc, n, hd⟩ := id hl; refine zk ?_)
  (refine cps fun ZP zk => ?_; obtain ⟨⟨cls2, dd2, data2, sl2⟩, ho2, hc2, n2, hd2⟩ := id hb; refine zk ?_)
  simp only at hc hd hc2 hd2
  subst hc hd hc2 hd2
  have e : vs.toArray ++ ws.toArray = (vs ++ ws).toArray := by simp
  refine concat_meets ⟨_, ho, rfl⟩ ⟨_, ho2, rfl⟩ noFill_list_add seq_list_add PySem.F.slot_list_add PySem.F.entry_list_add (PySem.F.args_list_add_2 _ _)
    (PyProof.Rows.list_addW l b vs.toArray ws.toArray n n2 dd dd2 sl sl2 (by rw [List.size_toArray, List.size_toArray, r.length, r'.length]; exact h)) ⟨ho, ho2, ?_⟩
  rw [e]
  exact PostO.push I (.list (vs := vs ++ ws) (r.append r')) rfl
end
end Mine
end

section
namespace Mine
variable {sc : Scope} {mc : List Str}
open PySem PySem.Calls PyProof.Rows PySem.SeqAt
noncomputable def lslice {α : Type} (xs : List α) (lo hi st : Option Int) : List α := (sliceRange (sliceBounds lo hi st xs.length).1 (sliceBounds lo hi st xs.length).2.1 (sliceBounds lo hi st xs.length).2.2).filterMap (xs[·]?)
section
variable {G : Gl} {A : Around} {act : Act sc mc} {ρ : LEnv} {S S' : Fz} {s s' : Shared} {x y : Str} {n : Nat} {d e : D} {ds : List D}
theorem Alls.at : ∀ {vs : List Value} {ds : List D}, Alls G S vs ds → ∀ i : Nat, (vs[i]? = none ∧ ds[i]? = none) ∨ ∃ v d, vs[i]? = some v ∧ ds[i]? = some d ∧ Is G S v d
  | _, _, .nil, i => .inl ⟨rfl, rfl⟩
  | _, _, .cons h _, 0 => .inr ⟨_, _, rfl, rfl, h⟩
  | _, _, .cons _ r, i + 1 => by simpa using r.at i
theorem Alls.pick {vs : List Value} {ds : List D} (h : Alls G S vs ds) : ∀ is : List Nat, Alls G S (is.filterMap (vs[·]?)) (is.filterMap (ds[·]?))
  | [] => .nil
  | i :: is => by
    rcases h.at i with ⟨h1, h2⟩ | ⟨v, d, h1, h2, hi⟩
    · simp only [List.filterMap_cons, h1, h2]; exact h.pick is
    · simp only [List.filterMap_cons, h1, h2]; exact .cons hi (h.pick is)
theorem slicePick_l {vs : List Value} {lo hi st : Option Int} : slicePick vs.toArray lo hi st = (lslice vs lo hi st).toArray := by
  unfold slicePick lslice
  simp
theorem Alls.slice {vs : List Value} {ds : List D} {lo hi st : Option Int} (h : Alls G S vs ds) : Alls G S (lslice vs lo hi st) (lslice ds lo hi st) := by
  unfold lslice
  rw [h.length]
  exact h.pick _

/-! membership -/
theorem any_by : ∀ {vs : List Value} {ds : List D}, Alls G S vs ds → ∀ {e : Value → Bool} {f : D → Bool}, (∀ v d, v ∈ vs → d ∈ ds → Is G S v d → e v = f d) → vs.any e = ds.any f
  | _, _, .nil, _, _, _ => rfl
  | _, _, .cons i r, _, _, he => by
    rw [List.any_cons, List.any_cons, he _ _ (.head _) (.head _) i, any_by r fun v d hv hd => he v d (.tail _ hv) (.tail _ hd)]
theorem Alls.mem_of : ∀ {vs : List Value} {ds : List D}, Alls G S vs ds → ∀ {v : Value}, v ∈ vs → ∃ d ∈ ds, Is G S v d
  | _, _, .nil, _, hv => nomatch hv
  | _, _, .cons i r, _, hv => by
    rcases List.mem_cons.mp hv with rfl | hv
    · exact ⟨_, .head _, i⟩
    · obtain ⟨d, hd, i⟩ := r.mem_of hv; exact ⟨d, .tail _ hd, i⟩
open Classical in
theorem inAt (I : Inv G S s) (hu : A.units + 8 < cLine) {vs : List Value} {va : Value} {f : D → Bool} (r : Alls G S vs ds) (ha : Is G S va d) (hdef : ∀ a ∈ ds, ∀ b ∈ ds, ∃ r, deq 8 a b = some r) (hf : ∀ b ∈ ds, deq 8 b d = some (f b)) :
    ∃ e : Value → Bool, (∀ y ∈ vs, EqAt A s y va (e y)) ∧ vs.any e = ds.any f := by
  have key : ∀ v d', v ∈ vs → d' ∈ ds → Is G S v d' → decide (∃ b ∈ ds, Is G S v b ∧ f b = true) = f d' := fun v d' hv hd hi => by
    rw [Bool.eq_iff_iff, decide_eq_true_eq]
    constructor
    · rintro ⟨b, hb, ib, fb⟩
      obtain ⟨r, hr⟩ := hdef b hb d' hd
      rw [← Is.det 8 v b d' r ib hi hr]; exact fb
    · intro h; exact ⟨d', hd, hi, h⟩
  refine ⟨fun v => decide (∃ b ∈ ds, Is G S v b ∧ f b = true), fun y hy => ?_, any_by r key⟩
  obtain ⟨b, hb, ib⟩ := r.mem_of hy
  show EqAt A s y va (decide _)
  rw [key y b hy hb ib]
  exact eqAt I 8 A y va b d (f b) hu ib ha (hf b hb)
theorem Cmp.inL (hA : Room n A) {f : D → Bool} (hdef : ∀ a ∈ ds, ∀ b ∈ ds, ∃ r, deq 8 a b = some r) (hf : ∀ b ∈ ds, deq 8 b d = some (f b)) : Cmp G A .In d (.list ds) (ds.any f) := fun S s va vb I ha hb => by
  obtain ⟨l, vs, rfl, hl, r⟩ := hb.lst I
  obtain ⟨e, he, hany⟩ := inAt I hA.u8' r ha hdef hf
  exact in_listAt e hl (fun y hy => he y (by simpa using hy)) ⟨S, .refl I, by rw [← Array.any_toList, show vs.toArray.toList = vs from rfl, hany]⟩
theorem Cmp.notInT (hA : Room n A) {f : D → Bool} (hdef : ∀ a ∈ ds, ∀ b ∈ ds, ∃ r, deq 8 a b = some r) (hf : ∀ b ∈ ds, deq 8 b d = some (f b)) : Cmp G A .NotIn d (.tuple ds) (!ds.any f) := fun S s va vb I ha hb => by
  obtain ⟨l, vs, rfl, hl, r⟩ := hb.tup I
  obtain ⟨e, he, hany⟩ := inAt I hA.u8' r ha hdef hf
  exact notIn_tupleAt e hl (fun y hy => he y (by simpa using hy)) ⟨S, .refl I, by rw [← Array.any_toList, show vs.toArray.toList = vs from rfl, hany]⟩
theorem any_int (k : Int) (ns : List Int) : (ns.map D.int).any (fun b => match b with | .int i => i == k | _ => false) = decide (k ∈ ns) := by
  induction ns with
  | nil => rfl
  | cons m ns ih =>
    simp only [List.map_cons, List.any_cons, ih, List.mem_cons, Bool.decide_or]
    congr 1
    by_cases h : m = k
    · subst h; simp
    · rw [beq_eq_false_iff_ne.mpr h, decide_eq_false (Ne.symm h)]
theorem Cmp.inInts (hA : Room n A) {k : Int} {ns : List Int} : Cmp G A .In (.int k) (.list (ns.map .int)) (decide (k ∈ ns)) := by
  rw [← any_int]
  refine Cmp.inL hA (fun a ha b hb => ?_) fun b hb => ?_
  · obtain ⟨i, _, rfl⟩ := List.mem_map.mp ha; obtain ⟨j, _, rfl⟩ := List.mem_map.mp hb; exact ⟨_, rfl⟩
  · obtain ⟨i, _, rfl⟩ := List.mem_map.mp hb; rfl
theorem dict_of {ks : List Ky} {v : Value} (I : Inv G S s) (h : Is G S v (.dict ks ds)) : ∃ a kvs, v = .ref a ∧ s.heap.DictOf G.knd a kvs ∧ ks = kvs.map (·.1) ∧ Alls G S (kvs.map (·.2)) ds ∧ (a == sysModules) = false := by
  exact let ⟨a, es, ep, kvs, e, h1, h2, h3, h4, h5, r, h6⟩ := h.dictI; ⟨a, kvs, e, dictOf_of I h1 h2 h3 (h4 ▸ h5), h4, r, h6⟩
theorem valueAt_mem {kvs : List (Ky × Value)} {k : Ky} : (valueAt kvs k).isSome = decide (k ∈ kvs.map (·.1)) := by
  unfold valueAt
  rw [Bool.eq_iff_iff]
  simp [List.find?_isSome]
theorem Cmp.inR {k lo hi : Int} : Cmp G A .In (.int k) (.range lo hi) (decide (lo ≤ k ∧ k < hi)) := fun S s va vb I ha hb => by
  obtain ⟨tk, rfl⟩ := ha.intI
  obtain ⟨r, t, u, v, rfl, h⟩ := hb.rangeI
  have ho := I.sub _ _ h
  have hT : s.TypeIs (.ref r) "range" := ⟨_, ho, rfl⟩
  show wpAny _ _ (contains (.ref r) (.int k tk) >>= fun b => pure (Value.bool b)) _ _ s
  refine wpAny_bind (wpAny_contains_slot hT F.slot_range_contains (wpAny_call_entry F.slot_range_contains hT F.entry_range_contains ?_ (F.args_range_contains_2 _ _)))
  show wpAny _ _ (Builtin.Range.rangeFields (.ref r) >>= _) _ _ s
  refine wpAny_bind (wpAny_mono (Q := fun q s' => q = (lo, hi, 1) ∧ s' = s) ?_ (fun q s' hq => ?_) fun _ _ e => e)
  · unfold Builtin.Range.rangeFields
    refine wpAny_bind (wpAny_field ho rfl rfl (wpAny_bind (wpAny_of_eq (a := some lo) rfl (wpAny_bind (wpAny_field ho rfl rfl (wpAny_bind (wpAny_of_eq (a := some hi) rfl (wpAny_bind (wpAny_field ho rfl rfl (wpAny_bind (wpAny_of_eq (a := some 1) rfl ?_)))))))))))
    exact wpAny_pure ⟨rfl, rfl⟩
  · obtain ⟨rfl, rfl⟩ := hq
    refine wpAny_pure ⟨_, rfl, wpAny_truthy_bool (wpAny_pure ⟨S, .refl I, ?_⟩)⟩
    have : (Builtin.Range.rangePlace? lo hi 1 k).isSome = decide (lo ≤ k ∧ k < hi) := by
      unfold Builtin.Range.rangePlace?
      simp only [show (1 : Int) > 0 by decide, if_true, Int.emod_one, beq_self_eq_true, Bool.and_true]
      by_cases h1 : lo ≤ k <;> by_cases h2 : k < hi <;> simp [h1, h2]
    rw [this]
end
end Mine
end

section
namespace Mine
variable {sc : Scope} {mc : List Str}
open PySem PySem.Calls PyProof.Rows PySem.SeqAt
theorem subscripted_ops (slice : Expr) (o i : Value) : ∃ ops, subscripted slice false o i = operate ops (getItem o i) := by
  cases slice with
  | Slice a b c d => cases c <;> exact ⟨_, rfl⟩
  | _ => exact ⟨_, rfl⟩
section
variable {G : Gl} {A : Around} {act : Act sc mc} {kp : Kept} {adr : Str → Addr} {ρ : LEnv} {S S' : Fz} {s s' : Shared} {x y : Str} {n : Nat} {d e : D} {ds : List D} {value slice : Expr} {pos : Pos}
theorem sub_tail {o i : Value} {T id : String} {Q : Value → Shared → Prop} {E : Value → Shared → Prop} (hT : s.TypeIs o T) (hl : typeLookup (.type T) "__getitem__" = pure (some (.builtin id))) (h : wpAny G.M A (getItem o i) Q E s) :
    wpAny G.M A (subscriptTail value slice o i) Q E s := by
  unfold subscriptTail
  refine wpAny_bind ?_
  rw [getitemInPython_of_ne hT.not_modules]
  refine wpAny_bind (wpAny_specialOf hT hl ?_)
  have fin : wpAny G.M A (subscripted slice false o i) (fun r s₃ => wpAny G.M A (letTemporaryGo value o r >>= fun _ => pure r) Q E s₃) E s := by
    obtain ⟨ops, hs⟩ := subscripted_ops slice o i
    rw [hs]
    exact wpAny_operating (wpAny_mono h (fun r s₃ h₃ => wpAny_bind (wpAny_letTemporaryGo (wpAny_pure h₃))) fun _ _ x => x)
  first
    | exact wpAny_pure (wpAny_bind fin)
    | exact wpAny_bind (wpAny_pure (wpAny_bind fin))
    | exact wpAny_bind fin
noncomputable def SubD (G : Gl) (A : Around) (a i c : D) : Prop := ∀ S s va vi, Inv G S s → Is G S va a → Is G S vi i → ∃ T id, s.TypeIs va T ∧ typeLookup (.type T) "__getitem__" = pure (some (.builtin id)) ∧ wpAny G.M A (getItem va vi) (Post G S s fun S' v => Is G S' v c) No s
theorem Ev.sub {a i : D} (hv : Ev G A act ρ value a) (hi : Ev G A act ρ slice i) (h : SubD G A a i d) : Ev G A act ρ (.Subscript value slice pos) d := fun kp adr S s O =>
  Subscript_ (wp_seq (hv kp adr S s O) fun S₁ va s₁ st₁ ia => wp_seq (hi kp adr S₁ s₁ (O.step st₁)) fun S₂ vi s₂ st₂ ii => by
    obtain ⟨T, id, hT, hl, hg⟩ := h S₂ s₂ va vi st₂.inv (ia.mono st₂.sub) ii
    exact sub_tail hT hl (wp_pre (st₁.trans st₂) hg))
theorem Alls.got {vs : List Value} (h : Alls G S vs ds) {i : Nat} (hd : ds[i]? = some d) : ∃ v, vs[i]? = some v ∧ Is G S v d := by
  rcases h.at i with ⟨_, h2⟩ | ⟨v, d', h1, h2, hi⟩
  · rw [h2] at hd; exact nomatch hd
  · rw [h2] at hd; obtain rfl := Option.some.inj hd; exact ⟨v, h1, hi⟩
theorem seqIdx {k : Int} {len : Nat} (h0 : 0 ≤ k) (h : k.toNat < len) : seqIndex? k len = some k.toNat := by
  unfold seqIndex?
  have h1 : ¬ (k < 0) := by lia
  have h2 : k < (len : Int) := by lia
  simp [h1, h2, h0]
theorem SubD.list {k : Int} (h0 : 0 ≤ k) (hf : k < 2 ^ 63) (hd : ds[k.toNat]? = some d) : SubD G A (.list ds) (.int k) d := fun S s va vi I ha hi => by
  obtain ⟨l, vs, rfl, hl, r⟩ := ha.lst I
  obtain ⟨ti, rfl⟩ := hi.intI
  obtain ⟨v, hv, i⟩ := r.got hd
  exact ⟨"list", _, hl.typeIs, slot_list_getitem.lookup, wpAny_getItem_list hl h0 hf (by simpa using hv) ⟨S, .refl I, i⟩⟩
theorem SubD.listN {k : Int} (h0 : k < 0) (hf : -(2 ^ 63) ≤ k) (h1 : -(ds.length : Int) ≤ k) (hd : ds[(k + ds.length).toNat]? = some d) : SubD G A (.list ds) (.int k) d := fun S s va vi I ha hi => by
  obtain ⟨l, vs, rfl, hl, r⟩ := ha.lst I
  obtain ⟨ti, rfl⟩ := hi.intI
  obtain ⟨v, hv, i⟩ := r.got hd
  have hle := r.length
  exact ⟨"list", _, hl.typeIs, slot_list_getitem.lookup, wpAny_getItem_list_neg hl h0 (by rw [List.size_toArray, hle]; exact h1) hf (by rw [List.size_toArray, hle]; simpa using hv) ⟨S, .refl I, i⟩⟩
theorem SubD.tuple {k : Int} (h0 : 0 ≤ k) (h1 : k < 1000) (hd : ds[k.toNat]? = some d) : SubD G A (.tuple ds) (.int k) d := fun S s va vi I ha hi => by
  (refine cps fun ZP zk => ?_; obtain ⟨a, o, m, vs, rfl, hS, hc, hda, r⟩ := ha.tupleI; refine zk ?_)
  obtain ⟨ti, rfl⟩ := hi.intI
  obtain ⟨v, hv, i⟩ := r.got hd
  have hlt : k.toNat < vs.length := by
    rw [List.getElem?_eq_some_iff] at hv; exact hv.1
  refine ⟨"tuple", _, ⟨o, I.sub _ _ hS, hc⟩, PySem.F.slot_tuple_getitem.lookup, ?_⟩
  exact PyProof.Rows.getItem_tuple (items := vs.toArray) (j := k.toNat) ⟨o, I.sub _ _ hS, hc, m, hda⟩ (by lia) (by lia) (by rw [List.size_toArray]; exact seqIdx h0 hlt) (by simpa using hv) ⟨S, .refl I, i⟩
theorem dfind_is {kvs : List (Ky × Value)} {ks : List Ky} {k : Ky} (e : ks = kvs.map (·.1)) (r : Alls G S (kvs.map (·.2)) ds) (hd : dfind k ks ds = some d) : ∃ v, valueAt kvs k = some v ∧ Is G S v d := by
  subst e
  rcases dfind_valueAt (k := k) r with ⟨h1, _⟩ | ⟨d', v, h1, h2, i⟩
  · rw [h1] at hd; exact nomatch hd
  · rw [h1] at hd; obtain rfl := Option.some.inj hd; exact ⟨v, h2, i⟩
theorem SubD.dict {ks : List Ky} {k : Ky} (hd : dfind k ks ds = some d) : SubD G A (.dict ks ds) k.d d := fun S s va vi I ha hi => by
  (refine cps fun ZP zk => ?_; obtain ⟨a, kvs, rfl, hm, e, r, hs⟩ := dict_of I ha; refine zk ?_)
  obtain ⟨v, hv, i⟩ := dfind_is e r hd
  exact ⟨"dict", _, hm.typeIs, slot_dict_getitem.lookup, wpAny_getItem_of (Ky.kindIs hi) hm.mapOf hv ⟨S, I.toks _, i⟩⟩
theorem OK.nameOwn (O : OK G act kp adr ρ S s) {x : Str} {d : D} {pos : Pos} {Q : Value → Shared → Prop} {E : Value → Shared → Prop} (hx : ρ.lookup x = some (.own d))
    (h : Q (.ref (adr x)) s) (hd : (x == ("__debug__" : Str)) = false := by decide) (hn : (x == ("__classdict__" : Str)) = false := by decide) : wpAny G.M A (eval (.Name x pos) act.env) Q E s := by
  obtain ⟨r, _⟩ := O.vars x _ hx
  refine wpAny_Name ?_ hd
  rcases r with ⟨k, m, hm, e⟩ | ⟨k | k, c, hc, hv⟩
  · exact wpAny_loadName_local O.fn' k hm e h
  · exact wpAny_loadName_cell O.fn' k hc hv h
  · exact wpAny_loadName_free O.fn' k hc hv h hn
theorem OK.ownAt (O : OK G act kp adr ρ S s) {x : Str} {d : D} (hx : ρ.lookup x = some (.own d)) : ∃ o, s.heap.get? (adr x) = some o ∧ Own G S o d := (O.vars x _ hx).2.1
theorem OK.ownSys (O : OK G act kp adr ρ S s) {x : Str} {d : D} (hx : ρ.lookup x = some (.own d)) : (adr x == sysModules) = false := beq_eq_false_iff_ne.mpr fun e => by
  obtain ⟨_, _, hS, _⟩ := O.vars x _ hx
  obtain ⟨o, ho⟩ := G.sm
  rw [e, O.inv.base _ _ ho] at hS
  exact nomatch hS
theorem Ev.subOwn {ks : List Ky} {k : Ky} {nm : Str} {npos : Pos} (hx : ρ.lookup nm = some (.own (.dict ks ds))) (hi : Ev G A act ρ slice k.d) (hd : dfind k ks ds = some d)
    (h1 : (nm == ("__debug__" : Str)) = false := by decide) (h2 : (nm == ("__classdict__" : Str)) = false := by decide) : Ev G A act ρ (.Subscript (.Name nm npos) slice pos) d := fun kp adr S s O => by
  refine Subscript_ (O.nameOwn hx (wp_seq (hi kp adr S s O) fun S₂ vi s₂ st ii => ?_) h1 h2)
  have O₂ := O.step st
  obtain ⟨o, ho, w⟩ := O₂.ownAt hx
  obtain ⟨kvs, hm, e, r⟩ := Own.dictOf ho w
  obtain ⟨v, hv, i⟩ := dfind_is e r hd
  exact sub_tail hm.typeIs slot_dict_getitem.lookup (wpAny_getItem_of (Ky.kindIs ii) hm.mapOf hv ⟨S₂, st.trans (st.inv.toks _), i⟩)
theorem Te.inOwn {ks : List Ky} {k : Ky} {nm : Str} {npos : Pos} {l : Expr} (hx : ρ.lookup nm = some (.own (.dict ks ds))) (hi : Ev G A act ρ l k.d)
    (h1 : (nm == ("__debug__" : Str)) = false := by decide) (h2 : (nm == ("__classdict__" : Str)) = false := by decide) : Te G A act ρ (.Compare l [.In] [.Name nm npos] pos) (decide (k ∈ ks)) := fun kp adr S s O => by
  refine wpAny_isTrue_Compare1 (wp_seq (hi kp adr S s O) fun S₁ va s₁ st₁ ia => ?_) (by with_unfolding_all rfl)
  have O₁ := O.step st₁
  refine O₁.nameOwn hx ?_ h1 h2
  obtain ⟨o, ho, w⟩ := O₁.ownAt hx
  (refine cps fun ZP zk => ?_; obtain ⟨kvs, hm, e, r⟩ := Own.dictOf ho w; refine zk ?_)
  exact wpAny_in_of (Ky.kindIs ia) (O.ownSys hx) hm.mapOf (wpAny_truthy_bool ⟨S₁, st₁.trans (st₁.inv.toks _), by rw [valueAt_mem, e]⟩)

/-! slices -/
noncomputable def Bd (G : Gl) (A : Around) (act : Act sc mc) (ρ : LEnv) (oe : Option Expr) (k : Option Int) : Prop := ∀ kp adr S s, OK G act kp adr ρ S s → wpAny G.M A (evalPart oe act.env) (Post G S s fun _ v => IsPart v k) No s
theorem Bd.non : Bd G A act ρ Option.none Option.none := fun _ _ S s O => wpAny_pure ⟨S, .refl O.inv, .none⟩
theorem Bd.at {ex : Expr} {i : Int} (h : Ev G A act ρ ex (.int i)) : Bd G A act ρ (Option.some ex) (Option.some i) := fun kp adr S s O => wp_post (h kp adr S s O) fun _ _ _ i => by obtain ⟨t, rfl⟩ := i.intI; exact .int ..
theorem EvO.sliced {lo hi st : Option Expr} {a b c : Option Int} {p : Pos} (hv : Ev G A act ρ value (.list ds)) (hl : Bd G A act ρ lo a) (hh : Bd G A act ρ hi b) (hs : Bd G A act ρ st c) (hn : ds.length ≤ sizeLine) (h0 : c ≠ some 0) :
    EvO G A act ρ (.Subscript value (.Slice lo hi st p) pos) (.list (lslice ds a b c)) := fun kp adr S s O => by
  refine Subscript_ (wp_seq (hv kp adr S s O) fun S₁ va s₁ st₁ ia => wpAny_Slice (wp_seq (hl kp adr S₁ s₁ (O.step st₁)) fun S₂ vl s₂ st₂ il => wp_seq (hh kp adr S₂ s₂ ((O.step st₁).step st₂)) fun S₃ vh s₃ st₃ ih =>
    wp_seq (hs kp adr S₃ s₃ (((O.step st₁).step st₂).step st₃)) fun S₄ vc s₄ st₄ ic => ?_))
  have st' := st₂.trans (st₃.trans st₄)
  obtain ⟨l, vs, rfl, hL, r⟩ := (ia.mono st'.sub).lst st'.inv
  have st5 := st'.inv.keeps (h' := s₄.heap.push { cls := .type "slice", data := .fields #[vl, vh, vc] }) (t := s₄.toks) fun b o e => Heap.get?_push_of_some _ e
  refine sub_tail (Heap.IsList.typeIs (s := { s₄ with heap := s₄.heap.push { cls := .type "slice", data := .fields #[vl, vh, vc] } }) (hL.push _)) slot_list_getitem.lookup ?_
  refine wpAny_getItem_list_slice (hL.push _) (Heap.IsSliceOf.new ..) il ih ic h0 ?_ (by rw [List.size_toArray, r.length]; exact hn)
  rw [slicePick_l]
  exact (PostO.push st5.inv (.list r.slice) rfl).pre ((st₁.trans st').trans st5)
theorem isPart_val {v : Value} {k : Option Int} (h : IsPart v k) : ∃ l : Option (Int × Tok), l.map (·.1) = k ∧ v = partValue l := by
  cases h with
  | none => exact ⟨none, rfl, rfl⟩
  | int i t => exact ⟨some (i, t), rfl, rfl⟩
theorem Ev.sliceS {lo hi : Option Expr} {a b : Option Int} {p : Pos} (hv : Ev G A act ρ value (.str x)) (hl : Bd G A act ρ lo a) (hh : Bd G A act ρ hi b) (hn : x.length ≤ sizeLine) :
    Ev G A act ρ (.Subscript value (.Slice lo hi Option.none p) pos) (.str (Txt.slice x a b)) := fun kp adr S s O => by
  refine Subscript_ (wp_seq (hv kp adr S s O) fun S₁ va s₁ st₁ ia => wpAny_Slice (wp_seq (hl kp adr S₁ s₁ (O.step st₁)) fun S₂ vl s₂ st₂ il => wp_seq (hh kp adr S₂ s₂ ((O.step st₁).step st₂)) fun S₃ vh s₃ st₃ ih => ?_))
  rw [evalPart_none]
  refine wpAny_pure ?_
  have st' := st₁.trans (st₂.trans st₃)
  obtain ⟨t, rfl⟩ := ia.str'
  obtain ⟨l, rfl, rfl⟩ := isPart_val il
  obtain ⟨u, rfl, rfl⟩ := isPart_val ih
  have st5 := st'.inv.keeps (h' := s₃.heap.push { cls := .type "slice", data := .fields #[partValue l, partValue u, .none] }) (t := s₃.toks) fun b o e => Heap.get?_push_of_some _ e
  refine sub_tail (typeIs_str _ _ _) PySem.F.slot_str_getitem.lookup ?_
  refine wpAny_getItem_str_slice (l := l) (u := u) (st := Option.none) ⟨_, Heap.get?_push_size _ rfl, rfl, rfl⟩ rfl ?_
  exact post_val_or_str ⟨Nat.le_trans (Txt.slice_le x _ _) hn, fun t' k => ⟨S₃, (st'.trans st5).trans (st5.inv.toks k), .str ..⟩⟩
end
end Mine
end

section
namespace Mine
variable {sc : Scope} {mc : List Str}
open PySem PySem.Calls PyProof.Rows
noncomputable def NsObj (o : Obj) (m : Str → Option Value) : Prop := ∃ es ep, o.data = .dict es ep ∧ StrKeys es ∧ ∀ name, nsFind es name = m name
structure Names (G : Gl) (mg mb : Str → Option Value) : Prop where
  g : ∃ o, G.base mainGlobals = some o ∧ NsObj o mg
  b : ∃ o, G.base builtinsNs = some o ∧ NsObj o mb
  lim : ∃ o m, G.base cStatics = some o ∧ NsObj o m ∧ m "sys.recursionlimit" = none
theorem NsObj.ns {h : Heap} {a : Addr} {o : Obj} {m : Str → Option Value} (x : NsObj o m) (ho : h.get? a = some o) : h.Ns a m := let ⟨es, ep, h1, h2, h3⟩ := x; ⟨o, es, ep, ho, h1, h2, h3⟩
structure FnAt (G : Gl) (mg : Str → Option Value) (nm : Str) (params : Arguments) (body : List Stmt) (scope : Scope) (dflt kwd : Value) (f : Addr) : Prop where
  named : mg nm = some (.ref f)
  obj : ∃ o fd, G.base f = some o ∧ o.data = .func fd ∧ fd.params = params ∧ fd.body = .stmts body ∧ fd.scope = scope ∧ fd.globals = mainGlobals ∧ fd.builtins = builtinsNs ∧ fd.closure = [] ∧ fd.defaults = dflt ∧ fd.kwdefaults = kwd ∧
    ∃ c oc vs t, fd.code = .ref c ∧ G.base c = some oc ∧ oc.data = .fields vs ∧ vs[1]? = some (.str fd.qualname t)
section
theorem bindL_not {k : Str → Option NameKind} {x : Str} : ∀ {bs : List (Str × Value)} {m : Str → Option Value}, x ∉ bs.map (·.1) → PySem.bindL k bs m x = m x
  | [], m, _ => rfl
  | (n, v) :: r, m, h => by
    rw [PySem.bindL, bindL_not (fun q => h (.tail _ q))]
    have : x ≠ n := fun e => h (e ▸ .head _)
    split <;> simp [this]
theorem bindL_at {k : Str → Option NameKind} {x : Str} {v : Value} (hk : k x = some .local) : ∀ {bs : List (Str × Value)} {m : Str → Option Value}, (bs.map (·.1)).Nodup → (x, v) ∈ bs → PySem.bindL k bs m x = some v
  | [], m, _, h => nomatch h
  | (n, u) :: r, m, nd, h => by
    rw [List.map_cons, List.nodup_cons] at nd
    rw [PySem.bindL]
    rcases List.mem_cons.mp h with e | h
    · obtain ⟨rfl, rfl⟩ := Prod.mk.inj e
      rw [bindL_not nd.1, if_pos hk]; simp
    · exact bindL_at hk nd.2 h
theorem bindC_not {k : Str → Option NameKind} {x : Str} : ∀ {bs : List (Str × Value)} {m : Str → Option Value}, x ∉ bs.map (·.1) → PySem.bindC k bs m x = m x
  | [], m, _ => rfl
  | (n, v) :: r, m, h => by
    rw [PySem.bindC, bindC_not (fun q => h (.tail _ q))]
    have : x ≠ n := fun e => h (e ▸ .head _)
    split <;> simp [this]
theorem bindC_at {k : Str → Option NameKind} {x : Str} {v : Value} (hk : k x ≠ some .local) : ∀ {bs : List (Str × Value)} {m : Str → Option Value}, (bs.map (·.1)).Nodup → (x, v) ∈ bs → PySem.bindC k bs m x = some v
  | [], m, _, h => nomatch h
  | (n, u) :: r, m, nd, h => by
    rw [List.map_cons, List.nodup_cons] at nd
    rw [PySem.bindC]
    rcases List.mem_cons.mp h with e | h
    · obtain ⟨rfl, rfl⟩ := Prod.mk.inj e
      rw [bindC_not nd.1, if_neg hk]; simp
    · exact bindC_at hk nd.2 h
theorem cellsFrom_nodup : ∀ {l : List (Str × NameKind)} {n : Nat} {acc : List (Str × Addr)}, (l.map (·.1)).Nodup → (acc.map (·.1)).Nodup → (∀ x ∈ acc.map (·.1), x ∉ l.map (·.1)) → ((cellsFrom n l acc).map (·.1)).Nodup
  | [], n, acc, _, h, _ => h
  | (x, k) :: r, n, acc, nd, h, hd => by
    rw [List.map_cons, List.nodup_cons] at nd
    rw [cellsFrom]
    split
    · refine cellsFrom_nodup nd.2 ?_ fun y hy hr => ?_
      · rw [List.map_cons, List.nodup_cons]
        exact ⟨fun q => hd x q (.head _), h⟩
      · rcases List.mem_cons.mp hy with e | hy
        · have e : y = x := e
          subst e; exact nd.1 hr
        · exact hd y hy (.tail _ hr)
    · exact cellsFrom_nodup nd.2 h fun y hy hr => hd y hy (.tail _ hr)
end
open Classical in
noncomputable def kpBut (G : Gl) (s : Shared) (X : List Addr) : Kept := ⟨fun b => if NoTab G b ∧ b ∉ X then s.heap.get? b else none, fun g => s.gens[g]?⟩
noncomputable def entAct (fd : FuncData) (scope : Scope) (hs : fd.scope = scope) (L a : Addr) : Act scope (cellNames scope.names) where
  env := callEnvC fd L a
  hsc := hs
  mt := L :: (callEnvC fd L a).cells.map (·.2)
section
variable {G : Gl} {A : Around} {S : Fz} {s : Shared} {mg mb : Str → Option Value} {nm : Str} {params : Arguments} {body : List Stmt} {scope : Scope} {dflt kwd : Value} {f : Addr}
noncomputable def scopeFit (scope : Scope) : Bool := scope.kind == .function && !scope.isCoroutine && !scope.isGenerator && decide ((scope.names.map (·.1)).Nodup) && scope.names.all (fun x => x.2 != .free)
noncomputable def bindFit (scope : Scope) (xs : List Str) : Bool := decide xs.Nodup && xs.all fun x => scope.names.lookup x == some .local || scope.names.lookup x == some .cell
noncomputable def EntArg (G : Gl) (S : Fz) (s : Shared) (adr : Str → Addr) (X : List Addr) (b : Str × Value × Loc) : Prop := match b.2.2 with
  | .val d => Is G S b.2.1 d
  | .own d => b.2.1 = .ref (adr b.1) ∧ adr b.1 ∈ X ∧ ∃ o, s.heap.get? (adr b.1) = some o ∧ Own G S o d
set_option tactic.hygienic true in
theorem enterEnv (N : Names G mg mb) {fd : FuncData} (h3 : fd.scope = scope) (h4 : fd.globals = mainGlobals) (h5 : fd.builtins = builtinsNs) (h6 : fd.closure = [])
    (f1 : scope.kind = .function) (f4 : (scope.names.map (·.1)).Nodup) (f5 : ∀ x ∈ scope.names, x.2 ≠ .free) (bs : List (Str × Value × Loc)) {args : Args} (hb : bindFit scope (bs.map (·.1)) = true)
    (hbind : BindsTo s fd args (bs.map fun b => (b.1, b.2.1)))
    (I : Inv G S s) (X : List Addr) (adr : Str → Addr) (hX : ∀ a ∈ X, S a = none) (hargs : ∀ b ∈ bs, EntArg G S s adr X b) (hinj : ∀ x y dx dy, (bs.map fun b => (b.1, b.2.2)).lookup x = some (.own dx) → (bs.map fun b => (b.1, b.2.2)).lookup y = some (.own dy) → adr x = adr y → x = y)
    {P : Env → Shared → Prop} {E : Value → Shared → Prop}
    (h : ∀ (act : Act scope (cellNames scope.names)) s₀, OK G act (kpBut G s X) adr (bs.map fun b => (b.1, b.2.2)) S s₀ → (∀ b o, s.heap.get? b = some o → s₀.heap.get? b = some o) → s₀.gens = s.gens → (∀ a ∈ act.mt, s.heap.get? a = none) →
      act.mt = act.env.locals :: act.env.cells.map (·.2) → act.env.cells = cellsFrom (s.heap.objs.size + 1) scope.names [] ∧ act.env.frame = some act.env.locals ∧ act.env.code = fd.code ∧ act.env.qual = fd.qualname ++ ".<locals>." → P act.env s₀) :
    wpAny G.M A.in1 (bindArgs fd args) (fun binds s₁ => wpAny G.M A.in1 (newFunctionEnv fd.scope fd.globals fd.closure binds (fd.qualname ++ ".<locals>.") (some f) fd.code none fd.builtins) (fun env s₂ => s₂.heap.NoLimit ∧ P env s₂) E s₁) E s := by
  have up : ∀ {a o}, G.base a = some o → s.heap.get? a = some o := fun e => I.sub _ _ (I.base _ _ e)
  simp only [bindFit, Bool.and_eq_true, decide_eq_true_eq, List.all_eq_true, Bool.or_eq_true, beq_iff_eq] at hb
  obtain ⟨b1, b2⟩ := hb
  have hlim : s.heap.NoLimit := by obtain ⟨o, m, ho, hn, hm⟩ := N.lim; exact ⟨m, hn.ns (up ho), hm⟩
  rw [h6]
  refine hbind _ _ _ _ ?_
  have hkeys : (bs.map fun b => (b.1, b.2.1)).map (·.1) = bs.map (·.1) := by simp
  have cellsIs : (callEnvC fd s.heap.objs.size f).cells = cellsFrom (s.heap.objs.size + 1) scope.names [] := by show cellsFrom _ fd.scope.names [] = _; rw [h3]
  have nd : ((cellsFrom (s.heap.objs.size + 1) scope.names []).map (·.1)).Nodup := cellsFrom_nodup f4 (by simp) (by simp)
  refine wpAny_newFunctionEnv_cells (by rw [h3]; exact f1) (fun x hx => ?_) fun env he s' x => ?_
  · obtain ⟨b, hb, rfl⟩ := List.mem_map.mp hx
    rw [h3]
    rcases b2 b.1 (List.mem_map_of_mem hb) with q | q
    · exact .inl q
    · refine .inr ⟨q, ?_⟩
      obtain ⟨a, ha⟩ := lookup_some_of_mem (cellsFrom_has (n := s.heap.objs.size + 1) (l := scope.names) (acc := []) (x := b.1) (.inl (mem_cellNames.mpr (mem_of_lookup q))))
      rw [ha]; rfl
  have henv : env = (entAct fd scope h3 s.heap.objs.size f).env := he
  clear he
  subst henv
  generalize hact : entAct fd scope h3 s.heap.objs.size f = act at x ⊢
  refine ⟨hlim.keeps x.toInCall.keep, ?_⟩
  obtain ⟨hp, tk, hs', hkeep⟩ := x.done
  subst hs'
  have hL : act.env.locals = s.heap.objs.size := by rw [← hact]; rfl
  have hcs : act.env.cells = cellsFrom (s.heap.objs.size + 1) scope.names [] := by rw [← hact]; exact cellsIs
  have hmt : act.mt = s.heap.objs.size :: (cellsFrom (s.heap.objs.size + 1) scope.names []).map (·.2) := by rw [← hact, ← cellsIs]; rfl
  have st : Stp G S s S { s with heap := hp, toks := tk } := I.keeps hkeep
  have fresh : ∀ b, s.heap.objs.size ≤ b → s.heap.get? b = none := fun b hb => by
    cases q : s.heap.get? b with
    | none => rfl
    | some o => exact absurd (Heap.lt_size q) (Nat.not_lt.mpr hb)
  have mtN : ∀ b ∈ act.mt, s.heap.get? b = none := fun b hb => by
    rw [hmt] at hb
    rcases List.mem_cons.mp hb with rfl | hb
    · exact fresh _ (Nat.le_refl _)
    · obtain ⟨p, hp', rfl⟩ := List.mem_map.mp hb
      rcases cellsFrom_mem hp' with q | ⟨_, q⟩
      · exact nomatch q
      · exact fresh _ (Nat.le_of_succ_le q)
  have cellAt : ∀ p ∈ act.env.cells, ∃ v, hp.IsCell p.2 v := fun p hpm => ⟨_, x.cell p.1 p.2 (lookup_of_mem (by rw [hcs]; exact nd) hpm)⟩
  have freshS : ∀ b, s.heap.get? b = none → S b = none := fun b hb => by
    cases q : S b with
    | none => rfl
    | some o => have := I.sub _ _ q; rw [hb] at this; exact nomatch this
  have O : OK G act (kpBut G s X) adr (bs.map fun b => (b.1, b.2.2)) S { s with heap := hp, toks := tk } := {
    inv := st.inv
    kept := fun a o e => by
      unfold kpBut at e; simp only at e
      split at e
      · exact hkeep _ _ e
      · exact nomatch e
    knt := fun a o e => by
      unfold kpBut at e; simp only at e
      split at e
      · rename_i h; exact h.1
      · exact nomatch e
    kgens := fun g x e => e
    fn := f1
    glob := by rw [← hact]; exact h4
    blt := by rw [← hact]; exact h5
    ns := ⟨_, x.toInCall.ns⟩
    mtL := by rw [hL, hmt]; exact .head _
    mt := fun b hb => by
      have hn := mtN b hb
      refine ⟨freshS b hn, ?_, I.noTabFresh hn, ?_⟩
      · unfold kpBut; simp only; split
        · exact hn
        · rfl
      · rw [hmt] at hb
        rcases List.mem_cons.mp hb with e | hb
        · obtain ⟨o, _, _, ho, _⟩ := x.toInCall.ns; rw [hL] at ho; exact ⟨o, e ▸ ho⟩
        · obtain ⟨p, hp', rfl⟩ := List.mem_map.mp hb
          obtain ⟨v, o, ho, _⟩ := cellAt p (by rw [hcs]; exact hp')
          exact ⟨o, ho⟩
    mtc := fun y hy => by
      obtain ⟨c, hc⟩ := lookup_some_of_mem (cellsFrom_has (n := s.heap.objs.size + 1) (l := scope.names) (acc := []) (x := y) (.inl hy))
      exact ⟨c, by rw [hcs]; exact hc, by rw [hmt]; exact .tail _ (List.mem_map.mpr ⟨_, mem_of_lookup hc, rfl⟩)⟩
    apart := x.apart
    clo := fun y hy => by
      rw [hcs]
      rcases hy with q | q
      · exact lookup_some_of_mem (cellsFrom_has (.inl (mem_cellNames.mpr (mem_of_lookup q))))
      · exact absurd rfl (f5 _ (mem_of_lookup q))
    cells := fun p hpm => by
      refine ⟨?_, cellAt p hpm⟩
      refine I.noTabFresh (mtN _ ?_)
      rw [hmt]
      rw [hcs] at hpm
      exact .tail _ (List.mem_map.mpr ⟨p, hpm, rfl⟩)
    vars := fun y l e => by
      obtain ⟨b, hb, he⟩ := List.mem_map.mp (mem_of_lookup e)
      obtain ⟨n, v, l'⟩ := b
      obtain ⟨rfl, rfl⟩ := Prod.mk.inj he
      have rd : Reads act.env hp n v := by
        have hm : (n, v) ∈ bs.map fun b => (b.1, b.2.1) := List.mem_map.mpr ⟨_, hb, rfl⟩
        have ndb : ((bs.map fun b => (b.1, b.2.1)).map (·.1)).Nodup := by rw [hkeys]; exact b1
        have hkind : act.env.kindOf n = scope.names.lookup n := act.kindOf n
        rcases b2 n (List.mem_map_of_mem hb) with q | q
        · rw [q] at hkind
          exact .inl ⟨hkind, _, x.toInCall.ns, bindL_at hkind ndb hm⟩
        · rw [q] at hkind
          obtain ⟨c, hc⟩ := lookup_some_of_mem (cellsFrom_has (n := s.heap.objs.size + 1) (l := scope.names) (acc := []) (x := n) (.inl (mem_cellNames.mpr (mem_of_lookup q))))
          refine .inr ⟨.inl hkind, c, by rw [hcs]; exact hc, ?_⟩
          have := x.cell n c (by rw [hcs]; exact hc)
          rw [bindC_at (by rw [hkind]; decide) ndb hm] at this
          exact this
      have ha := hargs _ hb
      cases l' with
      | val d => exact ⟨v, rd, ha⟩
      | own d =>
        obtain ⟨e1, e2, o, ho, w⟩ := ha
        have e1 : v = .ref (adr n) := e1
        subst e1
        have ho : s.heap.get? (adr n) = some o := ho
        refine ⟨rd, ⟨o, hkeep _ _ ho, w⟩, hX _ e2, ?_, fun hm => ?_⟩
        · unfold kpBut; simp only
          rw [if_neg fun h => h.2 e2]
        · rw [mtN _ hm] at ho; exact nomatch ho
    inj := hinj }
  exact h act _ O hkeep rfl mtN (by rw [hmt, hL, hcs]) ⟨hcs, by rw [← hact]; rfl, by rw [← hact]; rfl, by rw [← hact]; rfl⟩
theorem enter (F : FnAt G mg nm params body scope dflt kwd f) (N : Names G mg mb) (hroom : A.depth < recursionLimit) (hfit : scopeFit scope = true) (bs : List (Str × Value × Loc)) {args : Args} (hb : bindFit scope (bs.map (·.1)) = true)
    (hbind : ∀ fd, fd.params = params → fd.defaults = dflt → fd.kwdefaults = kwd → BindsTo s fd args (bs.map fun b => (b.1, b.2.1)))
    (I : Inv G S s) (X : List Addr) (adr : Str → Addr) (hX : ∀ a ∈ X, S a = none) (hargs : ∀ b ∈ bs, EntArg G S s adr X b) (hinj : ∀ x y dx dy, (bs.map fun b => (b.1, b.2.2)).lookup x = some (.own dx) → (bs.map fun b => (b.1, b.2.2)).lookup y = some (.own dy) → adr x = adr y → x = y)
    {R : Result → Shared → Prop}
    (h : ∀ (act : Act scope (cellNames scope.names)) s₀, OK G act (kpBut G s X) adr (bs.map fun b => (b.1, b.2.2)) S s₀ → (∀ b o, s.heap.get? b = some o → s₀.heap.get? b = some o) → s₀.gens = s.gens → (∀ a ∈ act.mt, s.heap.get? a = none) →
      wpAny G.M (A.deeper act.env) (execs body act.env) (fun fl s' => R (.ok (.ret (match fl with | .ret v => v | _ => .none))) s') No s₀) :
    codeAny G.M A (.call (.ref f) args) R s := by
  (refine cps fun ZP zk => ?_; obtain ⟨o, fd, ho, hd, h1, h2, h3, h4, h5, h6, h7, h8, c, oc, cv, t, hc, hoc, hcd, hq⟩ := F.obj; refine zk ?_)
  have up : ∀ {a o}, G.base a = some o → s.heap.get? a = some o := fun e => I.sub _ _ (I.base _ _ e)
  simp only [scopeFit, Bool.and_eq_true, beq_iff_eq, Bool.not_eq_true', decide_eq_true_eq, List.all_eq_true, bne_iff_ne, ne_eq] at hfit
  obtain ⟨⟨⟨⟨f1, f2⟩, f3⟩, f4⟩, f5⟩ := hfit
  refine codeAny_call_function hroom (up ho) hd (by rw [h3]; exact f2) (by rw [h3]; exact f3) h2 ⟨c, oc, cv, t, hc, up hoc, hcd, hq⟩ ?_
  exact enterEnv N h3 h4 h5 h6 f1 f4 f5 bs hb (hbind fd h1 h7 h8) I X adr hX hargs hinj fun act s₀ O hk hg hm _ _ => codeAny_func (wpAny_mono (h act s₀ O hk hg hm) (fun _ _ q => q) fun _ _ e => False.elim e)
end
end Mine
end

section
namespace Mine
variable {sc : Scope} {mc : List Str}
open PySem PySem.Calls PyProof.Rows
noncomputable def EvV (G : Gl) (A : Around) (act : Act sc mc) (ρ : LEnv) (e : Expr) (v : Value) : Prop := ∀ kp adr S s, OK G act kp adr ρ S s → wpAny G.M A (eval e act.env) (Post G S s fun _ u => u = v) No s
inductive Callee (G : Gl) : Value → Prop
  | builtin (id : String) : Callee G (.builtin id)
  | type (T : String) : Callee G (.type T)
  | func {f : Addr} {o : Obj} {fd : FuncData} : G.base f = some o → o.data = .func fd → Callee G (.ref f)
noncomputable def CallD (G : Gl) (A : Around) (f : Value) (ds : List D) (d : D) : Prop := ∀ S s vs, Inv G S s → Alls G S vs ds → wpAny G.M A (call f vs) (Post G S s fun S' v => Is G S' v d) No s
noncomputable def CallO (G : Gl) (A : Around) (f : Value) (ds : List D) (d : D) : Prop := ∀ S s vs, Inv G S s → Alls G S vs ds → wpAny G.M A (call f vs) (PostO G S s d) No s
section
variable {G : Gl} {A : Around} {act : Act sc mc} {kp : Kept} {adr : Str → Addr} {ρ : LEnv} {S S' : Fz} {s s' : Shared} {mg mb : Str → Option Value} {d : D} {ds : List D} {f : Value} {e : Expr} {es : List Expr} {pos : Pos}
theorem EvV.glob {x : Str} {npos : Pos} {v : Value} (N : Names G mg mb) (hk : sc.names.lookup x = some .globalImplicit) (hv : mg x = some v) (hd : (x == ("__debug__" : Str)) = false := by decide) : EvV G A act ρ (.Name x npos) v := fun kp adr S s O => by
  obtain ⟨o, ho, hn⟩ := N.g
  exact Name_function_global O.fn' (by rw [act.kindOf]; exact hk) (loadGlobal_global (mg := mg) (by rw [O.glob]; exact hn.ns (O.inv.sub _ _ (O.inv.base _ _ ho))) hv ⟨S, .refl O.inv, rfl⟩) hd
theorem EvV.blt {x : Str} {npos : Pos} {v : Value} (N : Names G mg mb) (hk : sc.names.lookup x = some .globalImplicit) (hm : mg x = none) (hv : mb x = some v) (hd : (x == ("__debug__" : Str)) = false := by decide) : EvV G A act ρ (.Name x npos) v := fun kp adr S s O => by
  obtain ⟨o, ho, hn⟩ := N.g
  obtain ⟨o', ho', hn'⟩ := N.b
  exact Name_function_global O.fn' (by rw [act.kindOf]; exact hk) (loadGlobal_builtin (mg := mg) (mb := mb) (by rw [O.glob]; exact hn.ns (O.inv.sub _ _ (O.inv.base _ _ ho))) hm
    (by rw [O.blt]; exact hn'.ns (O.inv.sub _ _ (O.inv.base _ _ ho'))) hv ⟨S, .refl O.inv, rfl⟩) hd
theorem Evs.plain (h : Evs G A act ρ es ds) : (backTo pos (starEach es act.env)).any (·.1) = false := by
  have : ∀ x ∈ starEach es act.env, x.1 = false := by
    induction h with
    | nil => intro x hx; exact nomatch hx
    | cons _ _ he ih =>
      intro x hx
      rw [he] at hx
      rcases List.mem_cons.mp hx with rfl | hx
      · rfl
      · exact ih x hx
  cases q : starEach es act.env with
  | nil => rfl
  | cons x xs =>
    rw [q] at this
    show (((x :: xs).map fun y => (y.1, _)).any (·.1)) = false
    rw [List.any_eq_false]
    intro y hy
    obtain ⟨z, hz, rfl⟩ := List.mem_map.mp hy
    simp [this z hz]
theorem call_args {Q : Value → Shared → Prop} (hc : Callee G f) (h : Evs G A act ρ (e :: es) ds) (O : OK G act kp adr ρ S s)
    (hQ : ∀ S₁ s₁ vs, Stp G S s S₁ s₁ → Alls G S₁ vs ds → wpAny G.M A (call f vs) Q No s₁) : wpAny G.M A (callWith pos f [] (backTo pos (starEach (e :: es) act.env)) []) Q No s := by
  have sp := h.spliced (pos := pos) kp adr S s O
  have pl := h.plain (pos := pos)
  cases h with
  | cons h1 h2 he =>
    rw [he] at sp pl ⊢
    cases hc with
    | builtin id => exact callWith_builtin pl (evalArgs_plain (wp_seq sp fun S₁ vs s₁ st is => hQ S₁ s₁ vs st is))
    | type T => exact PyProof.Rows.callWith_type pl (evalArgs_plain (wp_seq sp fun S₁ vs s₁ st is => hQ S₁ s₁ vs st is))
    | func hb hd => exact callWith_function (evalArgs_plain (wp_seq sp fun S₁ vs s₁ st is => ⟨⟨st.inv.sub _ _ (st.inv.base _ _ hb), hd⟩, hQ S₁ s₁ vs st is⟩))
theorem Ev.call {fx : Expr} (hf : EvV G A act ρ fx f) (hc : Callee G f) (h : Evs G A act ρ (e :: es) ds) (hd : CallD G A f ds d)
    (he : eval (.Call fx (e :: es) [] pos) act.env = (eval fx act.env >>= fun f => callWith pos f [] (backTo pos (starEach (e :: es) act.env)) (backToKw pos (keywordEach [] act.env))) := by rfl) : Ev G A act ρ (.Call fx (e :: es) [] pos) d := fun kp adr S s O => by
  rw [he]
  refine wpAny_bind (wp_seq (hf kp adr S s O) fun S₁ v s₁ st e => ?_)
  subst e
  exact call_args hc h (O.step st) fun S₂ s₂ vs st₂ is => wp_pre (st.trans st₂) (hd S₂ s₂ vs st₂.inv is)
theorem EvO.call {fx : Expr} (hf : EvV G A act ρ fx f) (hc : Callee G f) (h : Evs G A act ρ (e :: es) ds) (hd : CallO G A f ds d)
    (he : eval (.Call fx (e :: es) [] pos) act.env = (eval fx act.env >>= fun f => callWith pos f [] (backTo pos (starEach (e :: es) act.env)) (backToKw pos (keywordEach [] act.env))) := by rfl) : EvO G A act ρ (.Call fx (e :: es) [] pos) d := fun kp adr S s O => by
  rw [he]
  refine wpAny_bind (wp_seq (hf kp adr S s O) fun S₁ v s₁ st e => ?_)
  subst e
  exact call_args hc h (O.step st) fun S₂ s₂ vs st₂ is => wpAny_mono (hd S₂ s₂ vs st₂.inv is) (fun _ _ h => h.pre (st.trans st₂)) fun _ _ e => e

/-! functions of the module -/
variable {nm : Str} {params : Arguments} {body : List Stmt} {scope : Scope} {dflt kwd : Value} {fa : Addr}
theorem FnAt.callee (F : FnAt G mg nm params body scope dflt kwd fa) : Callee G (.ref fa) := by
  obtain ⟨o, fd, ho, hd, _⟩ := F.obj
  exact .func ho hd
noncomputable def FD.val : FD → D
  | .ret d => d
  | _ => .none
theorem OK.leave {act : Act sc mc} {ρ : LEnv} (I : Inv G S s) {X : List Addr} (hX : X = []) (g : Gro (kpBut G s X) S S') (O : OK G act (kpBut G s X) adr ρ S' s') : Stp G S s S' s' := by
  subst hX
  refine ⟨O.inv, g.sub, fun a o e => ?_, fun b o nt e => ?_, fun n x e => O.kgens n x e⟩
  · rcases g.new a o e with h | h
    · exact .inl h
    · unfold kpBut at h
      simp only at h
      rw [if_pos ⟨O.inv.noTabS e, by simp⟩] at h
      exact .inr h
  · refine O.kept b o ?_
    unfold kpBut; simp only
    rw [if_pos ⟨nt, by simp⟩]; exact e
noncomputable def zipArgs : List Str → List Value → List D → List (Str × Value × Loc)
  | x :: xs, v :: vs, d :: ds => (x, v, .val d) :: zipArgs xs vs ds
  | _, _, _ => []
noncomputable def zipEnv : List Str → List D → LEnv
  | x :: xs, d :: ds => (x, .val d) :: zipEnv xs ds
  | _, _ => []
theorem zipArgs_env : ∀ {xs : List Str} {vs : List Value} {ds : List D}, Alls G S vs ds → (zipArgs xs vs ds).map (fun b => (b.1, b.2.2)) = zipEnv xs ds
  | [], vs, ds, _ => by cases vs <;> cases ds <;> rfl
  | x :: xs, _, _, .nil => rfl
  | x :: xs, _, _, .cons h r => by
    show _ :: (zipArgs xs _ _).map _ = _ :: zipEnv xs _
    rw [zipArgs_env r]
theorem zipArgs_keys : ∀ {xs : List Str} {vs : List Value} {ds : List D}, Alls G S vs ds → xs.length = ds.length → (zipArgs xs vs ds).map (·.1) = xs
  | [], _, _, .nil, _ => rfl
  | x :: xs, _, _, .cons h r, e => by
    show x :: (zipArgs xs _ _).map _ = _
    rw [zipArgs_keys r (by simpa using e)]
theorem zipArgs_bind : ∀ {xs : List Str} {vs : List Value} {ds : List D}, Alls G S vs ds → xs.length = ds.length → (zipArgs xs vs ds).map (fun b => (b.1, b.2.1)) = xs.zip vs
  | [], _, _, .nil, _ => rfl
  | x :: xs, _, _, .cons h r, e => by
    show (x, _) :: (zipArgs xs _ _).map _ = (x, _) :: _
    rw [zipArgs_bind r (by simpa using e)]
    rfl
theorem zipArgs_is : ∀ {xs : List Str} {vs : List Value} {ds : List D} {b}, Alls G S vs ds → b ∈ zipArgs xs vs ds → ∃ d, b.2.2 = .val d ∧ Is G S b.2.1 d
  | [], vs, ds, b, _, h => by cases vs <;> cases ds <;> exact nomatch h
  | x :: xs, _, _, b, .nil, h => nomatch h
  | x :: xs, _, _, b, .cons i r, h => by
    rcases List.mem_cons.mp h with rfl | h
    · exact ⟨_, rfl, i⟩
    · exact zipArgs_is r h
theorem CallD.fn {n : Nat} {xs : List Str} (F : FnAt G mg nm params body scope dflt kwd fa) (N : Names G mg mb) (hA : Room (n + 1) A) (hfit : scopeFit scope = true) (hb : bindFit scope xs = true) (extra : List (Str × Value × D)) (hl : xs.length = ds.length + extra.length)
    (hbind : ∀ vs fd S s, vs.length = ds.length → fd.params = params → fd.defaults = dflt → fd.kwdefaults = kwd → Inv G S s → BindsTo s fd ⟨vs, []⟩ (xs.zip (vs ++ extra.map (·.2.1))))
    (hex : ∀ S s, Inv G S s → Alls G S (extra.map (·.2.1)) (extra.map (·.2.2)))
    (run : ∀ act : Act scope (cellNames scope.names), Run G (A.deeper act.env) act (execs body act.env) (zipEnv xs (ds ++ extra.map (·.2.2))) fun fd _ => fd.val = d) : CallD G A (.ref fa) ds d := fun S s vs I r => by
  refine wpAny_call ?_
  have r' := r.append (hex S s I)
  have hl' : xs.length = (ds ++ extra.map (·.2.2)).length := by simp [hl]
  refine enter F N hA.lt hfit (zipArgs xs (vs ++ extra.map (·.2.1)) (ds ++ extra.map (·.2.2))) (by rw [zipArgs_keys r' hl']; exact hb) (fun fd h1 h2 h3 => by rw [zipArgs_bind r' hl']; exact hbind vs fd S s r.length h1 h2 h3 I) I [] (fun _ => 0)
    (fun a h => nomatch h) (fun b hbm => ?_) (fun x y dx dy hx _ _ => ?_) fun act s₀ O hk hg hm => ?_
  · obtain ⟨d, e, i⟩ := zipArgs_is r' hbm
    unfold EntArg
    rw [e]; exact i
  · obtain ⟨b, hbm, e⟩ := List.mem_map.mp (mem_of_lookup hx)
    obtain ⟨d, e', _⟩ := zipArgs_is r' hbm
    obtain ⟨_, _, l⟩ := b
    have e' : l = .val d := e'
    subst e'
    cases e
  · rw [zipArgs_env r'] at O
    refine wpAny_mono (run act _ _ S s₀ O) (fun fl s' ⟨S', adr', ρ', fd, g, O', i, q⟩ => ?_) fun _ _ e => e
    have st := O'.leave I rfl g
    refine ⟨S', st, ?_⟩
    cases fl <;> cases fd <;> first | exact i.elim | (subst q; exact .none) | skip
    subst q
    exact i
end
end Mine
end

section
namespace Mine
variable {sc : Scope} {mc : List Str}
open PySem PySem.Calls PyProof.Rows
section
variable {G : Gl} {A : Around} {S S' : Fz} {s s' : Shared} {mg mb : Str → Option Value} {d : D} {ds : List D} {n : Nat}
theorem alls1 {vs : List Value} (h : Alls G S vs [d]) : ∃ v, vs = [v] ∧ Is G S v d :=
  let ⟨v, r, e, i, h⟩ := h.consI; ⟨v, by rw [e, h.nilI], i⟩
theorem alls2 {vs : List Value} {e : D} (h : Alls G S vs [d, e]) : ∃ v w, vs = [v, w] ∧ Is G S v d ∧ Is G S w e :=
  let ⟨v, r, e, i, h⟩ := h.consI; let ⟨w, e', j⟩ := alls1 h; ⟨v, w, by rw [e, e'], i, j⟩
theorem CallD.lenL (h : ds.length ≤ sizeLine) : CallD G A (.builtin "len") [.list ds] (.int ds.length) := fun S s vs I r => by
  obtain ⟨v, rfl, i⟩ := alls1 r
  obtain ⟨a, ws, rfl, hl, r'⟩ := i.lst I
  have e := r'.length
  have : (2 : Nat) ^ 24 < 2 ^ 63 := by decide
  refine call_len_list hl (by rw [List.size_toArray, e]; unfold sizeLine at h; lia) ?_
  rw [List.size_toArray, e]
  exact ⟨S, I.toks _, .int ..⟩
theorem CallD.lenS {x : Str} (h : x.length ≤ sizeLine) : CallD G A (.builtin "len") [.str x] (.int x.length) := fun S s vs I r => by
  obtain ⟨v, rfl, i⟩ := alls1 r
  obtain ⟨t, rfl⟩ := i.str'
  have : (2 : Nat) ^ 24 < 2 ^ 63 := by decide
  exact P.len_str (by unfold sizeLine at h; lia) ⟨S, I.toks _, .int ..⟩
theorem CallD.range1 {b : Int} : CallD G A (.type "range") [.int b] (.range 0 b) := fun S s vs I r => by
  obtain ⟨v, rfl, i⟩ := alls1 r
  obtain ⟨t, rfl⟩ := i.int'
  refine call_range_1 ?_
  exact ⟨_, I.push { cls := .type "range", data := .fields #[.int 0 s.toks, .int b t, .int 1 (s.toks + 1)] } rfl (fun e => nomatch e) (t := s.toks + 1 + 1), .range (Fz.put_self ..)⟩
theorem CallD.range2 {a b : Int} : CallD G A (.type "range") [.int a, .int b] (.range a b) := fun S s vs I r => by
  obtain ⟨v, w, rfl, i, j⟩ := alls2 r
  obtain ⟨t, rfl⟩ := i.int'
  obtain ⟨u, rfl⟩ := j.int'
  refine call_range_2 ?_
  exact ⟨_, I.push { cls := .type "range", data := .fields #[.int a t, .int b u, .int 1 s.toks] } rfl (fun e => nomatch e) (t := s.toks + 1), .range (Fz.put_self ..)⟩
theorem CallD.max2 (hA : Room n A) {a b : Int} : CallD G A (.builtin "max") [.int a, .int b] (.int (max a b)) := fun S s vs I r => by
  obtain ⟨v, w, rfl, i, j⟩ := alls2 r
  obtain ⟨t, rfl⟩ := i.int'
  obtain ⟨u, rfl⟩ := j.int'
  refine max_two_ints hA.handled fun h' tk hk => ⟨S, I.keeps hk, ?_⟩
  by_cases q : b > a
  · rw [if_pos q, Int.max_eq_right (Int.le_of_lt q)]; exact .int ..
  · rw [if_neg q, Int.max_eq_left (Int.not_lt.mp q)]; exact .int ..
theorem CallD.min2 (hA : Room n A) {a b : Int} : CallD G A (.builtin "min") [.int a, .int b] (.int (min a b)) := fun S s vs I r => by
  obtain ⟨v, w, rfl, i, j⟩ := alls2 r
  obtain ⟨t, rfl⟩ := i.int'
  obtain ⟨u, rfl⟩ := j.int'
  refine min_two_ints hA.handled fun h' tk hk => ⟨S, I.keeps hk, ?_⟩
  by_cases q : b < a
  · rw [if_pos q, Int.min_eq_right (Int.le_of_lt q)]; exact .int ..
  · rw [if_neg q, Int.min_eq_left (Int.not_lt.mp q)]; exact .int ..
theorem CallD.intB {b : Bool} : CallD G A (.type "int") [.bool b] (.int (if b then 1 else 0)) := fun S s vs I r => by
  obtain ⟨v, rfl, i⟩ := alls1 r
  obtain rfl := i.boolI
  exact call_int_bool ⟨S, I.toks _, .int ..⟩
theorem CallD.sum (hA : Room n A) {ns : List Int} : CallD G A (.builtin "sum") [.list (ns.map .int)] (.int ns.sum) := fun S s vs I r => by
  obtain ⟨v, rfl, i⟩ := alls1 r
  obtain ⟨a, ws, rfl, hl, r'⟩ := i.lst I
  have hi := r'.ints
  obtain ⟨xs, e1, e2⟩ : ∃ xs : List (Int × Tok), ws = xs.map (fun p => .int p.1 p.2) ∧ ns = xs.map (·.1) := by
    clear hl r' i r
    induction hi with
    | nil => exact ⟨[], rfl, rfl⟩
    | cons n t _ ih => obtain ⟨xs, e1, e2⟩ := ih; exact ⟨(n, t) :: xs, by rw [e1]; rfl, by rw [e2]; rfl⟩
  have hl' : s.heap.IsList a (intItems xs.toArray) := by
    have : intItems xs.toArray = ws.toArray := by rw [e1]; simp [intItems]
    rw [this]; exact hl
  refine sum_intListG hA.handled hl' fun h' tk t' hk => ⟨S, I.keeps hk, ?_⟩
  have key : ∀ (pre l : List (Int × Tok)), pre ++ l = xs → preSum (numAt xs.toArray) pre.length = (pre.map (·.1)).sum → preSum (numAt xs.toArray) xs.length = (xs.map (·.1)).sum := by
    intro pre l
    induction l generalizing pre with
    | nil => intro e h; rw [List.append_nil] at e; subst e; exact h
    | cons x l ih =>
      intro e h
      refine ih (pre ++ [x]) (by rw [List.append_assoc]; exact e) ?_
      rw [List.length_append, List.length_singleton, preSum, h, List.map_append, List.sum_append]
      have : numAt xs.toArray pre.length = x.1 := by
        unfold numAt
        rw [← e]
        simp
      rw [this]; simp
  have := key [] xs rfl rfl
  rw [List.size_toArray, this, ← e2]
  exact .int ..
noncomputable def IsTup (d : D) : Bool := match d with
  | .tuple _ => true
  | _ => false
end
end Mine
end

section
namespace Mine
variable {sc : Scope} {mc : List Str}
open PySem PySem.Calls PyProof.Rows
noncomputable def isortIns (x : Int) : List Int → List Int
  | [] => [x]
  | y :: ys => if x ≤ y then x :: y :: ys else y :: isortIns x ys
noncomputable def isort : List Int → List Int
  | [] => []
  | x :: xs => isortIns x (isort xs)
theorem isortIns_perm (x : Int) : ∀ l, (isortIns x l).Perm (x :: l)
  | [] => .refl _
  | y :: ys => by
    unfold isortIns
    split
    · exact .refl _
    · exact ((isortIns_perm x ys).cons y).trans (.swap ..)
theorem isort_perm : ∀ l, (isort l).Perm l
  | [] => .refl _
  | x :: xs => (isortIns_perm x _).trans ((isort_perm xs).cons x)
set_option tactic.hygienic true in
theorem isortIns_le {x : Int} : ∀ {l : List Int}, l.Pairwise (· ≤ ·) → (isortIns x l).Pairwise (· ≤ ·)
  | [], _ => by simp [isortIns]
  | y :: ys, h => by
    unfold isortIns
    rw [List.pairwise_cons] at h
    split
    · rename_i q
      rw [List.pairwise_cons]
      refine ⟨fun z hz => ?_, List.pairwise_cons.mpr h⟩
      rcases List.mem_cons.mp hz with rfl | hz
      · exact q
      · exact Int.le_trans q (h.1 z hz)
    · rename_i q
      rw [List.pairwise_cons]
      refine ⟨fun z hz => ?_, isortIns_le h.2⟩
      rcases List.mem_cons.mp ((isortIns_perm x ys).mem_iff.mp hz) with rfl | hz
      · lia
      · exact h.1 z hz
theorem isort_le : ∀ l : List Int, (isort l).Pairwise (· ≤ ·)
  | [] => List.Pairwise.nil
  | x :: xs => isortIns_le (isort_le xs)
theorem isort_uniq {a b : List Int} (p : a.Perm b) (h : a.Pairwise (· ≤ ·)) : a = isort b :=
  (p.trans (isort_perm b).symm).eq_of_pairwise (fun x y _ _ h1 h2 => Int.le_antisymm h1 h2) h (isort_le b)
section
variable {G : Gl} {A : Around} {act : Act sc mc} {ρ : LEnv} {S S' : Fz} {s s' : Shared} {mg mb : Str → Option Value} {d : D} {ds : List D} {n : Nat} {pos : Pos}
theorem CallO.list (h : ds.length ≤ sizeLine) : CallO G A (.type "list") [.list ds] (.list ds) := fun S s vs I r => by
  obtain ⟨v, rfl, i⟩ := alls1 r
  (refine cps fun ZP zk => ?_; obtain ⟨a, o, m, ws, rfl, hS, hc, hd, r'⟩ := i.listI; refine zk ?_)
  refine call_list_seq a (T := "list") (.inl rfl) (I.sub _ _ hS) hc hd (fun h' c' hk ho => ?_) (by rw [List.size_toArray, r'.length]; exact h)
  refine ⟨S, _, _, I.keeps (t := s.toks) hk, rfl, ho, .list r', ?_, Inv.fresh⟩
  exact I.sizeS
theorem CallO.dict {ks : List Ky} (h : ks.length ≤ sizeLine) : CallO G A (.type "dict") [.dict ks ds] (.dict ks ds) := fun S s vs I r => by
  obtain ⟨v, rfl, i⟩ := alls1 r
  (refine cps fun ZP zk => ?_; obtain ⟨a, kvs, rfl, hm, e, r', hs⟩ := dict_of I i; refine zk ?_)
  refine kt_call_dict hs hm (by rw [e, List.length_map] at h; exact h) fun h' hd' hsb => ?_
  obtain ⟨o, ho, w⟩ := Own.ofDictOf (G := G) (S := S) hd' e r'
  refine ⟨S, _, _, I.keeps (t := s.toks) fun b o e => hsb.extBut b o (fun q => ?_) (Heap.get?_push_of_some _ e), rfl, ho, w, I.sizeS, Inv.fresh⟩
  rw [q, Inv.fresh] at e; exact nomatch e
theorem CallO.sorted {ns : List Int} (h : ns.length < 64) : CallO G A (.builtin "sorted") [.list (ns.map .int)] (.list ((isort ns).map .int)) := fun S s vs I r => by
  obtain ⟨v, rfl, i⟩ := alls1 r
  obtain ⟨a, ws, rfl, hl, r'⟩ := i.lst I
  have e := r'.length
  rw [List.length_map] at e
  have h64 : ws.length < 64 := by lia
  refine sorted_ints hl r'.ints h64 fun out ns' h1 h2 h3 => ?_
  obtain ⟨ep, he⟩ := sortedAll_at s.heap ws out
  rw [← isort_uniq h2 h3]
  have hn : s.heap.get? (s.heap.objs.size + 1) = none := by
    cases q : s.heap.get? (s.heap.objs.size + 1) with
    | none => rfl
    | some o => exact absurd (Heap.lt_size q) (Nat.not_lt.mpr (Nat.le_succ _))
  refine ⟨S, _, _, I.keeps (t := s.toks) fun b o e => sortedAll_old e, rfl, he, ?_, ?_, hn⟩
  · have : out = out.toList.toArray := by simp
    rw [this]
    exact .list (.of_ints h1)
  · cases q : S (s.heap.objs.size + 1) with
    | none => rfl
    | some o => have := I.sub _ _ q; rw [hn] at this; exact nomatch this
theorem Ev.isTup {fx tx ex : Expr} (hf : EvV G A act ρ fx (.builtin "isinstance")) (he : Ev G A act ρ ex d) (ht : EvV G A act ρ tx (.type "tuple")) (hd : d = .int i ∨ d = .tuple ds)
    (hev : eval (.Call fx [ex, tx] [] pos) act.env = (eval fx act.env >>= fun f => callWith pos f [] [(false, eval ex act.env), (false, eval tx act.env)] []) := by rfl) : Ev G A act ρ (.Call fx [ex, tx] [] pos) (.bool (IsTup d)) := fun kp adr S s O => by
  rw [hev]
  refine wpAny_bind (wp_seq (hf kp adr S s O) fun S₁ v s₁ st e => ?_)
  subst e
  refine callWith_builtin rfl (evalArgs_plain (Calls.spliced_cons (wp_seq (he kp adr S₁ s₁ (O.step st)) fun S₂ va s₂ st₂ ia => Calls.spliced_cons (wp_seq (ht kp adr S₂ s₂ ((O.step st).step st₂)) fun S₃ vb s₃ st₃ e => Calls.spliced_nil ?_))))
  subst e
  have st' := st.trans (st₂.trans st₃)
  have ia := ia.mono st₃.sub
  show wpAny G.M A (PySem.call (Value.builtin "isinstance") [va, Value.type "tuple"]) _ _ _
  rcases hd with rfl | rfl
  · obtain ⟨t, rfl⟩ := ia.intI; exact PySem.IsiPair.int_tuple ⟨S₃, st'.trans (st'.inv.toks _), .bool _⟩
  · (refine cps fun ZP zk => ?_; obtain ⟨_, _, _, _, rfl, hS, hc, _⟩ := ia.tupleI; refine zk ?_); exact PySem.IsiPair.tuple_tuple (st'.inv.sub _ _ hS) hc ⟨S₃, st', .bool _⟩
theorem Alls.strsAre : ∀ {vs : List Value} {ss : List Str}, Alls G S vs (ss.map .str) → StrsAre vs ss
  | _, [], .nil => .nil
  | _, x :: ss, .cons h r => by
    obtain ⟨t, rfl⟩ := h.str'
    exact .cons x t r.strsAre
theorem Ev.join {o e : Expr} {apos : Pos} {x : Str} {ss : List Str} (ho : Ev G A act ρ o (.str x)) (he : Ev G A act ρ e (.list (ss.map .str))) (hx : x.length ≤ 16) (hw : (ss.map (·.length)).sum + ss.length ≤ 1048576)
    (hbase : attributeBase o "join" act.env (eval o act.env) = eval o act.env := by rfl) (hs : starEach [e] act.env = [(false, eval e act.env)] := by rfl) (hline : (apos.endLine == pos.line) = true := by rfl) :
    Ev G A act ρ (.Call (.Attribute o "join" apos) [e] [] pos) (.str (Txt.join x ss)) := fun kp adr S s O => by
  refine Call_method1 hbase hs hline (wp_seq (ho kp adr S s O) fun S₁ v s₁ st i => ?_)
  obtain ⟨t, rfl⟩ := i.str'
  refine ⟨"str", "str.join", PySem.F.plainAttrs_str, PySem.F.slot_str_join, PySem.F.type_str_join, typeIs_str _ _ _, (fun a e => nomatch e), ?_⟩
  refine callWith_builtin rfl (evalArgs_plain (Calls.spliced_cons (wp_seq (he kp adr S₁ s₁ (O.step st)) fun S₂ va s₂ st₂ ia => Calls.spliced_nil ?_)))
  obtain ⟨l, ws, rfl, hl, r⟩ := ia.lst st₂.inv
  exact join_listW hl (by simpa using r.strsAre) hx hw fun t' k => ⟨S₂, (st.trans st₂).trans (st₂.inv.toks _), .str ..⟩
theorem Ev.items {o : Expr} {apos : Pos} {ks : List Ky} (ho : Ev G A act ρ o (.dict ks ds))
    (hbase : attributeBase o "items" act.env (eval o act.env) = eval o act.env := by rfl) (hline : (apos.endLine == pos.line) = true := by rfl) :
    Ev G A act ρ (.Call (.Attribute o "items" apos) [] [] pos) (.items ks ds) := fun kp adr S s O => by
  refine wpAny_Call_method (T := "dict") (id := "dict.items") hbase rfl hline PySem.F.plainAttrs_dict PySem.F.slot_dict_items PySem.F.type_dict_items (wp_seq (ho kp adr S s O) fun S₁ v s₁ st i => ?_)
  (refine cps fun ZP zk => ?_; obtain ⟨a, kvs, rfl, hm, e, r, hs⟩ := dict_of st.inv i; refine zk ?_)
  refine ⟨hm.typeIs, hm.mapOf.noDict, ?_⟩
  show wpAny _ _ (callWith pos (.builtin "dict.items") [.ref a] [] []) _ _ s₁
  refine method_meetsIn PySem.F.slot_dict_items PySem.F.entry_dict_items rfl (PySem.evalArgs_none ⟨rfl, hm.typeIs, PySem.F.args_dict_items_1 _, _, meets_dict_items G.knd a hs, ⟨kvs, hm⟩, ?_⟩)
  have st2 := st.inv.push { cls := .type "dict_items", data := .fields #[.ref a] } rfl (fun e => nomatch e) (t := s₁.toks)
  exact ⟨_, st.trans st2, .items (Fz.put_self ..) (i.mono st2.sub)⟩
theorem Ev.values {o : Expr} {apos : Pos} {ks : List Ky} (ho : Ev G A act ρ o (.dict ks ds))
    (hbase : attributeBase o "values" act.env (eval o act.env) = eval o act.env := by rfl) (hline : (apos.endLine == pos.line) = true := by rfl) :
    Ev G A act ρ (.Call (.Attribute o "values" apos) [] [] pos) (.values ks ds) := fun kp adr S s O => by
  refine wpAny_Call_method (T := "dict") (id := "dict.values") hbase rfl hline PySem.F.plainAttrs_dict PySem.F.slot_dict_values PySem.F.type_dict_values (wp_seq (ho kp adr S s O) fun S₁ v s₁ st i => ?_)
  (refine cps fun ZP zk => ?_; obtain ⟨a, kvs, rfl, hm, e, r, hs⟩ := dict_of st.inv i; refine zk ?_)
  refine ⟨hm.typeIs, hm.mapOf.noDict, ?_⟩
  show wpAny _ _ (callWith pos (.builtin "dict.values") [.ref a] [] []) _ _ s₁
  refine method_meetsIn PySem.F.slot_dict_values PySem.F.entry_dict_values rfl (PySem.evalArgs_none ⟨rfl, hm.typeIs, PySem.F.args_dict_values_1 _, _, meets_dict_values G.knd a hs, ⟨kvs, hm⟩, ?_⟩)
  have st2 := st.inv.push { cls := .type "dict_values", data := .fields #[.ref a] } rfl (fun e => nomatch e) (t := s₁.toks)
  exact ⟨_, st.trans st2, .values (Fz.put_self ..) (i.mono st2.sub)⟩
end
end Mine
end

section
namespace Mine
variable {sc : Scope} {mc : List Str}
open PySem PySem.Calls PyProof.Rows
structure StpBut (a : Addr) (G : Gl) (S : Fz) (s : Shared) (S' : Fz) (s' : Shared) : Prop where
  inv : Inv G S' s'
  sub : Sub S S'
  new : ∀ b o, S' b = some o → S b = some o ∨ s.heap.get? b = none
  keep : ∀ b o, b ≠ a → NoTab G b → s.heap.get? b = some o → s'.heap.get? b = some o
  gens : ∀ (g : Nat) (x : GenState), s.gens[g]? = some x → s'.gens[g]? = some x
  off : S' a = none
section
variable {G : Gl} {A : Around} {act : Act sc mc} {kp : Kept} {adr : Str → Addr} {ρ : LEnv} {S S' : Fz} {s s' : Shared} {mg mb : Str → Option Value} {d d' : D} {ds : List D} {n : Nat} {pos : Pos}
theorem OK.stepBut (O : OK G act kp adr ρ S s) {x : Str} (hx : ρ.lookup x = some (.own d)) (st : StpBut (adr x) G S s S' s') (ho : ∃ o, s'.heap.get? (adr x) = some o ∧ Own G S' o d') : OK G act kp adr ((x, .own d') :: ρ) S' s' ∧ Gro kp S S' := by
  obtain ⟨rx, ⟨ox, hox, wx⟩, hS, hk, hm⟩ := O.vars x _ hx
  have hcell := O.ownCell hox wx
  have g : Gro kp S S' := ⟨st.sub, fun b o e => (st.new b o e).imp id fun q => by
    cases q' : kp.objs b with
    | none => rfl
    | some o' => have := O.kept _ _ q'; rw [q] at this; exact nomatch this⟩
  have rd : ∀ y v, Reads act.env s.heap y v → Reads act.env s'.heap y v := fun y v r => r.of (fun o e => st.keep _ o (fun q => hm (q ▸ O.mtL)) O.ntL e)
    fun c hc o e => st.keep _ o (hcell _ (cell_in hc)) (O.cells _ (cell_in hc)).1 e
  refine ⟨{ O with
    inv := st.inv
    kept := fun b o e => st.keep b o (fun q => by rw [q, hk] at e; exact nomatch e) (O.knt b o e) (O.kept b o e)
    kgens := fun g x e => st.gens g x (O.kgens g x e)
    ns := let ⟨m, h⟩ := O.ns; ⟨m, h.at' fun o e => st.keep _ o (fun q => hm (q ▸ O.mtL)) O.ntL e⟩
    mt := fun b hb => by
      obtain ⟨h1, h2, h3, o, ho⟩ := O.mt b hb
      refine ⟨?_, h2, h3, o, st.keep _ o (fun q => hm (q ▸ hb)) h3 ho⟩
      cases q : S' b with
      | none => rfl
      | some o' =>
        rcases st.new b o' q with e | e
        · rw [h1] at e; exact nomatch e
        · rw [ho] at e; exact nomatch e
    cells := fun p hp => by
      obtain ⟨nt, v, o, ho, hd⟩ := O.cells p hp
      exact ⟨nt, v, o, st.keep _ o (hcell p hp) nt ho, hd⟩
    vars := fun y l e => ?_
    inj := fun y z dy dz ey ez e => ?_ }, g⟩
  · by_cases q : y = x
    · subst q
      simp only [List.lookup, BEq.rfl] at e
      obtain rfl := Option.some.inj e
      exact ⟨rd _ _ rx, ho, st.off, hk, hm⟩
    · rw [lookup_cons_ne q] at e
      have z := O.vars y l e
      cases l with
      | val dy => obtain ⟨v, r, i⟩ := z; exact ⟨v, rd _ _ r, i.mono st.sub⟩
      | own dy =>
        obtain ⟨r, ⟨o, ho, w⟩, h1, h2, h3⟩ := z
        have hne : adr y ≠ adr x := fun e' => q (O.inj y x _ _ e hx e')
        refine ⟨rd _ _ r, ⟨o, st.keep _ o hne (O.inv.noTab ho w.cls) ho, w.mono st.sub⟩, ?_, h2, h3⟩
        cases q' : S' (adr y) with
        | none => rfl
        | some o' =>
          rcases st.new _ o' q' with e | e
          · rw [h1] at e; exact nomatch e
          · rw [ho] at e; exact nomatch e
  · have own : ∀ y dy, List.lookup y ((x, Loc.own d') :: ρ) = some (.own dy) → ∃ d, ρ.lookup y = some (.own d) := fun y dy ey => by
      by_cases q : y = x
      · subst q; exact ⟨_, hx⟩
      · rw [lookup_cons_ne q] at ey; exact ⟨_, ey⟩
    obtain ⟨_, h1⟩ := own _ _ ey
    obtain ⟨_, h2⟩ := own _ _ ez
    exact O.inj y z _ _ h1 h2 e
noncomputable def EvX (G : Gl) (A : Around) (act : Act sc mc) (e : Expr) (ρ ρ' : LEnv) : Prop := ∀ kp adr S s, OK G act kp adr ρ S s →
  wpAny G.M A (eval e act.env) (fun v s' => ∃ S', Gro kp S S' ∧ OK G act kp adr ρ' S' s') No s
theorem EvX.ite {t x y : Expr} {p : Bool} {ρ' : LEnv} (ht : Te G A act ρ t p) (hx : p = true → EvX G A act x ρ ρ') (hy : p = false → EvX G A act y ρ ρ') : EvX G A act (.IfExp t x y pos) ρ ρ' := fun kp adr S s O =>
  IfExp_ (wp_seq (ht kp adr S s O) fun S₁ b s₁ st e => by
    subst e
    cases b with
    | true => exact wpAny_mono (hx rfl kp adr S₁ s₁ (O.step st)) (fun _ _ ⟨S', g, o⟩ => ⟨S', (O.gro st).trans g, o⟩) fun _ _ e => e
    | false => exact wpAny_mono (hy rfl kp adr S₁ s₁ (O.step st)) (fun _ _ ⟨S', g, o⟩ => ⟨S', (O.gro st).trans g, o⟩) fun _ _ e => e)
theorem interactive_fn (O : OK G act kp adr ρ S s) : interactive act.env = false := by
  unfold interactive
  rw [O.fn']
  rfl
theorem Run.expr {e : Expr} {Q : FD → LEnv → Prop} {ρ' : LEnv} (h : EvX G A act e ρ ρ') (hq : Q .next ρ') (hs : swapsWith e none pos.line act.env = pure false := by rfl) : Run G A act (exec (.Expr e pos) act.env) ρ Q := fun kp adr S s O =>
  wpAny_Expr_any (wpAny_mono (h kp adr S s O) (fun v s' ⟨S', g, O'⟩ => ⟨S', adr, ρ', .next, g, O', trivial, hq⟩) fun _ _ e => e) (interactive_fn O) hs
theorem IsL.isList' {h : Heap} {a : Addr} {items : Array Value} {k : Nat} (e : h.get? a = some { cls := .type "list", data := .seq items k }) : h.IsList a items := ⟨_, e, rfl, _, rfl⟩
theorem own_list {o : Obj} (w : Own G S o (.list ds)) : ∃ n vs, o = { cls := .type "list", data := .seq vs.toArray n } ∧ Alls G S vs ds := by
  cases w with
  | list r => exact ⟨_, _, rfl, r⟩
theorem EvX.append {x : Str} {e : Expr} {np apos : Pos} (hx : ρ.lookup x = some (.own (.list ds))) (he : Ev G A act ρ e d) (hn : ds.length ≤ sizeLine)
    (hd : (x == ("__debug__" : Str)) = false := by decide) (hc : (x == ("__classdict__" : Str)) = false := by decide)
    (hbase : attributeBase (.Name x np) "append" act.env (eval (.Name x np) act.env) = eval (.Name x np) act.env := by rfl) (hs : starEach [e] act.env = [(false, eval e act.env)] := by rfl) (hline : (apos.endLine == pos.line) = true := by rfl) :
    EvX G A act (.Call (.Attribute (.Name x np) "append" apos) [e] [] pos) ρ ((x, .own (.list (ds ++ [d]))) :: ρ) := fun kp adr S s O => by
  refine Call_method1 hbase hs hline (O.nameOwn hx ?_ hd hc)
  obtain ⟨o, ho, w⟩ := O.ownAt hx
  (refine cps fun ZP zk => ?_; obtain ⟨k, vs, rfl, r⟩ := own_list w; refine zk ?_)
  refine ⟨"list", "list.append", PySem.F.plainAttrs_list, slot_list_append, type_list_append, ⟨_, ho, rfl⟩, (fun a e => ⟨_, by obtain rfl := PySem.Value.ref.inj e; exact ho, rfl⟩), ?_⟩
  refine callWith_builtin rfl (evalArgs_plain (Calls.spliced_cons (wp_seq (he kp adr S s O) fun S₁ v s₁ st i => Calls.spliced_nil ?_)))
  have O₁ := O.step st
  obtain ⟨o₁, ho₁, w₁⟩ := O₁.ownAt hx
  obtain ⟨vs₁, hp, r₁⟩ := Own.plain ho₁ w₁
  refine wpAny_list_append_plain hp (fun h' hp' hs => ?_) (by rw [List.size_toArray, r₁.length]; exact hn)
  exact ⟨S₁, O.gro st, O₁.turnOwn (t := s₁.toks) hx hs (Own.ofPlain (vs := vs₁ ++ [v]) hp' (by simp) (r₁.append (.cons i .nil)))⟩
noncomputable def insAt {α : Type} (k : Nat) (x : α) (l : List α) : List α := l.take k ++ x :: l.drop k
theorem Alls.ins {vs : List Value} {v : Value} (h : Alls G S vs ds) (i : Is G S v d) (k : Nat) : Alls G S (insAt k v vs) (insAt k d ds) := (h.take k).append (.cons i (h.drop k))
theorem insert_call {a : Addr} {vs : List Value} {k : Int} {t : Tok} {v : Value} {m : Nat} {Q : Value → Shared → Prop} {E : Value → Shared → Prop} (ho : s.heap.get? a = some { cls := .type "list", data := .seq vs.toArray m }) (h0 : 0 ≤ k) (h1 : k ≤ vs.length) (hn : vs.length ≤ sizeLine)
    (h : ∀ h', (∃ m', h'.get? a = some { cls := .type "list", data := .seq (insAt k.toNat v vs).toArray m' }) → Heap.SameBut a s.heap h' → Q .none { s with heap := h' }) : wpAny G.M A (call (.builtin "list.insert") [.ref a, .int k t, v]) Q E s := by
  have h24 : (2 : Nat) ^ 24 < 2 ^ 62 := by decide
  refine call_meets PySem.F.slot_list_insert ⟨_, ho, rfl⟩ PySem.F.entry_list_insert (PySem.F.args_list_insert_3 _ _ _) (PySem.AutoSeq1.list_insert_list_int_val_1 a _ m k t v (by unfold Builtin.List.listFitsIndex; unfold sizeLine at hn; simp; lia) (by rw [List.size_toArray]; exact hn)) ⟨ho, ?_⟩
  refine h _ ?_ (Heap.SameBut.update ..)
  have ek : (if k < 0 then (k + (vs.toArray.size : Int)).toNat else min k.toNat vs.toArray.size) = k.toNat := by
    rw [if_neg (by lia), List.size_toArray]; lia
  have key : ∀ g : Array Value → Array Value, g vs.toArray = (insAt k.toNat v vs).toArray → ∃ m', (s.heap.update a (Obj.mapSeq g)).get? a = some { cls := .type "list", data := .seq (insAt k.toNat v vs).toArray m' } := fun g hg => by
    have e := get?_update_seq ho g
    rw [hg] at e
    exact ⟨_, e⟩
  refine key _ ?_
  show (vs.toArray.extract 0 (if k < 0 then (k + (vs.toArray.size : Int)).toNat else min k.toNat vs.toArray.size)).push v ++ vs.toArray.extract (if k < 0 then (k + (vs.toArray.size : Int)).toNat else min k.toNat vs.toArray.size) = _
  rw [ek, PySem.W.kl_ins_eq]
  rfl
theorem EvX.insert {x : Str} {e₁ e₂ : Expr} {np apos : Pos} {k : Int} (hx : ρ.lookup x = some (.own (.list ds))) (h1 : Ev G A act ρ e₁ (.int k)) (h2 : Ev G A act ρ e₂ d) (hk0 : 0 ≤ k) (hk1 : k ≤ ds.length) (hn : ds.length ≤ sizeLine)
    (hd : (x == ("__debug__" : Str)) = false := by decide) (hc : (x == ("__classdict__" : Str)) = false := by decide)
    (hbase : attributeBase (.Name x np) "insert" act.env (eval (.Name x np) act.env) = eval (.Name x np) act.env := by rfl) (hs : starEach [e₁, e₂] act.env = [(false, eval e₁ act.env), (false, eval e₂ act.env)] := by rfl) (hline : (apos.endLine == pos.line) = true := by rfl) :
    EvX G A act (.Call (.Attribute (.Name x np) "insert" apos) [e₁, e₂] [] pos) ρ ((x, .own (.list (insAt k.toNat d ds))) :: ρ) := fun kp adr S s O => by
  refine Call_method2 hbase hs hline (O.nameOwn hx ?_ hd hc)
  obtain ⟨o, ho, w⟩ := O.ownAt hx
  (refine cps fun ZP zk => ?_; obtain ⟨_, vs, rfl, r⟩ := own_list w; refine zk ?_)
  refine ⟨"list", "list.insert", PySem.F.plainAttrs_list, PySem.F.slot_list_insert, PySem.F.type_list_insert, ⟨_, ho, rfl⟩, (fun a e => ⟨_, by obtain rfl := PySem.Value.ref.inj e; exact ho, rfl⟩), ?_⟩
  refine callWith_builtin rfl (evalArgs_plain (Calls.spliced_cons (wp_seq (h1 kp adr S s O) fun S₁ v s₁ st i => Calls.spliced_cons (wp_seq (h2 kp adr S₁ s₁ (O.step st)) fun S₂ v₂ s₂ st₂ i₂ => Calls.spliced_nil ?_))))
  obtain ⟨t, rfl⟩ := i.int'
  have st' := st.trans st₂
  have O₁ := O.step st'
  obtain ⟨o₁, ho₁, w₁⟩ := O₁.ownAt hx
  (refine cps fun ZP zk => ?_; obtain ⟨_, vs₁, rfl, r₁⟩ := own_list w₁; refine zk ?_)
  have hl := r₁.length
  refine insert_call ho₁ hk0 (by rw [hl]; exact hk1) (by rw [hl]; exact hn) fun h' ⟨m', ho'⟩ hs => ?_
  exact ⟨S₂, O.gro st', O₁.turnOwn (t := s₂.toks) hx hs ⟨_, ho', .list (r₁.ins i₂ _)⟩⟩
noncomputable def CallX (G : Gl) (A : Around) (f : Value) (d : D) (args : List D) (d' : D) : Prop := ∀ S s a vs, Inv G S s → (∃ o, s.heap.get? a = some o ∧ Own G S o d) → S a = none → Alls G S vs args →
  wpAny G.M A (call f (.ref a :: vs)) (fun _ s' => ∃ S', StpBut a G S s S' s' ∧ ∃ o', s'.heap.get? a = some o' ∧ Own G S' o' d') No s
theorem EvX.call {fx : Expr} {f : Value} {x : Str} {np : Pos} {es : List Expr} {args : List D} (hf : EvV G A act ρ fx f) (hc : Callee G f) (hx : ρ.lookup x = some (.own d)) (h : Evs G A act ρ es args) (hd : CallX G A f d args d')
    (hb : (x == ("__debug__" : Str)) = false := by decide) (hcd : (x == ("__classdict__" : Str)) = false := by decide)
    (he : eval (.Call fx (.Name x np :: es) [] pos) act.env = (eval fx act.env >>= fun f => callWith pos f [] (backTo pos (starEach (.Name x np :: es) act.env)) (backToKw pos (keywordEach [] act.env))) := by rfl)
    (hst : starEach (.Name x np :: es) act.env = (false, eval (.Name x np) act.env) :: starEach es act.env := by rfl) : EvX G A act (.Call fx (.Name x np :: es) [] pos) ρ ((x, .own d') :: ρ) := fun kp adr S s O => by
  rw [he]
  refine wpAny_bind (wp_seq (hf kp adr S s O) fun S₁ v s₁ st e => ?_)
  subst e
  have O₁ := O.step st
  have pl := h.plain (pos := pos)
  have key : ∀ {Q : List Value → Shared → Prop}, (∀ S₂ s₂ vs, Stp G S₁ s₁ S₂ s₂ → Alls G S₂ vs args → Q (.ref (adr x) :: vs) s₂) → wpAny G.M A (spliced ((false, eval (.Name x np) act.env) :: backTo pos (starEach es act.env))) Q No s₁ := fun hQ =>
    Calls.spliced_cons (O₁.nameOwn hx (wp_seq (h.spliced (pos := pos) kp adr S₁ s₁ O₁) fun S₂ vs s₂ st₂ is => hQ S₂ s₂ vs st₂ is) hb hcd)
  have fin : ∀ S₂ s₂ vs, Stp G S₁ s₁ S₂ s₂ → Alls G S₂ vs args → wpAny G.M A (PySem.call v (.ref (adr x) :: vs)) (fun _ s' => ∃ S', Gro kp S S' ∧ OK G act kp adr ((x, .own d') :: ρ) S' s') No s₂ := fun S₂ s₂ vs st₂ is => by
    have O₂ := O₁.step st₂
    refine wpAny_mono (hd S₂ s₂ (adr x) vs st₂.inv (O₂.ownAt hx) (O₂.vars x _ hx).2.2.1 is) (fun _ s' ⟨S', sb, ho⟩ => ?_) fun _ _ e => e
    obtain ⟨O', g⟩ := O₂.stepBut hx sb ho
    exact ⟨S', (O.gro (st.trans st₂)).trans g, O'⟩
  rw [hst]
  have pl' : (backTo pos ((false, eval (.Name x np) act.env) :: starEach es act.env)).any (·.1) = false := by
    show (false || (backTo pos (starEach es act.env)).any (·.1)) = false
    rw [pl]; rfl
  cases hc with
  | builtin id => exact callWith_builtin pl' (evalArgs_plain (key fin))
  | type T => exact PyProof.Rows.callWith_type pl' (evalArgs_plain (key fin))
  | func hbs hdat => exact callWith_function (evalArgs_plain (key fun S₂ s₂ vs st₂ is => ⟨⟨st₂.inv.sub _ _ (st₂.inv.base _ _ hbs), hdat⟩, fin S₂ s₂ vs st₂ is⟩))
noncomputable def RunV (G : Gl) (A : Around) (act : Act sc mc) (m : Sem Flow) (ρ ρ' : LEnv) : Prop := ∀ kp adr S s, OK G act kp adr ρ S s → wpAny G.M A m (fun f s' => f = .next ∧ ∃ S', Gro kp S S' ∧ OK G act kp adr ρ' S' s') No s
theorem RunV.nil : RunV G A act (execs [] act.env) ρ ρ := fun kp adr S s O => wpAny_execs_nil ⟨rfl, S, .refl .., O⟩
theorem RunV.cons {st : Stmt} {rest : List Stmt} {ρ₁ ρ' : LEnv} (h : RunV G A act (exec st act.env) ρ ρ₁) (h' : RunV G A act (execs rest act.env) ρ₁ ρ') : RunV G A act (execs (st :: rest) act.env) ρ ρ' := fun kp adr S s O =>
  wpAny_execs_cons (wpAny_mono (h kp adr S s O) (fun f s' ⟨e, S', g, O'⟩ => by
    subst e
    exact wpAny_mono (h' kp adr S' s' O') (fun f' s'' ⟨e', S'', g', O''⟩ => ⟨e', S'', g.trans g', O''⟩) fun _ _ e => e) fun _ _ e => e)
theorem RunV.assign {x : Str} {e : Expr} {np : Pos} (he : Ev G A act ρ e d) (hx : Stores sc mc x) (hs : swapsWith e (some (.Name x np)) pos.line act.env = pure false := by rfl) : RunV G A act (exec (.Assign [.Name x np] e pos) act.env) ρ ((x, .val d) :: ρ) := fun kp adr S s O =>
  wpAny_Assign_Name (wp_seq (he kp adr S s O) fun S₁ v s₁ st i => (O.step st).storeVal hx i fun h' t O' => ⟨rfl, S₁, O.gro st, O'⟩) hs
theorem RunV.yes {t : Expr} {body orelse : List Stmt} {ρ' : LEnv} (ht : Te G A act ρ t true) (h : RunV G A act (execs body act.env) ρ ρ') : RunV G A act (exec (.If t body orelse pos) act.env) ρ ρ' := fun kp adr S s O =>
  wpAny_If (wp_seq (ht kp adr S s O) fun S₁ b' s₁ st e => by
    subst e
    exact wpAny_mono (h kp adr S₁ s₁ (O.step st)) (fun f s' ⟨e, S', g, O'⟩ => ⟨e, S', (O.gro st).trans g, O'⟩) fun _ _ e => e)
theorem RunV.expr {e : Expr} {ρ' : LEnv} (h : EvX G A act e ρ ρ') (hs : swapsWith e none pos.line act.env = pure false := by rfl) : RunV G A act (exec (.Expr e pos) act.env) ρ ρ' := fun kp adr S s O =>
  wpAny_Expr_any (wpAny_mono (h kp adr S s O) (fun v s' ⟨S', g, O'⟩ => ⟨rfl, S', g, O'⟩) fun _ _ e => e) (interactive_fn O) hs
theorem OK.leaveBut {act : Act sc mc} {ρ : LEnv} {a : Addr} (I : Inv G S s) (g : Gro (kpBut G s [a]) S S') (O : OK G act (kpBut G s [a]) adr ρ S' s') (hS : S' a = none) : StpBut a G S s S' s' where
  inv := O.inv
  sub := g.sub
  new := fun b o e => by
    rcases g.new b o e with h | h
    · exact .inl h
    · unfold kpBut at h
      simp only at h
      rw [if_pos ⟨O.inv.noTabS e, fun hm => by rw [List.mem_singleton.mp hm, hS] at e; exact nomatch e⟩] at h
      exact .inr h
  keep := fun b o hb nt e => O.kept b o (by
    unfold kpBut; simp only
    rw [if_pos ⟨nt, fun hm => hb (List.mem_singleton.mp hm)⟩]; exact e)
  gens := fun n x e => O.kgens n x e
  off := hS
variable {nm : Str} {params : Arguments} {body : List Stmt} {scope : Scope} {dflt kwd : Value} {fa : Addr}
theorem CallX.fn {n : Nat} {x : Str} {xs : List Str} (F : FnAt G mg nm params body scope dflt kwd fa) (N : Names G mg mb) (hA : Room (n + 1) A) (hfit : scopeFit scope = true) (hb : bindFit scope (x :: xs) = true) (extra : List (Str × Value × D)) (hl : xs.length = ds.length + extra.length)
    (hbind : ∀ v vs fd S s, vs.length = ds.length → fd.params = params → fd.defaults = dflt → fd.kwdefaults = kwd → Inv G S s → BindsTo s fd ⟨v :: vs, []⟩ ((x, v) :: xs.zip (vs ++ extra.map (·.2.1))))
    (hex : ∀ S s, Inv G S s → Alls G S (extra.map (·.2.1)) (extra.map (·.2.2)))
    (run : ∀ act : Act scope (cellNames scope.names), ∃ ρ', RunV G (A.deeper act.env) act (execs body act.env) ((x, .own d) :: zipEnv xs (ds ++ extra.map (·.2.2))) ρ' ∧ ρ'.lookup x = some (.own d')) : CallX G A (.ref fa) d ds d' := fun S s a vs I ho hS r => by
  refine wpAny_call ?_
  have r' := r.append (hex S s I)
  have hl' : xs.length = (ds ++ extra.map (·.2.2)).length := by simp [hl]
  have hno : ∀ y dy, (zipEnv xs (ds ++ extra.map (·.2.2))).lookup y = some (.own dy) → False := by
    intro y dy h
    have : ∀ (xs : List Str) (ds : List D), (zipEnv xs ds).lookup y = some (.own dy) → False := by
      intro xs
      induction xs with
      | nil => intro ds h; exact nomatch h
      | cons z xs ih =>
        intro ds h
        cases ds with
        | nil => exact nomatch h
        | cons e ds =>
          by_cases q : y = z
          · subst q; simp [zipEnv] at h
          · unfold zipEnv at h; rw [lookup_cons_ne q] at h; exact ih ds h
    exact this _ _ h
  refine enter F N hA.lt hfit ((x, .ref a, .own d) :: zipArgs xs (vs ++ extra.map (·.2.1)) (ds ++ extra.map (·.2.2))) (by rw [List.map_cons, zipArgs_keys r' hl']; exact hb) (fun fd h1 h2 h3 => by rw [List.map_cons, zipArgs_bind r' hl']; exact hbind _ vs fd S s r.length h1 h2 h3 I) I [a] (fun _ => a)
    (fun b h => by rw [List.mem_singleton.mp h]; exact hS) (fun b hbm => ?_) (fun y z dy dz hy hz _ => ?_) fun act s₀ O hk hg hm => ?_
  · rcases List.mem_cons.mp hbm with rfl | hbm
    · exact ⟨rfl, .head _, ho⟩
    · obtain ⟨d, e, i⟩ := zipArgs_is r' hbm
      unfold EntArg
      rw [e]; exact i
  · rw [List.map_cons, zipArgs_env r'] at hy hz
    have key : ∀ y dy, List.lookup y ((x, Loc.own d) :: zipEnv xs (ds ++ extra.map (·.2.2))) = some (.own dy) → y = x := fun y dy h => by
      by_cases q : y = x
      · exact q
      · rw [lookup_cons_ne q] at h; exact (hno _ _ h).elim
    rw [key y dy hy, key z dz hz]
  · rw [List.map_cons, zipArgs_env r'] at O
    obtain ⟨ρ', run, hρ⟩ := run act
    refine wpAny_mono (run _ _ S s₀ O) (fun fl s' ⟨e, S', g, O'⟩ => ?_) fun _ _ e => e
    subst e
    obtain ⟨_, ho', hS', _, _⟩ := O'.vars x _ hρ
    exact ⟨S', O'.leaveBut I g hS', ho'⟩
end
end Mine
end

section
namespace Mine
variable {sc : Scope} {mc : List Str}
open PySem PySem.Calls PyProof.Rows
section
variable {G : Gl} {A : Around} {act : Act sc mc} {kp : Kept} {adr : Str → Addr} {ρ : LEnv} {S S' : Fz} {s s' : Shared} {mg mb : Str → Option Value} {d d' : D} {ds : List D} {n : Nat} {pos : Pos} {Q : FD → LEnv → Prop}
theorem Run.setD {x : Str} {e i : Expr} {np tp : Pos} {ks : List Ky} {k : Ky} (hx : ρ.lookup x = some (.own (.dict ks ds))) (hi : Ev G A act ρ i k.d) (he : Ev G A act ρ e d) (hn : ks.length ≤ sizeLine)
    (h : Q .next ((x, .own (.dict (dput ks ds k d).1 (dput ks ds k d).2)) :: ρ)) (hd : (x == ("__debug__" : Str)) = false := by decide) (hc : (x == ("__classdict__" : Str)) = false := by decide)
    (hs : swapsWith e (some (.Subscript (.Name x np) i tp)) pos.line act.env = pure false := by rfl) : Run G A act (exec (.Assign [.Subscript (.Name x np) i tp] e pos) act.env) ρ Q := fun kp adr S s O => by
  refine wpAny_Assign_Subscript (wp_seq (he kp adr S s O) fun S₁ v s₁ st iv => (O.step st).nameOwn hx (wp_seq (hi kp adr S₁ s₁ (O.step st)) fun S₂ kv s₂ st₂ ik => ?_) hd hc) hs
  have st' := st.trans st₂
  have O₂ := O.step st'
  obtain ⟨o, ho, w⟩ := O₂.ownAt hx
  obtain ⟨kvs, hm, e, r⟩ := Own.dictOf ho w
  have hl : kvs.length ≤ sizeLine := by rw [e, List.length_map] at hn; exact hn
  refine wpAny_setItem_pairs (Ky.kindIs ik) hm (fun h' hd' hs => ?_) hl
  obtain ⟨q1, q2⟩ := stored_keys (k := k) r (iv.mono st₂.sub)
  exact ⟨S₂, adr, _, .next, O.gro st', O₂.turnOwn (t := s₂.toks + 1) hx hs (Own.ofDictOf (ks := (dput ks ds k d).1) (ds := (dput ks ds k d).2) hd' (by rw [q1, e]) (by rw [e]; exact q2)), trivial, h⟩
theorem Run.augD {x : Str} {e i : Expr} {np tp : Pos} {ks : List Ky} {k : Ky} {op : Operator} {d₀ d₁ : D} (hx : ρ.lookup x = some (.own (.dict ks ds))) (hi : Ev G A act ρ i k.d) (hf : dfind k ks ds = some d₀) (he : Ev G A act ρ e d₁) (ho : Op2 G A (inplaceOp op) d₀ d₁ d)
    (hn : ks.length ≤ sizeLine) (h : Q .next ((x, .own (.dict (dput ks ds k d).1 (dput ks ds k d).2)) :: ρ)) (hd : (x == ("__debug__" : Str)) = false := by decide) (hc : (x == ("__classdict__" : Str)) = false := by decide)
    (ha : ∀ ov iv new, augStore i ov iv new = (do holding [new, ov, iv] (setItem ov iv new); release [new, ov, iv] []; pure .next) := by intros; rfl) :
    Run G A act (exec (.AugAssign (.Subscript (.Name x np) i tp) op e pos) act.env) ρ Q := fun kp adr S s O => by
  refine wpAny_AugAssign_SubscriptAny (O.nameOwn hx (wp_seq (hi kp adr S s O) fun S₁ kv s₁ st ik => ?_) hd hc) ha
  have O₁ := O.step st
  obtain ⟨o, ho₁, w⟩ := O₁.ownAt hx
  (refine cps fun ZP zk => ?_; obtain ⟨kvs, hm, e₁, r⟩ := Own.dictOf ho₁ w; refine zk ?_)
  obtain ⟨v₀, hv₀, i₀⟩ := dfind_is e₁ r hf
  refine wpAny_getItem_of (Ky.kindIs ik) hm.mapOf hv₀ ?_
  have st1 := st.inv.toks (s₁.toks + 1)
  have O1 := O₁.step st1
  refine wp_seq (he kp adr S₁ _ O1) fun S₂ v s₂ st₂ iv => wp_seq (ho S₂ s₂ v₀ v st₂.inv (i₀.mono st₂.sub) iv) fun S₃ nv s₃ st₃ inv => ?_
  have st' := st.trans (st1.trans (st₂.trans st₃))
  have O₃ := O.step st'
  obtain ⟨o₃, ho₃, w₃⟩ := O₃.ownAt hx
  obtain ⟨kvs₃, hm₃, e₃, r₃⟩ := Own.dictOf ho₃ w₃
  have hl : kvs₃.length ≤ sizeLine := by rw [e₃, List.length_map] at hn; exact hn
  refine wpAny_setItem_pairs (Ky.kindIs ((ik.mono st₂.sub).mono st₃.sub)) hm₃ (fun h' hd' hs => ?_) hl
  obtain ⟨q1, q2⟩ := stored_keys (k := k) r₃ inv
  exact ⟨S₃, adr, _, .next, O.gro st', O₃.turnOwn (t := s₃.toks + 1) hx hs (Own.ofDictOf (ks := (dput ks ds k d).1) (ds := (dput ks ds k d).2) hd' (by rw [q1, e₃]) (by rw [e₃]; exact q2)), trivial, h⟩
theorem Run.augL {x : Str} {e i : Expr} {np tp : Pos} {k : Int} {op : Operator} {d₀ d₁ : D} (hx : ρ.lookup x = some (.own (.list ds))) (hi : Ev G A act ρ i (.int k)) (h0 : 0 ≤ k) (h1 : k < 2 ^ 62) (hf : ds[k.toNat]? = some d₀) (he : Ev G A act ρ e d₁) (ho : Op2 G A (inplaceOp op) d₀ d₁ d)
    (h : Q .next ((x, .own (.list (ds.set k.toNat d))) :: ρ)) (hd : (x == ("__debug__" : Str)) = false := by decide) (hc : (x == ("__classdict__" : Str)) = false := by decide)
    (ha : ∀ ov iv new, augStore i ov iv new = (do holding [new, ov, iv] (setItem ov iv new); release [new, ov, iv] []; pure .next) := by intros; rfl) :
    Run G A act (exec (.AugAssign (.Subscript (.Name x np) i tp) op e pos) act.env) ρ Q := fun kp adr S s O => by
  refine wpAny_AugAssign_SubscriptAny (O.nameOwn hx (wp_seq (hi kp adr S s O) fun S₁ kv s₁ st ik => ?_) hd hc) ha
  obtain ⟨t, rfl⟩ := ik.int'
  have O₁ := O.step st
  obtain ⟨o, ho₁, w⟩ := O₁.ownAt hx
  (refine cps fun ZP zk => ?_; obtain ⟨m, vs, rfl, r⟩ := own_list w; refine zk ?_)
  obtain ⟨v₀, hv₀, i₀⟩ := r.got hf
  have hlt : k.toNat < vs.length := by
    have := hv₀
    rw [List.getElem?_eq_some_iff] at this; exact this.1
  refine wpAny_getItem_list (IsL.isList' ho₁) h0 (by lia) (by simpa using hv₀) ?_
  refine wp_seq (he kp adr S₁ _ O₁) fun S₂ v s₂ st₂ iv => wp_seq (ho S₂ s₂ v₀ v st₂.inv (i₀.mono st₂.sub) iv) fun S₃ nv s₃ st₃ inv => ?_
  have st2 := st₂.trans st₃
  have ho₃ := st2.keep _ _ (O₁.inv.noTab ho₁ (fun e => nomatch e)) ho₁
  have O₃ := O₁.step st2
  refine PySem.W.ki_setAt (n := m) ho₃ h0 (by omega) (by rw [List.size_toArray]; lia) ?_
  have e := get?_update_seq ho₃ (fun xs => xs.setIfInBounds k.toNat nv)
  refine ⟨S₃, adr, _, .next, O.gro (st.trans st2), O₃.turnOwn (t := s₃.toks) (d' := .list (ds.set k.toNat d)) hx (Heap.SameBut.update ..) ⟨_, e, ?_⟩, trivial, h⟩
  have : vs.toArray.setIfInBounds k.toNat nv = (vs.set k.toNat nv).toArray := by simp
  rw [this]
  refine .list ?_
  have key : ∀ (j : Nat) {vs : List Value} {ds : List D}, Alls G S₃ vs ds → Alls G S₃ (vs.set j nv) (ds.set j d) := by
    intro j
    induction j with
    | zero => intro vs ds h; cases h with
      | nil => exact .nil
      | cons h r => exact .cons inv r
    | succ j ih => intro vs ds h; cases h with
      | nil => exact .nil
      | cons h r => exact .cons h (ih r)
  exact key _ (r.mono st2.sub)

/-! displays -/
theorem EvO.dict0 : EvO G A act ρ (.Dict [] [] pos) (.dict [] []) := fun kp adr S s O => by
  rw [eval_Dict_empty]
  refine wpAny_bind (wpAny_standAt (wpAny_newObj_type (T := "dict") (data := .dict #[]) ?_ (Nat.zero_le _)))
  exact PostO.push O.inv (.dict (kvs := []) (by intro e he; simp at he) .nil rfl .nil .nil) rfl (t := s.toks)
theorem EvO.dict1 {kx vx : Expr} {k : Ky} (hk : Ev G A act ρ kx k.d) (hv : Ev G A act ρ vx d)
    (hsh : ∀ env, (evalEachOpt [some kx] env).zip ((evalEach [vx] env).map fun v => do let x ← v; standAt pos; pure x) = [(some (eval kx env), (do let x ← eval vx env; standAt pos; pure x))] := by intro _; rfl) :
    EvO G A act ρ (.Dict [some kx] [vx] pos) (.dict [k] [d]) := fun kp adr S s O => by
  have st0 := O.inv.keeps (h' := s.heap.push { cls := .type "dict", data := .dict #[] }) (t := s.toks) fun b o e => Heap.get?_push_of_some _ e
  have O0 := O.step st0
  refine wpAny_Dict_pairs (knd := G.knd) (pairs := [(eval kx act.env, (do let x ← eval vx act.env; standAt pos; pure x))]) (hsh _) (by simp) (by simp) ?_
  refine evalPairs_cons (wp_seq (hk kp adr S _ O0) fun S₁ kv s₁ st₁ ik => wpAny_bind (wp_seq (hv kp adr S₁ s₁ (O0.step st₁)) fun S₂ vv s₂ st₂ iv => wpAny_bind (wpAny_standAt (wpAny_pure (evalPairs_nil ?_)))))
  have st' := st₁.trans st₂
  have hnew : (s.heap.push { cls := .type "dict", data := .dict #[] }).get? s.heap.objs.size = some { cls := .type "dict", data := .dict #[] } := Heap.get?_push_size _ rfl
  have hk0 := st'.keep _ _ (O.inv.noTabFresh Inv.fresh) hnew
  have hd0 : s₂.heap.DictOf G.knd s.heap.objs.size [] := ⟨_, #[], 0, hk0, ⟨rfl, rfl, rfl⟩, rfl, (by intro e he; simp at he), .nil, .nil⟩
  refine ⟨[(k, vv)], ⟨Ky.kindIs (ik.mono st₂.sub), rfl, trivial⟩, hd0, fun h' hd' hs => ?_⟩
  have hS2 : S₂ s.heap.objs.size = none := by
    cases q : S₂ s.heap.objs.size with
    | none => rfl
    | some o' =>
      rcases st'.new _ _ q with e | e
      · rw [O.inv.sizeS] at e; exact nomatch e
      · rw [hnew] at e; exact nomatch e
  obtain ⟨o', ho', w'⟩ := Own.ofDictOf (G := G) (S := S₂) (ks := [k]) (ds := [d]) hd' (by rfl) (.cons iv .nil)
  exact ⟨S₂, _, o', (st0.trans st').butNew (t := s₂.toks + 1) hs Inv.fresh hS2 (O.inv.noTabFresh Inv.fresh), rfl, ho', w', hS2, Inv.fresh⟩

/-! tuple = tuple -/
inductive Evl (G : Gl) (A : Around) (act : Act sc mc) (ρ : LEnv) : List Expr → List Loc → Prop
  | nil : Evl G A act ρ [] []
  | val {e : Expr} {es : List Expr} {d : D} {ls : List Loc} : Ev G A act ρ e d → Evl G A act ρ es ls → (∀ env, starEach (e :: es) env = (false, eval e env) :: starEach es env) → Evl G A act ρ (e :: es) (.val d :: ls)
  | own {e : Expr} {es : List Expr} {d : D} {ls : List Loc} : EvO G A act ρ e d → Evl G A act ρ es ls → (∀ env, starEach (e :: es) env = (false, eval e env) :: starEach es env) → Evl G A act ρ (e :: es) (.own d :: ls)
theorem Evl.v {e : Expr} {es : List Expr} {ls : List Loc} (h : Ev G A act ρ e d) (r : Evl G A act ρ es ls) (he : ∀ env, starEach (e :: es) env = (false, eval e env) :: starEach es env := by intro _; rfl) : Evl G A act ρ (e :: es) (.val d :: ls) := .val h r he
theorem Evl.o {e : Expr} {es : List Expr} {ls : List Loc} (h : EvO G A act ρ e d) (r : Evl G A act ρ es ls) (he : ∀ env, starEach (e :: es) env = (false, eval e env) :: starEach es env := by intro _; rfl) : Evl G A act ρ (e :: es) (.own d :: ls) := .own h r he
noncomputable def NewAt (G : Gl) (S : Fz) (s s' : Shared) (v : Value) : Loc → Prop
  | .val d => Is G S v d
  | .own d => ∃ a o, v = .ref a ∧ s'.heap.get? a = some o ∧ Own G S o d ∧ S a = none ∧ s.heap.get? a = none
inductive NewsAt (G : Gl) (S : Fz) (s s' : Shared) : List Value → List Loc → Prop
  | nil : NewsAt G S s s' [] []
  | cons {v : Value} {l : Loc} {vs : List Value} {ls : List Loc} : NewAt G S s s' v l → NewsAt G S s s' vs ls → (isOwn l = true → ∀ u l', (u, l') ∈ vs.zip ls → isOwn l' = true → u ≠ v) → NewsAt G S s s' (v :: vs) (l :: ls)
theorem NewsAt.fresh : ∀ {vs : List Value} {ls : List Loc}, NewsAt G S s s' vs ls → ∀ u l, (u, l) ∈ vs.zip ls → isOwn l = true → ∃ a, u = .ref a ∧ s.heap.get? a = none
  | _, _, .nil, u, l, h, _ => nomatch h
  | _, _, .cons (l := l₀) h r _, u, l, hm, ho => by
    rcases List.mem_cons.mp hm with e | hm
    · cases e
      cases l₀ with
      | val d => exact nomatch ho
      | own d => obtain ⟨a, o, e, _, _, _, hn⟩ := h; exact ⟨a, e, hn⟩
    · exact r.fresh u l hm ho
theorem NewsAt.pre {s₁ : Shared} (st : Stp G S s S' s₁) {S₂ : Fz} : ∀ {vs : List Value} {ls : List Loc}, NewsAt G S₂ s₁ s' vs ls → NewsAt G S₂ s s' vs ls
  | _, _, .nil => .nil
  | _, _, .cons (v := v) (l := l) h r hn => by
    refine .cons ?_ (r.pre st) hn
    cases l with
    | val d => exact h
    | own d =>
      obtain ⟨a, o, e, ho, w, hS, hf⟩ := h
      refine ⟨a, o, e, ho, w, hS, ?_⟩
      cases q : s.heap.get? a with
      | none => rfl
      | some o' => rw [st.keep _ _ (st.inv.noTabFresh hf) q] at hf; exact nomatch hf
theorem Evl.spliced {es : List Expr} {ls : List Loc} (h : Evl G A act ρ es ls) : ∀ kp adr S s, OK G act kp adr ρ S s → wpAny G.M A (spliced (backTo pos (starEach es act.env))) (fun vs s' => ∃ S', Stp G S s S' s' ∧ NewsAt G S' s s' vs ls) No s := by
  induction h with
  | nil => exact fun _ _ S _ O => spliced_none ⟨S, .refl O.inv, .nil⟩
  | val h _ he ih =>
    intro kp adr S s O
    refine spliced_more (wp_seq (h kp adr S s O) fun S₁ v s₁ st₁ i => wpAny_mono (ih kp adr S₁ s₁ (O.step st₁)) (fun vs s₂ ⟨S₂, st₂, is⟩ => ?_) fun _ _ e => e) (he _)
    exact ⟨S₂, st₁.trans st₂, .cons (i.mono st₂.sub) (is.pre st₁) fun e => nomatch e⟩
  | own h _ he ih =>
    intro kp adr S s O
    refine spliced_more (wpAny_mono (h kp adr S s O) (fun v s₁ ⟨S₁, a, o, st₁, hv, ho, w, hS, hn⟩ => wpAny_mono (ih kp adr S₁ s₁ (O.step st₁)) (fun vs s₂ ⟨S₂, st₂, is⟩ => ?_) fun _ _ e => e) fun _ _ e => e) (he _)
    subst hv
    have nt := st₁.inv.noTab ho w.cls
    refine ⟨S₂, st₁.trans st₂, .cons ⟨a, o, rfl, st₂.keep _ _ nt ho, w.mono st₂.sub, ?_, hn⟩ (is.pre st₁) fun _ u l' hm hl e => ?_⟩
    · cases q : S₂ a with
      | none => rfl
      | some o' =>
        rcases st₂.new _ _ q with e | e
        · rw [hS] at e; exact nomatch e
        · rw [ho] at e; exact nomatch e
    · obtain ⟨b, hb, hf⟩ := is.fresh u l' hm hl
      rw [e] at hb
      obtain rfl := PySem.Value.ref.inj hb
      rw [ho] at hf; exact nomatch hf
theorem NewsAt.length : ∀ {vs : List Value} {ls : List Loc}, NewsAt G S s s' vs ls → vs.length = ls.length
  | _, _, .nil => rfl
  | _, _, .cons _ r _ => by simp [r.length]
end
end Mine
end

section
namespace Mine
variable {sc : Scope} {mc : List Str}
open PySem PySem.Calls PyProof.Rows
theorem bindLs_lookup {y : Str} : ∀ {xs : List Str} {ls : List Loc} {ρ : LEnv}, xs.Nodup → xs.length = ls.length → (bindLs xs ls ρ).lookup y = ((xs.zip ls).lookup y).or (ρ.lookup y)
  | [], [], ρ, _, _ => rfl
  | x :: xs, l :: ls, ρ, nd, hl => by
    rw [List.nodup_cons] at nd
    rw [bindLs, bindLs_lookup nd.2 (by simpa using hl), List.zip_cons_cons]
    by_cases q : y = x
    · subst q
      have : (xs.zip ls).lookup y = none := by
        cases h : (xs.zip ls).lookup y with
        | none => rfl
        | some l' => exact absurd (List.of_mem_zip (mem_of_lookup h)).1 nd.1
      rw [this]
      simp
    · rw [lookup_cons_ne q, lookup_cons_ne q]
theorem nodup_rev {α : Type} {l : List α} (h : l.Nodup) : l.reverse.Nodup := List.pairwise_reverse.mpr (h.imp fun q => Ne.symm q)
theorem zip_rev {α β : Type} : ∀ {xs : List α} {ys : List β}, xs.length = ys.length → (xs.zip ys).reverse = xs.reverse.zip ys.reverse
  | [], [], _ => rfl
  | x :: xs, y :: ys, h => by
    have h : xs.length = ys.length := by simpa using h
    rw [List.zip_cons_cons, List.reverse_cons, List.reverse_cons, List.reverse_cons, List.zip_append (by simpa using h), zip_rev h]
    rfl
theorem bindLs_rev {y : Str} {l : Loc} {xs : List Str} {ls : List Loc} {ρ : LEnv} (nd : xs.Nodup) (hl : xs.length = ls.length) (h : (bindLs xs ls ρ).lookup y = some l) : (bindLs xs.reverse ls.reverse ρ).lookup y = some l := by
  rw [bindLs_lookup nd hl] at h
  rw [bindLs_lookup (nodup_rev nd) (by simpa using hl)]
  have keys : (xs.zip ls).map (·.1) = xs := List.map_fst_zip (Nat.le_of_eq hl)
  have rz : xs.reverse.zip ls.reverse = (xs.zip ls).reverse := (zip_rev hl).symm
  rw [rz]
  have ndk : ((xs.zip ls).reverse.map (·.1)).Nodup := by rw [List.map_reverse, keys]; exact nodup_rev nd
  cases q : (xs.zip ls).lookup y with
  | some l' =>
    rw [q] at h
    rw [lookup_of_mem ndk (List.mem_reverse.mpr (mem_of_lookup q))]
    exact h
  | none =>
    rw [q] at h
    have : (xs.zip ls).reverse.lookup y = none := by
      cases h' : (xs.zip ls).reverse.lookup y with
      | none => rfl
      | some l' =>
        rw [lookup_of_mem (by rw [keys]; exact nd) (List.mem_reverse.mp (mem_of_lookup h'))] at q
        exact nomatch q
    rw [this]; exact h
section
variable {G : Gl} {A : Around} {act : Act sc mc} {kp : Kept} {adr : Str → Addr} {ρ : LEnv} {S S' : Fz} {s s' : Shared} {d d' : D} {ds : List D} {n : Nat} {pos : Pos} {Q : FD → LEnv → Prop}
theorem NewsAt.snoc {v : Value} {l : Loc} (hv : NewAt G S s s' v l) : ∀ {vs : List Value} {ls : List Loc}, NewsAt G S s s' vs ls → (∀ u l', (u, l') ∈ vs.zip ls → isOwn l' = true → isOwn l = true → u ≠ v) → NewsAt G S s s' (vs ++ [v]) (ls ++ [l])
  | _, _, .nil, _ => .cons hv .nil fun _ _ _ h => nomatch h
  | _, _, .cons (v := u) (l := l₀) h r hn, hd => by
    refine .cons h (r.snoc hv fun u l' hm => hd u l' (.tail _ hm)) fun ho w l' hm hl => ?_
    have hm : (w, l') ∈ (_ ++ [v]).zip (_ ++ [l]) := hm
    rw [List.zip_append r.length] at hm
    rcases List.mem_append.mp hm with hm | hm
    · exact hn ho w l' hm hl
    · simp at hm
      obtain ⟨rfl, rfl⟩ := hm
      exact fun e => hd u l₀ (.head _) ho hl e.symm
theorem NewsAt.rev : ∀ {vs : List Value} {ls : List Loc}, NewsAt G S s s' vs ls → NewsAt G S s s' vs.reverse ls.reverse
  | _, _, .nil => .nil
  | _, _, .cons h r hn => by
    rw [List.reverse_cons, List.reverse_cons]
    refine (r.rev).snoc h fun u l' hm ho hl => ?_
    rw [← zip_rev r.length] at hm
    exact hn hl u l' (List.mem_reverse.mp hm) ho
noncomputable def D.sol : D → Bool
  | .raw _ => false
  | .at _ d => d.sol
  | _ => true
noncomputable def Loc.sol : Loc → Bool
  | .val d => d.sol
  | .own _ => true
theorem Is.refS {a : Addr} {d : D} (hd : d.sol = true) (h : Is G S (.ref a) d) : ∃ o, S a = some o :=
  Is.rec (motive_1 := fun v d _ => d.sol = true → ∀ a, v = .ref a → ∃ o, S a = some o) (motive_2 := fun _ _ _ => True) (fun _ _ e => nomatch e) (fun _ _ _ e => nomatch e) (fun _ _ _ _ e => nomatch e) (fun _ _ _ _ e => nomatch e)
    (fun h _ _ _ _ _ _ e => ⟨_, Value.ref.inj e ▸ h⟩) (fun h _ _ _ _ _ _ e => ⟨_, Value.ref.inj e ▸ h⟩) (fun h _ _ _ _ _ _ _ _ _ e => ⟨_, Value.ref.inj e ▸ h⟩) (fun h _ _ e => ⟨_, Value.ref.inj e ▸ h⟩)
    (fun h _ _ _ _ e => ⟨_, Value.ref.inj e ▸ h⟩) (fun h _ _ _ _ e => ⟨_, Value.ref.inj e ▸ h⟩) (fun _ h => nomatch h) (fun _ ih => ih) trivial (fun _ _ _ _ => trivial) h hd a rfl
theorem NewsAt.locs (O : OK G act kp adr ρ S s) (st : Stp G S s S' s') : ∀ {vs : List Value} {ls : List Loc}, NewsAt G S' s s' vs ls → ls.all Loc.sol = true → LocsOk G act kp adr ρ S' s' vs ls
  | _, _, .nil, _ => .nil
  | _, _, .cons (v := v) (l := l) (vs := ws) (ls := ks) h r hn, hsol => by
    have hsol' : ks.all Loc.sol = true := by simp only [List.all_cons, Bool.and_eq_true] at hsol; exact hsol.2
    refine .cons ?_ (NewsAt.locs O st r hsol') fun ho hm => ?_
    · cases l with
      | val d => exact h
      | own d =>
        obtain ⟨a, o, e, ho, w, hS, hf⟩ := h
        exact ⟨a, e, O.fresh st ho w hS hf⟩
    · obtain ⟨i, hi, hv⟩ := List.getElem_of_mem hm
      have hl := r.length
      cases l with
      | val d => exact nomatch ho
      | own d =>
        obtain ⟨a, o, e, _, _, hS, hf⟩ := h
        subst e
        have hz : (Value.ref a, ks[i]'(by lia)) ∈ ws.zip ks := List.mem_iff_getElem.mpr ⟨i, by rw [List.length_zip]; lia, by rw [List.getElem_zip, hv]⟩
        cases q : ks[i]'(by omega) with
        | own d' =>
          rw [q] at hz
          exact hn rfl _ _ hz rfl rfl
        | val d' =>
          rw [q] at hz
          have : ∀ {vs : List Value} {ls : List Loc}, NewsAt G S' s s' vs ls → (Value.ref a, Loc.val d') ∈ vs.zip ls → Is G S' (.ref a) d' := by
            intro vs ls h hm
            induction ls generalizing vs with
            | nil => cases h; exact nomatch hm
            | cons l ls ih =>
              cases h with
              | cons h r _ =>
                rcases List.mem_cons.mp hm with e | hm
                · obtain ⟨rfl, rfl⟩ := Prod.mk.inj e; exact h
                · exact ih r hm
          obtain ⟨o', ho'⟩ := Is.refS (by have := List.all_eq_true.mp hsol' (ks[i]'(by omega)) (List.getElem_mem _); rw [q] at this; exact this) (this r hz)
          rw [hS] at ho'; exact nomatch ho'
theorem elts_names {es : List Expr} {xs : List Str} (h : Elts sc mc es xs) (f : Str → Pos → Bool) (g : Expr → Option Str) (hg : ∀ x p, g (.Name x p) = if f x p = true then some x else none) : (es.filterMap g).length ≤ xs.length ∧ ((es.filterMap g).length = es.length → es.filterMap g = xs) ∧ es.length = xs.length := by
  induction h with
  | nil => exact ⟨Nat.le_refl _, fun _ => rfl, rfl⟩
  | @cons x p es xs _ _ ih =>
    obtain ⟨i1, i2, i3⟩ := ih
    rw [List.filterMap_cons, hg]
    by_cases q : f x p = true
    · simp only [q, if_true, List.length_cons]
      exact ⟨by lia, fun h => by rw [i2 (by lia)], by lia⟩
    · simp only [q, Bool.false_eq_true, if_false, List.length_cons]
      exact ⟨by lia, fun h => by lia, by omega⟩
set_option tactic.hygienic true in
theorem swapped_two {ts vs : List Expr} {xs : List Str} {k k2 : Nat} {tp p2 : Pos} (h : Elts sc mc ts xs) (env : Env) (hc : (vs.all (foldedForSure 8) || !(vs.all (constantsAlone 8))) = true) :
    swappedStores [.Tuple ts k tp] (.Tuple vs k2 p2) env = pure none ∨ swappedStores [.Tuple ts k tp] (.Tuple vs k2 p2) env = pure (some xs) := by
  unfold swappedStores
  simp only []
  obtain ⟨i1, i2, i3⟩ := elts_names h (fun x p => env.kindOf x == some .local && p.line == (ts.head?.map (·.pos.line)).getD 0) (fun
    | .Name id pos => if env.kindOf id == some .local && pos.line == (ts.head?.map (·.pos.line)).getD 0 then some id else none
    | _ => none) (fun x p => rfl)
  split
  · exact .inl rfl
  · split
    · exact .inl rfl
    · split
      · exact .inl rfl
      · rename_i h3
        split
        · exact .inl rfl
        · rename_i h4
          split
          · rename_i h5; rw [eq_false_of_ne_true h4, h5] at hc; exact absurd hc (by decide)
          · refine .inr ?_
            simp only [Bool.or_eq_true, bne_iff_ne, ne_eq, not_or, Decidable.not_not] at h3
            exact congrArg (fun z => pure (some z)) (i2 h3.1)
theorem Run.assignTT {m : Nat} (hA : Room m A) {ts es : List Expr} {xs : List Str} {ls : List Loc} {k k2 : Nat} {tp p2 : Pos} (ht : Elts sc mc ts xs) (he : Evl G A act ρ es ls) (hl : xs.length = ls.length) (nd : xs.Nodup) (hsz : ls.length ≤ sizeLine) (hc : (es.all (foldedForSure 8) || !(es.all (constantsAlone 8))) = true)
    (h : Q .next (bindLs xs ls ρ)) (hsol : ls.all Loc.sol = true := by rfl) : Run G A act (exec (.Assign [.Tuple ts k tp] (.Tuple es k2 p2) pos) act.env) ρ Q := fun kp adr S s O => by
  rw [exec_Assign]
  refine wpAny_bind (wpAny_standAt ?_)
  rw [show swapsWithSole [.Tuple ts k tp] (.Tuple es k2 p2) pos.line act.env = pure false from rfl]
  refine wpAny_bind (wpAny_pure ?_)
  rw [if_neg (by decide)]
  refine wpAny_bind (Tuple_ (wpAny_mono (he.spliced (pos := p2) kp adr S s O) (fun vs s₁ ⟨S₁, st, nw⟩ => ?_) fun _ _ e => e))
  have hvl := nw.length
  refine wpAny_newObj_type (T := "tuple") (data := .seq vs.toArray) ?_ (by show vs.toArray.size ≤ sizeLine; rw [List.size_toArray, hvl]; exact hsz)
  have st2 := st.inv.keeps (h' := s₁.heap.push { cls := .type "tuple", data := .seq vs.toArray }) (t := s₁.toks) fun b o e => Heap.get?_push_of_some _ e
  have hT : (s₁.heap.push { cls := .type "tuple", data := .seq vs.toArray }).IsTuple s₁.heap.objs.size vs.toArray := ⟨_, Heap.get?_push_size _ rfl, rfl, _, rfl⟩
  obtain ⟨h1, h2, h3⟩ := ht.stores (G := G) (A := A) (act := act)
  have later : ∀ {vs ls}, NewsAt G S₁ s s₁ vs ls → ∀ {s₂ : Shared}, Stp G S₁ s₁ S₁ s₂ → NewsAt G S₁ s s₂ vs ls := by
    intro vs ls h s₂ stx
    induction ls generalizing vs with
    | nil => cases h; exact .nil
    | cons l ls ih =>
      cases h with
      | cons h r hn =>
        refine .cons ?_ (ih r) hn
        cases l with
        | val d => exact h
        | own d =>
          obtain ⟨a, o, e, ho, w, hS, hf⟩ := h
          exact ⟨a, o, e, stx.keep _ _ (st.inv.noTab ho w.cls) ho, w, hS, hf⟩
  rcases swapped_two (k := k) (k2 := k2) (tp := tp) (p2 := p2) (vs := es) ht act.env hc with hw | hw
  · rw [hw]
    refine wpAny_bind (wpAny_pure ?_)
    show wpAny G.M A (PySem.assign (.Tuple ts k tp) act.env (.ref s₁.heap.objs.size) >>= fun _ => pure Flow.next) _ _ _
    refine wpAny_bind (wpAny_mono (Q := fun _ s' => RunPost G act kp S Q .next s') ?_ (fun _ _ h => wpAny_pure h) fun _ _ e => e)
    refine wpAny_assign_Tuple hA.handled hT (by rw [h2, List.size_toArray, hvl, hl]) h3 fun h' hx => ?_
    have st3 := st2.trans (st2.inv.ext (t := s₁.toks) hx)
    refine h1.run (vs := vs) ((O.step st).step st3) (NewsAt.locs O (st.trans st3) (later nw st3) hsol) (by rw [List.length_map, h2, hvl, hl]) fun s' adr' O' _ => ?_
    exact ⟨S₁, adr', _, .next, O.gro st, O', trivial, h⟩
  · rw [hw]
    refine wpAny_bind (wpAny_pure ?_)
    show wpAny G.M A (do rule "assign.swapped-stores"; let items ← unpackItems (.ref s₁.heap.objs.size) xs.length none; assignInOrder (xs.reverse.map fun n => bindName act.env n) items.reverse; pure Flow.next) _ _ _
    refine wpAny_bind (wpAny_rule (wpAny_bind ?_))
    rw [show xs.length = vs.toArray.size by rw [List.size_toArray, hvl, hl]]
    refine wpAny_unpackItems_tuple hA.handled hT fun h' hx => ?_
    have st3 := st2.trans (st2.inv.ext (t := s₁.toks) hx)
    have stores : ∀ {ys : List Str}, (∀ y ∈ ys, Stores sc mc y) → Storers G A act (ys.map fun n => bindName act.env n) ys := by
      intro ys
      induction ys with
      | nil => intro _; exact .nil
      | cons y ys ih => intro hy; exact .cons (fun v Q E s h => bindName_ h) (hy y (.head _)) (ih fun z hz => hy z (.tail _ hz))
    have sts : ∀ y ∈ xs, Stores sc mc y := by
      clear h hl h1 h2 h3 nd hw
      induction ht with
      | nil => intro y hy; exact nomatch hy
      | cons hx _ ih =>
        intro y hy
        rcases List.mem_cons.mp hy with rfl | hy
        · exact hx
        · exact ih y hy
    refine wpAny_bind (wpAny_mono (Q := fun _ s' => RunPost G act kp S Q .next s') ?_ (fun _ _ h => wpAny_pure h) fun _ _ e => e)
    refine (stores (ys := xs.reverse) fun y hy => sts y (List.mem_reverse.mp hy)).run (vs := vs.reverse) ((O.step st).step st3) (NewsAt.locs O (st.trans st3) (later nw st3).rev (by rw [List.all_reverse]; exact hsol)) (by simp [hvl, hl]) fun s' adr' O' _ => ?_
    exact ⟨S₁, adr', _, .next, O.gro st, O'.weaken fun y l e => bindLs_rev nd hl e, trivial, h⟩
end
end Mine
end

section
namespace Mine
variable {sc : Scope} {mc : List Str}
open PySem PySem.Calls PyProof.Rows
noncomputable def Has (ρ : LEnv) : LEnv → Prop
  | [] => True
  | (x, l) :: r => ρ.lookup x = some l ∧ Has ρ r
theorem Has.sub {ρ : LEnv} : ∀ {ρ₁ : LEnv}, Has ρ ρ₁ → ∀ x l, ρ₁.lookup x = some l → ρ.lookup x = some l
  | [], _, x, l, h => nomatch h
  | (y, l') :: r, ⟨h1, h2⟩, x, l, h => by
    by_cases q : x = y
    · subst q
      simp only [List.lookup, BEq.rfl] at h
      obtain rfl := Option.some.inj h
      exact h1
    · rw [lookup_cons_ne q] at h
      exact h2.sub x l h
noncomputable def lkE (ρ : LEnv) : LEnv → List (Option Loc)
  | [] => []
  | p :: r => ρ.lookup p.1 :: lkE ρ r
noncomputable def lkV : LEnv → List (Option Loc)
  | [] => []
  | p :: r => some p.2 :: lkV r
theorem Has.of {ρ : LEnv} : ∀ {ρ₁ : LEnv}, lkE ρ ρ₁ = lkV ρ₁ → Has ρ ρ₁
  | [], _ => trivial
  | _ :: _, h => ⟨(List.cons.inj h).1, Has.of (List.cons.inj h).2⟩
section
variable {G : Gl} {A : Around} {act : Act sc mc} {ρ ρ₁ : LEnv} {t e tgt : Expr} {pos : Pos} {body : List Stmt} {Q : FD → LEnv → Prop} {xs : List D} {m : Sem Flow} {d : D} {b : Bool}
theorem Run.has (h : Run G A act m ρ₁ Q) (hs : Has ρ ρ₁) : Run G A act m ρ Q := h.weaken hs.sub
theorem Te.has (h : Te G A act ρ₁ e b) (hs : Has ρ ρ₁) : Te G A act ρ e b := fun kp adr S s O => h kp adr S s (O.weaken hs.sub)
theorem Run.loop {α : Type} (env : α → LEnv) (I : α → Prop) (m : α → Nat) (a₀ : α) (h0 : I a₀) (hs : Has ρ (env a₀))
    (turn : ∀ a, I a → ∃ b, Te G A act (env a) t b ∧ (b = true → Run G A act (execs body act.env) (env a) (fun fd ρ' => match fd with
      | .next => ∃ a', I a' ∧ m a' < m a ∧ Has ρ' (env a')
      | .cont => ∃ a', I a' ∧ m a' < m a ∧ Has ρ' (env a')
      | .brk => Q .next ρ'
      | .ret d => Q (.ret d) ρ')) ∧ (b = false → ∀ ρ', Has ρ' (env a) → Q .next ρ')) :
    Run G A act (exec (.While t body [] pos) act.env) ρ Q := by
  refine Run.while (fun k ρ' => ∃ a, I a ∧ m a = k ∧ Has ρ' (env a)) (m a₀) ⟨a₀, h0, rfl, hs⟩ ?_
  rintro k ρ' ⟨a, ha, rfl, hh⟩
  obtain ⟨b, h1, h2, h3⟩ := turn a ha
  refine ⟨b, h1.has hh, fun hb => ((h2 hb).has hh).mono ?_, fun hb => h3 hb ρ' hh⟩
  intro fd ρ'' h
  cases fd with
  | next => obtain ⟨a', x, y, z⟩ := h; exact ⟨_, y, a', x, rfl, z⟩
  | cont => obtain ⟨a', x, y, z⟩ := h; exact ⟨_, y, a', x, rfl, z⟩
  | brk => exact h
  | ret d => exact h
theorem Run.forL {α β : Type} (as : List α) (φ : α → D) (env : β → LEnv) (I : List α → List α → β → Prop) (b₀ : β) (hsrc : Src G A act ρ tgt e (as.map φ)) (h0 : I [] as b₀) (hs : Has ρ (env b₀)) (ρt : α → β → LEnv)
    (turn : ∀ done a rest b, as = done ++ a :: rest → I done (a :: rest) b → Takes G A act tgt (φ a) (env b) (ρt a b) ∧ Run G A act (execs body act.env) (ρt a b) (fun fd ρ' => match fd with
      | .next => ∃ b', I (done ++ [a]) rest b' ∧ Has ρ' (env b')
      | .cont => ∃ b', I (done ++ [a]) rest b' ∧ Has ρ' (env b')
      | .brk => Q .next ρ'
      | .ret d => Q (.ret d) ρ'))
    (done : ∀ b ρ', I as [] b → Has ρ' (env b) → Q .next ρ') (hf : ∀ x, foldedSetIterable e act.env x = pure x := by intro _; rfl) :
    Run G A act (exec (.For tgt e body [] pos) act.env) ρ Q := by
  refine Run.for hsrc (fun xs ρ' => ∃ dn rest b, as = dn ++ rest ∧ xs = rest.map φ ∧ I dn rest b ∧ Has ρ' (env b)) ⟨[], as, b₀, rfl, rfl, h0, hs⟩ ?_ ?_ hf
  · rintro x xs ρ' ⟨dn, rest, b, e, hx, hI, hh⟩
    cases rest with
    | nil => simp at hx
    | cons a rest =>
      simp only [List.map_cons, List.cons.injEq] at hx
      obtain ⟨rfl, rfl⟩ := hx
      obtain ⟨t1, t2⟩ := turn dn a rest b e hI
      refine ⟨ρt a b, fun kp adr S s v O i => ?_, t2.mono ?_⟩
      · refine wpAny_mono (t1 kp adr S s v (O.weaken hh.sub) i) (fun _ s' ⟨S', adr', g, O', ho⟩ => ⟨S', adr', g, O', fun x d hx => ?_⟩) fun _ _ e => e
        obtain ⟨d₀, h1, h2⟩ := ho x d hx
        exact ⟨d₀, hh.sub _ _ h1, h2⟩
      · intro fd ρ'' h
        cases fd with
        | next => obtain ⟨b', h1, h2⟩ := h; exact ⟨dn ++ [a], rest, b', by simp [e], rfl, h1, h2⟩
        | cont => obtain ⟨b', h1, h2⟩ := h; exact ⟨dn ++ [a], rest, b', by simp [e], rfl, h1, h2⟩
        | brk => exact h
        | ret d => exact h
  · rintro ρ' ⟨dn, rest, b, e, hx, hI, hh⟩
    have : rest = [] := by simpa using hx.symm
    subst this
    rw [List.append_nil] at e
    subst e
    exact done b ρ' hI hh
end
end Mine
end

section
namespace Mine
variable {sc : Scope} {mc : List Str}
open PySem PySem.Calls PyProof.Rows
theorem entry_itemiter : entryFor table "dict_itemiterator.__iter__" = some Builtin.«dict_keyiterator.__iter__» :=
  entryFor_alias (id' := "dict_keyiterator.__iter__") (by kernel_rfl) rfl (by decide +kernel) (by kernel_rfl)
section
variable {G : Gl} {A : Around} {act : Act sc mc} {ρ : LEnv} {S S' : Fz} {s s' : Shared} {d : D} {ds : List D} {n : Nat} {pos : Pos}
theorem WalksT.items {knd : KeyKind G.prog G.w Ky} (hh : A.handled = none) (it d : Addr) (hne : d ≠ it) (kvs : List (Ky × Value)) (ep : Nat) :
    WalksT G.prog G.w A it [it, d] [it] kvs.length (fun i vals => ∃ k key v, kvs[i]? = some (k, v) ∧ knd.is k key = true ∧ vals = #[key, v])
      (fun i h => (∃ ok ov, IsItemIter h it d i kvs.length ep ok ov) ∧ h.DictAt knd d kvs ep)
      (fun i T h => (∃ ok ov, IsItemIterOut h it d (i + 1) kvs.length ep ok ov T) ∧ h.DictAt knd d kvs ep ∧ T ≠ it) where
  sub := fun b hb => by rw [List.mem_singleton.mp hb]; exact .head _
  frame := fun i h h' hst hk => by
    obtain ⟨⟨ok, ov, he⟩, hm⟩ := hst
    exact ⟨⟨ok, ov, hk it (.head _) _ he⟩, hm.at' fun o e => hk d (.tail _ (.head _)) o e⟩
  item := fun i s Q E hi hst hQ => by
    obtain ⟨⟨ok, ov, he⟩, hm⟩ := hst
    have hx : kvs[i]? = some (kvs[i].1, kvs[i].2) := List.getElem?_eq_getElem hi
    refine wpAny_pyNext_items_item he hm hx fun key h' hkey ho hT hsz hk => ?_
    have hlt : it < s.heap.objs.size := Heap.lt_size he
    exact hQ s.heap.objs.size #[key, kvs[i].2] h' s.toks ⟨_, key, _, hx, hkey, rfl⟩ (Nat.le_refl _) ⟨_, hT, rfl, _, rfl⟩ ⟨⟨_, _, ho⟩, hm.at' fun o e => hk d o hne e, Nat.ne_of_gt hlt⟩
      fun b o hb e => hk b o (fun q => hb (q ▸ .head _)) e
  go := fun elts k pos i T s Q E hm hQ => by
    obtain ⟨⟨ok, ov, ho⟩, hd, hT⟩ := hm
    refine wpAny_letOwnedTupleGo_items ho fun h' he hs => hQ h' ⟨⟨ok, ov, he⟩, hd.at' fun o e => hs.extBut _ _ hne e⟩ fun b o hb e => hs.extBut _ _ (fun q => hb (q ▸ .head _)) e
  apart := fun i T h hm hT => hm.2.2 (List.mem_singleton.mp hT)
  done := fun s Q E hst hQ => by
    obtain ⟨⟨ok, ov, he⟩, hm⟩ := hst
    exact wpAny_pyNext_items_end hh he hm (by simp) fun h' hx => hQ h' s.toks fun b o hb e => hx b o (fun q => hb (q ▸ .head _)) e
  self := fun i s Q E hst hQ => by
    obtain ⟨⟨ok, ov, he⟩, hm⟩ := hst
    have hT : s.TypeIs (.ref it) "dict_itemiterator" := ⟨_, he, rfl⟩
    refine wpAny_pyIter_slot hT PySem.F.slot_dict_itemiterator_iter (wpAny_call_entry PySem.F.slot_dict_itemiterator_iter hT entry_itemiter ?_ (PySem.F.args_dict_itemiterator_iter_1 _))
    show wpAny _ _ (ret (.ref it)) _ _ s
    exact wpAny_pure ⟨_, rfl, "dict_itemiterator", _, hT, PySem.F.slot_dict_itemiterator_next.lookup, hQ⟩
theorem Selfy.walksT {I : Addr} {fp wr : List Addr} {n : Nat} {Pt : Nat → Array Value → Prop} {St : Nat → Heap → Prop} {Mid : Nat → Addr → Heap → Prop} (W : WalksT G.prog G.w A I fp wr n Pt St Mid) {i : Nat} (I' : Inv G S s) (hst : St i s.heap) (hfp : ∀ b ∈ fp, b ∈ wr ∨ ∃ o, S b = some o) :
    Selfy G A (.ref I) ⟨wr, []⟩ S s := fun S' s' af Q E hQ => W.self i s' Q E (W.frame _ _ _ hst fun b hb o e => by
  rcases hfp b hb with h | ⟨o', h⟩
  · exact af.same.adr b h o e
  · have h3 := I'.sub _ _ h
    rw [e] at h3
    obtain rfl := Option.some.inj h3
    exact af.inv.sub _ _ (af.sub _ _ h)) hQ
noncomputable def itemDs (ks : List Ky) (ds : List D) : List D := List.zipWith pairD ks ds
theorem pairs_items {S : Fz} : ∀ {kvs : List (Ky × Value)} {ds : List D}, Alls G S (kvs.map (·.2)) ds → ∀ (i : Nat) (k : Ky) (v : Value), kvs[i]? = some (k, v) → ∃ d, (itemDs (kvs.map (·.1)) ds)[i]? = some (pairD k d) ∧ Is G S v d
  | [], _, _, i, k, v, h => by simp at h
  | (k₀, v₀) :: kvs, _, .cons h r, 0, k, v, e => by
    simp only [List.getElem?_cons_zero, Option.some.injEq, Prod.mk.injEq] at e
    obtain ⟨rfl, rfl⟩ := e
    exact ⟨_, rfl, h⟩
  | (k₀, v₀) :: kvs, _, .cons h r, i + 1, k, v, e => by
    rw [List.getElem?_cons_succ] at e
    obtain ⟨d, h1, h2⟩ := pairs_items r i k v e
    exact ⟨d, by simpa [itemDs] using h1, h2⟩
theorem Ky.isD {k : Ky} {v : Value} (h : G.knd.is k v = true) : Is G S v k.d := by
  cases k with
  | i k => obtain ⟨t, rfl⟩ := Value.isInt_shape h; exact .int ..
  | s x => obtain ⟨t, rfl⟩ := Value.isStrOf_shape h; exact .str ..
theorem Src.items (hA : Room n A) {ks : List Ky} {elts : List Expr} {kk : Nat} {tp : Pos} {e : Expr} (he : Ev G A act ρ e (.items ks ds)) : Src G A act ρ (.Tuple elts kk tp) e (itemDs ks ds) := fun kp adr S s O => by
  refine wp_seq (he kp adr S s O) fun S₁ v s₁ st i => ?_
  obtain ⟨v, d, rfl, hv, hd⟩ := i.itemsI
  (refine cps fun ZP zk => ?_; obtain ⟨_, es, ep, kvs, q0, h1, h2, h3, h4, h5, r, h6⟩ := hd.dictI; refine zk ?_)
  obtain rfl := PySem.Value.ref.inj q0
  have I := st.inv
  have hdt : s₁.heap.DictAt G.knd d kvs ep := ⟨_, es, I.sub _ _ h1, ⟨rfl, rfl, rfl⟩, rfl, h2, h3, h4 ▸ h5⟩
  refine wpAny_pyIter_items ⟨_, I.sub _ _ hv, rfl, rfl⟩ hdt ?_
  have hne : d ≠ s₁.heap.objs.size := fun q => by rw [q, I.sizeS] at h1; exact nomatch h1
  have W := WalksT.items (G := G) (knd := G.knd) hA.handled s₁.heap.objs.size d hne kvs ep
  have st2 := I.keeps (h' := s₁.heap.push { cls := .type "dict_itemiterator", data := .fields #[.none, .bool false, .ref d, .int 0 0, .int kvs.length 0, .int ep 0, .none, .none] }) (t := s₁.toks) fun b o e => Heap.get?_push_of_some _ e
  have hst : (∃ ok ov, IsItemIter (s₁.heap.push { cls := .type "dict_itemiterator", data := .fields #[.none, .bool false, .ref d, .int 0 0, .int kvs.length 0, .int ep 0, .none, .none] }) s₁.heap.objs.size d 0 kvs.length ep ok ov) ∧ (s₁.heap.push { cls := .type "dict_itemiterator", data := .fields #[.none, .bool false, .ref d, .int 0 0, .int kvs.length 0, .int ep 0, .none, .none] }).DictAt G.knd d kvs ep :=
    ⟨⟨_, _, Heap.get?_push_size _ rfl⟩, hdt.at' fun o e => Heap.get?_push_of_some _ e⟩
  have hfp : ∀ b ∈ [s₁.heap.objs.size, d], b ∈ [s₁.heap.objs.size] ∨ ∃ o, S₁ b = some o := fun b hb => by
    rcases List.mem_cons.mp hb with rfl | hb
    · exact .inl (.head _)
    · rw [List.mem_singleton.mp hb]; exact .inr ⟨_, h1⟩
  have hfr : ∀ b ∈ [s₁.heap.objs.size], S₁ b = none ∧ NoTab G b := fun b hb => by rw [List.mem_singleton.mp hb]; exact ⟨I.sizeS, I.noTabFresh Inv.fresh⟩
  have hlen : (itemDs ks ds).length = kvs.length := by
    have := r.length
    rw [List.length_map] at this
    unfold itemDs
    rw [List.length_zipWith, h4, List.length_map, ← this, Nat.min_self]
  refine ⟨S₁, ⟨[s₁.heap.objs.size], []⟩, st.trans st2, fun a ha => ?_, (fun g hg => nomatch hg), ?_, Selfy.walksT W st2.inv hst hfp⟩
  · rw [List.mem_singleton.mp ha]
    cases q : s.heap.get? s₁.heap.objs.size with
    | none => rfl
    | some o' => have := st.keep _ _ (I.noTabFresh Inv.fresh) q; rw [Inv.fresh] at this; exact nomatch this
  · have := Yields.walksT (elts := elts) (kk := kk) (tp := tp) W (S₀ := S₁) (xs := itemDs ks ds) hlen hfp
      (fun i h hst b hb => by rw [List.mem_singleton.mp hb]; obtain ⟨⟨_, _, e⟩, _⟩ := hst; exact ⟨_, e⟩)
      (fun i vals hi hP => by
        (refine cps fun ZP zk => ?_; obtain ⟨k, key, v, hx, hk, rfl⟩ := hP; refine zk ?_)
        obtain ⟨d, q1, q2⟩ := pairs_items r i k v hx
        rw [← h4] at q1
        exact ⟨_, q1, .cons (Ky.isD hk) (.cons q2 .nil)⟩)
      (kvs.length - 0) 0 S₁ _ rfl (Nat.zero_le _) (Sub.refl _) st2.inv hst hfr
    rw [List.drop_zero] at this
    exact this
noncomputable def enumDs (ds : List D) : List D := ds.zipIdx.map fun p => .tuple [.int p.2, p.1]
theorem enumDs_get {i : Nat} (h : ds[i]? = some d) : (enumDs ds)[i]? = some (.tuple [.int i, d]) := by
  unfold enumDs
  rw [List.getElem?_map, List.getElem?_zipIdx, h]
  simp
theorem enumDs_len : (enumDs ds).length = ds.length := by simp [enumDs]
theorem SrcAt.enum (hA : Room n A) {elts : List Expr} {kk : Nat} {tp : Pos} {S₁ : Fz} {s₁ : Shared} (st : Stp G S s S₁ s₁) {h' : Heap} {fp : List Addr} {m : Nat} {P : Nat → Value → Prop} {St : Nat → Heap → Prop}
    (Dr : Draws G.prog G.w A.in1 s₁.heap.objs.size (s₁.heap.objs.size :: fp) m P St) (hk : ∀ b o, s₁.heap.get? b = some o → h'.get? b = some o) (he : IsEnum h' (s₁.heap.objs.size + 1) s₁.heap.objs.size 0 .none) (hst : St 0 h')
    (hfp : ∀ b ∈ fp, ∃ o, S₁ b = some o) (hm : ds.length = m) (hP : ∀ i v, P i v → ∃ d, ds[i]? = some d ∧ Is G S₁ v d) (hlive : ∀ i h, St i h → ∃ o, h.get? s₁.heap.objs.size = some o) :
    wpAny G.M A (pyIter (.ref (s₁.heap.objs.size + 1))) (SrcAt G A (.Tuple elts kk tp) (enumDs ds) S s) No { s₁ with heap := h' } := by
  have I := st.inv
  have fresh : ∀ b, s₁.heap.objs.size ≤ b → s₁.heap.get? b = none := fun b hb => by
    cases q : s₁.heap.get? b with
    | none => rfl
    | some o => exact absurd (Heap.lt_size q) (Nat.not_lt.mpr hb)
  have freshS : ∀ b, s₁.heap.get? b = none → S₁ b = none := fun b hb => by
    cases q : S₁ b with
    | none => rfl
    | some o => have := I.sub _ _ q; rw [hb] at this; exact nomatch this
  have hne : s₁.heap.objs.size + 1 ≠ s₁.heap.objs.size := Nat.succ_ne_self _
  have W := WalksT.enumerateD Dr (s₁.heap.objs.size + 1) hne (fun hm => by
    rcases List.mem_cons.mp hm with q | q
    · exact hne q
    · obtain ⟨o, ho⟩ := hfp _ q
      rw [freshS _ (fresh _ (Nat.le_succ _))] at ho; exact nomatch ho) (.head _)
  have st2 := I.keeps (h' := h') (t := s₁.toks) hk
  have hsT : (∃ old, IsEnum h' (s₁.heap.objs.size + 1) s₁.heap.objs.size ((0 : Nat) : Int) old) ∧ St 0 h' := ⟨⟨_, he⟩, hst⟩
  refine W.self 0 _ _ _ hsT ?_
  have hfp' : ∀ b ∈ (s₁.heap.objs.size + 1) :: s₁.heap.objs.size :: fp, b ∈ [s₁.heap.objs.size + 1, s₁.heap.objs.size] ∨ ∃ o, S₁ b = some o := fun b hb => by
    rcases List.mem_cons.mp hb with rfl | hb
    · exact .inl (.head _)
    · rcases List.mem_cons.mp hb with rfl | hb
      · exact .inl (.tail _ (.head _))
      · exact .inr (hfp b hb)
  have hwr : ∀ b ∈ [s₁.heap.objs.size + 1, s₁.heap.objs.size], s₁.heap.get? b = none := fun b hb => by
    rcases List.mem_cons.mp hb with rfl | hb
    · exact fresh _ (Nat.le_succ _)
    · rw [List.mem_singleton.mp hb]; exact fresh _ (Nat.le_refl _)
  refine ⟨S₁, ⟨[s₁.heap.objs.size + 1, s₁.heap.objs.size], []⟩, st.trans st2, fun a ha => ?_, (fun g hg => nomatch hg), ?_, Selfy.walksT W st2.inv hsT hfp'⟩
  · have hn := hwr a ha
    cases q : s.heap.get? a with
    | none => rfl
    | some o' => have := st.keep _ _ (I.noTabFresh hn) q; rw [hn] at this; exact nomatch this
  · have := Yields.walksT (elts := elts) (kk := kk) (tp := tp) W (S₀ := S₁) (xs := enumDs ds) (by rw [enumDs_len, hm]) hfp'
      (fun i h hst b hb => by
        rcases List.mem_cons.mp hb with rfl | hb
        · obtain ⟨⟨_, e⟩, _⟩ := hst; exact ⟨_, e⟩
        · rw [List.mem_singleton.mp hb]; exact hlive i h hst.2)
      (fun i vals hi hP' => by
        obtain ⟨t, x, hx, rfl⟩ := hP'
        obtain ⟨d, q1, q2⟩ := hP i x hx
        exact ⟨_, enumDs_get q1, .cons (.int ..) (.cons q2 .nil)⟩)
      (m - 0) 0 S₁ _ rfl (Nat.zero_le _) (Sub.refl _) st2.inv hsT fun b hb => ⟨freshS b (hwr b hb), I.noTabFresh (hwr b hb)⟩
    rw [List.drop_zero] at this
    exact this
theorem Src.enumL (hA : Room (n + 1) A) {elts : List Expr} {kk : Nat} {tp : Pos} {fx ex : Expr} (hf : EvV G A act ρ fx (.type "enumerate")) (he : Ev G A act ρ ex (.list ds))
    (hev : eval (.Call fx [ex] [] pos) act.env = (eval fx act.env >>= fun f => callWith pos f [] (backTo pos (starEach [ex] act.env)) (backToKw pos (keywordEach [] act.env))) := by rfl) (hs : ∀ env, starEach [ex] env = (false, eval ex env) :: starEach [] env := by intro _; rfl) :
    Src G A act ρ (.Tuple elts kk tp) (.Call fx [ex] [] pos) (enumDs ds) := fun kp adr S s O => by
  rw [hev]
  refine wpAny_bind (wp_seq (hf kp adr S s O) fun S₁ v s₁ st e => ?_)
  subst e
  refine call_args (.type _) (Evs.cons he .nil hs) (O.step st) fun S₂ s₂ vs st₂ is => ?_
  obtain ⟨v, rfl, i⟩ := alls1 is
  obtain ⟨l, ws, rfl, hl, r⟩ := i.lst st₂.inv
  have hlS := Is.refS rfl i
  refine call_enumerate_list hl fun h' he' hit hsz hk => ?_
  have hne : l ≠ s₂.heap.objs.size := fun q => by obtain ⟨o, ho⟩ := hlS; rw [q, st₂.inv.sizeS] at ho; exact nomatch ho
  refine SrcAt.enum hA (st.trans st₂) (fp := [l]) (Draws.list hA.in1.handled s₂.heap.objs.size l hne ws.toArray) hk he' ⟨hit, hl.at fun o e => hk _ o e⟩ (fun b hb => by rw [List.mem_singleton.mp hb]; exact hlS) (by rw [List.size_toArray, r.length]) (fun i v hv => ?_) fun i h hst => by obtain ⟨⟨o, ho, _⟩, _⟩ := hst; exact ⟨o, ho⟩
  have hv : ws[i]? = some v := by simpa using hv
  exact r.get' hv
end
end Mine
end

section
namespace Mine
variable {sc : Scope} {mc : List Str}
open PySem PySem.Calls PyProof.Rows
section
variable {prog : Program} {w : World} {B : Around} {R : GenEnd} {Y : Protocol} {n : Nat} {s₀ : Shared} {c : Code} {fs : List Frame} {s : Shared} {env : Env}
  {K : Flow → Sem PySem.Fin} {H : Value → Sem PySem.Fin} {gd : Bool → Bool} {lv : List Value → List Value}
noncomputable def ownK (K : Flow → Sem PySem.Fin) (H : Value → Sem PySem.Fin) (gd : Bool → Bool) (lv : List Value → List Value) (env : Env) : Result → Sem PySem.Fin := fun r => ((match r with | .ok f => (.pure f : Sem Flow) | .error e => .raise e).onRaise fun (x : Value) => do
        if (← field x 1) == Value.none then unsupported "frame.own-activation:exception-without-traceback"
        setFlight x env.frame).wrap K H gd lv
theorem seg_For {target iter : Expr} {body orelse : List Stmt} {pos : Pos}
    (h : wpAny (model prog w) (B.over c fs) (eval iter env) (fun x s₁ => wpAny (model prog w) (B.over c fs) (pyIter x) (fun it s₂ =>
      ∀ p, Seg (model prog w) B R Y n s₀ (.forLoop target it body orelse env) ((model prog w).den (.forLoop target it body orelse env)) (.ret (ownK K H gd lv env) none (gd false) (lv []) c p [] :: fs) s₂) No s₁) No s)
    (hs : ∀ x, foldedSetIterable iter env x = pure x := by intro _; rfl) :
    Seg (model prog w) B R Y n s₀ c ((exec (.For target iter body orelse pos) env).wrap K H gd lv) fs s := by
  rw [exec_For]
  rw [Sem.bind_eq_wrap', Sem.wrap_wrap]
  refine seg_wrap (wpAny_standAt ?_)
  rw [Sem.bind_eq_wrap', Sem.wrap_wrap]
  refine seg_wrap (wpAny_mono h (fun x s₁ h₁ => ?_) fun _ _ e => False.elim e)
  rw [hs x]
  rw [Sem.bind_eq_wrap', Sem.wrap_wrap]
  refine seg_wrap (wpAny_pure ?_)
  rw [Sem.bind_eq_wrap', Sem.wrap_wrap]
  refine seg_wrap (wpAny_standAt ?_)
  rw [Sem.bind_eq_wrap', Sem.wrap_wrap]
  refine seg_wrap (wpAny_holding (wpAny_mono h₁ (fun it s₂ h₂ => ?_) fun _ _ e => False.elim e))
  exact seg_call h₂
theorem seg_forLoop {target : Expr} {it : Value} {body : List Stmt}
    (h : wpAny (model prog w) (B.over (.forLoop target it body [] env) fs) (pyNext it) (fun r s₁ => match r with
      | none => Seg (model prog w) B R Y n s₀ (.block [] env) (leafOf (.ok .next)) fs s₁
      | some v => wpAny (model prog w) (B.over (.forLoop target it body [] env) fs) (letOwnedTupleGo target it v) (fun _ s₂ => wpAny (model prog w) (B.over (.forLoop target it body [] env) fs) (assign target env v) (fun _ s₃ =>
          Seg (model prog w) B R Y n s₀ (.forLoop target it body [] env) ((execs body env).wrap (fun f => match f with
            | .next | .cont => .pure (.again (.forLoop target it body [] env))
            | .brk => .pure (.done .next)
            | .ret v => .pure (.done (.ret v))) (fun e => (do noteFrame e env; theTreesLotGoes e : Sem Unit).wrap (fun _ => .raise e) .raise id id) id id) fs s₃) No s₂) No s₁) No s) :
    Seg (model prog w) B R Y n s₀ (.forLoop target it body [] env) ((model prog w).den (.forLoop target it body [] env)) fs s := by
  show Seg _ B R Y n s₀ _ ((forTurn target it body [] env).onRaise (fun x => do noteFrame x env; theTreesLotGoes x)) fs s
  unfold forTurn
  rw [Sem.onRaise_eq_wrap, Sem.bind_eq_wrap', Sem.wrap_wrap]
  refine seg_wrap (wpAny_standAt ?_)
  rw [Sem.bind_eq_wrap', Sem.wrap_wrap]
  refine seg_wrap (wpAny_onRaise (wpAny_mono h (fun r s₁ h₁ => ?_) fun _ _ e => False.elim e))
  cases r with
  | none =>
    show Seg _ B R Y n s₀ _ (.pure (.again (.block [] env))) fs s₁
    exact seg_again rfl h₁
  | some v =>
    dsimp only
    rw [Sem.bind_eq_wrap', Sem.wrap_wrap]
    refine seg_wrap (wpAny_mono h₁ (fun _ s₂ h₂ => ?_) fun _ _ e => False.elim e)
    rw [Sem.bind_eq_wrap', Sem.wrap_wrap]
    refine seg_wrap (wpAny_mono h₂ (fun _ s₃ h₃ => ?_) fun _ _ e => False.elim e)
    rw [Sem.bind_eq_wrap', Sem.wrap_wrap]
    rw [Sem.wrap_congr (execs body env) _ _ (K' := fun f => match f with
            | .next | .cont => .pure (.again (.forLoop target it body [] env))
            | .brk => .pure (.done .next)
            | .ret v => .pure (.done (.ret v))) (H' := (fun e => (do noteFrame e env; theTreesLotGoes e : Sem Unit).wrap (fun _ => .raise e) .raise id id))
        (fun f => by cases f <;> rfl)
        (fun e => by first | exact Sem.bind_eq_wrap _ _ | (show (do noteFrame e env; theTreesLotGoes e : Sem Unit).bind (fun _ => .raise e) = _; rw [Sem.bind_eq_wrap]))]
    exact h₃
end
end Mine
end

section
namespace Mine
open PySem PyProof.Rows
theorem bare_set {gens : Array GenState} {g : Nat} {x : GenState} (h : AllBare gens) (hx : x.bare = true) : AllBare (gens.setIfInBounds g x) := fun y hy => by
  obtain ⟨i, hi, rfl⟩ := Array.mem_iff_getElem.mp hy
  have hi' : i < gens.size := by simpa using hi
  rw [Array.getElem_setIfInBounds hi']
  split
  · exact hx
  · exact h _ (Array.getElem_mem _)
theorem quiet_bare {e : End} (h : e.quiet = true) : e.genState.bare = true := End.bare_of_quiet h
theorem runs_bare {M : Model} {Γ : Ctx} {p : Pos} {t : Sem PySem.Fin} {fs : List Frame} {s : Shared} {e : End} {s' : Shared} (h : Runs M Γ p t fs s e s') : AllBare s.gens → AllBare s'.gens := by
  induction h with
  | done => exact id
  | raise => exact id
  | again _ _ ih => exact ih
  | rule _ ih => exact ih
  | «at» _ ih => exact ih
  | load _ _ ih => exact ih
  | update _ _ ih => exact ih
  | loadIfAlive _ ih => exact ih
  | point _ ih => exact ih
  | alloc _ ih => exact ih
  | fresh _ ih => exact ih
  | ask _ ih => exact ih
  | choose _ _ ih => exact ih
  | os _ ih => exact ih
  | handled _ ih => exact ih
  | genState _ _ ih => exact ih
  | stack _ ih => exact ih
  | thread _ ih => exact ih
  | newGen _ ih => exact fun b => ih (b.push rfl)
  | call _ _ ih1 ih2 => exact fun b => ih2 (ih1 b)
  | callSusp _ ih => exact ih
  | yield => exact id
  | resumeFresh _ _ hq _ ih1 ih2 => exact fun b => ih2 (bare_set (ih1 (bare_set b rfl)) (quiet_bare hq))
  | resumeSuspended _ _ hq _ ih1 ih2 => exact fun b => ih2 (bare_set (ih1 (bare_set b rfl)) (quiet_bare hq))
  | resumeJustStarted _ _ _ ih => exact ih
  | resumeThrowFresh _ _ ih => exact fun b => ih (bare_set b rfl)
  | resumeRunning _ _ ih => exact ih
  | resumeFinished _ _ ih => exact ih
  | segRet _ _ ih1 ih2 => exact fun b => ih2 (ih1 b)
  | segGen _ _ ih1 ih2 => exact fun b => ih2 (bare_set (ih1 b) rfl)
  | segSuspOut _ _ ih => exact ih
  | segSuspGen _ _ hq _ ih1 ih2 => exact fun b => ih2 (bare_set (ih1 b) (quiet_bare hq))
theorem wakes_bare {M : Model} {Γ : Ctx} {p : Pos} {g : Nat} {r : Resume} {s s' : Shared} {res : GenResult} (h : Wakes M Γ p g r s res s') (b : AllBare s.gens) : AllBare s'.gens := by
  unfold Wakes at h
  cases q : s.gens[g]? with
  | none => rw [q] at h; exact h.elim
  | some x =>
    rw [q] at h
    cases x with
    | fresh c =>
      cases r with
      | send v =>
        cases v <;> simp only at h <;> first
          | (obtain ⟨_, rfl⟩ := h; exact b)
          | (obtain ⟨e, t, a1, hq, _, rfl⟩ := h; exact bare_set (runs_bare a1 (bare_set b rfl)) (quiet_bare hq))
      | throw x => obtain ⟨_, rfl⟩ := h; exact bare_set b rfl
    | suspended k l c p₀ fs cl => obtain ⟨e, t, a1, hq, _, rfl⟩ := h; exact bare_set (runs_bare a1 (bare_set b rfl)) (quiet_bare hq)
    | running => obtain ⟨_, rfl⟩ := h; exact b
    | finished => obtain ⟨_, rfl⟩ := h; exact b
theorem wp_bare {α : Type} {M : Model} {Γ : Ctx} {Q : α → Pos → Shared → Prop} {E : Value → Pos → Shared → Prop} (t : Sem α) : ∀ {p : Pos} {s : Shared}, AllBare s.gens → Sem.wp M Γ t Q E p s →
    Sem.wp M Γ t (fun a p s => Q a p s ∧ AllBare s.gens) E p s := by
  induction t with
  | pure a => intro p s b h; exact ⟨h, b⟩
  | raise e => intro p s b h; exact h
  | unsupported _ => intro p s b h; exact h.elim
  | finish _ => intro p s b h; exact h.elim
  | rule _ k ih => intro p s b h; exact ih () b h
  | «at» p' k ih => intro p s b h; exact ih () b h
  | load a part k ih => intro p s b h; obtain ⟨o, ho, h⟩ := h; exact ⟨o, ho, ih o b h⟩
  | update a part f k ih => intro p s b h; exact ⟨h.1, ih () b h.2⟩
  | loadIfAlive a k ih => intro p s b h; exact ih _ b h
  | point _ k ih => intro p s b h; exact ih () b h
  | register _ _ => intro p s b h; exact h.elim
  | alloc o k ih => intro p s b h; exact ih _ b h
  | fresh k ih => intro p s b h; exact ih _ b h
  | ask k ih => intro p s b h; exact ih _ b h
  | choose src n k ih => intro p s b h; exact ⟨h.1, ih _ b h.2⟩
  | os q l k ih => intro p s b h; exact ih _ b h
  | call c h g l k ih => intro p s b x; obtain ⟨r, s₁, a, x⟩ := x; exact ⟨r, s₁, a, ih _ (runs_bare a b) x⟩
  | handled own k ih => intro p s b h; exact ih _ b h
  | genState g k ih => intro p s b h; obtain ⟨o, ho, h⟩ := h; exact ⟨o, ho, ih _ b h⟩
  | newGen c k ih => intro p s b h; exact ih _ (b.push rfl) h
  | resume g r l k ih => intro p s b x; obtain ⟨res, s₁, a, x⟩ := x; exact ⟨res, s₁, a, ih _ (wakes_bare a b) x⟩
  | yield => intro p s b h; exact h.elim
  | stack k ih => intro p s b h; exact ih _ b h
  | fork => intro p s b h; exact h.elim
  | thread k ih => intro p s b h; exact ih _ b h
  | await => intro p s b h; exact h.elim
theorem wpAny_bare {α : Type} {M : Model} {A : Around} {m : Sem α} {Q : α → Shared → Prop} {E : Value → Shared → Prop} {s : Shared} (b : AllBare s.gens) (h : wpAny M A m Q E s) :
    wpAny M A m (fun a s => Q a s ∧ AllBare s.gens) E s := fun Γ p hΓ => wp_bare m b (h Γ p hΓ)
end Mine
end

section
namespace Mine
variable {sc : Scope} {mc : List Str}
open PySem PySem.Calls PyProof.Rows
section
variable {prog : Program} {w : World} {A : Around} {E : Value → Shared → Prop} {s : Shared}
variable {B : Around} {R : GenEnd} {Y : Protocol} {n : Nat} {s₀ : Shared} {c : Code} {fs : List Frame} {env : Env}
  {K : Flow → Sem PySem.Fin} {H : Value → Sem PySem.Fin} {gd : Bool → Bool} {lv : List Value → List Value}
theorem seg_If {t : Expr} {body orelse : List Stmt} {pos : Pos}
    (h : wpAny (model prog w) (B.over c fs) (isTrue t env (eval t env)) (fun b s' => if b = true then Seg (model prog w) B R Y n s₀ c ((execs body env).wrap K H gd lv) fs s' else Seg (model prog w) B R Y n s₀ c ((execs orelse env).wrap K H gd lv) fs s') No s) :
    Seg (model prog w) B R Y n s₀ c ((exec (.If t body orelse pos) env).wrap K H gd lv) fs s := by
  rw [exec_If, Sem.bind_eq_wrap', Sem.wrap_wrap]
  refine seg_wrap (wpAny_standAt ?_)
  rw [Sem.bind_eq_wrap', Sem.wrap_wrap]
  refine seg_wrap (wpAny_mono h (fun b s' hb => ?_) fun _ _ e => False.elim e)
  cases b with
  | true => simp only [if_true] at hb ⊢; exact hb
  | false => simp only [Bool.false_eq_true, if_false] at hb ⊢; exact hb
end
section
variable {G : Gl} {A : Around} {S S' : Fz} {s s' : Shared} {d : D} {ds : List D}
noncomputable def grownAt (G : Gl) (h : Heap) (a : Addr) : Prop := ∃ t ∈ G.tabs, ∃ ps, h.get? t.P = some (tabObj ps) ∧ ps = t.ps₀ ++ #[rawInt t.line, rawInt t.col, .ref a] ∧ ∃ o, h.get? a = some o ∧ t.good o
open Classical in
noncomputable def Smin (G : Gl) (s : Shared) : Fz := fun a => match G.base a with
  | some o => some o
  | none => if grownAt G s.heap a then s.heap.get? a else none
theorem Smin.base (G : Gl) (s : Shared) : Sub G.base (Smin G s) := fun a o e => by unfold Smin; rw [e]
set_option tactic.hygienic true in
theorem Inv.smin (I : Inv G S s) : Inv G (Smin G s) s ∧ Sub (Smin G s) S := by
  have sub : Sub (Smin G s) S := fun a o e => by
    unfold Smin at e
    cases q : G.base a with
    | some o' => rw [q] at e; obtain rfl := Option.some.inj e; exact I.base _ _ q
    | none =>
      rw [q] at e
      simp only at e
      split at e
      · rename_i hg
        obtain ⟨t, ht, ps, hp, hps, o', ho', hgood⟩ := hg
        obtain ⟨ps', hp', x⟩ := I.tab t ht
        rw [hp] at hp'
        cases hp'
        rcases x with x | ⟨c', o'', x, hS, _⟩
        · have := congrArg Array.size (hps.symm.trans x)
          simp at this
        · have h1 : t.ps₀ ++ #[rawInt t.line, rawInt t.col, Value.ref a] = t.ps₀ ++ #[rawInt t.line, rawInt t.col, Value.ref c'] := hps.symm.trans x
          have h2 := congrArg Array.toList h1
          simp at h2
          subst h2
          have := I.sub _ _ hS
          rw [e] at this; obtain rfl := Option.some.inj this
          exact hS
      · exact nomatch e
  refine ⟨⟨fun a o e => I.sub _ _ (sub _ _ e), Smin.base G s, fun t ht => ?_, fun t ht => ?_, I.bare, I.os⟩, sub⟩
  · obtain ⟨ps, hp, x⟩ := I.tab t ht
    refine ⟨ps, hp, x.imp id ?_⟩
    rintro ⟨c', o, e, hS, hg⟩
    refine ⟨c', o, e, ?_, hg⟩
    unfold Smin
    cases q : G.base c' with
    | some o' => rw [I.base _ _ q] at hS; exact hS
    | none =>
      simp only
      rw [if_pos ⟨t, ht, ps, hp, e, o, I.sub _ _ hS, hg⟩]
      exact I.sub _ _ hS
  · cases q : Smin G s t.P with
    | none => rfl
    | some o => have := sub _ _ q; rw [I.tabS t ht] at this; exact nomatch this
structure NxF (G : Gl) (F : List Addr) (g : Nat) (S : Fz) (s : Shared) (S' : Fz) (s' : Shared) : Prop where
  inv : Inv G S' s'
  sub : Sub S S'
  new : ∀ a o, S' a = some o → S a = some o ∨ s.heap.get? a = none
  keep : ∀ b o, b ∉ F → NoTab G b → s.heap.get? b = some o → s'.heap.get? b = some o
  gens : ∀ h (x : GenState), h ≠ g → s.gens[h]? = some x → s'.gens[h]? = some x
  off : ∀ b ∈ F, S' b = none ∧ NoTab G b ∧ ∃ o, s'.heap.get? b = some o
  lt : g < s.gens.size → g < s'.gens.size
theorem WalksT.draw {elts : List Expr} {kk : Nat} {tp : Pos} {I : Addr} {fp wr : List Addr} {n : Nat} {Pt : Nat → Array Value → Prop} {St : Nat → Heap → Prop} {Mid : Nat → Addr → Heap → Prop} (W : WalksT G.prog G.w A I fp wr n Pt St Mid)
    (I' : Inv G S s) {i : Nat} (hst : St i s.heap) (hw : ∀ b ∈ wr, S b = none ∧ NoTab G b) (hi : i < n) (hP : ∀ vals, Pt i vals → Alls G S vals.toList ds) :
    wpAny G.M A (pyNext (.ref I)) (fun r s₁ => ∃ v, r = some v ∧ wpAny G.M A (letOwnedTupleGo (.Tuple elts kk tp) (.ref I) v) (fun _ s₂ => ∃ S₂, Nx G ⟨wr, []⟩ S s S₂ s₂ ⟨wr, []⟩ ∧ Is G S₂ v (.tuple ds) ∧ St (i + 1) s₂.heap ∧ s₂.gens = s.gens ∧ ∀ b ∈ wr, S₂ b = none) No s₁) No s := by
  refine W.item i s _ _ hi hst fun T vals h' tk hPv hsz hT hmid hkeep => ⟨_, rfl, ?_⟩
  refine W.go elts kk tp i T _ _ _ hmid fun h'' hst₁ hkeep₂ => ?_
  have kk2 : ∀ b o, b ∉ wr → s.heap.get? b = some o → h''.get? b = some o := fun b o hb e => hkeep₂ b o hb (hkeep b o hb e)
  have I₁ := I'.but (h' := h'') (t := tk) (wr := wr) hw kk2
  obtain ⟨o, ho, hc, nn, hd⟩ := hT
  have hTw := W.apart _ _ _ hmid
  have ho'' : h''.get? T = some o := hkeep₂ _ _ hTw ho
  have hTn : s.heap.get? T = none := by
    cases q : s.heap.get? T with
    | none => rfl
    | some o' => exact absurd (Heap.lt_size q) (Nat.not_lt.mpr hsz)
  have hTS : S T = none := by
    cases q : S T with
    | none => rfl
    | some o' => have := I'.sub _ _ q; rw [hTn] at this; exact nomatch this
  have hcn : o.cls ≠ .none := by rw [hc]; exact fun e => nomatch e
  have I₂ := I₁.freeze ho'' hcn hTS
  have hs2 : Sub S (S.put T o) := Fz.sub_put hTS
  refine ⟨S.put T o, ⟨I₂, hs2, fun a o' e => ?_, fun b o hb _ e => kk2 b o hb e, fun _ _ _ e => e, fun a ha => .inl ha, fun g hg => nomatch hg⟩, .tuple (Fz.put_self ..) hc (by rw [hd]) ((hP _ hPv).mono hs2), hst₁, rfl, fun b hb => ?_⟩
  · by_cases q : a = T
    · subst q; exact .inr hTn
    · rw [Fz.put_ne _ _ q] at e; exact .inl e
  · rw [Fz.put_ne S o (a := T) (b := b) fun q => hTw (by rw [← q]; exact hb)]
    exact (hw b hb).1
end
end Mine
end

section
namespace Mine
variable {sc : Scope} {mc : List Str}
open PySem PySem.Calls PyProof.Rows
noncomputable def Fz.join (S T : Fz) : Fz := fun a => match S a with
  | some o => some o
  | none => T a
theorem Fz.join_left (S T : Fz) : Sub S (S.join T) := fun a o e => by unfold Fz.join; rw [e]
theorem Fz.join_or {S T : Fz} {a : Addr} {o : Obj} (h : S.join T a = some o) : S a = some o ∨ (S a = none ∧ T a = some o) := by
  unfold Fz.join at h
  cases q : S a with
  | some o' => rw [q] at h; exact .inl h
  | none => rw [q] at h; exact .inr ⟨rfl, h⟩
section
variable {G : Gl} {A : Around} {S S' S₁ : Fz} {s s' s₀ s₁ : Shared} {d : D} {ds : List D} {F : List Addr} {g : Nat} {X : List D} {mg mb : Str → Option Value}
theorem setGen_get {s : Shared} {g h : Nat} {x : GenState} (e : h ≠ g) : (s.setGen g x).gens[h]? = s.gens[h]? := by
  unfold Shared.setGen
  simp only
  rw [Array.getElem?_setIfInBounds_ne (Ne.symm e)]
theorem setGen_at {s : Shared} {g : Nat} {x : GenState} (h : g < s.gens.size) : (s.setGen g x).gens[g]? = some x := by
  unfold Shared.setGen
  simp only
  rw [Array.getElem?_setIfInBounds_self_of_lt h]
theorem Inv.setGen (I : Inv G S s) {x : GenState} (hx : x.bare = true) : Inv G S (s.setGen g x) := ⟨I.sub, I.base, I.tab, I.tabS, bare_set I.bare hx, I.os⟩
theorem Inv.setGen' (I : Inv G S s) {x : GenState} (b : AllBare (s.setGen g x).gens) : Inv G S (s.setGen g x) := ⟨I.sub, I.base, I.tab, I.tabS, b, I.os⟩
theorem NxF.join (I : Inv G S s₀) (n : NxF G F g (Smin G s₀) s₀ S₁ s₁) (hF : ∀ b ∈ F, S b = none) :
    Inv G (S.join S₁) s₁ ∧ Sub S₁ (S.join S₁) ∧ (∀ a o, S.join S₁ a = some o → S a = some o ∨ s₀.heap.get? a = none) ∧ ∀ b ∈ F, S.join S₁ b = none := by
  have keep : ∀ a o, S a = some o → s₁.heap.get? a = some o := fun a o e => n.keep a o (fun hm => by rw [hF a hm] at e; exact nomatch e) (I.noTabS e) (I.sub _ _ e)
  have sub : Sub S₁ (S.join S₁) := fun a o e => by
    unfold Fz.join
    cases q : S a with
    | none => exact e
    | some o' =>
      have h1 := keep _ _ q
      rw [n.inv.sub _ _ e] at h1
      obtain rfl := Option.some.inj h1
      rfl
  have off : ∀ b ∈ F, S.join S₁ b = none := fun b hb => by
    unfold Fz.join
    rw [hF b hb]
    exact (n.off b hb).1
  refine ⟨⟨fun a o e => ?_, I.base.trans (Fz.join_left _ _), n.inv.tab.keeps sub fun _ _ e _ => e, fun t ht => ?_, n.inv.bare, n.inv.os⟩, sub, fun a o e => ?_, off⟩
  · rcases Fz.join_or e with h | ⟨_, h⟩
    · exact keep _ _ h
    · exact n.inv.sub _ _ h
  · unfold Fz.join
    rw [I.tabS t ht]
    exact n.inv.tabS t ht
  · rcases Fz.join_or e with h | ⟨_, h⟩
    · exact .inl h
    · exact (n.new a o h).imp (I.smin.2 a o) id
noncomputable def Yp (G : Gl) (F : List Addr) (g : Nat) (X : List D) : Protocol := fun m s₀ v s₁ kap => ∃ S₁, NxF G F g (Smin G s₀) s₀ S₁ s₁ ∧ (∃ d, X[X.length - 1 - m]? = some d ∧ Is G S₁ v d) ∧
  ∀ s₂ S₂, Inv G S₂ s₂ → (∀ b ∈ F, ∀ o, s₁.heap.get? b = some o → s₂.heap.get? b = some o) → (∀ b ∈ F, S₂ b = none) → kap (.send .none) s₂
noncomputable def Pp (G : Gl) (F : List Addr) (g : Nat) : Nat → Shared → Shared → Prop := fun n s₀ s₁ => n = 0 ∧ ∃ S₁, NxF G F g (Smin G s₀) s₀ S₁ s₁
noncomputable abbrev Rp (G : Gl) (F : List Addr) (g : Nat) : GenEnd := fun n s₀ r s₁ => r = .ok (.ret .none) ∧ Pp G F g n s₀ s₁
theorem gen_next {n : Nat} {k : Nat} {tgt : Expr} {a : Addr} (hA : Room k A) (N : Names G mg mb) (I : Inv G S s) {oa : Obj} {nm qn : Value} (ha : S a = some oa) (hc : oa.cls = .type "generator") (hda : oa.data = .fields #[.int g 0, nm, qn]) (hsl : oa.slots = #[]) {gs : GenState} (hgs : s.gens[g]? = some gs)
    (hgo : gs.Goes G.M A.in1 (Rp G F g) (Yp G F g X) n (.send .none) (s.setGen g .running)) {Q : Option Value → Shared → Prop}
    (hY : ∀ v s₁ gs', AllBare (s₁.setGen g gs').gens → Yp G F g X (n - 1) (s.setGen g .running) v s₁ (fun r' s'' => match n with
        | 0 => False
        | m + 1 => gs'.Goes G.M A.in1 (Rp G F g) (Yp G F g X) m r' s'') → wpAny G.M A (letOwnedTupleGo tgt (.ref a) v) (fun _ s₂ => Q (some v) s₂) No (s₁.setGen g gs'))
    (hP : ∀ s₁, Pp G F g n (s.setGen g .running) s₁ → ∀ h', (∀ b o, s₁.heap.get? b = some o → h'.get? b = some o) → Q none { s₁.setGen g .finished with heap := h' }) : Drawn G A tgt (.ref a) Q s := by
  have hg : s.heap.IsGen a g := ⟨oa, nm, qn, I.sub _ _ ha, hc, hda, hsl⟩
  have hlim : s.heap.NoLimit := by obtain ⟨o, m, ho, hn, hm⟩ := N.lim; exact ⟨m, hn.ns (I.sub _ _ (I.base _ _ ho)), hm⟩
  unfold Drawn
  refine wpAny_mono (wpAny_bare I.bare (wpAny_pyNext_gen (P := Pp G F g) (Y := Yp G F g X) (n := n)
    (Q := fun r s₁ => match r with | none => Q none s₁ | some v => AllBare s₁.gens → wpAny G.M A (letOwnedTupleGo tgt (.ref a) v) (fun _ s₂ => Q (some v) s₂) No s₁)
    hA.handled hlim hA.lt hg hgs hgo (fun v s₁ gs' hy b => hY v s₁ gs' b hy) hP)) (fun r s₁ ⟨h, b⟩ => ?_) fun _ _ e => e
  cases r with
  | none => exact h
  | some v => exact h b
theorem gen_yields {k : Nat} {tgt : Expr} {a : Addr} (hA : Room k A) (N : Names G mg mb) {oa : Obj} {nm qn : Value} (hc : oa.cls = .type "generator") (hda : oa.data = .fields #[.int g 0, nm, qn]) (hsl : oa.slots = #[]) : ∀ n, n ≤ X.length → ∀ S s gs, Inv G S s → S a = some oa →
    (∀ b ∈ F, S b = none ∧ NoTab G b ∧ ∃ o, s.heap.get? b = some o) → s.gens[g]? = some gs →
    (∀ s₂ S₂, Inv G S₂ s₂ → (∀ b ∈ F, ∀ o, s.heap.get? b = some o → s₂.heap.get? b = some o) → (∀ b ∈ F, S₂ b = none) → gs.Goes G.M A.in1 (Rp G F g) (Yp G F g X) n (.send .none) s₂) →
    Yields G A tgt (.ref a) (X.drop (X.length - n)) ⟨F, [g]⟩ S s := by
  intro n
  induction n with
  | zero =>
    intro hn S s gs I ha hF hgs hgo
    rw [Nat.sub_zero, List.drop_length]
    have hlt : g < s.gens.size := by
      rw [Array.getElem?_eq_some_iff] at hgs; exact hgs.1
    refine ⟨⟨hF, fun h hh => by rw [List.mem_singleton.mp hh]; exact hlt⟩, fun S' s' af => ?_⟩
    have hgs' := af.same.gen g (.head _) _ hgs
    refine gen_next (n := 0) hA N af.inv (af.sub _ _ ha) hc hda hsl hgs' (hgo _ S' (af.inv.setGen rfl) (fun b hb o e => af.same.adr b hb o e) af.off) (fun v s₁ gs' b hy => ?_) fun s₁ hp h' hk => ?_
    · (refine cps fun ZP zk => ?_; obtain ⟨S₁, nx, _, hkap⟩ := hy; refine zk ?_)
      exact (hkap s₁ S₁ nx.inv (fun _ _ _ e => e) fun b hb => (nx.off b hb).1).elim
    · obtain ⟨_, S₁, nx⟩ := hp
      obtain ⟨j1, j2, j3, j4⟩ := nx.join (af.inv.setGen rfl) af.off
      refine ⟨rfl, S'.join S₁, ⟨F, [g]⟩, ?_⟩
      have I2 : Inv G (S'.join S₁) (s₁.setGen g .finished) := j1.setGen rfl
      refine ⟨(I2.keeps (t := s₁.toks) hk).inv, Fz.join_left _ _, j3, fun b o hb nt e => hk _ _ (nx.keep b o hb nt e), fun h x hh e => ?_, fun b hb => .inl hb, fun h hh => .inl hh⟩
      have hne : h ≠ g := fun q => hh (q ▸ .head _)
      show (s₁.setGen g .finished).gens[h]? = some x
      rw [setGen_get hne]
      exact nx.gens h x hne (by rw [setGen_get hne]; exact e)
  | succ n ih =>
    intro hn S s gs I ha hF hgs hgo
    have hi : X.length - (n + 1) < X.length := by omega
    rw [List.drop_eq_getElem_cons hi, show X.length - (n + 1) + 1 = X.length - n by lia]
    have hlt : g < s.gens.size := by
      rw [Array.getElem?_eq_some_iff] at hgs; exact hgs.1
    refine ⟨⟨hF, fun h hh => by rw [List.mem_singleton.mp hh]; exact hlt⟩, fun S' s' af => ?_⟩
    have hgs' := af.same.gen g (.head _) _ hgs
    have hlt' : g < s'.gens.size := by
      have := hgs'
      rw [Array.getElem?_eq_some_iff] at this; exact this.1
    refine gen_next (n := n + 1) hA N af.inv (af.sub _ _ ha) hc hda hsl hgs' (hgo _ S' (af.inv.setGen rfl) (fun b hb o e => af.same.adr b hb o e) af.off) (fun v s₁ gs' b hy => ?_) fun s₁ hp h' hk => ?_
    · (refine cps fun ZP zk => ?_; obtain ⟨S₁, nx, ⟨d, hd, hi'⟩, hkap⟩ := hy; refine zk ?_)
      (refine cps fun ZP zk => ?_; obtain ⟨j1, j2, j3, j4⟩ := nx.join (af.inv.setGen rfl) af.off; refine zk ?_)
      have I2 : Inv G (S'.join S₁) (s₁.setGen g gs') := j1.setGen' b
      have hdx : X[X.length - (n + 1)] = d := by
        have : X.length - 1 - (n + 1 - 1) = X.length - (n + 1) := by lia
        rw [this, List.getElem?_eq_getElem hi] at hd
        exact Option.some.inj hd
      have ha' : S'.join S₁ a = some oa := Fz.join_left _ _ _ _ (af.sub _ _ ha)
      have hgo' : (s₁.setGen g gs').heap.get? a = some oa := I2.sub _ _ ha'
      refine quietGo (n := "generator") hgo' hc (by decide) ⟨v, S'.join S₁, ⟨F, [g]⟩, rfl, ?_, by rw [hdx]; exact hi'.mono j2, ?_⟩
      · refine ⟨I2, Fz.join_left _ _, j3, fun b o hb nt e => nx.keep b o hb nt e, fun h x hh e => ?_, fun b hb => .inl hb, fun h hh => .inl hh⟩
        have hne : h ≠ g := fun q => hh (q ▸ .head _)
        rw [setGen_get hne]
        exact nx.gens h x hne (by rw [setGen_get hne]; exact e)
      · have hsz : g < s₁.gens.size := by
          refine nx.lt ?_
          unfold Shared.setGen
          simpa using hlt'
        refine ih (by lia) _ _ gs' I2 ha' (fun b hb => ⟨j4 b hb, (nx.off b hb).2.1, (nx.off b hb).2.2⟩) (setGen_at hsz) fun s₂ S₂ I₂ hs₂ hf₂ => ?_
        exact hkap s₂ S₂ I₂ (fun b hb o e => hs₂ b hb o e) hf₂
    · obtain ⟨h0, _⟩ := hp
      exact absurd h0 (Nat.succ_ne_zero n)
end
end Mine
end

section
namespace Mine
variable {sc : Scope} {mc : List Str}
open PySem PySem.Calls PyProof.Rows
noncomputable def Atoms : LEnv → Prop
  | [] => True
  | (_, l) :: r => (∃ d, l = .val d ∧ d.atom = true) ∧ Atoms r
theorem Atoms.at : ∀ {ρ : LEnv}, Atoms ρ → ∀ x l, ρ.lookup x = some l → ∃ d, l = .val d ∧ d.atom = true
  | [], _, x, l, h => nomatch h
  | (y, l') :: r, ⟨h1, h2⟩, x, l, h => by
    by_cases q : x = y
    · subst q
      simp only [List.lookup, BEq.rfl] at h
      obtain rfl := Option.some.inj h
      exact h1
    · rw [lookup_cons_ne q] at h
      exact h2.at x l h
theorem seg_Yield {M : Model} {A : Around} {R : GenEnd} {Y : Protocol} {n : Nat} {s₀ : Shared} {c : Code} {fs : List Frame} {s : Shared} {env : Env}
  {K : Flow → Sem PySem.Fin} {H : Value → Sem PySem.Fin} {gd : Bool → Bool} {lv : List Value → List Value} {e : Expr} {ypos pos : Pos} (hfs : splitAtGen fs = none) (hgd : gd false = false) (hfg : fs.any Frame.guarded = false)
    (h : wpAny M (A.over c fs) (eval e env) (fun v s' => ∀ kap : Resume → Shared → Prop,
        (∀ s'', Seg M A R Y n s'' c (K .next) fs s'' → kap (.send .none) s'') → Y n s₀ v s' kap) No s) (hco : env.scope.isCoroutine = false) (hi : interactive env = false) :
    Seg M A R Y (n + 1) s₀ c ((exec (.Expr (.Yield (some e) ypos) pos) env).wrap K H gd lv) fs s :=
  seg_Expr_Yield hfs hgd hfg (wpAny_mono h (fun v s' h kap hk => h kap fun s'' hs => hk .none s'' hs) fun _ _ e => False.elim e) hco hi
section
variable {G : Gl} {A : Around} {act : Act sc mc} {kp : Kept} {adr : Str → Addr} {ρ : LEnv} {S S' S₁ S₂ : Fz} {s s' s₀ s₁ s₂ : Shared} {d : D} {ds : List D} {F : List Addr} {g : Nat}
noncomputable abbrev OffF (G : Gl) (F : List Addr) (S : Fz) (s : Shared) : Prop := ∀ b ∈ F, S b = none ∧ NoTab G b ∧ ∃ o, s.heap.get? b = some o
theorem OffF.step (h : OffF G F S s) (st : Stp G S s S' s') : OffF G F S' s' := fun b hb => by
  obtain ⟨h1, h2, o, ho⟩ := h b hb
  refine ⟨?_, h2, o, st.keep _ _ h2 ho⟩
  cases q : S' b with
  | none => rfl
  | some o' =>
    rcases st.new _ _ q with e | e
    · rw [h1] at e; exact nomatch e
    · rw [ho] at e; exact nomatch e
theorem Ev.use {e : Expr} {A : Around} (h : Ev G A act ρ e d) (O : OK G act kp adr ρ S s) : wpAny G.M A (eval e act.env) (Post G S s fun S' v => Is G S' v d) No s := h _ _ _ _ O
set_option tactic.hygienic true in
theorem OK.resume (O : OK G act kp adr ρ S₁ s₁) (hmt : ∀ b ∈ act.mt, b ∈ F) (hcells : act.env.cells = []) (hmc : mc = []) (I : Inv G S₂ s₂) (same : ∀ b ∈ F, ∀ o, s₁.heap.get? b = some o → s₂.heap.get? b = some o)
    (off : ∀ b ∈ F, S₂ b = none) (nt : ∀ b ∈ F, NoTab G b) (hat : Atoms ρ) : OK G act (kpBut G s₂ F) adr ρ (Smin G s₂) s₂ where
  inv := I.smin.1
  kept := fun a o e => by
    unfold kpBut at e; simp only at e
    split at e
    · exact e
    · exact nomatch e
  knt := fun a o e => by
    unfold kpBut at e; simp only at e
    split at e
    · rename_i h; exact h.1
    · exact nomatch e
  kgens := fun g x e => e
  fn := O.fn
  glob := O.glob
  blt := O.blt
  ns := let ⟨m, h⟩ := O.ns; ⟨m, h.at' fun o e => same _ (hmt _ O.mtL) o e⟩
  mtL := O.mtL
  mt := fun b hb => by
    have hF := hmt b hb
    (refine cps fun ZP zk => ?_; obtain ⟨_, _, h3, o, ho⟩ := O.mt b hb; refine zk ?_)
    refine ⟨?_, ?_, h3, o, same b hF o ho⟩
    · cases q : Smin G s₂ b with
      | none => rfl
      | some o' => have := I.smin.2 _ _ q; rw [off b hF] at this; exact nomatch this
    · unfold kpBut; simp only
      rw [if_neg fun h => h.2 hF]
  mtc := fun x hx => by rw [hmc] at hx; exact nomatch hx
  apart := O.apart
  clo := O.clo
  cells := fun p hp => by rw [hcells] at hp; exact nomatch hp
  vars := fun x l e => by
    have q := O.vars x l e
    obtain ⟨d, rfl, ha⟩ := hat.at x l e
    obtain ⟨v, r, i⟩ := q
    exact ⟨v, r.of (fun o e => same _ (hmt _ O.mtL) o e) (fun c hc => by rw [hcells] at hc; cases hc), i.atom ha⟩
  inj := fun x y dx dy ex _ => by obtain ⟨d, h, _⟩ := hat.at x _ ex; exact nomatch h
theorem OK.nxF (O : OK G act (kpBut G s₀ F) adr ρ S s) (g : Nat) (gr : Gro (kpBut G s₀ F) (Smin G s₀) S) (off : ∀ b ∈ F, S b = none ∧ NoTab G b ∧ ∃ o, s.heap.get? b = some o) : NxF G F g (Smin G s₀) s₀ S s where
  inv := O.inv
  sub := gr.sub
  new := fun a o e => by
    rcases gr.new a o e with h | h
    · exact .inl h
    · unfold kpBut at h
      simp only at h
      rw [if_pos ⟨O.inv.noTabS e, fun hm => by rw [(off a hm).1] at e; exact nomatch e⟩] at h
      exact .inr h
  keep := fun b o hb nt e => O.kept b o (by
    unfold kpBut; simp only
    rw [if_pos ⟨nt, hb⟩]; exact e)
  gens := fun h x _ e => O.kgens h x e
  off := off
  lt := fun h => by
    have := O.kgens g (s₀.gens[g]) (Array.getElem?_eq_getElem h)
    rw [Array.getElem?_eq_some_iff] at this; exact this.1
theorem OffF.resume (h : OffF G F S₁ s₁) (I : Inv G S₂ s₂) (same : ∀ b ∈ F, ∀ o, s₁.heap.get? b = some o → s₂.heap.get? b = some o) (off : ∀ b ∈ F, S₂ b = none) : OffF G F (Smin G s₂) s₂ := fun b hb => by
  obtain ⟨_, h2, o, ho⟩ := h b hb
  refine ⟨?_, h2, o, same b hb o ho⟩
  cases q : Smin G s₂ b with
  | none => rfl
  | some o' => have := I.smin.2 _ _ q; rw [off b hb] at this; exact nomatch this
theorem over_loop (B : Around) (env : Env) (gb : List Stmt) (tgt : Expr) (it : Value) (body : List Stmt) (k : Result → Sem PySem.Fin) (l : List Value) (b : Bool) (p : Pos) :
    B.over (.forLoop tgt it body [] env) [.ret k none b l (.func gb env) p []] = B.over (.func gb env) [] := by
  unfold Around.over
  congr 1
theorem Room.over {n : Nat} {B : Around} (h : Room (n + 1) B) (gb : List Stmt) (env : Env) : Room n (B.over (.func gb env) []) := ⟨h.handled, by
    have := h.depth
    show B.depth + 0 + 1 + n ≤ 900
    lia, by
    have := h.units
    show B.units + 0 + 3 + 50 * n ≤ 9000
    lia⟩
end
end Mine
end

section
namespace Mine
open PySem PySem.Calls PyProof.Rows
section
variable {prog : Program} {w : World} {A : Around} {E : Value → Shared → Prop} {s : Shared}
theorem strIter_end {it : Addr} {x : Str} {t : Tok} {T : String} (hT : T = "str_ascii_iterator" ∨ T = "str_iterator") {Q : Value → Shared → Prop} (hh : A.handled = none) (hit : s.heap.IsStrIter it T x t x.cps.size)
    (hE : ∀ h' e, (∀ b o, b ≠ it → s.heap.get? b = some o → h'.get? b = some o) → (∃ o, h'.get? it = some o) → (∃ o, h'.get? e = some o ∧ o.cls = .type "StopIteration") → E (.ref e) { s with heap := h' }) :
    wpAny (model prog w) A (Builtin.SmallTypes.nextOf (.ref it)) Q E s := by
  obtain ⟨o, ho, hc, hd⟩ := id hit
  have hx : x.cps[x.cps.size]? = none := by simp
  have alive : ∃ o', (s.heap.update it (Obj.mapFields (·.setIfInBounds 0 .none))).get? it = some o' := ⟨_, Heap.get?_update_self _ ho (by obtain ⟨c, dd, dt, sl⟩ := o; simp only at hd; subst hd; rfl)⟩
  have other : ∀ b o', b ≠ it → s.heap.get? b = some o' → (s.heap.update it (Obj.mapFields (·.setIfInBounds 0 .none))).get? b = some o' := fun b o' hb e => (Heap.get?_update_other _ _ (Ne.symm hb)).trans e
  have fin : ∀ (M : Model) (Q' : PySem.Fin → Shared → Prop), M = model prog w → wpAny M A.in1 (newExc (.type "StopIteration") [] >>= raiseNew) Q' E { s with heap := s.heap.update it (Obj.mapFields (·.setIfInBounds 0 .none)) } := fun M Q' hM => by
    subst hM
    refine wpAny_bind ?_
    simp only [newExc, newTuple]
    refine wpAny_bind (wpAny_newObj_type ?_ (by size_fits))
    refine wpAny_bind (m := firstArgMember _ _) (wpAny_of_eq (a := Value.none) (by first | rfl | (simp only [firstArgMember]; rfl)) ?_)
    refine wpAny_newObj_type ?_ (by size_fits)
    simp only [raiseNew]
    refine wpAny_bind (wpAny_handled ?_)
    rw [show A.in1.handled = none from hh]
    refine wpAny_bind (wpAny_pure (wpAny_throw ?_))
    exact hE _ _ (fun b o' hb e => Heap.get?_push_of_some _ (Heap.get?_push_of_some _ (other b o' hb e))) (let ⟨o', h⟩ := alive; ⟨o', Heap.get?_push_of_some _ (Heap.get?_push_of_some _ h)⟩) ⟨_, Heap.get?_push_size _ rfl, rfl⟩
  have go : wpAny (model prog w) A.in1 (field (.ref it) 0) (fun v s' => v = .str x t ∧ s' = s) No s ∧ wpAny (model prog w) A.in1 (field (.ref it) 1) (fun v s' => v = .int x.cps.size 0 ∧ s' = s) No s :=
    ⟨wpAny_field ho hd rfl ⟨rfl, rfl⟩, wpAny_field ho hd rfl ⟨rfl, rfl⟩⟩
  unfold Builtin.SmallTypes.nextOf
  rcases hT with rfl | rfl
  · refine wpAny_bind (wpAny_callSpecial?_slot (name := Str.ofString "__next__") hit.typeIs F.slot_str_ascii_iterator_next
      (wpAny_call_entry F.slot_str_ascii_iterator_next hit.typeIs F.entry_str_ascii_iterator_next ?_ (F.args_str_ascii_iterator_next_1 _)))
    show wpAny _ _ (field (.ref it) 0 >>= _) _ _ _
    refine wpAny_bind (wpAny_mono go.1 (fun v s' ⟨e1, e2⟩ => ?_) fun _ _ e => False.elim e)
    rw [e1, e2]
    show wpAny _ _ (field (.ref it) 1 >>= _) _ _ _
    refine wpAny_bind (wpAny_mono go.2 (fun v s' ⟨e1, e2⟩ => ?_) fun _ _ e => False.elim e)
    rw [e1, e2]
    simp only [Int.toNat_natCast, hx]
    refine wpAny_bind (wpAny_rule (wpAny_bind (wpAny_setField ho hd (by simp) (wpAny_bind (wpAny_letGo ?_)))))
    exact fin _ _ rfl
  · refine wpAny_bind (wpAny_callSpecial?_slot (name := Str.ofString "__next__") hit.typeIs F.slot_str_iterator_next
      (wpAny_call_entry F.slot_str_iterator_next hit.typeIs F.entry_str_iterator_next ?_ (F.args_str_iterator_next_1 _)))
    show wpAny _ _ (field (.ref it) 0 >>= _) _ _ _
    refine wpAny_bind (wpAny_mono go.1 (fun v s' ⟨e1, e2⟩ => ?_) fun _ _ e => False.elim e)
    rw [e1, e2]
    show wpAny _ _ (field (.ref it) 1 >>= _) _ _ _
    refine wpAny_bind (wpAny_mono go.2 (fun v s' ⟨e1, e2⟩ => ?_) fun _ _ e => False.elim e)
    rw [e1, e2]
    simp only [Int.toNat_natCast, hx]
    refine wpAny_bind (wpAny_rule (wpAny_bind (wpAny_setField ho hd (by simp) (wpAny_bind (wpAny_letGo ?_)))))
    exact fin _ _ rfl
theorem strEnum_end {e it : Addr} {x : Str} {t : Tok} {T : String} (hT : T = "str_ascii_iterator" ∨ T = "str_iterator") {i : Int} {old : Value} {Q : Option Value → Shared → Prop} (hh : A.in1.handled = none)
    (he : IsEnum s.heap e it i old) (hit : s.heap.IsStrIter it T x t x.cps.size)
    (hQ : ∀ h', (∀ b o, b ≠ it → s.heap.get? b = some o → h'.get? b = some o) → (∃ o, h'.get? it = some o) → Q none { s with heap := h' }) : wpAny (model prog w) A (pyNext (.ref e)) Q E s := by
  have hE : s.TypeIs (.ref e) "enumerate" := ⟨_, he, rfl⟩
  unfold pyNext
  refine wpAny_bind (wpAny_attempt (wpAny_callSpecial?_slot (name := Str.ofString "__next__") hE F.slot_enumerate_next
    (wpAny_call_entry F.slot_enumerate_next hE F.entry_enumerate_next ?_ (F.args_enumerate_next_1 _))))
  show wpAny _ _ (field (.ref e) 2 >>= _) _ _ _
  refine wpAny_bind (wpAny_field he rfl (x := .ref it) rfl (wpAny_bind (strIter_end hT hh hit fun h' y hk ha ⟨o, ho, hc⟩ => wpAny_bind (wpAny_isInstance (T := "StopIteration") (b := true) ⟨o, ho, hc⟩ isSubtype_stop ?_))))
  exact wpAny_pure (hQ h' hk ha)
end
end Mine
end

section
namespace Mine
variable {sc : Scope} {mc : List Str}
open PySem PySem.Calls PyProof.Rows
section
variable {G : Gl} {A : Around} {S S' S₁ : Fz} {s s' s₀ s₁ : Shared} {d : D} {ds : List D} {F F₀ : List Addr} {g : Nat} {X : List D} {mg mb : Str → Option Value}
theorem gen_start {k : Nat} {tgt : Expr} {a : Addr} (hA : Room k A) (N : Names G mg mb) {oa : Obj} {nm qn : Value} (hc : oa.cls = .type "generator") (hda : oa.data = .fields #[.int g 0, nm, qn]) (hsl : oa.slots = #[]) {n : Nat} (hn : n ≤ X.length) {gs : GenState} (I : Inv G S s) (ha : S a = some oa)
    (hF₀ : ∀ b ∈ F₀, S b = none ∧ NoTab G b ∧ ∃ o, s.heap.get? b = some o) (hgs : s.gens[g]? = some gs)
    (hgo : ∀ s₂ S₂, Inv G S₂ s₂ → (∀ b ∈ F₀, ∀ o, s.heap.get? b = some o → s₂.heap.get? b = some o) → (∀ b ∈ F₀, S₂ b = none) → ∃ F, (∀ b ∈ F, b ∈ F₀ ∨ s₂.heap.get? b = none) ∧ (∀ b ∈ F₀, b ∈ F) ∧ gs.Goes G.M A.in1 (Rp G F g) (Yp G F g X) n (.send .none) s₂) :
    Yields G A tgt (.ref a) (X.drop (X.length - n)) ⟨F₀, [g]⟩ S s := by
  have hlt : g < s.gens.size := by
    rw [Array.getElem?_eq_some_iff] at hgs; exact hgs.1
  have good : Good G ⟨F₀, [g]⟩ S s := ⟨hF₀, fun h hh => by rw [List.mem_singleton.mp hh]; exact hlt⟩
  have off : ∀ {S' s'}, Inv G S' s' → (∀ b ∈ F₀, S' b = none) → ∀ {F : List Addr}, (∀ b ∈ F, b ∈ F₀ ∨ s'.heap.get? b = none) → ∀ b ∈ F, S' b = none := fun {S' s'} I h {F} hF b hb => by
    rcases hF b hb with q | q
    · exact h b q
    · cases z : S' b with
      | none => rfl
      | some o => have := I.sub _ _ z; rw [q] at this; exact nomatch this
  cases n with
  | zero =>
    rw [Nat.sub_zero, List.drop_length]
    refine ⟨good, fun S' s' af => ?_⟩
    have hgs' := af.same.gen g (.head _) _ hgs
    obtain ⟨F, hF1, hF2, hgo⟩ := hgo (s'.setGen g .running) S' (af.inv.setGen rfl) (fun b hb o e => af.same.adr b hb o e) af.off
    have hoff := off af.inv af.off hF1
    refine gen_next (n := 0) hA N af.inv (af.sub _ _ ha) hc hda hsl hgs' hgo (fun v s₁ gs' b hy => ?_) fun s₁ hp h' hk => ?_
    · (refine cps fun ZP zk => ?_; obtain ⟨S₁, nx, _, hkap⟩ := hy; refine zk ?_)
      exact (hkap s₁ S₁ nx.inv (fun _ _ _ e => e) fun b hb => (nx.off b hb).1).elim
    · obtain ⟨_, S₁, nx⟩ := hp
      obtain ⟨j1, j2, j3, j4⟩ := nx.join (af.inv.setGen rfl) hoff
      refine ⟨rfl, S'.join S₁, ⟨F, [g]⟩, ?_⟩
      have I2 : Inv G (S'.join S₁) (s₁.setGen g .finished) := j1.setGen rfl
      refine ⟨(I2.keeps (t := s₁.toks) hk).inv, Fz.join_left _ _, j3, fun b o hb nt e => hk _ _ (nx.keep b o (fun q => ?_) nt e), fun h x hh e => ?_, fun b hb => hF1 b hb, fun h hh => .inl hh⟩
      · rcases hF1 b q with z | z
        · exact hb z
        · rw [show s'.heap.get? b = none from z] at e; exact nomatch e
      · have hne : h ≠ g := fun q => hh (q ▸ .head _)
        show (s₁.setGen g .finished).gens[h]? = some x
        rw [setGen_get hne]
        exact nx.gens h x hne (by rw [setGen_get hne]; exact e)
  | succ n =>
    have hi : X.length - (n + 1) < X.length := by omega
    rw [List.drop_eq_getElem_cons hi, show X.length - (n + 1) + 1 = X.length - n by lia]
    refine ⟨good, fun S' s' af => ?_⟩
    have hgs' := af.same.gen g (.head _) _ hgs
    have hlt' : g < s'.gens.size := by
      have := hgs'
      rw [Array.getElem?_eq_some_iff] at this; exact this.1
    (refine cps fun ZP zk => ?_; obtain ⟨F, hF1, hF2, hgo⟩ := hgo (s'.setGen g .running) S' (af.inv.setGen rfl) (fun b hb o e => af.same.adr b hb o e) af.off; refine zk ?_)
    have hoff := off af.inv af.off hF1
    refine gen_next (n := n + 1) hA N af.inv (af.sub _ _ ha) hc hda hsl hgs' hgo (fun v s₁ gs' b hy => ?_) fun s₁ hp h' hk => ?_
    · (refine cps fun ZP zk => ?_; obtain ⟨S₁, nx, ⟨d, hd, hi'⟩, hkap⟩ := hy; refine zk ?_)
      (refine cps fun ZP zk => ?_; obtain ⟨j1, j2, j3, j4⟩ := nx.join (af.inv.setGen rfl) hoff; refine zk ?_)
      have I2 : Inv G (S'.join S₁) (s₁.setGen g gs') := j1.setGen' b
      have hdx : X[X.length - (n + 1)] = d := by
        have : X.length - 1 - (n + 1 - 1) = X.length - (n + 1) := by lia
        rw [this, List.getElem?_eq_getElem hi] at hd
        exact Option.some.inj hd
      have ha' : S'.join S₁ a = some oa := Fz.join_left _ _ _ _ (af.sub _ _ ha)
      have hgo' : (s₁.setGen g gs').heap.get? a = some oa := I2.sub _ _ ha'
      refine quietGo (n := "generator") hgo' hc (by decide) ⟨v, S'.join S₁, ⟨F, [g]⟩, rfl, ?_, by rw [hdx]; exact hi'.mono j2, ?_⟩
      · refine ⟨I2, Fz.join_left _ _, j3, fun b o hb nt e => nx.keep b o (fun q => ?_) nt e, fun h x hh e => ?_, fun b hb => hF1 b hb, fun h hh => .inl hh⟩
        · rcases hF1 b q with z | z
          · exact hb z
          · rw [show s'.heap.get? b = none from z] at e; exact nomatch e
        · have hne : h ≠ g := fun q => hh (q ▸ .head _)
          rw [setGen_get hne]
          exact nx.gens h x hne (by rw [setGen_get hne]; exact e)
      · have hsz : g < s₁.gens.size := by
          refine nx.lt ?_
          unfold Shared.setGen
          simpa using hlt'
        refine gen_yields hA N hc hda hsl n (by lia) _ _ gs' I2 ha' (fun b hb => ⟨j4 b hb, (nx.off b hb).2.1, (nx.off b hb).2.2⟩) (setGen_at hsz) fun s₂ S₂ I₂ hs₂ hf₂ => ?_
        exact hkap s₂ S₂ I₂ (fun b hb o e => hs₂ b hb o e) hf₂
    · obtain ⟨h0, _⟩ := hp
      exact absurd h0 (Nat.succ_ne_zero n)
end
end Mine
end

section
namespace Mine
variable {sc : Scope} {mc : List Str}
open PySem PySem.Calls PyProof.Rows
section
variable {G : Gl} {A : Around} {act : Act sc mc} {ρ : LEnv} {d : D}
theorem EvO.lc {α : Type} {scope : Scope} {elt tgt iter : Expr} {ifs : List Expr} {pos : Pos} (as : List α) (φ : α → D) (ρ' : α → LEnv) (p : α → Bool) (f : α → D)
    (hsrc : Src G A act ρ tgt iter (as.map φ)) (hlen : as.length ≤ sizeLine)
    (turn : ∀ (act' : Act (relS scope sc) (cellNames scope.names)) a, a ∈ as → Takes G A act' tgt (φ a) (ρ.inner scope) (ρ' a) ∧ (∀ y l, (ρ.inner scope).lookup y = some l → (ρ' a).lookup y = some l) ∧
      Tests G A act' (ρ' a) ifs (p a) ∧ (p a = true → Ev G A act' (ρ' a) elt (f a)))
    (hd : d = .list ((as.filter p).map f)) (hfit : compFit scope sc = true := by decide) (hs : ∀ x, foldedSetIterable iter act.env x = pure x := by intro _; rfl)
    (hev : eval (.ListComp elt [⟨tgt, iter, ifs, 0⟩] scope pos) act.env = comprehension (.ListComp elt [⟨tgt, iter, ifs, 0⟩] scope pos) scope act.env iter.pos (newList []) false (eval iter act.env) none := by rfl) :
    EvO G A act ρ (.ListComp elt [⟨tgt, iter, ifs, 0⟩] scope pos) d := by
  rw [hd]
  exact CompRuns.evO (CompRuns.list as φ ρ' p f hsrc hlen turn hfit hs) hev
theorem EvO.dc {α : Type} {scope : Scope} {kx vx tgt iter : Expr} {ifs : List Expr} {pos : Pos} (as : List α) (φ : α → D) (ρ' : α → LEnv) (p : α → Bool) (kf : α → Ky) (f : α → D)
    (hsrc : Src G A act ρ tgt iter (as.map φ)) (hlen : as.length ≤ sizeLine)
    (turn : ∀ (act' : Act (relS scope sc) (cellNames scope.names)) a, a ∈ as → Takes G A act' tgt (φ a) (ρ.inner scope) (ρ' a) ∧ (∀ y l, (ρ.inner scope).lookup y = some l → (ρ' a).lookup y = some l) ∧
      Tests G A act' (ρ' a) ifs (p a) ∧ (p a = true → Ev G A act' (ρ' a) kx (kf a).d ∧ Ev G A act' (ρ' a) vx (f a)))
    (hd : d = .dict (dmk ((as.filter p).map fun a => (kf a, f a))).1 (dmk ((as.filter p).map fun a => (kf a, f a))).2) (hfit : compFit scope sc = true := by decide) (hs : ∀ x, foldedSetIterable iter act.env x = pure x := by intro _; rfl)
    (hev : eval (.DictComp kx vx [⟨tgt, iter, ifs, 0⟩] scope pos) act.env = comprehension (.DictComp kx vx [⟨tgt, iter, ifs, 0⟩] scope pos) scope act.env iter.pos newDict false (eval iter act.env) none := by rfl) :
    EvO G A act ρ (.DictComp kx vx [⟨tgt, iter, ifs, 0⟩] scope pos) d := by
  rw [hd]
  exact CompRuns.evO (CompRuns.dict as φ ρ' p kf f hsrc hlen turn hfit hs) hev
theorem inner_keep1 {scope : Scope} {x : Str} {l' : Loc} (hx : scope.names.lookup x ≠ some .free) : ∀ y l, (ρ.inner scope).lookup y = some l → (((x, l') :: ρ.inner scope : LEnv)).lookup y = some l := fun y l h => by
  rw [lookup_cons_ne (inner_not hx h)]; exact h
theorem inner_keep2 {scope : Scope} {x x₂ : Str} {l' l₂ : Loc} (hx : scope.names.lookup x ≠ some .free) (hx₂ : scope.names.lookup x₂ ≠ some .free) : ∀ y l, (ρ.inner scope).lookup y = some l → (((x₂, l₂) :: (x, l') :: ρ.inner scope : LEnv)).lookup y = some l := fun y l h => by
  rw [lookup_cons_ne (inner_not hx₂ h)]; exact inner_keep1 hx y l h
theorem Tests.none {A : Around} : Tests G A act ρ [] true := rfl
theorem Tests.one {A : Around} {c : Expr} {b : Bool} (h : Te G A act ρ c b) : Tests G A act ρ [c] b := ⟨b, true, h, fun _ => rfl, by simp⟩
end
theorem lslice_map {α β : Type} (f : α → β) (xs : List α) (lo hi st : Option Int) : lslice (xs.map f) lo hi st = (lslice xs lo hi st).map f := by
  unfold lslice
  rw [List.length_map, List.map_filterMap]
  congr 1
  funext i
  rw [List.getElem?_map]
theorem filter_all {α : Type} (l : List α) : l.filter (fun _ => true) = l := List.filter_eq_self.mpr fun _ _ => rfl
end Mine
end

section
namespace Mine
variable {sc : Scope} {mc : List Str}
open PySem PySem.Calls PyProof.Rows PySem.SeqAt
open PySem.AutoSeq1 (wpAny_loadPart')
open PySem.MeetsSeq PySem.MeetsSeq2 PySem.MeetsSeq3
theorem lt_loop1 (l b : Addr) (x y : Int) (t u : Tok) (n n2 : Nat) (dd dd2 : Option Addr) (sl sl2 : Array (Option Value)) :
    Meets (Builtin.«list.__eq__.loop» ⟨[.ref l, .ref b, rawInt 1, rawInt 0], []⟩)
      (fun A R s => s.heap.get? l = some { cls := .type "list", dict := dd, data := .seq #[.int x t] n, slots := sl } ∧ s.heap.get? b = some { cls := .type "list", dict := dd2, data := .seq #[.int y u] n2, slots := sl2 } ∧
        R (.ok (.ret (.bool false))) s) := by
  intro prog w A R s h
  obtain ⟨hp, g, d, tk, os⟩ := s; obtain ⟨hl, hb, h⟩ := h
  wp_walk using wpAny_loadPart' hl, wpAny_loadPart' hb
  exact h
theorem lt_loop0 (l b : Addr) (x y : Int) (t u : Tok) (n n2 : Nat) (dd dd2 : Option Addr) (sl sl2 : Array (Option Value)) :
    Meets (Builtin.«list.__eq__.loop» ⟨[.ref l, .ref b, rawInt 0, rawInt 0], []⟩)
      (fun A R s => s.heap.get? l = some { cls := .type "list", dict := dd, data := .seq #[.int x t] n, slots := sl } ∧ s.heap.get? b = some { cls := .type "list", dict := dd2, data := .seq #[.int y u] n2, slots := sl2 } ∧
        R (.ok (.ret (.bool (decide (x < y))))) s) := by
  intro prog w A R s h
  obtain ⟨hp, g, d, tk, os⟩ := s; obtain ⟨hl, hb, h⟩ := h
  wp_walk using wpAny_loadPart' hl, wpAny_loadPart' hb
  refine wpAny_eqBool_int ?_
  by_cases q : x = y
  · subst q
    rw [if_pos (by simp)]
    wp_walk
    exact ⟨plainId_quiet plain_eq_loop _, codeAny_builtin entry_eq_loop (by
        rw [Around.under_plainId plain_eq_loop _]
        exact lt_loop1 l b x x t u n n2 dd dd2 sl sl2 prog w A R _ ⟨hl, hb, by simpa using h⟩)⟩
  · rw [if_neg (by simpa using q)]
    refine wpAny_bind (listItems_at hl rfl (wpAny_bind (listItems_at hb rfl ?_)))
    show wpAny _ _ (compareOp .Lt (.int x t) (.int y u) >>= fun r => ret r) _ _ _
    refine wpAny_bind (lt_int ?_)
    wp_walk
    exact h
theorem list_lt1 (l b : Addr) (x y : Int) (t u : Tok) (n n2 : Nat) (dd dd2 : Option Addr) (sl sl2 : Array (Option Value)) :
    Meets (Builtin.«list.__lt__» ⟨[.ref l, .ref b], []⟩)
      (fun A R s => s.heap.get? l = some { cls := .type "list", dict := dd, data := .seq #[.int x t] n, slots := sl } ∧ s.heap.get? b = some { cls := .type "list", dict := dd2, data := .seq #[.int y u] n2, slots := sl2 } ∧
        R (.ok (.ret (.bool (decide (x < y))))) s) := by
  intro prog w A R s h
  obtain ⟨hp, g, d, tk, os⟩ := s; obtain ⟨hl, hb, h⟩ := h
  have f3 := AutoSeq1.sub_list_list
  wp_walk using wpAny_loadPart' hl, wpAny_loadPart' hb
  exact ⟨plainId_quiet plain_eq_loop _, codeAny_builtin entry_eq_loop (by
        rw [Around.under_plainId plain_eq_loop _]
        exact lt_loop0 l b x y t u n n2 dd dd2 sl sl2 prog w A R _ ⟨hl, hb, h⟩)⟩
section
variable {G : Gl} {A : Around} {act : Act sc mc} {ρ : LEnv} {S S' : Fz} {s s' : Shared} {n : Nat} {d e : D} {ds es : List D} {a b : Int}
theorem Cmp.lt1 (hA : Room n A) : Cmp G A .Lt (.list [.int a]) (.list [.int b]) (decide (a < b)) := fun S s va vb I ha hb => by
  (refine cps fun ZP zk => ?_; obtain ⟨l, o, k, vs, rfl, h1, h2, h3, r⟩ := ha.listI; refine zk ?_)
  (refine cps fun ZP zk => ?_; obtain ⟨l', o', k', vs', rfl, h1', h2', h3', r'⟩ := hb.listI; refine zk ?_)
  obtain ⟨v, rfl, i⟩ := alls1 r
  obtain ⟨v', rfl, i'⟩ := alls1 r'
  obtain ⟨t, rfl⟩ := i.int'
  obtain ⟨t', rfl⟩ := i'.int'
  obtain ⟨cls, dd, data, sl⟩ := o
  obtain ⟨cls', dd', data', sl'⟩ := o'
  simp only at h2 h3 h2' h3'
  subst h2 h3 h2' h3'
  have ho := I.sub _ _ h1
  have ho' := I.sub _ _ h1'
  exact richCompare_meets_room (op := .Lt) ⟨_, ho, rfl⟩ ⟨_, ho', rfl⟩ F.slot_list_lt F.entry_list_lt (F.args_list_lt_2 _ _) (list_lt1 l l' a b t t' k k' dd dd' sl sl')
    ⟨ho, ho', ⟨(fun x => nomatch x), ⟨S, .refl I, rfl⟩⟩⟩ hA.cl
noncomputable def dq : D → D → Option Bool
  | .dict ks vs, .dict ks' vs' => deqD ks vs ks' vs'
  | d, e => deq 7 d e
noncomputable def EqIn (G : Gl) (A : Around) (s : Shared) (y x : Value) : Prop := ∀ (E : Value → Shared → Prop) (Q : Bool → Shared → Prop), Q true s → wpAny G.M A (eqBool y x) Q E s
set_option tactic.hygienic true in
theorem eqIn (I : Inv G S s) (hu : A.units + 12 < cLine) {v w : Value} (ha : Is G S v d) (hb : Is G S w e) (h : dq d e = some true) : EqIn G A s v w := by
  by_cases q : v = w
  · subst q; exact fun E Q hq => EqAt.same (A := A) (s := s) v _ _ E Q hq
  · by_cases hd : ∃ ks vs ks' vs', d = .dict ks vs ∧ e = .dict ks' vs'
    · obtain ⟨ks, vs, ks', vs', rfl, rfl⟩ := hd
      intro E Q hq
      have h : deqD ks vs ks' vs' = some true := h
      (refine cps fun ZP zk => ?_; obtain ⟨a, es, ep, ka, rfl, h1, h2, h3, h4, h5, t, h6⟩ := ha.dictI; refine zk ?_)
      (refine cps fun ZP zk => ?_; obtain ⟨b, es', ep', kb, rfl, h1', h2', h3', h4', h5', t', h6'⟩ := hb.dictI; refine zk ?_)
      subst h4 h4'
      unfold deqD at h
      split at h
      · rename_i hl
        unfold eqBool
        refine wpAny_holding ?_
        refine wpAny_ite_split (fun hab => absurd (eq_of_beq hab) q) (fun _ => ?_)
        have hu1 : A.units < cLine := by lia
        have hu2 : A.in1.units + 8 < cLine := by show A.units + 1 + 8 < cLine; lia
        refine wpAny_bind (PySem.W.keq_eq (r := true) h6 h6' (dictOf_of I h1 h2 h3 h5) (dictOf_of I h1' h2' h3' h5') hu1 (fun _ => dict_hits I hu2 t' _ _ _ t h) ?_)
        have : (ka.length == kb.length) = true := by simpa using hl
        rw [this]
        exact wpAny_truthy_bool hq
      · cases h
    · have : deq 7 d e = some true := by
        cases d with
        | dict ks vs => cases e with
          | dict ks' vs' => exact absurd ⟨_, _, _, _, rfl, rfl⟩ hd
          | _ => exact h
        | _ => exact h
      exact fun E Q hq => eqAt I 7 A v w d e true (by lia) ha hb this _ _ E Q hq
theorem tup_ne_same {prog : Program} {w : World} {l b : Addr} {items items2 : Array Value} {n n2 : Nat} {dd dd2 : Option Addr} {sl sl2 : Array (Option Value)} (hsz : items.size = items2.size)
    (hl : s.heap.get? l = some { cls := .type "tuple", dict := dd, data := .seq items n, slots := sl }) (hb : s.heap.get? b = some { cls := .type "tuple", dict := dd2, data := .seq items2 n2, slots := sl2 })
    (he : ∀ j (h1 : j < items.size) (h2 : j < items2.size), ∀ (E : Value → Shared → Prop) (Q : Bool → Shared → Prop), Q true s → wpAny (model prog w) A.in1 (eqBool items[j] items2[j]) Q E s) {P : Value → Shared → Prop} {E : Value → Shared → Prop} (h : P (.bool false) s) :
    wpAny (model prog w) A.in1 (Builtin.«tuple.__ne__» ⟨[.ref l, .ref b], []⟩) (fun fin s' => ∃ v, fin = .done (.ret v) ∧ P v s') E s := by
  obtain ⟨hp, g, d, tk, os⟩ := s
  have f2 := AutoSeq1.sub_tuple_tuple
  have hZ : (items.toList.zip items2.toList).length = items.size := by simp [hsz]
  wp_walk using wpAny_loadPart' hl, wpAny_loadPart' hb, wpAny_forIn_list _ (fun rest b s' => b.1 = none ∧ s' = ⟨hp, g, d, tk, os⟩ ∧ ∃ i, rest = (items.toList.zip items2.toList).drop i) _
  case turn =>
    rintro ⟨y, x⟩ rest b s' ⟨hb', rfl, i, hz⟩
    have hlt : i < (items.toList.zip items2.toList).length := by
      rcases Nat.lt_or_ge i (items.toList.zip items2.toList).length with h' | h'
      · exact h'
      · rw [List.drop_of_length_le h'] at hz; exact nomatch hz
    have h1 : i < items.size := hZ ▸ hlt
    have h2 : i < items2.size := by lia
    rw [List.drop_eq_getElem_cons hlt] at hz
    injection hz with hyx hrest
    have hy : y = items[i] := by have := congrArg Prod.fst hyx; simpa using this
    have hx : x = items2[i] := by have := congrArg Prod.snd hyx; simpa using this
    subst hy hx
    refine wpAny_bind (he i h1 h2 _ _ ?_)
    wp_walk
    exact ⟨rfl, rfl, i + 1, hrest⟩
  case fin =>
    rintro ⟨b1, b2⟩ s' ⟨hb', rfl, i, hz⟩
    simp only at hb'
    subst hb'
    wp_walk
    exact ⟨_, rfl, by simpa [Builtin.Tuple.tupleCompareSizes, bne, hsz] using h⟩
  case h =>
    exact ⟨rfl, rfl, 0, rfl⟩
inductive AllEq : List D → List D → Prop
  | nil : AllEq [] []
  | cons {d e : D} {ds es : List D} : dq d e = some true → AllEq ds es → AllEq (d :: ds) (e :: es)
theorem AllEq.length : ∀ {ds es : List D}, AllEq ds es → ds.length = es.length
  | _, _, .nil => rfl
  | _, _, .cons _ r => by simp [r.length]
theorem AllEq.at : ∀ {ds es : List D}, AllEq ds es → ∀ {j : Nat} {d e : D}, ds[j]? = some d → es[j]? = some e → dq d e = some true
  | _, _, .nil, j, _, _, h, _ => by simp at h
  | _, _, .cons h r, 0, _, _, h1, h2 => by simp at h1 h2; subst h1 h2; exact h
  | _, _, .cons h r, j + 1, _, _, h1, h2 => by simp at h1 h2; exact r.at h1 h2
theorem Cmp.neT (hA : Room n A) (h : AllEq ds es) : Cmp G A .NotEq (.tuple ds) (.tuple es) false := fun S s va vb I ha hb => by
  (refine cps fun ZP zk => ?_; obtain ⟨l, o, k, vs, rfl, h1, h2, h3, r⟩ := ha.tupleI; refine zk ?_)
  (refine cps fun ZP zk => ?_; obtain ⟨l', o', k', vs', rfl, h1', h2', h3', r'⟩ := hb.tupleI; refine zk ?_)
  obtain ⟨cls, dd, data, sl⟩ := o
  obtain ⟨cls', dd', data', sl'⟩ := o'
  simp only at h2 h3 h2' h3'
  subst h2 h3 h2' h3'
  have ho := I.sub _ _ h1
  have ho' := I.sub _ _ h1'
  have hu : A.in1.units + 12 < cLine := by have := hA.units; show A.units + 1 + 12 < 9900; lia
  refine wpAny_richCompare_same_room (op := .NotEq) ⟨_, ho, rfl⟩ ⟨_, ho', rfl⟩ F.slot_tuple_ne (wpAny_call_entry F.slot_tuple_ne ⟨_, ho, rfl⟩ F.entry_tuple_ne ?_ (F.args_tuple_ne_2 _ _)) hA.cl
  refine tup_ne_same (prog := G.prog) (w := G.w) (P := fun v s' => v ≠ Value.notImplemented ∧ Post G S s (fun _ v => v = Value.bool false) v s') (by simp [r.length, r'.length, h.length]) ho ho' (fun j j1 j2 => ?_) (show Value.bool false ≠ Value.notImplemented ∧ Post G S s (fun _ v => v = Value.bool false) (Value.bool false) s from ⟨(fun x => nomatch x), S, Stp.refl I, rfl⟩)
  obtain ⟨d, q1, q2⟩ := r.get' (k := j) (v := vs[j]'(by simpa using j1)) (by simp)
  obtain ⟨d', q1', q2'⟩ := r'.get' (k := j) (v := vs'[j]'(by simpa using j2)) (by simp)
  have := eqIn I hu q2 q2' (h.at q1 q1')
  unfold EqIn at this
  simpa using this
end
end Mine
end

section
namespace Mine
variable {sc : Scope} {mc : List Str}
open PySem PySem.Calls PyProof.Rows
section
variable {G : Gl} {A : Around} {act : Act sc mc} {kp : Kept} {adr : Str → Addr} {ρ : LEnv} {S S' S₁ : Fz} {s s' : Shared} {mg mb : Str → Option Value} {d d' : D} {ds : List D} {n : Nat} {pos : Pos}
noncomputable def Fz.drop (S : Fz) (p : Addr) : Fz := fun a => if a = p then none else S a
theorem Inv.unfreeze (I : Inv G S s) {p : Addr} (hb : G.base p = none) (hc : ∀ o, S p = some o → ∀ vs, o.data ≠ .fields vs) : Inv G (S.drop p) s where
  sub := fun a o e => by
    unfold Fz.drop at e
    split at e
    · exact nomatch e
    · exact I.sub a o e
  base := fun a o e => by
    unfold Fz.drop
    rw [if_neg (fun q => by rw [q, hb] at e; exact nomatch e)]
    exact I.base a o e
  tab := fun t ht => by
    obtain ⟨ps, hp, x⟩ := I.tab t ht
    refine ⟨ps, hp, x.imp id ?_⟩
    rintro ⟨c', o, e, q, g⟩
    refine ⟨c', o, e, ?_, g⟩
    unfold Fz.drop
    rw [if_neg (fun h => by obtain ⟨vs, e⟩ := t.isCode _ g; exact hc o (by rw [← h]; exact q) vs e)]
    exact q
  tabS := fun t ht => by
    unfold Fz.drop
    split
    · rfl
    · exact I.tabS t ht
  bare := I.bare
  os := I.os
theorem Alls.at_eq : ∀ {vs us : List Value} {ds : List D}, us.length = ds.length → Alls G S vs (List.zipWith D.at us ds) → vs = us
  | _, [], [], _, h => h.nilI
  | _, u :: us, d :: ds, hl, h => by obtain ⟨v, r, rfl, i, h⟩ := h.consI; rw [Alls.at_eq (Nat.succ.inj hl) h, i.atI.1]
  | _, [], _ :: _, hl, _ => by simp at hl
  | _, _ :: _, [], hl, _ => by simp at hl
theorem Alls.to_at : ∀ {vs : List Value} {ds : List D}, Alls G S vs ds → Alls G S vs (List.zipWith D.at vs ds)
  | _, _, .nil => .nil
  | _, _, .cons i r => .cons (.at i) r.to_at
theorem Alls.app_inv : ∀ {as bs : List D} {vs : List Value}, Alls G S vs (as ++ bs) → ∃ us ws, vs = us ++ ws ∧ Alls G S us as ∧ Alls G S ws bs
  | [], bs, vs, h => ⟨[], vs, rfl, .nil, h⟩
  | a :: as, bs, _, .cons i r => by
    (refine cps fun ZP zk => ?_; obtain ⟨us, ws, e, h1, h2⟩ := Alls.app_inv r; refine zk ?_)
    exact ⟨_ :: us, ws, by rw [e]; rfl, .cons i h1, h2⟩
theorem zipWith_ins {us : List Value} {ds : List D} (hl : us.length = ds.length) (k : Nat) (u : Value) (d : D) : insAt k (D.at u d) (List.zipWith D.at us ds) = List.zipWith D.at (insAt k u us) (insAt k d ds) := by
  unfold insAt
  rw [List.zipWith_append (by simp [hl]), List.zipWith_cons_cons, List.take_zipWith, List.drop_zipWith]
theorem insAt_length {α : Type} (k : Nat) (x : α) (l : List α) : (insAt k x l).length = l.length + 1 := by
  unfold insAt; simp; lia
theorem Alls.plug {k : Nat} {u : Value} {vs : List Value} (h : Alls G S vs (insAt k (.raw u) ds)) (i : Is G S u d) : Alls G S vs (insAt k d ds) := by
  unfold insAt at h ⊢
  obtain ⟨us, ws, rfl, h1, h2⟩ := Alls.app_inv h
  obtain ⟨v, r, rfl, j, h2⟩ := h2.consI
  rw [j.rawI]
  exact h1.append (.cons i h2)
set_option tactic.hygienic true in
theorem CallX.hole {f : Value} {pd : D} {more : List D} {k : Nat} (hd : ∀ us v, us.length = ds.length → CallX G A f (.list (List.zipWith D.at us ds)) (.at v pd :: more) (.list (insAt k (.at v pd) (List.zipWith D.at us ds))))
    (I : Inv G S s) {a p : Addr} {vs : List Value} (ha : ∃ o, s.heap.get? a = some o ∧ Own G S o (.list ds)) (hS : S a = none) (hp : ∃ o, s.heap.get? p = some o ∧ Own G S o pd) (hSp : S p = none) (hne : a ≠ p) (r : Alls G S vs more) :
    wpAny G.M A (call f (.ref a :: .ref p :: vs)) (fun _ s' => ∃ S', StpBut a G S s S' s' ∧ ∃ o', s'.heap.get? a = some o' ∧ Own G S' o' (.list (insAt k (.raw (.ref p)) ds))) No s := by
  obtain ⟨oa, hoa, wa⟩ := ha
  obtain ⟨op, hop, wp⟩ := hp
  (refine cps fun ZP zk => ?_; obtain ⟨m, us, rfl, ra⟩ := own_list wa; refine zk ?_)
  have I₁ := I.freeze hop wp.cls hSp
  have hs := Fz.sub_put (o := op) hSp
  refine wpAny_mono (hd us (.ref p) ra.length (S.put p op) s a (.ref p :: vs) I₁ ⟨_, hoa, .list (ra.mono hs).to_at⟩ (by rw [Fz.put_ne _ _ hne]; exact hS) (.cons (.at (wp.is hSp I.base)) (r.mono hs))) (fun _ s' ⟨S₂, st, o', ho', w'⟩ => ?_) fun _ _ e => e
  obtain ⟨m', ws, rfl, r'⟩ := own_list w'
  rw [zipWith_ins ra.length] at r'
  have e := r'.at_eq (by rw [insAt_length, insAt_length, ra.length])
  subst e
  have hbase : G.base p = none := by
    cases q : G.base p with
    | none => rfl
    | some o => rw [I.base _ _ q] at hSp; exact nomatch hSp
  have h2 : S₂ p = some op := st.sub _ _ (Fz.put_self ..)
  have hsub : Sub S (S₂.drop p) := fun b o e => by
    unfold Fz.drop
    rw [if_neg (fun q => by rw [q, hSp] at e; exact nomatch e)]
    exact st.sub _ _ (hs _ _ e)
  refine ⟨S₂.drop p, ⟨st.inv.unfreeze hbase (fun o e => ?_), hsub, fun b o e => ?_, st.keep, st.gens, ?_⟩, _, ho', .list ((ra.mono hsub).ins (.raw _) k)⟩
  · rw [h2] at e; obtain rfl := Option.some.inj e
    cases wp <;> exact fun vs => by simp
  · unfold Fz.drop at e
    split at e
    · exact nomatch e
    · rename_i q
      rcases st.new b o e with h | h
      · rw [Fz.put_ne _ _ q] at h; exact .inl h
      · exact .inr h
  · unfold Fz.drop
    rw [if_neg hne]
    exact st.off
noncomputable def EvXA (G : Gl) (A : Around) (act : Act sc mc) (e : Expr) (ρ ρ' : (Str → Addr) → LEnv) : Prop := ∀ kp adr S s, OK G act kp adr (ρ adr) S s →
  wpAny G.M A (eval e act.env) (fun v s' => ∃ S', Gro kp S S' ∧ OK G act kp adr (ρ' adr) S' s') No s
theorem EvXA.of {e : Expr} {ρ ρ' : (Str → Addr) → LEnv} (h : ∀ adr, EvX G A act e (ρ adr) (ρ' adr)) : EvXA G A act e ρ ρ' := fun kp adr S s O => h adr kp adr S s O
theorem EvXA.lay {fx : Expr} {f : Value} {x y : Str} {np yp : Pos} {es : List Expr} {more : List D} {pd : D} {k : Nat} {ρ : (Str → Addr) → LEnv} (hf : ∀ adr, EvV G A act (ρ adr) fx f) (hc : Callee G f) (hx : ∀ adr, (ρ adr).lookup x = some (.own (.list ds))) (hy : ∀ adr, (ρ adr).lookup y = some (.own pd)) (hxy : x ≠ y) (h : ∀ adr, Evs G A act (ρ adr) es more)
    (hd : ∀ us v, us.length = ds.length → CallX G A f (.list (List.zipWith D.at us ds)) (.at v pd :: more) (.list (insAt k (.at v pd) (List.zipWith D.at us ds))))
    (hb : (x == ("__debug__" : Str)) = false := by decide) (hcd : (x == ("__classdict__" : Str)) = false := by decide)
    (hb' : (y == ("__debug__" : Str)) = false := by decide) (hcd' : (y == ("__classdict__" : Str)) = false := by decide)
    (he : eval (.Call fx (.Name x np :: .Name y yp :: es) [] pos) act.env = (eval fx act.env >>= fun f => callWith pos f [] (backTo pos (starEach (.Name x np :: .Name y yp :: es) act.env)) (backToKw pos (keywordEach [] act.env))) := by rfl)
    (hst : starEach (.Name x np :: .Name y yp :: es) act.env = (false, eval (.Name x np) act.env) :: (false, eval (.Name y yp) act.env) :: starEach es act.env := by rfl) :
    EvXA G A act (.Call fx (.Name x np :: .Name y yp :: es) [] pos) ρ (fun adr => (x, .own (.list (insAt k (.raw (.ref (adr y))) ds))) :: ρ adr) := fun kp adr S s O => by
  rw [he]
  refine wpAny_bind (wp_seq (hf adr kp adr S s O) fun S₁ v s₁ st e => ?_)
  subst e
  have O₁ := O.step st
  have pl := (h adr).plain (pos := pos)
  have key : ∀ {Q : List Value → Shared → Prop}, (∀ S₂ s₂ vs, Stp G S₁ s₁ S₂ s₂ → Alls G S₂ vs more → Q (.ref (adr x) :: .ref (adr y) :: vs) s₂) → wpAny G.M A (spliced ((false, eval (.Name x np) act.env) :: (false, eval (.Name y yp) act.env) :: backTo pos (starEach es act.env))) Q No s₁ := fun hQ =>
    Calls.spliced_cons (O₁.nameOwn (hx adr) (Calls.spliced_cons (O₁.nameOwn (hy adr) (wp_seq ((h adr).spliced (pos := pos) kp adr S₁ s₁ O₁) fun S₂ vs s₂ st₂ is => hQ S₂ s₂ vs st₂ is) hb' hcd')) hb hcd)
  have fin : ∀ S₂ s₂ vs, Stp G S₁ s₁ S₂ s₂ → Alls G S₂ vs more → wpAny G.M A (PySem.call v (.ref (adr x) :: .ref (adr y) :: vs)) (fun _ s' => ∃ S', Gro kp S S' ∧ OK G act kp adr ((x, .own (.list (insAt k (.raw (.ref (adr y))) ds))) :: ρ adr) S' s') No s₂ := fun S₂ s₂ vs st₂ is => by
    have O₂ := O₁.step st₂
    refine wpAny_mono (CallX.hole hd O₂.inv (O₂.ownAt (hx adr)) (O₂.vars x _ (hx adr)).2.2.1 (O₂.ownAt (hy adr)) (O₂.vars y _ (hy adr)).2.2.1 (fun e => hxy (O₂.inj x y _ _ (hx adr) (hy adr) e)) is) (fun _ s' ⟨S', sb, ho⟩ => ?_) fun _ _ e => e
    obtain ⟨O', g⟩ := O₂.stepBut (hx adr) sb ho
    exact ⟨S', (O.gro (st.trans st₂)).trans g, O'⟩
  rw [hst]
  have pl' : (backTo pos ((false, eval (.Name x np) act.env) :: (false, eval (.Name y yp) act.env) :: starEach es act.env)).any (·.1) = false := by
    show (false || (false || (backTo pos (starEach es act.env)).any (·.1))) = false
    rw [pl]; rfl
  cases hc with
  | builtin id => exact callWith_builtin pl' (evalArgs_plain (key fin))
  | type T => exact PyProof.Rows.callWith_type pl' (evalArgs_plain (key fin))
  | func hbs hdat => exact callWith_function (evalArgs_plain (key fun S₂ s₂ vs st₂ is => ⟨⟨st₂.inv.sub _ _ (st₂.inv.base _ _ hbs), hdat⟩, fin S₂ s₂ vs st₂ is⟩))
theorem OK.retell (O : OK G act kp adr ρ S s) {x : Str} (hx : ρ.lookup x = some (.own d)) (h : ∀ o, Own G S o d → Own G S o d') : OK G act kp adr ((x, .own d') :: ρ) S s :=
  { O with
    vars := fun y l e => by
      by_cases q : y = x
      · subst q
        simp only [List.lookup, BEq.rfl] at e
        obtain rfl := Option.some.inj e
        obtain ⟨r, ⟨o, ho, w⟩, z⟩ := O.vars y _ hx
        exact ⟨r, ⟨o, ho, h o w⟩, z⟩
      · rw [lookup_cons_ne q] at e
        exact O.vars y l e
    inj := fun y z dy dz ey ez => by
      have own : ∀ y dy, List.lookup y ((x, Loc.own d') :: ρ) = some (.own dy) → ∃ d, ρ.lookup y = some (.own d) := fun y dy ey => by
        by_cases q : y = x
        · subst q; exact ⟨_, hx⟩
        · rw [lookup_cons_ne q] at ey; exact ⟨_, ey⟩
      obtain ⟨_, h1⟩ := own _ _ ey
      obtain ⟨_, h2⟩ := own _ _ ez
      exact O.inj y z _ _ h1 h2 }
theorem OK.plug (O : OK G act kp adr ρ S s) {x y : Str} {k : Nat} (hxy : x ≠ y) (hx : ρ.lookup x = some (.own (.list (insAt k (.raw (.ref (adr y))) ds)))) (hy : ρ.lookup y = some (.own d)) :
    ∃ S', Gro kp S S' ∧ OK G act kp adr ((x, .own (.list (insAt k d ds))) :: (y, .val d) :: ρ) S' s := by
  obtain ⟨S', g, i, O'⟩ := O.freezeI hy
  refine ⟨S', g, O'.retell (by rw [lookup_cons_ne hxy]; exact hx) fun o w => ?_⟩
  obtain ⟨m, vs, rfl, r⟩ := own_list w
  exact .list (r.plug i)
inductive EvXAs (G : Gl) (A : Around) (act : Act sc mc) : List Stmt → ((Str → Addr) → LEnv) → ((Str → Addr) → LEnv) → Prop
  | nil {ρ : (Str → Addr) → LEnv} : EvXAs G A act [] ρ ρ
  | cons {e : Expr} {p : Pos} {sts : List Stmt} {ρ ρ₁ ρ₂ : (Str → Addr) → LEnv} : EvXA G A act e ρ ρ₁ → swapsWith e none p.line act.env = pure false → EvXAs G A act sts ρ₁ ρ₂ → EvXAs G A act (.Expr e p :: sts) ρ ρ₂
theorem EvXAs.more {e : Expr} {p : Pos} {sts : List Stmt} {ρ ρ₁ ρ₂ : (Str → Addr) → LEnv} (h : EvXA G A act e ρ ρ₁) (r : EvXAs G A act sts ρ₁ ρ₂) (hs : swapsWith e none p.line act.env = pure false := by rfl) : EvXAs G A act (.Expr e p :: sts) ρ ρ₂ := .cons h hs r
theorem EvXAs.run {sts rest : List Stmt} {ρ ρ' : (Str → Addr) → LEnv} {Q : FD → LEnv → Prop} (h : EvXAs G A act sts ρ ρ') : ∀ {kp adr S s}, OK G act kp adr (ρ adr) S s →
    (∀ S' s', Gro kp S S' → OK G act kp adr (ρ' adr) S' s' → wpAny G.M A (execs rest act.env) (RunPost G act kp S' Q) No s') → wpAny G.M A (execs (sts ++ rest) act.env) (RunPost G act kp S Q) No s := by
  induction h with
  | nil => exact fun O hk => hk _ _ (.refl ..) O
  | cons h hs _ ih =>
    intro kp adr S s O hk
    refine wpAny_execs_cons (wpAny_Expr_any (wpAny_mono (h kp adr S s O) (fun v s' ⟨S', g, O'⟩ => ?_) fun _ _ e => e) (interactive_fn O) hs)
    exact wpAny_mono (ih O' fun S'' s'' g' O'' => hk S'' s'' (g.trans g') O'') (fun _ _ h => h.pre g) fun _ _ e => e
end
end Mine
end

section
namespace Mine
variable {sc : Scope} {mc : List Str}
open PySem PySem.Calls PyProof.Rows
noncomputable def Flies (base : Heap) (outer : List Env) (cls : String) (x : Str) (s : Shared) (e : Value) (s' : Shared) : Prop :=
  ∃ ea t tok, e = .ref ea ∧ Heap.FlyingW base outer ea (.type cls) (.ref t) s'.heap ∧ s'.heap.TupAt t [.str x tok] ∧ base.get? t = none ∧ s.heap.UpToSlots s'.heap ∧ s'.gens = s.gens ∧ s'.os = s.os
noncomputable def CallE (G : Gl) (A : Around) (f : Value) (ds : List D) (cls : String) (x : Str) : Prop := ∀ S s vs outer base, Inv G S s → Alls G S vs ds → A.frames = some outer → base.StaysIn s.heap → s.heap.FunFrames base outer →
  wpAny G.M A (call f vs) (fun _ _ => False) (Flies base outer cls x s) s
section
variable {G : Gl} {A : Around} {act : Act sc mc} {kp : Kept} {adr : Str → Addr} {ρ : LEnv} {S S' S₁ : Fz} {s s' : Shared} {mg mb : Str → Option Value} {d d' : D} {ds : List D} {n : Nat} {pos : Pos}
variable {nm : Str} {params : Arguments} {body : List Stmt} {scope : Scope} {dflt kwd : Value} {fa : Addr} {cls : String} {w : Str}
theorem CallE.fn {xs : List Str} (F : FnAt G mg nm params body scope dflt kwd fa) (N : Names G mg mb) (hA : Room (n + 1) A) (hfit : scopeFit scope = true) (hb : bindFit scope xs = true) (extra : List (Str × Value × D)) (hl : xs.length = ds.length + extra.length)
    (hbind : ∀ vs fd S s, vs.length = ds.length → fd.params = params → fd.defaults = dflt → fd.kwdefaults = kwd → Inv G S s → BindsTo s fd ⟨vs, []⟩ (xs.zip (vs ++ extra.map (·.2.1))))
    (hex : ∀ S s, Inv G S s → Alls G S (extra.map (·.2.1)) (extra.map (·.2.2)))
    (run : ∀ act : Act scope (cellNames scope.names), act.env.frame = some act.env.locals → ∀ kp adr S s outer base, OK G act kp adr (zipEnv xs (ds ++ extra.map (·.2.2))) S s → (A.deeper act.env).frames = some (act.env :: outer) → base.StaysIn s.heap →
      s.heap.FunFrames base (act.env :: outer) → wpAny G.M (A.deeper act.env) (execs body act.env) (fun _ _ => False) (fun e s' => wpAny G.M (A.deeper act.env) (leaving act.env e) (fun _ s'' => Flies base outer cls w s e s'') (fun _ _ => False) s') s) : CallE G A (.ref fa) ds cls w := fun S s vs outer base I r hfr hst hff => by
  refine wpAny_call ?_
  (refine cps fun ZP zk => ?_; obtain ⟨o, fd, ho, hd, h1, h2, h3, h4, h5, h6, h7, h8, c, oc, cv, t, hc, hoc, hcd, hq⟩ := F.obj; refine zk ?_)
  have up : ∀ {a o}, G.base a = some o → s.heap.get? a = some o := fun e => I.sub _ _ (I.base _ _ e)
  simp only [scopeFit, Bool.and_eq_true, beq_iff_eq, Bool.not_eq_true', decide_eq_true_eq, List.all_eq_true, bne_iff_ne, ne_eq] at hfit
  (refine cps fun ZP zk => ?_; obtain ⟨⟨⟨⟨f1, f2⟩, f3⟩, f4⟩, f5⟩ := hfit; refine zk ?_)
  have r' := r.append (hex S s I)
  have hl' : xs.length = (ds ++ extra.map (·.2.2)).length := by simp [hl]
  refine codeAny_call_function hA.lt (up ho) hd (by rw [h3]; exact f2) (by rw [h3]; exact f3) h2 ⟨c, oc, cv, t, hc, up hoc, hcd, hq⟩ ?_
  refine enterEnv N h3 h4 h5 h6 f1 f4 f5 (zipArgs xs (vs ++ extra.map (·.2.1)) (ds ++ extra.map (·.2.2))) (by rw [zipArgs_keys r' hl']; exact hb) (by rw [zipArgs_bind r' hl']; exact hbind vs fd S s r.length h1 h7 h8 I) I [] (fun _ => 0)
    (fun a h => nomatch h) (fun b hbm => ?_) (fun x y dx dy hx _ _ => ?_) fun act s₀ O hk hg hm hmt hcl => ?_
  · obtain ⟨d, e, i⟩ := zipArgs_is r' hbm
    unfold EntArg
    rw [e]; exact i
  · obtain ⟨b, hbm, e⟩ := List.mem_map.mp (mem_of_lookup hx)
    obtain ⟨d, e', _⟩ := zipArgs_is r' hbm
    obtain ⟨_, _, l⟩ := b
    have e' : l = .val d := e'
    subst e'
    cases e
  · rw [zipArgs_env r'] at O
    have hL : base.get? act.env.locals = none := by
      have hn := hm _ (by rw [hmt]; exact .head _)
      cases q : base.get? act.env.locals with
      | none => rfl
      | some o => have := hst _ _ q; rw [hn] at this; exact nomatch this
    have hff' : s₀.heap.FunFrames base (act.env :: outer) := by
      obtain ⟨m, hm'⟩ := O.ns
      exact .cons (by rw [O.fn']; decide) hcl.2.1 hm' hL (hff.of_keeps fun b o hb _ => ⟨o, hk b o hb, rfl⟩)
    refine codeAny_func (wpAny_mono (run act hcl.2.1 _ _ S s₀ outer base O (Around.frames_deeper hfr) (fun b o e => hk _ _ (hst b o e)) hff') (fun _ _ h => h.elim) fun e s' h => ?_)
    refine wpAny_mono h (fun _ s'' ⟨ea, t, tok, e1, e2, e3, e4, e5, e6, e7⟩ => ?_) fun _ _ h => h.elim
    exact ⟨ea, t, tok, e1, e2, e3, e4, (Heap.UpToSlots.of_keeps hk).trans e5, by rw [e6, hg], by rw [e7, O.inv.os, I.os]⟩
theorem raise_neg {rest orelse : List Stmt} {ip tp np zp rp cp vp xp : Pos} {k k' : Nat} {lo : Int} {x : Str} {outer : List Env} {base : Heap} (hA : Room n A) (N : Names G mg mb) (hV : mg "ValueError" = none ∧ mb "ValueError" = some (.type "ValueError"))
    (O : OK G act kp adr ρ S s) (hx : ρ.lookup ("lo" : Str) = some (.val (.int lo))) (hneg : lo < 0) (hk : sc.names.lookup ("ValueError" : Str) = some .globalImplicit) (hf : act.env.frame = some act.env.locals) (hfr : A.frames = some (act.env :: outer)) (hst : base.StaysIn s.heap) (hff : s.heap.FunFrames base (act.env :: outer)) :
    wpAny G.M A (execs (.If (.Compare (.Name "lo" np) [.Lt] [.Constant (.int 0) k zp] tp) [.Raise (some (.Call (.Name "ValueError" vp) [.Constant (.str x) k' xp] [] cp)) Option.none rp] orelse ip :: rest) act.env) (fun _ _ => False)
      (fun e s' => wpAny G.M A (leaving act.env e) (fun _ s'' => Flies base outer "ValueError" x s e s'') (fun _ _ => False) s') s := by
  refine wpAny_execs_cons (wpAny_If (wpAny_isTrue_Compare1 (wpAny_mono (E := No) (O.name hx (Q := fun v s' => s' = s ∧ ∃ t, v = .int lo t) fun v i => ⟨rfl, i.int'⟩) (fun v s' hv => ?_) fun _ _ h => h.elim)))
  obtain ⟨rfl, t, rfl⟩ := hv
  refine wpAny_Constant_int (lt_int (wpAny_truthy_bool ?_))
  rw [decide_eq_true hneg, if_pos rfl]
  obtain ⟨o, ho, hn⟩ := N.g
  obtain ⟨o', ho', hn'⟩ := N.b
  refine wpAny_execs_cons (Raise_madeB PySem.F.excCall_ValueError PySem.F.excRaise_ValueError hA.handled ?_)
  refine Name_function_global O.fn' (by rw [act.kindOf]; exact hk) (loadGlobal_builtin (mg := mg) (mb := mb) (by rw [O.glob]; exact hn.ns (O.inv.sub _ _ (O.inv.base _ _ ho))) hV.1
    (by rw [O.blt]; exact hn'.ns (O.inv.sub _ _ (O.inv.base _ _ ho'))) hV.2 ⟨rfl, ?_⟩) (by decide)
  refine spliced_more (wpAny_Constant_str (spliced_none ⟨by show 1 ≤ sizeLine; decide, fun h' e hm => ?_⟩)) rfl
  have hx := Heap.MadeExc.of hm
  refine wpAny_leaves_madeW hfr hf hst hff hx fun h'' t' q1 q2 q3 q4 => ?_
  exact ⟨e, t', _, rfl, q1, q2, q3, (Heap.UpToSlots.of_keeps hx.keeps).trans q4, rfl, rfl⟩
end
end Mine
end

section
namespace Mine
variable {sc : Scope} {mc : List Str}
open PySem PySem.Calls PyProof.Rows
section
variable {G : Gl} {A : Around} {act : Act sc mc} {kp : Kept} {adr : Str → Addr} {ρ : LEnv} {S S' S₁ : Fz} {s s' : Shared} {mg mb : Str → Option Value} {d d' : D} {ds : List D} {n : Nat} {pos : Pos}
variable {cls : String} {w : Str} {Q : FD → LEnv → Prop}
theorem OK.slotsOn (O : OK G act kp adr ρ S s) {h' : Heap} {t : Nat} (hk : ∀ b o, b ≠ act.env.locals → s.heap.get? b = some o → h'.get? b = some o) (hu : s.heap.UpToSlots h') :
    OK G act kp adr ρ S { s with heap := h', toks := t } := by
  obtain ⟨hL1, hL2, hL3, oL, hoL⟩ := O.mt _ O.mtL
  obtain ⟨m, hm⟩ := O.ns
  have hm' : h'.Ns act.env.locals m := hu.ns hm
  have cellNe : ∀ p ∈ act.env.cells, p.2 ≠ act.env.locals := fun p hp q => by
    obtain ⟨_, v, o, ho, hd⟩ := O.cells p hp
    obtain ⟨o', es, ep, ho', hd', _⟩ := hm
    rw [q, ho'] at ho; obtain rfl := Option.some.inj ho
    rw [hd'] at hd; exact nomatch hd
  have rd : ∀ y v, Reads act.env s.heap y v → Reads act.env h' y v := fun y v r => by
    rcases r with ⟨k, m', hm', e⟩ | ⟨k, c, hx, o, ho, hd⟩
    · exact .inl ⟨k, m', hu.ns hm', e⟩
    · exact .inr ⟨k, c, hx, o, hk _ _ (cellNe _ (cell_in hx)) ho, hd⟩
  exact { O with
    inv := O.inv.but (wr := [act.env.locals]) (fun a ha => by rw [List.mem_singleton.mp ha]; exact ⟨hL1, hL3⟩) fun b o hb e => hk b o (fun q => hb (by rw [q]; exact .head _)) e
    kept := fun a o e => hk a o (fun q => by rw [q, hL2] at e; exact nomatch e) (O.kept a o e)
    kgens := O.kgens
    ns := ⟨m, hm'⟩
    mt := fun b hb => by
      obtain ⟨h1, h2, h3, o, ho⟩ := O.mt b hb
      refine ⟨h1, h2, h3, ?_⟩
      by_cases q : b = act.env.locals
      · subst q; obtain ⟨o', _, _, ho', _⟩ := hm'; exact ⟨o', ho'⟩
      · exact ⟨o, hk b o q ho⟩
    cells := fun p hp => by
      obtain ⟨nt, v, o, ho, hd⟩ := O.cells p hp
      exact ⟨nt, v, o, hk _ _ (cellNe p hp) ho, hd⟩
    vars := fun y l e => by
      have z := O.vars y l e
      cases l with
      | val dy => obtain ⟨v, r, i⟩ := z; exact ⟨v, rd _ _ r, i⟩
      | own dy =>
        obtain ⟨r, ⟨o, ho, w⟩, h1, h2, h3⟩ := z
        exact ⟨rd _ _ r, ⟨o, hk _ _ (fun q => h3 (by rw [q]; exact O.mtL)) ho, w⟩, h1, h2, h3⟩ }
noncomputable def EvE (G : Gl) (A : Around) (act : Act sc mc) (ρ : LEnv) (e : Expr) (cls : String) (w : Str) : Prop := ∀ kp adr S s, OK G act kp adr ρ S s →
  wpAny G.M A (eval e act.env) (fun _ _ => False) (fun x s' => ∃ S₁ s₁ base, Stp G S s S₁ s₁ ∧ base.StaysIn s₁.heap ∧ (∀ b o, b ≠ act.env.locals → s₁.heap.get? b = some o → base.get? b = some o) ∧ Flies base [act.env] cls w s₁ x s') s
theorem EvE.ite {t x y : Expr} {p : Bool} (ht : Te G A act ρ t p) (hx : p = true → EvE G A act ρ x cls w) (hy : p = false → EvE G A act ρ y cls w) : EvE G A act ρ (.IfExp t x y pos) cls w := fun kp adr S s O =>
  IfExp_ (wpAny_mono (ht kp adr S s O) (fun b s₁ ⟨S₁, st, e⟩ => by
    subst e
    cases b with
    | true => exact wpAny_mono (hx rfl kp adr S₁ s₁ (O.step st)) (fun _ _ h => h) fun _ _ ⟨S₂, s₂, base, st', q⟩ => ⟨S₂, s₂, base, st.trans st', q⟩
    | false => exact wpAny_mono (hy rfl kp adr S₁ s₁ (O.step st)) (fun _ _ h => h) fun _ _ ⟨S₂, s₂, base, st', q⟩ => ⟨S₂, s₂, base, st.trans st', q⟩) fun _ _ h => h.elim)
theorem EvE.call {fx : Expr} {f : Value} {e : Expr} {es : List Expr} (hfr : A.frames = some [act.env]) (hf0 : act.env.frame = some act.env.locals) (hf : EvV G A act ρ fx f) (hc : Callee G f) (h : Evs G A act ρ (e :: es) ds) (hd : CallE G A f ds cls w)
    (he : eval (.Call fx (e :: es) [] pos) act.env = (eval fx act.env >>= fun f => callWith pos f [] (backTo pos (starEach (e :: es) act.env)) (backToKw pos (keywordEach [] act.env))) := by rfl) : EvE G A act ρ (.Call fx (e :: es) [] pos) cls w := fun kp adr S s O => by
  rw [he]
  refine wpAny_bind (wpAny_mono (hf kp adr S s O) (fun v s₁ ⟨S₁, st, e⟩ => ?_) fun _ _ h => h.elim)
  subst e
  have O₁ := O.step st
  have sp := h.spliced (pos := pos) kp adr S₁ s₁ O₁
  have pl := h.plain (pos := pos)
  have fin : ∀ {P : Value → Shared → Prop} S₂ s₂ vs, Stp G S₁ s₁ S₂ s₂ → Alls G S₂ vs ds → wpAny G.M A (PySem.call v vs) P (fun x s' => ∃ S₁ s₁ base, Stp G S s S₁ s₁ ∧ base.StaysIn s₁.heap ∧ (∀ b o, b ≠ act.env.locals → s₁.heap.get? b = some o → base.get? b = some o) ∧ Flies base [act.env] cls w s₁ x s') s₂ := fun S₂ s₂ vs st₂ is => by
    have O₂ := O₁.step st₂
    obtain ⟨m, hm⟩ := O₂.ns
    have hst : (PySem.W.hideAll s₂.heap [act.env.locals]).StaysIn s₂.heap := fun b o e => PySem.W.of_hideAll _ e
    have hb : ∀ b o, b ≠ act.env.locals → s₂.heap.get? b = some o → (PySem.W.hideAll s₂.heap [act.env.locals]).get? b = some o := fun b o hb e => PySem.W.hideAll_get _ e (by simpa using hb)
    refine wpAny_mono (hd S₂ s₂ vs [act.env] (PySem.W.hideAll s₂.heap [act.env.locals]) O₂.inv is hfr hst ?_) (fun _ _ h => h.elim) fun e s' h => ⟨S₂, s₂, _, st.trans st₂, hst, hb, h⟩
    exact .cons (by rw [O.fn']; decide) hf0 hm (PySem.W.hideAll_none _ (.head _)) trivial
  cases h with
  | cons h1 h2 he =>
    rw [he] at sp pl ⊢
    cases hc with
    | builtin id => exact callWith_builtin pl (evalArgs_plain (wpAny_mono sp (fun vs s₂ ⟨S₂, st₂, is⟩ => fin S₂ s₂ vs st₂ is) fun _ _ h => h.elim))
    | type T => exact PyProof.Rows.callWith_type pl (evalArgs_plain (wpAny_mono sp (fun vs s₂ ⟨S₂, st₂, is⟩ => fin S₂ s₂ vs st₂ is) fun _ _ h => h.elim))
    | func hbs hdat => exact callWith_function (evalArgs_plain (wpAny_mono sp (fun vs s₂ ⟨S₂, st₂, is⟩ => ⟨⟨st₂.inv.sub _ _ (st₂.inv.base _ _ hbs), hdat⟩, fin S₂ s₂ vs st₂ is⟩) fun _ _ h => h.elim))
end
end Mine
end

section
namespace Mine
variable {sc : Scope} {mc : List Str}
open PySem PySem.Calls PyProof.Rows
section
variable {G : Gl} {A : Around} {act : Act sc mc} {kp : Kept} {adr : Str → Addr} {ρ : LEnv} {S S' S₁ : Fz} {s s' : Shared} {mg mb : Str → Option Value} {d d' : D} {ds : List D} {n : Nat} {pos : Pos}
variable {cls : String} {w : Str} {Q : FD → LEnv → Prop}
theorem OK.turnLocal (O : OK G act kp adr ρ S s) {x : Str} (hρ : ρ.lookup x = none) {h' : Heap} {t : Nat} {m : Str → Option Value} {v : Option Value} (hm : s.heap.Ns act.env.locals m) (hm' : h'.Ns act.env.locals (fun y => if y = x then v else m y)) (hs : Heap.SameBut act.env.locals s.heap h') :
    OK G act kp adr ρ S { s with heap := h', toks := t } := by
  obtain ⟨hL1, hL2, hL3, oL, hoL⟩ := O.mt _ O.mtL
  have hk : ∀ b o, b ≠ act.env.locals → s.heap.get? b = some o → h'.get? b = some o := fun b o hb e => hs.extBut b o hb e
  have cellNe : ∀ p ∈ act.env.cells, p.2 ≠ act.env.locals := fun p hp q => by
    obtain ⟨_, v, o, ho, hd⟩ := O.cells p hp
    obtain ⟨o', es, ep, ho', hd', _⟩ := hm
    rw [q, ho'] at ho; obtain rfl := Option.some.inj ho
    rw [hd'] at hd; exact nomatch hd
  have rd : ∀ y v, y ≠ x → Reads act.env s.heap y v → Reads act.env h' y v := fun y v hy r => by
    rcases r with ⟨k, m', hm₂, e⟩ | ⟨k, c, hx, o, ho, hd⟩
    · refine .inl ⟨k, _, hm', ?_⟩
      have : m y = m' y := by
        obtain ⟨o, es, ep, ho, hd, _, h1⟩ := hm
        obtain ⟨o', es', ep', ho', hd', _, h1'⟩ := hm₂
        rw [ho] at ho'; obtain rfl := Option.some.inj ho'
        rw [hd] at hd'; obtain ⟨rfl, rfl⟩ := PySem.Data.dict.inj hd'
        rw [← h1, ← h1']
      simp [hy, this, e]
    · exact .inr ⟨k, c, hx, o, hk _ _ (cellNe _ (cell_in hx)) ho, hd⟩
  exact { O with
    inv := O.inv.but (wr := [act.env.locals]) (fun a ha => by rw [List.mem_singleton.mp ha]; exact ⟨hL1, hL3⟩) fun b o hb e => hk b o (fun q => hb (by rw [q]; exact .head _)) e
    kept := fun a o e => hk a o (fun q => by rw [q, hL2] at e; exact nomatch e) (O.kept a o e)
    kgens := O.kgens
    ns := ⟨_, hm'⟩
    mt := fun b hb => by
      obtain ⟨h1, h2, h3, o, ho⟩ := O.mt b hb
      refine ⟨h1, h2, h3, ?_⟩
      by_cases q : b = act.env.locals
      · subst q; obtain ⟨o', _, _, ho', _⟩ := hm'; exact ⟨o', ho'⟩
      · exact ⟨o, hk b o q ho⟩
    cells := fun p hp => by
      obtain ⟨nt, v, o, ho, hd⟩ := O.cells p hp
      exact ⟨nt, v, o, hk _ _ (cellNe p hp) ho, hd⟩
    vars := fun y l e => by
      have hy : y ≠ x := fun q => by rw [q, hρ] at e; exact nomatch e
      have z := O.vars y l e
      cases l with
      | val dy => obtain ⟨v, r, i⟩ := z; exact ⟨v, rd _ _ hy r, i⟩
      | own dy =>
        obtain ⟨r, ⟨o, ho, w⟩, h1, h2, h3⟩ := z
        exact ⟨rd _ _ hy r, ⟨o, hk _ _ (fun q => h3 (by rw [q]; exact O.mtL)) ho, w⟩, h1, h2, h3⟩ }
theorem isExc_VE : isSubtype (.type "ValueError") (.type "BaseException") = pure true := by rw [isSubtype_type]; kernel_rfl
theorem selfSub_VE : isSubtype (.type "ValueError") (.type "ValueError") = pure true := by rw [isSubtype_type]; kernel_rfl
theorem Run.tryE {e : Expr} {x y : Str} {ep np wp cp sp fp ap hp : Pos} {rest : List Stmt} (hA : Room n A) (N : Names G mg mb) (hV : mg ("ValueError" : Str) = none ∧ mb ("ValueError" : Str) = some (.type "ValueError")) (hS : mg ("str" : Str) = none ∧ mb ("str" : Str) = some (.type "str"))
    (hE : EvE G A act ρ e "ValueError" w) (hfr : A.frames = some [act.env]) (hf : act.env.frame = some act.env.locals) (hkV : sc.names.lookup ("ValueError" : Str) = some .globalImplicit) (hkS : sc.names.lookup ("str" : Str) = some .globalImplicit)
    (hx : sc.names.lookup x = some .local) (hy : Stores sc mc y) (hxy : x ≠ y) (hρ : ρ.lookup x = none) (h : Q .next ((y, .val (.str w)) :: ρ)) (hd : (x == ("__debug__" : Str)) = false := by decide)
    (hs : swapsWith e none ep.line act.env = pure false := by rfl)
    (he : eval (.Call (.Name "str" sp) [.Name x fp] [] cp) act.env = (eval (.Name "str" sp) act.env >>= fun f => callWith cp f [] (backTo cp (starEach [.Name x fp] act.env)) (backToKw cp (keywordEach [] act.env))) := by rfl)
    (hs2 : swapsWith (.Call (.Name "str" sp) [.Name x fp] [] cp) (some (.Name y wp)) ap.line act.env = pure false := by rfl) :
    Run G A act (exec (.Try (.Expr e ep :: rest) [.ExceptHandler (some (.Name "ValueError" np)) (some x) [.Assign [.Name y wp] (.Call (.Name "str" sp) [.Name x fp] [] cp) ap] hp] [] [] pos) act.env) ρ Q := fun kp adr S s O => by
  refine wpAny_Try_except (wpAny_execs_cons (wpAny_Expr_any (wpAny_mono (hE kp adr S s O) (fun _ _ h => h.elim) fun ex s' hq => ?_) (interactive_fn O) hs))
  (refine cps fun ZP zk => ?_; obtain ⟨S₁, s₁, base, st, hb1, hb2, ea, t, tok, rfl, hfl, htup, hnt, hup, hg, ho⟩ := hq; refine zk ?_)
  have O₁ := O.step st
  have hkeep : ∀ b o, b ≠ act.env.locals → s₁.heap.get? b = some o → s'.heap.get? b = some o := fun b o hb e => hfl.1 b o (hb2 b o hb e)
  refine wpAny_looks_onW hfr hf hfl fun h₄ hheld₄ hsm₄ => ?_
  refine wpAny_landsW hheld₄ fun h₅ hheld hsm₅' => ?_
  have hsm₅ := hsm₄.trans hsm₅'
  obtain ⟨ob, hob, hobc⟩ := hheld.there
  -- the state, told by what it was
  have state : ∀ {h'' : Heap}, base.StaysIn h'' → s₁.heap.UpToSlots h'' → OK G act kp adr ρ S₁ { s' with heap := h'' } := fun {h''} hst hu => by
    have := O₁.slotsOn (t := s'.toks) (fun b o hb e => hst b o (hb2 b o hb e)) hu
    have e1 : ({ s₁ with heap := h'', toks := s'.toks } : Shared) = { s' with heap := h'', drawn := s₁.drawn } := by
      obtain ⟨_, _, _, _, _⟩ := s'; obtain ⟨_, _, _, _, _⟩ := s₁; simp only at hg ho; subst hg ho; rfl
    have d : ∀ {s : Shared} {z}, OK G act kp adr ρ S₁ { s with drawn := z } → OK G act kp adr ρ S₁ s := fun {s z} h => { h with inv := ⟨h.inv.sub, h.inv.base, h.inv.tab, h.inv.tabS, h.inv.bare, h.inv.os⟩ }
    rw [e1] at this
    exact d this
  have O₅ := state hheld.1 (hup.trans hsm₅)
  obtain ⟨og, hog, hng⟩ := N.g
  obtain ⟨obu, hobu, hnb⟩ := N.b
  refine wpAny_handleBy_builtin_as (X := "ValueError") (T := "ValueError") (b := true) isExc_VE PySem.F.notTuple_ValueError selfSub_VE
    (Name_function_global O₅.fn' (by rw [act.kindOf]; exact hkV) (loadGlobal_builtin (mg := mg) (mb := mb) (by rw [O₅.glob]; exact hng.ns (O₅.inv.sub _ _ (O₅.inv.base _ _ hog))) hV.1
      (by rw [O₅.blt]; exact hnb.ns (O₅.inv.sub _ _ (O₅.inv.base _ _ hobu))) hV.2 ⟨rfl, ⟨ob, hob, hobc⟩, ?_⟩) (by decide))
  show wpAny G.M (A.mark (some (.ref ea))) (setFlight (.ref ea) none) _ _ _
  refine lands_againW hheld fun h₆ hfl₆ hsm₆ => ?_
  have hup₆ := (hup.trans hsm₅).trans hsm₆
  have O₆ := state hfl₆.1 hup₆
  have htup₆ := (htup.of_slots hsm₅).of_slots hsm₆
  (refine cps fun ZP zk => ?_; obtain ⟨oe, ws, hoe, hoec, hoed, hoe0⟩ := hfl₆.first; refine zk ?_)
  (refine cps fun ZP zk => ?_; obtain ⟨ot, nt', hot, hotc, hotd⟩ := htup₆; refine zk ?_)
  have off : ∀ {a : Addr} {o : Obj}, base.get? a = none → h₆.get? a = some o → (∀ es ep, o.data ≠ .dict es ep) → a ∉ act.mt := fun {a o} hb ha hnd hm => by
    by_cases q : a = act.env.locals
    · obtain ⟨m, hm'⟩ := O₆.ns
      obtain ⟨o', es, ep, ho', hd', _⟩ := hm'
      rw [← q] at ho'
      have ho' : h₆.get? a = some o' := ho'
      rw [ha] at ho'; obtain rfl := Option.some.inj ho'
      exact hnd _ _ hd'
    · obtain ⟨_, _, _, o', ho'⟩ := O₁.mt a hm
      rw [hb2 a o' q ho'] at hb; exact nomatch hb
  have offE := off hfl₆.2.1 hoe (fun es ep q => by rw [hoed] at q; exact nomatch q)
  have offT := off hnt hot (fun es ep q => by rw [hotd] at q; exact nomatch q)
  refine O₆.store (.inl hx) fun h₇ t₇ st₇ => ?_
  have O₇ : OK G act kp adr ρ S₁ { s' with heap := h₇, toks := t₇ } := O₆.after (adr' := adr) st₇ (fun y l _ e => e) (fun _ _ => rfl) (fun l e => by rw [hρ] at e; exact nomatch e) (fun y dx dy _ e _ => by rw [hρ] at e; exact nomatch e)
  have hE₇ := st₇.keep _ _ offE hoe
  have hT₇ := st₇.keep _ _ offT hot
  refine wpAny_execs_cons (wpAny_Assign_Name ?_ hs2)
  rw [he]
  refine wpAny_bind (Name_function_global O₇.fn' (by rw [act.kindOf]; exact hkS) (loadGlobal_builtin (mg := mg) (mb := mb) (by rw [O₇.glob]; exact hng.ns (O₇.inv.sub _ _ (O₇.inv.base _ _ hog))) hS.1
      (by rw [O₇.blt]; exact hnb.ns (O₇.inv.sub _ _ (O₇.inv.base _ _ hobu))) hS.2 ?_) (by decide))
  refine PyProof.Rows.callWith_type rfl (evalArgs_plain (Calls.spliced_cons ?_))
  have kx : act.env.kindOf x = some .local := by rw [act.kindOf]; exact hx
  rcases st₇.reads with ⟨_, m, hm, em⟩ | ⟨k | k, _⟩
  rotate_left
  · rw [kx] at k; cases k
  · rw [kx] at k; cases k
  refine wpAny_Name (wpAny_loadName_local O₇.fn' kx hm em (Calls.spliced_nil ?_)) hd
  refine PySem.P.str_of_exc_one PySem.F.excStr_ValueError (by have := hA.units; show A.units + 2 < 9900; lia) (e := ea) (t0 := t) (m := w) (tk := tok) ⟨oe, ws, hE₇, hoec, hoed, hoe0⟩ ⟨ot, nt', hT₇, hotc, hotd⟩ ?_
  refine O₇.storeVal hy (.str w tok) fun h₈ t₈ O₈ => wpAny_execs_nil ?_
  have hρ' : List.lookup x ((y, Loc.val (.str w)) :: ρ) = none := by rw [lookup_cons_ne hxy]; exact hρ
  obtain ⟨m₈, hm₈⟩ := O₈.ns
  refine wpAny_nameGoes_keeps kx hm₈ (by rw [O₈.fn']; rfl) fun h₉ v₉ hn₉ hs₉ => ?_
  have O₉ := O₈.turnLocal (t := t₈ + 1) hρ' hm₈ hn₉ hs₉
  exact ⟨S₁, adr, _, .next, O.gro st, O₉, trivial, h⟩
end
end Mine
end

section
namespace Mine
variable {sc : Scope} {mc : List Str}
open PySem PySem.Calls PyProof.Rows
section
variable {G : Gl} {A : Around} {act : Act sc mc} {kp : Kept} {adr : Str → Addr} {ρ : LEnv} {S S' S₁ : Fz} {s s' : Shared} {mg mb : Str → Option Value} {d d' : D} {ds : List D} {n : Nat} {pos : Pos}
theorem alls_of_get : ∀ {vs : List Value} {ds : List D}, vs.length = ds.length → (∀ (j : Nat) (v : Value), vs[j]? = some v → ∃ d, ds[j]? = some d ∧ Is G S v d) → Alls G S vs ds
  | [], [], _, _ => .nil
  | v :: vs, d :: ds, hl, h => by
    obtain ⟨d', e, i⟩ := h 0 v rfl
    simp only [List.getElem?_cons_zero, Option.some.injEq] at e
    subst e
    exact .cons i (alls_of_get (by simpa using hl) fun j u hu => by simpa using h (j + 1) u (by simpa using hu))
  | [], _ :: _, hl, _ => by simp at hl
  | _ :: _, [], hl, _ => by simp at hl
end
end Mine
end

section
namespace Mine
variable {sc : Scope} {mc : List Str}
open PySem PySem.Calls PyProof.Rows
structure CodeTab (G : Gl) (mg : Str → Option Value) (cd : Value) (qual : Str) (T : Tab) (pos : Pos) : Prop where
  code : ∃ c, cd = .ref c ∧ ∀ h : Heap, (∀ a o, G.base a = some o → h.get? a = some o) → PySem.W.CodeHd h c T.P
  trip : TriplesOk T.ps₀.toList
  line : T.line = (pos.line : Int)
  col : T.col = (pos.col : Int)
  miss : codeAmong pos T.ps₀.toList = none
  blt : ∀ h : Heap, (∀ a o, G.base a = some o → h.get? a = some o) → h.BuiltinsAt mg T.P
  ne : mainGlobals ≠ T.P
  tabs : G.tabs = [T]
  good : T.good = fun o => ∃ vs t, o.data = .fields vs ∧ vs[1]? = some (.str qual t)
section
variable {G : Gl} {A : Around} {act : Act sc mc} {kp : Kept} {adr : Str → Addr} {ρ : LEnv} {S S' S₁ : Fz} {s s' : Shared} {mg mb : Str → Option Value} {d d' : D} {ds : List D} {n : Nat} {pos : Pos}
theorem codeAmong_hit {pos : Pos} {ps : Array Value} {c : Value} {l k : Int} (h : TriplesOk ps.toList) (hn : codeAmong pos ps.toList = none) (hl : l = (pos.line : Int)) (hk : k = (pos.col : Int)) :
    TriplesOk (ps ++ #[rawInt l, rawInt k, c]).toList ∧ codeAmong pos (ps ++ #[rawInt l, rawInt k, c]).toList = some c := by
  subst hl hk
  have e : (ps ++ #[rawInt pos.line, rawInt pos.col, c]).toList = ps.toList ++ [rawInt pos.line, rawInt pos.col, c] := by simp
  rw [e]
  exact ⟨TriplesOk_snoc _ _ _ _ h, codeAmong_snoc _ h hn⟩
end
end Mine
end

section
namespace Mine
variable {sc : Scope} {mc : List Str}
open PySem PySem.Calls PyProof.Rows
noncomputable def allPairs (h : Heap) (L : Addr) : List (Addr × Obj) := (List.range h.objs.size).filterMap fun b => if b = L then none else (h.get? b).map fun o => (b, o)
section
variable {G : Gl} {A : Around} {act : Act sc mc} {kp : Kept} {adr : Str → Addr} {ρ : LEnv} {S S' S₁ : Fz} {s s' : Shared} {mg mb : Str → Option Value} {d d' : D} {ds : List D} {n : Nat} {pos : Pos}
end
end Mine
end

section
namespace Mine
variable {sc : Scope} {mc : List Str}
open PySem PySem.Calls PyProof.Rows
section
variable {G : Gl} {A : Around} {act : Act sc mc} {kp : Kept} {adr : Str → Addr} {ρ : LEnv} {S S' S₁ : Fz} {s s' : Shared} {mg mb : Str → Option Value} {d d' : D} {ds : List D} {n : Nat} {pos : Pos}
end
end Mine
end

section
namespace Mine
variable {sc : Scope} {mc : List Str}
open PySem PySem.Calls PyProof.Rows
noncomputable abbrev h00 : Heap := { objs := #[] }
section
variable {G : Gl} {A : Around} {act : Act sc mc} {kp : Kept} {adr : Str → Addr} {ρ : LEnv} {S S' S₁ : Fz} {s s' : Shared} {mg mb : Str → Option Value} {d d' : D} {ds : List D} {n : Nat} {pos : Pos}
end
end Mine
end

section
namespace Mine
open PySem PySem.Calls PyProof.Rows
theorem pick_range {α : Type} (xs : List α) (a : Nat) : ∀ m : Nat, ((List.range m).map (a + ·)).filterMap (xs[·]?) = (xs.drop a).take m
  | 0 => by simp
  | m + 1 => by
    rw [List.range_succ, List.map_append, List.filterMap_append, pick_range xs a m, List.take_add_one, List.getElem?_drop]
    cases q : xs[a + m]? <;> simp [q]
theorem lslice_plain {α : Type} (xs : List α) (lo hi : Option Int) : lslice xs lo hi none = (xs.drop (lo.elim 0 (clipAt xs.length))).take (hi.elim xs.length (clipAt xs.length) - lo.elim 0 (clipAt xs.length)) := by
  unfold lslice
  rw [sliceBounds_plain]
  show List.filterMap _ (sliceRange _ _ 1) = _
  rw [sliceRange_one, pick_range]
theorem clip_nat' {n k : Nat} : clipAt n (k : Int) = min k n := clipAt_nat n k
theorem lslice_to {α : Type} (xs : List α) (k : Nat) : lslice xs none (some (k : Int)) none = xs.take k := by
  rw [lslice_plain]
  simp only [Option.elim_none, Option.elim_some, List.drop_zero, Nat.sub_zero, clip_nat']
  rw [List.take_eq_take_iff]; simp
theorem lslice_from {α : Type} (xs : List α) (k : Nat) : lslice xs (some (k : Int)) none none = xs.drop k := by
  rw [lslice_plain]
  simp only [Option.elim_none, Option.elim_some, clip_nat']
  by_cases h : k ≤ xs.length
  · rw [Nat.min_eq_left h, List.take_of_length_le (by simp)]
  · rw [Nat.min_eq_right (by lia), List.drop_of_length_le (Nat.le_refl _), List.drop_of_length_le (by omega)]; simp
theorem join_cps : ∀ l : List Str, (Txt.join "" l).cps.toList = (l.map (·.cps.toList)).flatten := by
  intro l
  have e : Txt.join "" l = Str.join "" l := PySem.StrLaws.glued_eq_join _ _
  rw [e]
  clear e
  induction l with
  | nil => rfl
  | cons x l ih =>
    cases l with
    | nil => simp [Str.join]
    | cons y l =>
      have h1 : Str.join "" (x :: y :: l) = x ++ "" ++ Str.join "" (y :: l) := rfl
      rw [h1]
      show (x.cps ++ (Str.ofString "").cps ++ (Str.join "" (y :: l)).cps).toList = _
      rw [Array.toList_append, Array.toList_append, ih]
      rw [List.map_cons, List.flatten_cons, show (Str.ofString "").cps = #[] from rfl]
      simp
theorem join_len (l : List Str) : (Txt.join "" l).length = (l.map (·.length)).sum := by
  show (Txt.join "" l).cps.size = _
  rw [← Array.length_toList, join_cps, List.length_flatten, List.map_map]
  congr 1
end Mine
end

section
namespace Mine
variable {sc : Scope} {mc : List Str}
open PySem PySem.Calls PyProof.Rows
section
variable {G : Gl} {A : Around} {act : Act sc mc} {ρ : LEnv} {d d' e : D} {ds : List D} {n : Nat} {pos : Pos}
theorem Cmp.at {op : CmpOp} {r : Bool} {u v : Value} (h : Cmp G A op d e r) : Cmp G A op (.at u d) (.at v e) r := fun S s va vb I ha hb => by
  obtain ⟨rfl, ia⟩ := ha.atI
  obtain ⟨rfl, ib⟩ := hb.atI
  exact h S s _ _ I ia ib
theorem zipWith_at_get {us : List Value} {ds : List D} {i : Nat} {d : D} (h : (List.zipWith D.at us ds)[i]? = some d) : ∃ u e, d = .at u e ∧ ds[i]? = some e := by
  rw [List.getElem?_zipWith] at h
  cases q : us[i]? with
  | none => rw [q] at h; exact nomatch h
  | some u =>
    cases q' : ds[i]? with
    | none => rw [q, q'] at h; exact nomatch h
    | some e => rw [q, q'] at h; obtain rfl := Option.some.inj h; exact ⟨u, e, rfl, rfl⟩
end
end Mine
end

section
namespace Mine
open PySem PySem.Calls PyProof.Rows
section
variable {prog : Program} {w : World} {A : Around} {s : Shared}
theorem stop_raise {α : Type} {Q : α → Shared → Prop} {E : Value → Shared → Prop} (hh : A.handled = none)
    (h : ∀ h' e, (∀ b o, s.heap.get? b = some o → h'.get? b = some o) → (∃ o, h'.get? e = some o ∧ o.cls = .type "StopIteration") → E (.ref e) { s with heap := h' }) :
    wpAny (model prog w) A (newExc (.type "StopIteration") [] >>= fun e => (raiseNew e : Sem α)) Q E s := by
  refine wpAny_bind ?_
  simp only [newExc, newTuple]
  refine wpAny_bind (wpAny_newObj_type ?_ (by size_fits))
  refine wpAny_bind (m := firstArgMember _ _) (wpAny_of_eq (a := Value.none) rfl ?_)
  refine wpAny_newObj_type ?_ (by size_fits)
  simp only [raiseNew]
  refine wpAny_bind (wpAny_handled ?_)
  rw [hh]
  refine wpAny_bind (wpAny_pure (wpAny_throw ?_))
  exact h _ _ (fun b o e => Heap.get?_push_of_some _ (Heap.get?_push_of_some _ e)) ⟨_, Heap.get?_push_size _ rfl, rfl⟩
theorem nextOf_tuple {it t : Addr} {i : Nat} {items : Array Value} {Q : Value → Shared → Prop} {E : Value → Shared → Prop} (hh : A.handled = none) (hit : s.heap.IsTupleIter it t i) (ht : s.heap.IsTuple t items)
    (hQ : ∀ x h', items[i]? = some x → h'.IsTupleIter it t (i + 1) → Heap.SameBut it s.heap h' → Q x { s with heap := h' })
    (hE : ∀ h' e, items[i]? = none → Heap.ExtBut it s.heap h' → (∃ o, h'.get? e = some o ∧ o.cls = .type "StopIteration") → E (.ref e) { s with heap := h' }) :
    wpAny (model prog w) A (Builtin.SmallTypes.nextOf (.ref it)) Q E s := by
  obtain ⟨o, ho, hc, hd⟩ := id hit
  obtain ⟨ol, hol, _, nl, hdl⟩ := ht
  unfold Builtin.SmallTypes.nextOf
  refine wpAny_bind (wpAny_callSpecial?_slot (name := Str.ofString "__next__") hit.typeIs F.slot_tuple_iterator_next
    (wpAny_call_entry F.slot_tuple_iterator_next hit.typeIs F.entry_tuple_iterator_next ?_ (F.args_tuple_iterator_next_1 _)))
  show wpAny _ _ (field (.ref it) 0 >>= _) _ _ s
  refine wpAny_bind (wpAny_field ho hd (x := .ref t) rfl ?_)
  show wpAny _ _ (if (Value.ref t == Value.none) = true then _ else _) _ _ s
  rw [if_neg (show ¬ ((Value.ref t == Value.none) = true) from Bool.false_ne_true)]
  show wpAny _ _ (field (.ref it) 1 >>= _) _ _ s
  refine wpAny_bind (wpAny_field ho hd (x := .int i 0) rfl ?_)
  show wpAny _ _ (seqItems? (.ref t) >>= _) _ _ s
  refine wpAny_bind (wpAny_seqItems hol hdl ?_)
  simp only [Int.toNat_natCast]
  cases hx : items[i]? with
  | some x =>
    refine wpAny_bind (wpAny_setField ho hd (by simp) (wpAny_pure ⟨x, rfl, wpAny_pure (hQ x _ hx ?_ (Heap.SameBut.update ..))⟩))
    exact ⟨_, Heap.get?_update_self _ ho (Obj.isFreed_of_fields (Obj.data_mapFields hd _)), (Obj.cls_mapFields ..).trans hc, by rw [Obj.data_mapFields hd]; simp [rawInt]⟩
  | none =>
    refine wpAny_bind (wpAny_rule (wpAny_bind (wpAny_setField ho hd (by simp) ?_)))
    exact stop_raise hh fun h' e hk he => hE h' e hx (fun b o' hb e' => hk _ _ ((Heap.SameBut.update ..).extBut _ _ hb e')) he
theorem nextOf_range {it : Addr} {x left step : Int} {Q : Value → Shared → Prop} {E : Value → Shared → Prop} (hh : A.handled = none) (hit : IsRangeIter s.heap it x left step)
    (hQ : ∀ h', 0 < left → IsRangeIter h' it (x + step) (left - 1) step → Heap.SameBut it s.heap h' → Q (.int x s.toks) { s with heap := h', toks := s.toks + 1 })
    (hE : ∀ h' e, left ≤ 0 → Heap.ExtBut it s.heap h' → (∃ o, h'.get? e = some o ∧ o.cls = .type "StopIteration") → E (.ref e) { s with heap := h' }) :
    wpAny (model prog w) A (Builtin.SmallTypes.nextOf (.ref it)) Q E s := by
  have hT : s.TypeIs (.ref it) "range_iterator" := ⟨_, hit, rfl⟩
  unfold Builtin.SmallTypes.nextOf
  by_cases hl : 0 < left
  · refine wpAny_bind (wpAny_callSpecial?_slot (name := Str.ofString "__next__") hT F.slot_range_iterator_next
      (call_meets F.slot_range_iterator_next hT F.entry_range_iterator_next (F.args_range_iterator_next_1 _) (AutoRange.range_iterator___next___range_iterator_1 it x left step (by lia)) ⟨hit, ?_⟩))
    exact wpAny_pure (hQ _ hl (Heap.get?_update_self _ (Heap.get?_update_self _ hit rfl) rfl) ((Heap.SameBut.update ..).trans (Heap.SameBut.update ..)))
  · refine wpAny_bind (wpAny_callSpecial?_slot (name := Str.ofString "__next__") hT F.slot_range_iterator_next
      (wpAny_call_entry F.slot_range_iterator_next hT F.entry_range_iterator_next ?_ (F.args_range_iterator_next_1 _)))
    show wpAny _ _ (field (.ref it) 0 >>= _) _ _ s
    refine wpAny_bind (wpAny_field hit rfl (x := rawInt x) rfl ?_)
    show wpAny _ _ (field (.ref it) 1 >>= _) _ _ s
    refine wpAny_bind (wpAny_field hit rfl (x := rawInt left) rfl ?_)
    show wpAny _ _ (field (.ref it) 2 >>= _) _ _ s
    refine wpAny_bind (wpAny_field hit rfl (x := rawInt step) rfl ?_)
    show wpAny _ _ (if left ≤ 0 then _ else _) _ _ s
    rw [if_pos (Int.not_lt.mp hl)]
    refine wpAny_bind (wpAny_rule ?_)
    refine wpAny_bind ?_
    show wpAny _ _ (newExc (.type "StopIteration") [] >>= _) _ _ s
    exact (stop_raise hh fun h' e hk he => hE h' e (Int.not_lt.mp hl) (fun b o' hb e' => hk _ _ e') he)
theorem Draws.tuple (hh : A.handled = none) (it t : Addr) (hne : t ≠ it) (items : Array Value) :
    Draws prog w A it [it, t] items.size (fun i v => items[i]? = some v) (fun i h => h.IsTupleIter it t i ∧ h.IsTuple t items) where
  live := fun _ _ st => let ⟨o, ho, _⟩ := st.1; ⟨o, ho⟩
  frame := fun _ _ _ st hk => ⟨st.1.at fun o e => hk it (.head _) o e, st.2.at fun o e => hk t (.tail _ (.head _)) o e⟩
  item := fun i s Q E hi st hQ => nextOf_tuple hh st.1 st.2 (fun x h' hx hit' hs' => hQ x h' s.toks hx ⟨hit', st.2.extBut hs'.extBut hne⟩ hs') fun _ _ hx => by
    rw [Array.getElem?_eq_getElem hi] at hx; exact nomatch hx
  done := fun s Q E st hE => nextOf_tuple hh st.1 st.2 (fun x h' hx => by simp at hx) fun h' e _ hk he => hE h' e hk he
theorem Draws.range (hh : A.handled = none) (it : Addr) (a : Int) (n : Nat) :
    Draws prog w A it [it] n (fun i v => i < n ∧ ∃ t, v = .int (a + i) t) (fun i h => IsRangeIter h it (a + (i : Nat)) ((n : Int) - (i : Nat)) 1) where
  live := fun _ _ st => ⟨_, st⟩
  frame := fun _ _ _ st hk => hk it (.head _) _ st
  item := fun i s Q E hi st hQ => nextOf_range hh st (fun h' _ hit' hs' => hQ _ h' (s.toks + 1) ⟨hi, _, rfl⟩ (by
      have e1 : a + ((i + 1 : Nat) : Int) = a + (i : Int) + 1 := by lia
      have e2 : (n : Int) - ((i + 1 : Nat) : Int) = (n : Int) - (i : Int) - 1 := by lia
      rw [e1, e2]; exact hit') hs') fun _ _ hx => by lia
  done := fun s Q E st hE => nextOf_range hh st (fun h' hx => by lia) fun h' e _ hk he => hE h' e hk he
end
end Mine
end

section
namespace Mine
open PySem PySem.Calls PyProof.Rows
structure ZApart (z TI TO i1 i2 : Addr) (fp1 fp2 : List Addr) : Prop where
  TIz : TI ≠ z
  TOz : TO ≠ z
  TITO : TI ≠ TO
  TI1 : TI ≠ i1
  TI2 : TI ≠ i2
  z1 : z ∉ fp1
  z2 : z ∉ fp2
  TO1 : TO ∉ fp1
  TO2 : TO ∉ fp2
  i12 : i1 ∉ fp2
  i21 : i2 ∉ fp1
  m1 : i1 ∈ fp1
  m2 : i2 ∈ fp2
section
variable {prog : Program} {w : World} {A : Around} {E : Value → Shared → Prop} {s : Shared} {z TI TO i1 i2 : Addr} {fp1 fp2 : List Addr} {n1 n2 i : Nat} {P1 P2 : Nat → Value → Prop} {St1 St2 : Nat → Heap → Prop}
theorem zip_item (D1 : Draws prog w A i1 fp1 n1 P1 St1) (D2 : Draws prog w A i2 fp2 n2 P2 St2) (Z : ZApart z TI TO i1 i2 fp1 fp2) {a b : Value} {Q : Value → Shared → Prop}
    (hz : IsZip s.heap z TI TO .none) (hTI : IsPair s.heap TI (.ref i1) (.ref i2)) (hTO : IsPair s.heap TO a b) (h1 : St1 i s.heap) (h2 : St2 i s.heap) (hi1 : i < n1) (hi2 : i < n2)
    (hQ : ∀ x y h' tk, P1 i x → P2 i y → IsZip h' z TI TO (rawInt s.heap.objs.size) → IsPair h' TO x y → St1 (i + 1) h' → St2 (i + 1) h' → IsPair h' s.heap.objs.size x y →
      (∀ c o, c ≠ z → c ≠ TO → c ≠ i1 → c ≠ i2 → s.heap.get? c = some o → h'.get? c = some o) → Q (.ref s.heap.objs.size) { s with heap := h', toks := tk }) :
    wpAny (model prog w) A (Builtin.«zip.__next__» ⟨[.ref z], []⟩) (fun fin s' => ∃ v, fin = .done (.ret v) ∧ Q v s') E s := by
  obtain ⟨hp, g, d, tk₀, os⟩ := s
  have zi1 : z ≠ i1 := fun e => Z.z1 (e ▸ Z.m1)
  have zi2 : z ≠ i2 := fun e => Z.z2 (e ▸ Z.m2)
  have TOi1 : TO ≠ i1 := fun e => Z.TO1 (e ▸ Z.m1)
  have TOi2 : TO ≠ i2 := fun e => Z.TO2 (e ▸ Z.m2)
  show wpAny _ _ (field (.ref z) 2 >>= _) _ _ _
  refine wpAny_bind (wpAny_field hz rfl (x := .bool false) rfl ?_)
  show wpAny _ _ (field (.ref z) 3 >>= _) _ _ _
  refine wpAny_bind (wpAny_field hz rfl (x := .ref TI) rfl ?_)
  refine wpAny_bind (wpAny_seqItems hTI rfl ?_)
  show wpAny _ _ (Builtin.SmallTypes.ownedTupleIsFree (.ref z) >>= _) _ _ _
  refine wpAny_bind ?_
  unfold Builtin.SmallTypes.ownedTupleIsFree
  refine wpAny_bind (wpAny_field hz rfl (x := .none) rfl (wpAny_pure ?_))
  simp only [if_true]
  refine wpAny_bind (wpAny_rule ?_)
  refine wpAny_bind (wpAny_field hz rfl (x := .ref TO) rfl ?_)
  refine wpAny_bind (wpAny_setField_rec hz (by simp) fun h₁ hz₁ hs₁ => ?_)
  replace hz₁ : IsZip h₁ z TI TO .ellipsis := hz₁
  replace hs₁ : Heap.SameBut z hp h₁ := hs₁
  have a1 : St1 i h₁ := D1.frame _ _ _ h1 fun c hc o e => hs₁.extBut _ _ (fun q => Z.z1 (q ▸ hc)) e
  have a2 : St2 i h₁ := D2.frame _ _ _ h2 fun c hc o e => hs₁.extBut _ _ (fun q => Z.z2 (q ▸ hc)) e
  refine wpAny_bind ?_
  simp only [List.zipIdx_cons, List.zipIdx_nil, List.forIn_cons, List.forIn_nil]
  refine wpAny_bind (wpAny_bind (wpAny_onRaise ?_))
  show wpAny _ _ (Builtin.SmallTypes.nextOf (.ref i1) >>= _) _ _ ⟨h₁, g, d, tk₀, os⟩
  refine wpAny_bind (D1.item i _ _ _ hi1 a1 fun x h₂ tk₂ px b1 hs₂ => wpAny_pure ?_)
  replace hs₂ : Heap.SameBut i1 h₁ h₂ := hs₂
  have b2 : St2 i h₂ := D2.frame _ _ _ a2 fun c hc o e => hs₂.extBut _ _ (fun q => Z.i12 (q ▸ hc)) e
  have hTO₂ : IsPair h₂ TO a b := hs₂.extBut _ _ TOi1 (hs₁.extBut _ _ Z.TOz hTO)
  refine wpAny_bind (wpAny_seqItems (s := ⟨h₂, g, d, tk₂, os⟩) hTO₂ rfl ?_)
  refine wpAny_bind (wpAny_updateSeq_pair hTO₂ fun h₃ hTO₃ hs₃ => ?_)
  replace hTO₃ : IsPair h₃ TO x b := hTO₃
  replace hs₃ : Heap.SameBut TO h₂ h₃ := hs₃
  have c1 : St1 (i + 1) h₃ := D1.frame _ _ _ b1 fun c hc o e => hs₃.extBut _ _ (fun q => Z.TO1 (q ▸ hc)) e
  have c2 : St2 i h₃ := D2.frame _ _ _ b2 fun c hc o e => hs₃.extBut _ _ (fun q => Z.TO2 (q ▸ hc)) e
  refine wpAny_bind (wpAny_letGo (wpAny_pure ?_))
  refine wpAny_bind (wpAny_bind (wpAny_onRaise ?_))
  show wpAny _ _ (Builtin.SmallTypes.nextOf (.ref i2) >>= _) _ _ ⟨h₃, g, d, tk₂, os⟩
  refine wpAny_bind (D2.item i _ _ _ hi2 c2 fun y h₄ tk₄ py d2 hs₄ => wpAny_pure ?_)
  replace hs₄ : Heap.SameBut i2 h₃ h₄ := hs₄
  have d1 : St1 (i + 1) h₄ := D1.frame _ _ _ c1 fun c hc o e => hs₄.extBut _ _ (fun q => Z.i21 (q ▸ hc)) e
  have hTO₄ : IsPair h₄ TO x b := hs₄.extBut _ _ TOi2 hTO₃
  refine wpAny_bind (wpAny_seqItems (s := ⟨h₄, g, d, tk₄, os⟩) hTO₄ rfl ?_)
  refine wpAny_bind (wpAny_updateSeq_pair hTO₄ fun h₅ hTO₅ hs₅ => ?_)
  replace hTO₅ : IsPair h₅ TO x y := hTO₅
  replace hs₅ : Heap.SameBut TO h₄ h₅ := hs₅
  have e1 : St1 (i + 1) h₅ := D1.frame _ _ _ d1 fun c hc o e => hs₅.extBut _ _ (fun q => Z.TO1 (q ▸ hc)) e
  have e2 : St2 (i + 1) h₅ := D2.frame _ _ _ d2 fun c hc o e => hs₅.extBut _ _ (fun q => Z.TO2 (q ▸ hc)) e
  refine wpAny_bind (wpAny_letGo (wpAny_pure (wpAny_pure ?_)))
  refine wpAny_bind (wpAny_seqItems (s := ⟨h₅, g, d, tk₄, os⟩) hTO₅ rfl ?_)
  refine wpAny_bind (wpAny_newTuple ?_)
  have hsz : h₅.objs.size = hp.objs.size := by rw [hs₅.1, hs₄.1, hs₃.1, hs₂.1, hs₁.1]
  have hz₅ : IsZip h₅ z TI TO .ellipsis := hs₅.extBut _ _ Z.TOz.symm (hs₄.extBut _ _ zi2 (hs₃.extBut _ _ Z.TOz.symm (hs₂.extBut _ _ zi1 hz₁)))
  have hk₅ : ∀ c o, c ≠ z → c ≠ TO → c ≠ i1 → c ≠ i2 → hp.get? c = some o → h₅.get? c = some o := fun c o c1 c2 c3 c4 e =>
    hs₅.extBut _ _ c2 (hs₄.extBut _ _ c4 (hs₃.extBut _ _ c2 (hs₂.extBut _ _ c3 (hs₁.extBut _ _ c1 e))))
  have hzlt : z < h₅.objs.size := Heap.lt_size hz₅
  show wpAny _ _ (Builtin.SmallTypes.ownedTupleHandOut (.ref z) (.ref h₅.objs.size) >>= _) _ _ _
  refine wpAny_bind ?_
  unfold Builtin.SmallTypes.ownedTupleHandOut
  have hz₆ : IsZip (h₅.push { cls := .type "tuple", data := .seq #[x, y] }) z TI TO .ellipsis := Heap.get?_push_of_some _ hz₅
  refine wpAny_bind (wpAny_setField_rec hz₆ (by simp) fun h₇ hz₇ hs₇ => ?_)
  replace hz₇ : IsZip h₇ z TI TO (rawInt h₅.objs.size) := hz₇
  refine wpAny_setField_rec hz₇ (by simp) fun h₈ hz₈ hs₈ => ?_
  replace hz₈ : IsZip h₈ z TI TO (rawInt h₅.objs.size) := hz₈
  have up : ∀ c o, c ≠ z → h₅.get? c = some o → h₈.get? c = some o := fun c o c1 e => hs₈.extBut _ _ c1 (hs₇.extBut _ _ c1 (Heap.get?_push_of_some _ e))
  have hT₈ : IsPair h₈ h₅.objs.size x y := hs₈.extBut _ _ (Nat.ne_of_gt hzlt) (hs₇.extBut _ _ (Nat.ne_of_gt hzlt) (Heap.get?_push_size _ rfl))
  rw [hsz] at hz₈ hT₈
  refine wpAny_pure ⟨_, rfl, ?_⟩
  show Q (.ref h₅.objs.size) _
  rw [hsz]
  exact hQ x y h₈ tk₄ px py hz₈ (up _ _ Z.TOz hTO₅) (D1.frame _ _ _ e1 fun c hc o e => up _ _ (fun q => Z.z1 (q ▸ hc)) e) (D2.frame _ _ _ e2 fun c hc o e => up _ _ (fun q => Z.z2 (q ▸ hc)) e) hT₈
    fun c o c1 c2 c3 c4 e => up c o c1 (hk₅ c o c1 c2 c3 c4 e)
theorem zip_end (D1 : Draws prog w A i1 fp1 n1 P1 St1) (D2 : Draws prog w A i2 fp2 n2 P2 St2) (Z : ZApart z TI TO i1 i2 fp1 fp2) {a b : Value} {Q : PySem.Fin → Shared → Prop}
    (hz : IsZip s.heap z TI TO .none) (hTI : IsPair s.heap TI (.ref i1) (.ref i2)) (hTO : IsPair s.heap TO a b) (h1 : St1 (min n1 n2) s.heap) (h2 : St2 (min n1 n2) s.heap)
    (hE : ∀ h' e tk, (∀ c o, c ≠ z → c ≠ TO → c ≠ i1 → c ≠ i2 → s.heap.get? c = some o → h'.get? c = some o) → (∃ o, h'.get? e = some o ∧ o.cls = .type "StopIteration") → E (.ref e) { s with heap := h', toks := tk }) :
    wpAny (model prog w) A (Builtin.«zip.__next__» ⟨[.ref z], []⟩) Q E s := by
  obtain ⟨hp, g, d, tk₀, os⟩ := s
  have zi1 : z ≠ i1 := fun e => Z.z1 (e ▸ Z.m1)
  have zi2 : z ≠ i2 := fun e => Z.z2 (e ▸ Z.m2)
  have TOi1 : TO ≠ i1 := fun e => Z.TO1 (e ▸ Z.m1)
  have TOi2 : TO ≠ i2 := fun e => Z.TO2 (e ▸ Z.m2)
  show wpAny _ _ (field (.ref z) 2 >>= _) _ _ _
  refine wpAny_bind (wpAny_field hz rfl (x := .bool false) rfl ?_)
  show wpAny _ _ (field (.ref z) 3 >>= _) _ _ _
  refine wpAny_bind (wpAny_field hz rfl (x := .ref TI) rfl ?_)
  refine wpAny_bind (wpAny_seqItems hTI rfl ?_)
  show wpAny _ _ (Builtin.SmallTypes.ownedTupleIsFree (.ref z) >>= _) _ _ _
  refine wpAny_bind ?_
  unfold Builtin.SmallTypes.ownedTupleIsFree
  refine wpAny_bind (wpAny_field hz rfl (x := .none) rfl (wpAny_pure ?_))
  simp only [if_true]
  refine wpAny_bind (wpAny_rule ?_)
  refine wpAny_bind (wpAny_field hz rfl (x := .ref TO) rfl ?_)
  refine wpAny_bind (wpAny_setField_rec hz (by simp) fun h₁ hz₁ hs₁ => ?_)
  replace hz₁ : IsZip h₁ z TI TO .ellipsis := hz₁
  replace hs₁ : Heap.SameBut z hp h₁ := hs₁
  have a1 : St1 (min n1 n2) h₁ := D1.frame _ _ _ h1 fun c hc o e => hs₁.extBut _ _ (fun q => Z.z1 (q ▸ hc)) e
  have a2 : St2 (min n1 n2) h₁ := D2.frame _ _ _ h2 fun c hc o e => hs₁.extBut _ _ (fun q => Z.z2 (q ▸ hc)) e
  refine wpAny_bind ?_
  simp only [List.zipIdx_cons, List.zipIdx_nil, List.forIn_cons, List.forIn_nil]
  refine wpAny_bind (wpAny_bind (wpAny_onRaise ?_))
  show wpAny _ _ (Builtin.SmallTypes.nextOf (.ref i1) >>= _) _ _ ⟨h₁, g, d, tk₀, os⟩
  rcases Nat.lt_or_ge n2 n1 with hlt | hge
  · rw [Nat.min_eq_right (Nat.le_of_lt hlt)] at a1 a2
    refine wpAny_bind (D1.item n2 _ _ _ hlt a1 fun x h₂ tk₂ px b1 hs₂ => wpAny_pure ?_)
    replace hs₂ : Heap.SameBut i1 h₁ h₂ := hs₂
    have b2 : St2 n2 h₂ := D2.frame _ _ _ a2 fun c hc o e => hs₂.extBut _ _ (fun q => Z.i12 (q ▸ hc)) e
    have hTO₂ : IsPair h₂ TO a b := hs₂.extBut _ _ TOi1 (hs₁.extBut _ _ Z.TOz hTO)
    refine wpAny_bind (wpAny_seqItems (s := ⟨h₂, g, d, tk₂, os⟩) hTO₂ rfl ?_)
    refine wpAny_bind (wpAny_updateSeq_pair hTO₂ fun h₃ hTO₃ hs₃ => ?_)
    replace hs₃ : Heap.SameBut TO h₂ h₃ := hs₃
    have c2 : St2 n2 h₃ := D2.frame _ _ _ b2 fun c hc o e => hs₃.extBut _ _ (fun q => Z.TO2 (q ▸ hc)) e
    refine wpAny_bind (wpAny_letGo (wpAny_pure ?_))
    refine wpAny_bind (wpAny_bind (wpAny_onRaise ?_))
    show wpAny _ _ (Builtin.SmallTypes.nextOf (.ref i2) >>= _) _ _ ⟨h₃, g, d, tk₂, os⟩
    refine wpAny_bind (D2.done _ _ _ c2 fun h₄ e hs₄ he => ?_)
    obtain ⟨oe, hoe, hce⟩ := he
    have hz₄ : IsZip h₄ z TI TO .ellipsis := hs₄ _ _ zi2 (hs₃.extBut _ _ Z.TOz.symm (hs₂.extBut _ _ zi1 hz₁))
    have hez : e ≠ z := fun x => by
      subst x
      rw [hz₄] at hoe
      obtain rfl := Option.some.inj hoe
      simp at hce
    refine wpAny_setField_rec hz₄ (by simp) fun h₅ _ hs₅ => hE h₅ e tk₂ (fun c o c1 c2 c3 c4 x => hs₅.extBut _ _ c1 (hs₄ _ _ c4 (hs₃.extBut _ _ c2 (hs₂.extBut _ _ c3 (hs₁.extBut _ _ c1 x))))) ⟨oe, hs₅.extBut _ _ hez hoe, hce⟩
  · rw [Nat.min_eq_left hge] at a1 a2
    refine wpAny_bind (D1.done _ _ _ a1 fun h₂ e hs₂ he => ?_)
    obtain ⟨oe, hoe, hce⟩ := he
    have hz₂ : IsZip h₂ z TI TO .ellipsis := hs₂ _ _ zi1 hz₁
    have hez : e ≠ z := fun x => by
      subst x
      rw [hz₂] at hoe
      obtain rfl := Option.some.inj hoe
      simp at hce
    refine wpAny_setField_rec hz₂ (by simp) fun h₃ _ hs₃ => hE h₃ e tk₀ (fun c o c1 _ c3 _ x => hs₃.extBut _ _ c1 (hs₂ _ _ c3 (hs₁.extBut _ _ c1 x))) ⟨oe, hs₃.extBut _ _ hez hoe, hce⟩
theorem walks_zip (D1 : Draws prog w A.in1 i1 fp1 n1 P1 St1) (D2 : Draws prog w A.in1 i2 fp2 n2 P2 St2) (Z : ZApart z TI TO i1 i2 fp1 fp2) :
    WalksT prog w A z (z :: TI :: TO :: (fp1 ++ fp2)) [z, TO, i1, i2] (min n1 n2)
      (fun i vals => ∃ x y, P1 i x ∧ P2 i y ∧ vals = #[x, y])
      (fun i h => IsZip h z TI TO .none ∧ IsPair h TI (.ref i1) (.ref i2) ∧ (∃ a b, IsPair h TO a b) ∧ St1 i h ∧ St2 i h)
      (fun i T h => IsZip h z TI TO (rawInt T) ∧ IsPair h TI (.ref i1) (.ref i2) ∧ (∃ a b, IsPair h TO a b) ∧ St1 (i + 1) h ∧ St2 (i + 1) h ∧ T ≠ z ∧ T ≠ TO ∧ T ≠ i1 ∧ T ≠ i2) where
  sub := fun c hc => by
    simp only [List.mem_cons, List.not_mem_nil, or_false] at hc
    rcases hc with rfl | rfl | rfl | rfl
    · exact .head _
    · exact .tail _ (.tail _ (.head _))
    · exact .tail _ (.tail _ (.tail _ (List.mem_append_left _ Z.m1)))
    · exact .tail _ (.tail _ (.tail _ (List.mem_append_right _ Z.m2)))
  frame := fun i h h' hst hk => by
    obtain ⟨hz, hTI, ⟨a, b, hTO⟩, h1, h2⟩ := hst
    exact ⟨hk z (.head _) _ hz, hk TI (.tail _ (.head _)) _ hTI, ⟨a, b, hk TO (.tail _ (.tail _ (.head _))) _ hTO⟩,
      D1.frame _ _ _ h1 fun c hc o e => hk c (.tail _ (.tail _ (.tail _ (List.mem_append_left _ hc)))) o e, D2.frame _ _ _ h2 fun c hc o e => hk c (.tail _ (.tail _ (.tail _ (List.mem_append_right _ hc)))) o e⟩
  item := fun i s Q E hi hst hQ => by
    obtain ⟨hz, hTI, ⟨a, b, hTO⟩, h1, h2⟩ := hst
    have hT : s.TypeIs (.ref z) "zip" := ⟨_, hz, rfl⟩
    have TI1 : TI ≠ i1 := Z.TI1
    have lt : ∀ {c o}, s.heap.get? c = some o → s.heap.objs.size ≠ c := fun e => Nat.ne_of_gt (Heap.lt_size e)
    unfold pyNext
    refine wpAny_bind (wpAny_attempt (wpAny_callSpecial?_slot (name := Str.ofString "__next__") hT F.slot_zip_next
      (wpAny_call_entry F.slot_zip_next hT F.entry_zip_next (zip_item D1 D2 Z hz hTI hTO h1 h2 (Nat.lt_of_lt_of_le hi (Nat.min_le_left ..)) (Nat.lt_of_lt_of_le hi (Nat.min_le_right ..)) fun x y h' tk p1 p2 a1 a2 a3 a4 a5 hk => wpAny_pure ?_) (F.args_zip_next_1 _))))
    obtain ⟨_, l1⟩ := D1.live _ _ h1
    obtain ⟨_, l2⟩ := D2.live _ _ h2
    exact hQ s.heap.objs.size #[x, y] h' tk ⟨x, y, p1, p2, rfl⟩ (Nat.le_refl _) ⟨_, a5, rfl, _, rfl⟩
      ⟨a1, hk _ _ Z.TIz Z.TITO Z.TI1 Z.TI2 hTI, ⟨_, _, a2⟩, a3, a4, lt hz, lt hTO, lt l1, lt l2⟩
      fun c o hc e => hk c o (fun x => hc (x ▸ .head _)) (fun x => hc (x ▸ .tail _ (.head _))) (fun x => hc (x ▸ .tail _ (.tail _ (.head _)))) (fun x => hc (x ▸ .tail _ (.tail _ (.tail _ (.head _))))) e
  go := fun elts k pos i T s Q E hm hQ => by
    obtain ⟨hz, hTI, ⟨a, b, hTO⟩, h1, h2, _⟩ := hm
    exact wpAny_letOwnedTupleGo_zip hz fun h' hz' hs' => hQ h' ⟨hz', hs'.extBut _ _ Z.TIz hTI, ⟨a, b, hs'.extBut _ _ Z.TOz hTO⟩, D1.frame _ _ _ h1 fun c hc o e => hs'.extBut _ _ (fun q => Z.z1 (q ▸ hc)) e, D2.frame _ _ _ h2 fun c hc o e => hs'.extBut _ _ (fun q => Z.z2 (q ▸ hc)) e⟩
      fun c o hc e => hs'.extBut _ _ (fun x => hc (x ▸ .head _)) e
  apart := fun i T h hm hT => by
    obtain ⟨_, _, _, _, _, t1, t2, t3, t4⟩ := hm
    simp only [List.mem_cons, List.not_mem_nil, or_false] at hT
    rcases hT with e | e | e | e
    · exact t1 e
    · exact t2 e
    · exact t3 e
    · exact t4 e
  done := fun s Q E hst hQ => by
    obtain ⟨hz, hTI, ⟨a, b, hTO⟩, h1, h2⟩ := hst
    have hT : s.TypeIs (.ref z) "zip" := ⟨_, hz, rfl⟩
    unfold pyNext
    refine wpAny_bind (wpAny_attempt (wpAny_callSpecial?_slot (name := Str.ofString "__next__") hT F.slot_zip_next
      (wpAny_call_entry F.slot_zip_next hT F.entry_zip_next (zip_end D1 D2 Z hz hTI hTO h1 h2 fun h' e tk hk he => ?_) (F.args_zip_next_1 _))))
    obtain ⟨o, ho, hc⟩ := he
    refine wpAny_bind (wpAny_isInstance (T := "StopIteration") (b := true) ⟨o, ho, hc⟩ isSubtype_stop ?_)
    exact wpAny_pure (hQ h' tk fun c o hc e => hk c o (fun x => hc (x ▸ .head _)) (fun x => hc (x ▸ .tail _ (.head _))) (fun x => hc (x ▸ .tail _ (.tail _ (.head _)))) (fun x => hc (x ▸ .tail _ (.tail _ (.tail _ (.head _))))) e)
  self := fun i s Q E hst hQ => wpAny_pyIter_zip hst.1 hQ
end
end Mine
end

section
namespace Mine
open PySem PySem.Calls PyProof.Rows
noncomputable abbrev zh1 (h : Heap) (o1 : Obj) : Heap := h.push o1
noncomputable abbrev zh2 (h : Heap) (o1 o2 : Obj) : Heap := (zh1 h o1).push o2
noncomputable abbrev zh3 (h : Heap) (o1 o2 : Obj) : Heap := (zh2 h o1 o2).push { cls := .type "tuple", data := .seq #[.ref h.objs.size, .ref (zh1 h o1).objs.size] }
noncomputable abbrev zh4 (h : Heap) (o1 o2 : Obj) : Heap := (zh3 h o1 o2).push { cls := .type "tuple", data := .seq #[.none, .none] }
noncomputable abbrev zh5 (h : Heap) (o1 o2 : Obj) : Heap := (zh4 h o1 o2).push { cls := .type "zip", data := .fields #[.none, .bool false, .bool false, .ref (zh2 h o1 o2).objs.size, .ref (zh3 h o1 o2).objs.size] }
noncomputable def Itr (C : Heap → Prop) (v : Value) (o : Obj) : Prop := ∀ {prog : Program} {w : World} {A : Around} {Q : Value → Shared → Prop} {E : Value → Shared → Prop} {s : Shared}, C s.heap → Q (.ref s.heap.objs.size) { s with heap := s.heap.push o } → wpAny (model prog w) A (pyIter v) Q E s
theorem meets_zip {va vb : Value} {o1 o2 : Obj} {C : Heap → Prop} (hC : ∀ h o, C h → C (h.push o)) (p1 : Itr C va o1) (p2 : Itr C vb o2) :
    Meets (Builtin.«zip.__new__» ⟨[.type "zip", va, vb], []⟩) (fun _ R s => C s.heap ∧ R (.ok (.ret (.ref (zh4 s.heap o1 o2).objs.size))) { s with heap := zh5 s.heap o1 o2 }) :=
  .of_wp fun prog w A R s h => by
    obtain ⟨hp, g, d, tk, os⟩ := s; obtain ⟨hl1, h⟩ := h
    have hsub := sub_zip
    have q1 : ∀ {A : Around} {Q : Value → Shared → Prop} {E : Value → Shared → Prop}, Q (.ref hp.objs.size) ⟨hp.push o1, g, d, tk, os⟩ → wpAny (model prog w) A (pyIter va) Q E ⟨hp, g, d, tk, os⟩ := fun h => p1 hl1 h
    have q2 : ∀ {A : Around} {Q : Value → Shared → Prop} {E : Value → Shared → Prop}, Q (.ref (hp.push o1).objs.size) ⟨(hp.push o1).push o2, g, d, tk, os⟩ → wpAny (model prog w) A (pyIter vb) Q E ⟨hp.push o1, g, d, tk, os⟩ := fun h => p2 (hC _ _ hl1) h
    wp_walk using q1, q2
    exact ⟨_, rfl, h⟩
theorem call_zip {prog : Program} {w : World} {A : Around} {E : Value → Shared → Prop} {s : Shared} {va vb : Value} {o1 o2 : Obj} {C : Heap → Prop} {Q : Value → Shared → Prop} (hC : ∀ h o, C h → C (h.push o)) (p1 : Itr C va o1) (p2 : Itr C vb o2)
    (hs : C s.heap) (h : Q (.ref (zh4 s.heap o1 o2).objs.size) { s with heap := zh5 s.heap o1 o2 }) :
    wpAny (model prog w) A (call (.type "zip") [va, vb]) Q E s := by
  refine callType_new F.called_zip (by decide) (F.typeCall_zip_2 _ _) (F.newCall_zip_2 _ _) (fun obj => F.args_object_init_3 obj _ _) F.entry_zip_new (meets_zip hC p1 p2) ⟨hs, ?_⟩
  exact ⟨⟨_, Heap.get?_push_size _ rfl, rfl⟩, h⟩
end Mine
end

section
namespace Mine
variable {sc : Scope} {mc : List Str}
open PySem PySem.Calls PyProof.Rows
section
variable {G : Gl} {A : Around} {act : Act sc mc} {kp : Kept} {adr : Str → Addr} {ρ : LEnv} {S S' : Fz} {s s' : Shared} {d d₁ d₂ : D} {ds xs ys : List D} {n : Nat} {pos : Pos}
theorem Stp.freezeNew {a : Addr} {o : Obj} (st : Stp G S s S s') (ho : s'.heap.get? a = some o) (hc : o.cls ≠ .none) (hn : s.heap.get? a = none) (hS : S a = none) : Stp G S s (S.put a o) s' where
  inv := st.inv.freeze ho hc hS
  sub := Fz.sub_put hS
  new := fun b o' e => by
    by_cases q : b = a
    · exact .inr (q ▸ hn)
    · rw [Fz.put_ne _ _ q] at e; exact .inl e
  keep := st.keep
  gens := st.gens
noncomputable def Opn (G : Gl) (d : D) (xs : List D) : Prop := ∀ S s v, Inv G S s → Is G S v d → ∃ o, o.isFreed = false ∧ o.cls ≠ .none ∧ Itr (fun h => ∀ a o, S a = some o → h.get? a = some o) v o ∧
  ∀ it, S it = none → ∃ fp m P St, xs.length = m ∧ (∀ A : Around, A.handled = none → Draws G.prog G.w A it (it :: fp) m P St) ∧ (∀ b ∈ fp, ∃ o, S b = some o) ∧ (∀ h : Heap, (∀ a o, S a = some o → h.get? a = some o) → h.get? it = some o → St 0 h) ∧ ∀ i v, P i v → ∃ d, xs[i]? = some d ∧ Is G S v d
theorem Opn.list : Opn G (.list ds) ds := fun S s v I i => by
  obtain ⟨a, o, m, vs, rfl, h1, hc, hd, t⟩ := i.listI
  refine ⟨{ cls := .type "list_iterator", data := .fields #[.ref a, .int 0 0] }, rfl, (fun e => nomatch e), fun hs q => wpAny_pyIter_list ⟨o, hs _ _ h1, hc, m, hd⟩ q, fun it hit => ?_⟩
  refine ⟨[a], _, _, _, (by rw [List.size_toArray, t.length]), fun A hA => Draws.list hA it a (fun q => by rw [q, hit] at h1; exact nomatch h1) vs.toArray, fun b hb => ⟨o, List.mem_singleton.mp hb ▸ h1⟩, fun h hs hi => ⟨⟨_, hi, rfl, rfl⟩, ⟨o, hs _ _ h1, hc, m, hd⟩⟩, fun i v hv => t.get' (by simpa using hv)⟩
theorem Opn.tuple : Opn G (.tuple ds) ds := fun S s v I i => by
  obtain ⟨a, o, m, vs, rfl, h1, hc, hd, t⟩ := i.tupleI
  refine ⟨{ cls := .type "tuple_iterator", data := .fields #[.ref a, .int 0 0] }, rfl, (fun e => nomatch e), fun hs q => wpAny_pyIter_tuple ⟨o, hs _ _ h1, hc, m, hd⟩ q, fun it hit => ?_⟩
  refine ⟨[a], _, _, _, (by rw [List.size_toArray, t.length]), fun A hA => Draws.tuple hA it a (fun q => by rw [q, hit] at h1; exact nomatch h1) vs.toArray, fun b hb => ⟨o, List.mem_singleton.mp hb ▸ h1⟩, fun h hs hi => ⟨⟨_, hi, rfl, rfl⟩, ⟨o, hs _ _ h1, hc, m, hd⟩⟩, fun i v hv => t.get' (by simpa using hv)⟩
theorem Opn.range {x y : Int} (hx : -1000000 ≤ x) (hx' : x ≤ 1000000) (hy : -1000000 ≤ y) (hy' : y ≤ 1000000) : Opn G (.range x y) ((ri x y).map .int) := fun S s v I i => by
  obtain ⟨a, t, u, w, rfl, h1⟩ := i.rangeI
  have hs := small_one (a := x) (b := y) (by lia) (by lia) (by lia) (by lia)
  refine ⟨{ cls := .type "range_iterator", data := .fields #[rawInt x, rawInt (Builtin.Range.rangeSize x y 1), rawInt 1] }, rfl, (fun e => nomatch e), fun hh q => wpAny_pyIter_range (hh _ _ h1) hs q, fun it hit => ?_⟩
  have e : ((ri x y).map D.int).length = (y - x).toNat := by simp [ri]
  refine ⟨[], _, _, _, e, fun A hA => Draws.range hA it x (y - x).toNat, (fun b hb => nomatch hb), fun h hs hi => ?_, fun i v hv => ?_⟩
  · rw [rangeSize_nat] at hi
    show IsRangeIter h it (x + ((0 : Nat) : Int)) (((y - x).toNat : Int) - ((0 : Nat) : Int)) 1
    rw [show x + ((0 : Nat) : Int) = x by simp, show (((y - x).toNat : Int) - ((0 : Nat) : Int)) = ((y - x).toNat : Int) by simp]
    exact hi
  · obtain ⟨hi, t, rfl⟩ := hv
    exact ⟨.int (x + i), by simp [ri, hi], .int ..⟩
noncomputable def zipDs (xs ys : List D) : List D := List.zipWith (fun a b => D.tuple [a, b]) xs ys
theorem zipDs_len : (zipDs xs ys).length = min xs.length ys.length := by simp [zipDs]
theorem zipDs_get {i : Nat} {a b : D} (h1 : xs[i]? = some a) (h2 : ys[i]? = some b) : (zipDs xs ys)[i]? = some (.tuple [a, b]) := by
  unfold zipDs
  rw [List.getElem?_zipWith, h1, h2]
structure ZipMade (G : Gl) (S : Fz) (s : Shared) (xs ys : List D) (v : Value) (S₃ : Fz) (s₃ : Shared) : Prop where
  stp : Stp G S s S₃ s₃
  raw : ∀ R : Prop, (∀ z TI TO i1 i2 fp1 fp2 m1 m2 P1 P2 St1 St2, v = .ref z → ZApart z TI TO i1 i2 fp1 fp2 → xs.length = m1 → ys.length = m2 → (∀ A : Around, A.handled = none → Draws G.prog G.w A i1 fp1 m1 P1 St1) → (∀ A : Around, A.handled = none → Draws G.prog G.w A i2 fp2 m2 P2 St2) →
    (IsZip s₃.heap z TI TO .none ∧ IsPair s₃.heap TI (.ref i1) (.ref i2) ∧ (∃ a b, IsPair s₃.heap TO a b) ∧ St1 0 s₃.heap ∧ St2 0 s₃.heap) →
    (∀ b ∈ z :: TI :: TO :: (fp1 ++ fp2), b ∈ [z, TO, i1, i2] ∨ ∃ o, S₃ b = some o) → (∀ b ∈ [z, TO, i1, i2], S₃ b = none ∧ NoTab G b ∧ s.heap.get? b = none) →
    (∀ i x, P1 i x → ∃ d, xs[i]? = some d ∧ Is G S₃ x d) → (∀ i x, P2 i x → ∃ d, ys[i]? = some d ∧ Is G S₃ x d) → R) → R
theorem zip_made (hA : Room (n + 1) A) {fx ex ey : Expr} (hf : EvV G A act ρ fx (.type "zip")) (he : Ev G A act ρ ex d₁) (he2 : Ev G A act ρ ey d₂) (o1 : Opn G d₁ xs) (o2 : Opn G d₂ ys)
    (hev : eval (.Call fx [ex, ey] [] pos) act.env = (eval fx act.env >>= fun f => callWith pos f [] (backTo pos (starEach [ex, ey] act.env)) (backToKw pos (keywordEach [] act.env))) := by rfl) (hs : ∀ env, starEach [ex, ey] env = (false, eval ex env) :: starEach [ey] env := by intro _; rfl) (hs2 : ∀ env, starEach [ey] env = (false, eval ey env) :: starEach [] env := by intro _; rfl) :
    ∀ kp adr S s, OK G act kp adr ρ S s → wpAny G.M A (eval (.Call fx [ex, ey] [] pos) act.env) (fun v s₃ => ∃ S₃, ZipMade G S s xs ys v S₃ s₃) No s := fun kp adr S s O => by
  rw [hev]
  refine wpAny_bind (wp_seq (hf kp adr S s O) fun S₁ v s₁ st e => ?_)
  subst e
  refine call_args (.type _) (Evs.cons he (Evs.cons he2 .nil hs2) hs) (O.step st) fun S₂ s₂ vs st₂ is => ?_
  obtain ⟨va, vb, rfl, ia, ib⟩ := alls2 is
  have I := st₂.inv
  have sub : ∀ a o, S₂ a = some o → s₂.heap.get? a = some o := I.sub
  obtain ⟨oa, fa, ca, ita, da⟩ := o1 S₂ s₂ va I ia
  obtain ⟨ob, fb, cb, itb, db⟩ := o2 S₂ s₂ vb I ib
  refine call_zip (C := fun h => ∀ a o, S₂ a = some o → h.get? a = some o) (fun h o C a o' e => Heap.get?_push_of_some _ (C a o' e)) ita itb sub ?_
  have z1 : (zh1 s₂.heap oa).objs.size = s₂.heap.objs.size + 1 := Heap.size_push ..
  have z2 : (zh2 s₂.heap oa ob).objs.size = s₂.heap.objs.size + 2 := by rw [Heap.size_push, z1]
  have z3 : (zh3 s₂.heap oa ob).objs.size = s₂.heap.objs.size + 3 := by rw [Heap.size_push, z2]
  have z4 : (zh4 s₂.heap oa ob).objs.size = s₂.heap.objs.size + 4 := by rw [Heap.size_push, z3]
  have k5 : ∀ {b o}, (zh4 s₂.heap oa ob).get? b = some o → (zh5 s₂.heap oa ob).get? b = some o := fun e => Heap.get?_push_of_some _ e
  have g5 : (zh5 s₂.heap oa ob).get? (zh4 s₂.heap oa ob).objs.size = some _ := Heap.get?_push_size _ rfl
  have g4 : (zh5 s₂.heap oa ob).get? (zh3 s₂.heap oa ob).objs.size = some _ := k5 (Heap.get?_push_size _ rfl)
  have g3 : (zh5 s₂.heap oa ob).get? (zh2 s₂.heap oa ob).objs.size = some _ := k5 (Heap.get?_push_of_some _ (Heap.get?_push_size _ rfl))
  have g2 : (zh5 s₂.heap oa ob).get? (zh1 s₂.heap oa).objs.size = some ob := k5 (Heap.get?_push_of_some _ (Heap.get?_push_of_some _ (Heap.get?_push_size _ fb)))
  have g1 : (zh5 s₂.heap oa ob).get? s₂.heap.objs.size = some oa := k5 (Heap.get?_push_of_some _ (Heap.get?_push_of_some _ (Heap.get?_push_of_some _ (Heap.get?_push_size _ fa))))
  have hk : ∀ b o, s₂.heap.get? b = some o → (zh5 s₂.heap oa ob).get? b = some o := fun b o e => k5 (Heap.get?_push_of_some _ (Heap.get?_push_of_some _ (Heap.get?_push_of_some _ (Heap.get?_push_of_some _ e))))
  have fresh : ∀ b, s₂.heap.objs.size ≤ b → s₂.heap.get? b = none := fun b hb => Heap.get?_none_of_le hb
  have freshS : ∀ b, s₂.heap.objs.size ≤ b → S₂ b = none := fun b hb => by
    cases q : S₂ b with
    | none => rfl
    | some o => have := I.sub _ _ q; rw [fresh b hb] at this; exact nomatch this
  have ltS : ∀ {b o}, S₂ b = some o → b < s₂.heap.objs.size := fun e => Heap.lt_size (I.sub _ _ e)
  generalize hh : zh5 s₂.heap oa ob = h' at g1 g2 g3 g4 g5 hk ⊢
  rw [z1] at g2 g3
  rw [z2] at g3 g5
  rw [z3] at g4 g5
  rw [z4] at g5 ⊢
  generalize hN : s₂.heap.objs.size = N at *
  obtain ⟨fp1, m1, P1, St1, l1, D1, f1, s1, p1⟩ := da N (freshS N (Nat.le_refl _))
  obtain ⟨fp2, m2, P2, St2, l2, D2, f2, s2, p2⟩ := db (N + 1) (freshS _ (Nat.le_succ _))
  have sub' : ∀ a o, S₂ a = some o → h'.get? a = some o := fun a o e => hk a o (I.sub a o e)
  have in1 : ∀ b ∈ N :: fp1, b ≤ N := fun b hb => by
    rcases List.mem_cons.mp hb with rfl | hb
    · exact Nat.le_refl _
    · obtain ⟨o, ho⟩ := f1 b hb; exact Nat.le_of_lt (ltS ho)
  have in2 : ∀ b ∈ (N + 1) :: fp2, b < N ∨ b = N + 1 := fun b hb => by
    rcases List.mem_cons.mp hb with rfl | hb
    · exact .inr rfl
    · obtain ⟨o, ho⟩ := f2 b hb; exact .inl (ltS ho)
  have Z : ZApart (N + 4) (N + 2) (N + 3) N (N + 1) (N :: fp1) ((N + 1) :: fp2) :=
    ⟨by lia, by lia, by lia, by lia, by lia, fun h => by have := in1 _ h; lia, fun h => by have := in2 _ h; lia, fun h => by have := in1 _ h; lia, fun h => by have := in2 _ h; lia, fun h => by have := in2 _ h; lia, fun h => by have := in1 _ h; lia, .head _, .head _⟩
  have st3 : Stp G S₂ s₂ S₂ { s₂ with heap := h' } := I.keeps (t := s₂.toks) hk
  have st4 := st3.freezeNew (a := N + 2) g3 (fun e => nomatch e) (fresh _ (by lia)) (freshS _ (by lia))
  generalize hS : S₂.put (N + 2) _ = S₃ at st4
  have S3 : S₃ (N + 2) = some { cls := .type "tuple", data := .seq #[.ref N, .ref (N + 1)] } := by rw [← hS]; exact Fz.put_self ..
  have S3n : ∀ b, b ≠ N + 2 → S₃ b = S₂ b := fun b hb => by rw [← hS]; exact Fz.put_ne _ _ hb
  have hst : IsZip h' (N + 4) (N + 2) (N + 3) .none ∧ IsPair h' (N + 2) (.ref N) (.ref (N + 1)) ∧ (∃ a b, IsPair h' (N + 3) a b) ∧ St1 0 h' ∧ St2 0 h' := ⟨g5, g3, ⟨_, _, g4⟩, s1 h' sub' g1, s2 h' sub' g2⟩
  have hwr : ∀ b ∈ [N + 4, N + 3, N, N + 1], N ≤ b ∧ b ≠ N + 2 := fun b hb => by
    simp only [List.mem_cons, List.not_mem_nil, or_false] at hb
    rcases hb with rfl | rfl | rfl | rfl <;> exact ⟨by lia, by lia⟩
  have hfp : ∀ b ∈ (N + 4) :: (N + 2) :: (N + 3) :: ((N :: fp1) ++ ((N + 1) :: fp2)), b ∈ [N + 4, N + 3, N, N + 1] ∨ ∃ o, S₃ b = some o := fun b hb => by
    rcases List.mem_cons.mp hb with rfl | hb
    · exact .inl (.head _)
    rcases List.mem_cons.mp hb with rfl | hb
    · exact .inr ⟨_, S3⟩
    rcases List.mem_cons.mp hb with rfl | hb
    · exact .inl (.tail _ (.head _))
    rcases List.mem_append.mp hb with hb | hb
    · rcases List.mem_cons.mp hb with rfl | hb
      · exact .inl (.tail _ (.tail _ (.head _)))
      · obtain ⟨o, ho⟩ := f1 b hb; exact .inr ⟨o, st4.sub _ _ ho⟩
    · rcases List.mem_cons.mp hb with rfl | hb
      · exact .inl (.tail _ (.tail _ (.tail _ (.head _))))
      · obtain ⟨o, ho⟩ := f2 b hb; exact .inr ⟨o, st4.sub _ _ ho⟩
  refine ⟨S₃, (st.trans st₂).trans st4, fun R k => k (N + 4) (N + 2) (N + 3) N (N + 1) _ _ m1 m2 P1 P2 St1 St2 rfl Z l1 l2 D1 D2 hst hfp (fun b hb => ⟨by rw [S3n b (hwr b hb).2]; exact freshS b (hwr b hb).1, I.noTabFresh (fresh b (hwr b hb).1), ?_⟩) (fun i x hx => ?_) fun i x hx => ?_⟩
  · have hn := fresh b (hwr b hb).1
    cases q : s.heap.get? b with
    | none => rfl
    | some o' => have := (st.trans st₂).keep _ _ (I.noTabFresh hn) q; rw [hn] at this; exact nomatch this
  · obtain ⟨d, q1, q2⟩ := p1 i x hx
    exact ⟨d, q1, q2.mono st4.sub⟩
  · obtain ⟨d, q1, q2⟩ := p2 i x hx
    exact ⟨d, q1, q2.mono st4.sub⟩
theorem Src.zip (hA : Room (n + 1) A) {elts : List Expr} {kk : Nat} {tp : Pos} {fx ex ey : Expr} (hf : EvV G A act ρ fx (.type "zip")) (he : Ev G A act ρ ex d₁) (he2 : Ev G A act ρ ey d₂) (o1 : Opn G d₁ xs) (o2 : Opn G d₂ ys)
    (hev : eval (.Call fx [ex, ey] [] pos) act.env = (eval fx act.env >>= fun f => callWith pos f [] (backTo pos (starEach [ex, ey] act.env)) (backToKw pos (keywordEach [] act.env))) := by rfl) (hs : ∀ env, starEach [ex, ey] env = (false, eval ex env) :: starEach [ey] env := by intro _; rfl) (hs2 : ∀ env, starEach [ey] env = (false, eval ey env) :: starEach [] env := by intro _; rfl) :
    Src G A act ρ (.Tuple elts kk tp) (.Call fx [ex, ey] [] pos) (zipDs xs ys) := fun kp adr S s O => by
  refine wpAny_mono (zip_made hA hf he he2 o1 o2 hev hs hs2 kp adr S s O) (fun v s₃ ⟨S₃, hz⟩ => ?_) fun _ _ e => e
  have st := hz.stp
  refine hz.raw _ fun z TI TO i1 i2 fp1 fp2 m1 m2 P1 P2 St1 St2 e Z l1 l2 D1 D2 hst hfp hwr p1 p2 => ?_
  subst e
  have W := walks_zip (D1 A.in1 hA.handled) (D2 A.in1 hA.handled) Z
  refine W.self 0 _ _ _ hst ?_
  refine ⟨S₃, ⟨[z, TO, i1, i2], []⟩, st, fun a ha => (hwr a ha).2.2, (fun g hg => nomatch hg), ?_, Selfy.walksT W st.inv hst hfp⟩
  have := Yields.walksT (elts := elts) (kk := kk) (tp := tp) W (S₀ := S₃) (xs := zipDs xs ys) (by rw [zipDs_len, l1, l2]) hfp
    (fun i h hst b hb => by
      obtain ⟨hz, _, ⟨_, _, hTO⟩, h1, h2⟩ := hst
      simp only [List.mem_cons, List.not_mem_nil, or_false] at hb
      rcases hb with rfl | rfl | rfl | rfl
      · exact ⟨_, hz⟩
      · exact ⟨_, hTO⟩
      · exact (D1 A hA.handled).live _ _ h1
      · exact (D2 A hA.handled).live _ _ h2)
    (fun i vals hi hP' => by
      obtain ⟨x, y, hx, hy, rfl⟩ := hP'
      obtain ⟨d, q1, q2⟩ := p1 i x hx
      obtain ⟨e, r1, r2⟩ := p2 i y hy
      exact ⟨_, zipDs_get q1 r1, .cons q2 (.cons r2 .nil)⟩)
    (min m1 m2 - 0) 0 S₃ _ rfl (Nat.zero_le _) (Sub.refl _) st.inv hst fun b hb => ⟨(hwr b hb).1, (hwr b hb).2.1⟩
  rw [List.drop_zero] at this
  exact this
end
end Mine
end

section
namespace Mine
variable {sc : Scope} {mc : List Str}
open PySem PySem.Calls PyProof.Rows
section
variable {G : Gl} {A : Around} {act : Act sc mc} {kp : Kept} {adr : Str → Addr} {ρ : LEnv} {S S' : Fz} {s s' : Shared} {mg mb : Str → Option Value} {n : Nat} {pos : Pos}
theorem isCode_of {h : Heap} {c P : Addr} {ps : Array Value} (C : PySem.W.CodeHd h c P) (hP : h.get? P = some (tabObj ps)) (ht : TriplesOk ps.toList) : h.IsCode c P ps := by
  obtain ⟨o, vs, file, tf, flags, tg, inF, text, tt, h1, h2, h3, h4, h5, h6, h7, h8, h9, h10⟩ := C
  exact ⟨o, vs, file, tf, flags, tg, inF, text, tt, tabObj ps, h1, h3, h5, h6, h7, h8, h9, hP, rfl, ht, h10⟩
theorem tableAt_of {h : Heap} {c P : Addr} {ps : Array Value} (C : PySem.W.CodeHd h c P) (hP : h.get? P = some (tabObj ps)) : h.TableAt c P ps := by
  obtain ⟨o, vs, file, tf, flags, tg, inF, text, tt, h1, h2, h3, h4, _⟩ := C
  exact ⟨⟨o, vs, h1, h2, h3, h4⟩, hP⟩
theorem gen_code (I : Inv G S s) {qual : Str} {T : Tab} {cd : Value} {env : Env} {scope : Scope} (C : CodeTab G mg cd qual T pos) (hcd : env.code = cd) {Q : Value → Shared → Prop} {E : Value → Shared → Prop}
    (h : ∀ S' h' tk c', Stp G S s S' { s with heap := h', toks := tk } → (∀ b o, b ≠ T.P → s.heap.get? b = some o → h'.get? b = some o) → Q (.ref c') { s with heap := h', toks := tk }) :
    wpAny G.M A (genexprCode env pos qual scope) Q E s := by
  obtain ⟨c, hc, hC⟩ := C.code
  have hbs : ∀ a o, G.base a = some o → s.heap.get? a = some o := fun a o e => I.sub _ _ (I.base _ _ e)
  obtain ⟨ps, hP, hps⟩ := I.tab T (by rw [C.tabs]; exact .head _)
  rcases hps with rfl | ⟨c', oc, rfl, hSc, hgood⟩
  · refine wpAny_genexprCodeX (hcd.trans hc) (isCode_of (hC _ hbs) hP C.trip) (tableAt_of (hC _ hbs) hP) C.miss fun c' h' tk hx hge hlt hcode hrec htab _ => ?_
    obtain ⟨cc, oc, vs, t, ec, hoc, hdc, hq⟩ := hrec
    obtain rfl := PySem.Value.ref.inj ec
    have hST := I.tabS T (by rw [C.tabs]; exact .head _)
    have hnc : s.heap.get? c' = none := Heap.get?_none_of_le hge
    have hSc : S c' = none := by
      cases q : S c' with
      | none => rfl
      | some o => have := I.sub _ _ q; rw [hnc] at this; exact nomatch this
    have hcP : c' ≠ T.P := fun q => by rw [q, hP] at hnc; exact nomatch hnc
    have keep : ∀ b o, b ≠ T.P → s.heap.get? b = some o → h'.get? b = some o := hx
    refine h (S.put c' oc) h' tk c' ⟨⟨fun a o e => ?_, I.base.trans (Fz.sub_put hSc), fun t' ht' => ?_, fun t' ht' => ?_, I.bare, I.os⟩, Fz.sub_put hSc, fun a o e => ?_, fun b o nt e => keep b o (fun q => nt T (by rw [C.tabs]; exact .head _) q.symm) e, fun _ _ e => e⟩ keep
    · by_cases q : a = c'
      · subst q; rw [Fz.put_self] at e; obtain rfl := Option.some.inj e; exact hoc
      · rw [Fz.put_ne _ _ q] at e
        exact keep a o (fun q => by rw [q, hST] at e; exact nomatch e) (I.sub _ _ e)
    · rw [C.tabs] at ht'
      rw [List.mem_singleton.mp ht']
      exact ⟨_, htab.2, .inr ⟨c', oc, by rw [C.line, C.col], Fz.put_self .., by rw [C.good]; exact ⟨vs, t, hdc, hq⟩⟩⟩
    · rw [C.tabs] at ht'
      rw [List.mem_singleton.mp ht', Fz.put_ne _ _ (Ne.symm hcP)]
      exact hST
    · by_cases q : a = c'
      · exact .inr (q ▸ hnc)
      · rw [Fz.put_ne _ _ q] at e; exact .inl e
  · obtain ⟨ht, hf⟩ := codeAmong_hit (c := .ref c') C.trip C.miss C.line C.col
    exact wpAny_genexprCode_hit (hcd.trans hc) (isCode_of (hC _ hbs) hP ht) hf (h S s.heap s.toks c' (Stp.refl I) fun _ _ _ e => e)
end
end Mine
end

section
namespace Mine
variable {sc : Scope} {mc : List Str}
open PySem PySem.Calls PyProof.Rows
section
variable {G : Gl} {A : Around} {act : Act sc mc} {kp : Kept} {adr : Str → Addr} {ρ : LEnv} {S S' : Fz} {s s' : Shared} {mg mb : Str → Option Value} {n : Nat} {pos gpos zp p1 p2 p3 pa pb pt : Pos} {as bs : List Int} {xa xb : Str} {kt : Nat} {scope : Scope} {tx zx ex ey : Expr}
theorem Stp.noLimit (N : Names G mg mb) (I : Inv G S s) : s.heap.NoLimit := by
  obtain ⟨o, m, ho, hn, hm⟩ := N.lim
  exact ⟨m, hn.ns (I.sub _ _ (I.base _ _ ho)), hm⟩
noncomputable abbrev sumGen (xa xb : Str) (pa pb pt : Pos) (kt : Nat) (zx ex ey : Expr) (zp p1 p2 p3 gpos : Pos) (scope : Scope) : Expr :=
  .GeneratorExp (.BinOp (.Name xa p1) .Add (.Name xb p2) p3) [⟨.Tuple [.Name xa pa, .Name xb pb] kt pt, .Call zx [ex, ey] [] zp, [], 0⟩] scope gpos
theorem pass_all (n : Nat) : passing (fun _ => true) n 0 = List.range n := by
  unfold passing
  rw [List.drop_zero]
  exact List.filter_eq_self.mpr fun _ _ => rfl
theorem sum_gen (hA : Room (n + 2) A) (N : Names G mg mb) (O : OK G act kp adr ρ S s) {T : Tab} (C : CodeTab G mg act.env.code (act.env.qual ++ "<genexpr>") T gpos)
    (hz : EvV G A act ρ zx (.type "zip")) (he : Ev G A act ρ ex (.tuple (as.map .int))) (he2 : Ev G A act ρ ey (.tuple (bs.map .int))) (hsz : min as.length bs.length ≤ 1000)
    (hco : scope.isCoroutine = false) (hclos : closureFor scope act.env = pure []) (hcell : ∀ y ∈ scope.names, y.2 ≠ .cell) (h0 : scope.names.lookup (".0" : Str) = some NameKind.local)
    (hxa : scope.names.lookup xa = some .local) (hxb : scope.names.lookup xb = some .local) (hab : xa ≠ xb) (hkind : scope.kind = .function) (hda : (xa == ("__debug__" : Str)) = false) (hdb : (xb == ("__debug__" : Str)) = false)
    (hev : eval (.Call zx [ex, ey] [] zp) act.env = (eval zx act.env >>= fun f => callWith zp f [] (backTo zp (starEach [ex, ey] act.env)) (backToKw zp (keywordEach [] act.env)))) (hs : ∀ env, starEach [ex, ey] env = (false, eval ex env) :: starEach [ey] env) (hs2 : ∀ env, starEach [ey] env = (false, eval ey env) :: starEach [] env)
    (hfold : ∀ x, genFold (.Call zx [ex, ey] [] zp) act.env x = pure x) :
    wpAny G.M A (eval (sumGen xa xb pa pb pt kt zx ex ey zp p1 p2 p3 gpos scope) act.env) (fun v s' => wpAny G.M A (call (.type "tuple") [v]) (Post G S s fun S' v => Is G S' v (.tuple ((List.zipWith (· + ·) as bs).map .int))) No s') No s := by
  refine wpAny_GeneratorExp_walksQTD hA.handled hco hclos hcell h0 hxa hxb hab hkind hA.lt (wpAny_mono (zip_made (n := n + 1) hA hz he he2 Opn.tuple Opn.tuple hev hs hs2 kp adr S s O) (fun v s₁ ⟨S₁, hzm⟩ => ?_) fun _ _ e => e) hfold
  have st := hzm.stp
  refine hzm.raw _ fun z TI TO i1 i2 fp1 fp2 m1 m2 P1 P2 St1 St2 e Z l1 l2 D1 D2 hst hfp hwr q1 q2 => ?_
  subst e
  refine wpAny_pyIter_zip hst.1 ⟨Stp.noLimit N st.inv, ?_⟩
  refine gen_code st.inv C rfl fun S₂ h₂ tk₂ c' st₂ keep₂ => ?_
  have I₂ := st₂.inv
  obtain ⟨bm, o, b1, b2, b3, b4, b5, b6, b7, b8⟩ := C.blt _ fun a o e => I₂.sub _ _ (I₂.base _ _ e)
  obtain ⟨og, hog, hng⟩ := N.g
  rw [O.glob]
  refine wpAny_builtinsFor (hng.ns (I₂.sub _ _ (I₂.base _ _ hog))) b1 b2 b5 b6 b7 b8 ?_
  have hT : T ∈ G.tabs := by rw [C.tabs]; exact .head _
  have W : ∀ A' : Around, A'.handled = none → WalksU G.prog G.w A' z _ _ _ _ _ _ := fun A' hA' => (walks_zip (A := A') (D1 A'.in1 hA') (D2 A'.in1 hA') Z).toU
  have fpP : ∀ b ∈ z :: TI :: TO :: (fp1 ++ fp2), b ≠ T.P := fun b hb => by
    rcases hfp b hb with h | ⟨o, ho⟩
    · exact fun q => (hwr b h).2.1 T hT q.symm
    · exact fun q => st.inv.noTabS ho T hT q.symm
  have hst₂ := (W A hA.handled).frame 0 _ h₂ hst fun b hb o e => keep₂ b o (fpP b hb) e
  have fplt : ∀ b ∈ z :: TI :: TO :: (fp1 ++ fp2), b < h₂.objs.size := fun b hb => by
    have alive : ∃ o, s₁.heap.get? b = some o := by
      rcases hfp b hb with h | ⟨o, ho⟩
      · obtain ⟨x1, x2, ⟨_, _, x3⟩, x4, x5⟩ := hst
        simp only [List.mem_cons, List.not_mem_nil, or_false] at h
        rcases h with rfl | rfl | rfl | rfl
        · exact ⟨_, x1⟩
        · exact ⟨_, x3⟩
        · exact (D1 A hA.handled).live _ _ x4
        · exact (D2 A hA.handled).live _ _ x5
      · exact ⟨o, st.inv.sub _ _ ho⟩
    obtain ⟨o, ho⟩ := alive
    exact Heap.lt_size (keep₂ b o (fpP b hb) ho)
  have wrS : ∀ b ∈ [z, TO, i1, i2], S₁ b = none ∧ NoTab G b := fun b hb => ⟨(hwr b hb).1, (hwr b hb).2.1⟩
  have wr2 : ∀ b ∈ [z, TO, i1, i2], S₂ b = none := fun b hb => by
    cases q : S₂ b with
    | none => rfl
    | some o' =>
      rcases st₂.new b o' q with h | h
      · rw [(wrS b hb).1] at h; exact nomatch h
      · obtain ⟨o, ho⟩ : ∃ o, s₁.heap.get? b = some o := by
          obtain ⟨x1, x2, ⟨_, _, x3⟩, x4, x5⟩ := hst
          simp only [List.mem_cons, List.not_mem_nil, or_false] at hb
          rcases hb with rfl | rfl | rfl | rfl
          · exact ⟨_, x1⟩
          · exact ⟨_, x3⟩
          · exact (D1 A hA.handled).live _ _ x4
          · exact (D2 A hA.handled).live _ _ x5
        rw [ho] at h; exact nomatch h
  refine ⟨z, _, _, _, _, _, _, fun _ => true, fun i y => ∃ t, y = .int (((List.zipWith (· + ·) as bs)[i]?).getD 0) t, rfl, W, (fun i vals hv => by obtain ⟨x, y, _, _, e⟩ := hv; exact ⟨x, y, e⟩), hst₂, fplt, Stp.noLimit N I₂, fun hm => ?_, fun href hhref => ⟨fun A' E' i va vb s₂ m₂ hh hd hu hP hn hma hmb hk => ?_, fun A' E' i va vb s₂ m₂ hh hd hu hP hpz hn hma hmb hk => ?_⟩, fun a h₅ tk gs hb hlt hsz5 hk5 WS hat => ?_⟩
  · obtain ⟨o, m, ho, _⟩ := N.lim
    have := I₂.base _ _ ho
    rw [wr2 _ hm] at this
    exact nomatch this
  · exact wpAny_pure ⟨rfl, _, _, rfl, fun _ _ e => e⟩
  · obtain ⟨x, y, hx, hy, e⟩ := hP
    obtain ⟨e1, e2⟩ : va = x ∧ vb = y := by simpa using congrArg Array.toList e
    subst e1 e2
    obtain ⟨d1, r1, r2⟩ := q1 i va hx
    obtain ⟨d2, r3, r4⟩ := q2 i vb hy
    rw [List.getElem?_map] at r1 r3
    obtain ⟨a, ha, rfl⟩ := Option.map_eq_some_iff.mp r1
    obtain ⟨b, hb, rfl⟩ := Option.map_eq_some_iff.mp r3
    obtain ⟨t1, rfl⟩ := r2.intI
    obtain ⟨t2, rfl⟩ := r4.intI
    refine wpAny_BinOp (wpAny_Name (wpAny_loadName_local hkind hxa hn hma ?_) hda)
    refine wpAny_Name (wpAny_loadName_local hkind hxb hn hmb ?_) hdb
    refine add_int ⟨⟨s₂.toks, ?_⟩, s₂.heap, _, rfl, fun _ _ e => e⟩
    rw [List.getElem?_zipWith, ha, hb]
    rfl
  · have len : (passing (fun _ => true) (min m1 m2) 0).length = min as.length bs.length := by
      rw [List.length_map] at l1 l2
      rw [← l1, ← l2]
      rw [pass_all, List.length_range]
    have hz5 : h₂.objs.size < h₅.objs.size := by rw [hsz5]; lia
    refine call_tuple_gen (A := A) WS.in4_3 (fun i s' st => st.1.typeIs) hat (fun b hb => ?_) (.head _) (fun s' acc hm hacc => ?_) (by rw [len, sizeLine_eq]; lia)
    · show b < h₅.objs.size
      rcases List.mem_cons.mp hb with rfl | hb
      · rw [hsz5]; exact Nat.lt_succ_self _
      rcases List.mem_cons.mp hb with rfl | hb
      · exact hz5
      · exact Nat.lt_trans (List.mem_range.mp hb) hz5
    · have wrn : ∀ b, b ∉ [z, TO, i1, i2] → b < h₂.objs.size → ∀ o, h₂.get? b = some o → s'.heap.get? b = some o := fun b hb hl o e => hm.heap b o (fun q => by
        rcases List.mem_cons.mp q with q | q
        · rw [q] at hl; exact Nat.lt_irrefl _ hl
        · exact hb q) (hk5 b o e)
      have notwr : ∀ b o, S₂ b = some o → b ∉ [z, TO, i1, i2] := fun b o e q => by rw [wr2 b q] at e; exact nomatch e
      have gk : ∀ k x, s₁.gens[k]? = some x → s'.gens[k]? = some x := fun k x e => by
        have hlt : k < s₁.gens.size := by
          rw [Array.getElem?_eq_some_iff] at e; exact e.1
        have e2 : (s₁.gens.push gs)[k]? = some x := by rw [Array.getElem?_push_lt hlt]; exact (Array.getElem?_eq_getElem hlt).symm.trans e
        rcases hm.gens with q | ⟨⟨_, q⟩, _⟩
        · rw [q]; exact e2
        · exact (q k (Nat.ne_of_lt hlt)).trans e2
      have gb : AllBare s'.gens := by
        have pb : AllBare (s₁.gens.push gs) := I₂.bare.push hb
        rcases hm.gens with q | ⟨⟨qs, q⟩, q'⟩
        · rw [q]; exact pb
        · intro y hy
          obtain ⟨i, hi, rfl⟩ := Array.mem_iff_getElem.mp hy
          by_cases e : i = s₁.gens.size
          · exact q' _ (by rw [← e]; exact Array.getElem?_eq_getElem hi)
          · have := q i e
            rw [Array.getElem?_eq_getElem hi] at this
            exact pb _ (Array.mem_of_getElem? this.symm)
      have stF : Stp G S s S₂ s' := ⟨⟨fun b o e => wrn b (notwr b o e) (Heap.lt_size (I₂.sub _ _ e)) o (I₂.sub _ _ e), I₂.base, fun t ht => by
          obtain ⟨ps, x1, x2⟩ := I₂.tab t ht
          exact ⟨ps, wrn _ (fun q => (wrS _ q).2 t ht rfl) (Heap.lt_size x1) _ x1, x2⟩, I₂.tabS, gb, hm.os.trans I₂.os⟩, st.sub.trans st₂.sub, (st.trans st₂).new, fun b o nt e => by
          have e2 := (st.trans st₂).keep b o nt e
          exact wrn b (fun q => by rw [(hwr b q).2.2] at e; exact nomatch e) (Heap.lt_size e2) o e2, fun k x e => gk k x (st.gens k x e)⟩
      have stP := stF.inv.push { cls := .type "tuple", data := .seq acc } rfl (fun e => nomatch e) (t := s'.toks)
      refine ⟨_, stF.trans stP, .tuple (Fz.put_self ..) rfl (show Data.seq acc = .seq acc.toList.toArray 0 by simp) ?_⟩
      have ha : acc.size = min as.length bs.length := hacc.1.trans len
      refine alls_of_get (by rw [Array.length_toList, ha]; simp) fun j v hv => ?_
      obtain ⟨i, hi, t, rfl⟩ := hacc.2 j v (by simpa using hv)
      have hj : j < min as.length bs.length := by
        rw [Array.getElem?_toList, Array.getElem?_eq_some_iff] at hv
        rw [← ha]; exact hv.1
      have : i = j := by
        rw [pass_all, List.getElem?_range (by rw [List.length_map] at l1 l2; rw [← l1, ← l2]; exact hj)] at hi
        exact (Option.some.inj hi).symm
      subst this
      have hlt : i < (List.zipWith (· + ·) as bs).length := by simpa using hj
      refine ⟨_, ?_, .int _ t⟩
      rw [List.getElem?_map, List.getElem?_eq_getElem hlt]
      rfl
end
end Mine
end

section
namespace Mine
variable {sc : Scope} {mc : List Str}
open PySem PySem.Calls PyProof.Rows
section
variable {G : Gl} {A : Around} {act : Act sc mc} {kp : Kept} {adr : Str → Addr} {ρ : LEnv} {S S' : Fz} {s s' : Shared} {mg mb : Str → Option Value} {n : Nat} {pos gpos zp p1 p2 p3 pa pb pt : Pos} {as bs : List Int} {xa xb : Str} {kt : Nat} {scope : Scope} {tx zx ex ey : Expr}
theorem Ev.tupSum (hA : Room (n + 2) A) (N : Names G mg mb) {T : Tab} (C : CodeTab G mg act.env.code (act.env.qual ++ "<genexpr>") T gpos)
    (ht : EvV G A act ρ tx (.type "tuple")) (hz : EvV G A act ρ zx (.type "zip")) (he : Ev G A act ρ ex (.tuple (as.map .int))) (he2 : Ev G A act ρ ey (.tuple (bs.map .int))) (hsz : min as.length bs.length ≤ 1000)
    (hclos : closureFor scope act.env = pure []) (hab : xa ≠ xb := by decide) (hco : scope.isCoroutine = false := by rfl) (hcell : ∀ y ∈ scope.names, y.2 ≠ .cell := by decide) (h0 : scope.names.lookup (".0" : Str) = some NameKind.local := by decide)
    (hxa : scope.names.lookup xa = some .local := by decide) (hxb : scope.names.lookup xb = some .local := by decide) (hkind : scope.kind = .function := by rfl) (hda : (xa == ("__debug__" : Str)) = false := by decide) (hdb : (xb == ("__debug__" : Str)) = false := by decide)
    (hev : eval (.Call zx [ex, ey] [] zp) act.env = (eval zx act.env >>= fun f => callWith zp f [] (backTo zp (starEach [ex, ey] act.env)) (backToKw zp (keywordEach [] act.env))) := by rfl) (hs : ∀ env, starEach [ex, ey] env = (false, eval ex env) :: starEach [ey] env := by intro _; rfl) (hs2 : ∀ env, starEach [ey] env = (false, eval ey env) :: starEach [] env := by intro _; rfl)
    (hfold : ∀ x, genFold (.Call zx [ex, ey] [] zp) act.env x = pure x := by intro _; rfl)
    (hev2 : eval (.Call tx [sumGen xa xb pa pb pt kt zx ex ey zp p1 p2 p3 gpos scope] [] pos) act.env = (eval tx act.env >>= fun f => callWith pos f [] [(false, eval (sumGen xa xb pa pb pt kt zx ex ey zp p1 p2 p3 gpos scope) act.env)] []) := by rfl) :
    Ev G A act ρ (.Call tx [sumGen xa xb pa pb pt kt zx ex ey zp p1 p2 p3 gpos scope] [] pos) (.tuple ((List.zipWith (· + ·) as bs).map .int)) := fun kp adr S s O => by
  rw [hev2]
  refine wpAny_bind (wp_seq (ht kp adr S s O) fun S₁ v s₁ st e => ?_)
  subst e
  refine PyProof.Rows.callWith_type rfl (evalArgs_plain (Calls.spliced_cons (wpAny_mono (sum_gen hA N (O.step st) C hz he he2 hsz hco hclos hcell h0 hxa hxb hab hkind hda hdb hev hs hs2 hfold) (fun v s' h => Calls.spliced_nil ?_) fun _ _ e => e)))
  show wpAny G.M A (PySem.call (.type "tuple") [v]) _ _ s'
  exact wpAny_mono h (fun v s'' ⟨S', st', i⟩ => ⟨S', st.trans st', i⟩) fun _ _ e => e
end
end Mine
end

section
namespace Mine
open PySem PySem.Calls PyProof.Rows
section
variable {G : Gl} {A : Around} {n : Nat} {mg mb : Str → Option Value} {nm : Str} {params : Arguments} {body : List Stmt} {scope : Scope} {dflt kwd : Value} {fa : Addr} {ds : List D} {d : D}
theorem CallD.fnC {xs : List Str} (F : FnAt G mg nm params body scope dflt kwd fa) (N : Names G mg mb) (hA : Room (n + 1) A) (hfit : scopeFit scope = true) (hb : bindFit scope xs = true) (hl : xs.length = ds.length)
    (hbind : ∀ vs fd S s, vs.length = ds.length → fd.params = params → fd.defaults = dflt → fd.kwdefaults = kwd → Inv G S s → BindsTo s fd ⟨vs, []⟩ (xs.zip vs))
    (run : ∀ act : Act scope (cellNames scope.names), act.env.frame = some act.env.locals → (∃ o fd, G.base fa = some o ∧ o.data = .func fd ∧ act.env.code = fd.code ∧ act.env.qual = fd.qualname ++ ".<locals>.") → Run G (A.deeper act.env) act (execs body act.env) (zipEnv xs ds) fun fd _ => fd.val = d) : CallD G A (.ref fa) ds d := fun S s vs I r => by
  refine wpAny_call ?_
  (refine cps fun ZP zk => ?_; obtain ⟨o, fd, ho, hd, h1, h2, h3, h4, h5, h6, h7, h8, c, oc, cv, t, hc, hoc, hcd, hq⟩ := F.obj; refine zk ?_)
  have up : ∀ {a o}, G.base a = some o → s.heap.get? a = some o := fun e => I.sub _ _ (I.base _ _ e)
  simp only [scopeFit, Bool.and_eq_true, beq_iff_eq, Bool.not_eq_true', decide_eq_true_eq, List.all_eq_true, bne_iff_ne, ne_eq] at hfit
  (refine cps fun ZP zk => ?_; obtain ⟨⟨⟨⟨f1, f2⟩, f3⟩, f4⟩, f5⟩ := hfit; refine zk ?_)
  refine codeAny_call_function hA.lt (up ho) hd (by rw [h3]; exact f2) (by rw [h3]; exact f3) h2 ⟨c, oc, cv, t, hc, up hoc, hcd, hq⟩ ?_
  refine enterEnv N h3 h4 h5 h6 f1 f4 f5 (zipArgs xs vs ds) (by rw [zipArgs_keys r hl]; exact hb) (by rw [zipArgs_bind r hl]; exact hbind vs fd S s r.length h1 h7 h8 I) I [] (fun _ => 0)
    (fun a h => nomatch h) (fun b hbm => ?_) (fun x y dx dy hx _ _ => ?_) fun act s₀ O hk hg hm hmt hcl => ?_
  · obtain ⟨d, e, i⟩ := zipArgs_is r hbm
    unfold EntArg
    rw [e]; exact i
  · obtain ⟨b, hbm, e⟩ := List.mem_map.mp (mem_of_lookup hx)
    obtain ⟨d, e', _⟩ := zipArgs_is r hbm
    obtain ⟨_, _, l⟩ := b
    have e' : l = .val d := e'
    subst e'
    cases e
  · obtain ⟨q1, q2, q3, q4⟩ := hcl
    rw [zipArgs_env r] at O
    refine codeAny_func (wpAny_mono (run act q2 ⟨o, fd, ho, hd, q3, q4⟩ _ _ S s₀ O) (fun fl s' ⟨S', adr', ρ', fd, g, O', i, q⟩ => ?_) fun _ _ e => False.elim e)
    have st := O'.leave I rfl g
    refine ⟨S', st, ?_⟩
    cases fl <;> cases fd <;> first | exact i.elim | (subst q; exact .none) | skip
    subst q
    exact i
end
theorem Run.val {sc : Scope} {mc : List Str} {G : Gl} {A : Around} {act : Act sc mc} {m : Sem Flow} {ρ : LEnv} {d : D} (h : Run G A act m ρ fun fd _ => fd = .ret d) : Run G A act m ρ fun fd _ => fd.val = d := h.mono fun fd _ e => by rw [e]; rfl
end Mine
end

section
namespace Mine
variable {sc : Scope} {mc : List Str}
open PySem PySem.Calls PyProof.Rows
section
variable {G : Gl} {A : Around} {act : Act sc mc} {kp : Kept} {adr : Str → Addr} {ρ ρ₁ : LEnv} {S S' : Fz} {s s' : Shared} {d d' : D} {elt tgt iter tgt2 iter2 : Expr} {ifs ifs2 : List Expr} {scope : Scope} {pos : Pos}
noncomputable abbrev lc2 (elt tgt iter tgt2 iter2 : Expr) (ifs ifs2 : List Expr) (scope : Scope) (pos : Pos) : Expr := .ListComp elt [⟨tgt, iter, ifs, 0⟩, ⟨tgt2, iter2, ifs2, 0⟩] scope pos
noncomputable def tail2 (e iter2 : Expr) (env : Env) (acc : Value) : Sem Unit := eval iter2 env >>= fun x => standAt iter2.pos >>= fun _ => foldedSetIterable iter2 env x >>= fun x => holding [x] (pyIter x) >>= fun it => runOwn (.compStart e 1 it acc env) env >>= fun _ => pure ()
theorem turn2a (it acc : Value) (env : Env) : compTurn (lc2 elt tgt iter tgt2 iter2 ifs ifs2 scope pos) 0 it acc env = turnTree iter.pos tgt ifs it env (tail2 (lc2 elt tgt iter tgt2 iter2 ifs ifs2 scope pos) iter2 env acc) (.compLoop (lc2 elt tgt iter tgt2 iter2 ifs ifs2 scope pos) 0 it acc env) := by
  unfold turnTree tail2
  simp only [bind_assoc, pure_bind]
  rfl
theorem turn2b (it acc : Value) (env : Env) : compTurn (lc2 elt tgt iter tgt2 iter2 ifs ifs2 scope pos) 1 it acc env = turnTree iter2.pos tgt2 ifs2 it env (listTail elt env acc) (.compLoop (lc2 elt tgt iter tgt2 iter2 ifs ifs2 scope pos) 1 it acc env) := by
  rfl
theorem start2b {it acc : Value} {env : Env} {R : Result → Shared → Prop}
    (h0 : codeAny G.M A (.compLoop (lc2 elt tgt iter tgt2 iter2 ifs ifs2 scope pos) 1 it acc env) R s)
    (h : wpAny G.M A (pyIter it) (fun it' s' => codeAny G.M A (.compLoop (lc2 elt tgt iter tgt2 iter2 ifs ifs2 scope pos) 1 it' acc env) R s') (notedBy G.M A env fun x s' => R (.error x) s') s) :
    codeAny G.M A (.compStart (lc2 elt tgt iter tgt2 iter2 ifs ifs2 scope pos) 1 it acc env) R s := by
  refine codeAny_of_tree ?_
  show wpAny _ _ ((compStart (lc2 elt tgt iter tgt2 iter2 ifs ifs2 scope pos) 1 it acc env).onRaise (fun x => do noteFrame x env; standAt theWindowsPlace)) _ _ s
  refine wpAny_notedAt ?_
  unfold compStart
  show wpAny _ _ (ask >>= _) _ _ s
  refine wpAny_bind (wpAny_askSetting (wpAny_ite ?_))
  split
  · exact wpAny_pure (And.intro rfl h0)
  · refine wpAny_bind (wpAny_rule ?_)
    show wpAny _ _ (standAt iter2.pos >>= _) _ _ s
    exact wpAny_bind (wpAny_standAt (wpAny_bind (wpAny_mono h (fun it' s' h' => wpAny_pure (And.intro rfl h')) fun _ _ x => x)))
theorem App.inner {β : Type} (bs : List β) (φ : β → D) (ρ' : β → LEnv) (p : β → Bool) (f : β → D) {ds : List D}
    (hsrc : Src G A act ρ tgt2 iter2 (bs.map φ)) (hlen : ds.length + bs.length ≤ sizeLine) (hs : ∀ x, foldedSetIterable iter2 act.env x = pure x)
    (turn : ∀ b, b ∈ bs → Takes G A act tgt2 (φ b) ρ (ρ' b) ∧ (∀ y l, ρ.lookup y = some l → (ρ' b).lookup y = some l) ∧ Tests G A act (ρ' b) ifs2 (p b) ∧ (p b = true → Ev G A act (ρ' b) elt (f b))) :
    App G A act ρ (tail2 (lc2 elt tgt iter tgt2 iter2 ifs ifs2 scope pos) iter2 act.env) (.list ds) (.list (ds ++ (bs.filter p).map f)) := fun kp adr S s Dd O ac hown => by
  unfold tail2
  refine wpAny_bind (wpAny_mono (hsrc kp adr S s O) (fun v s₁ h₁ => ?_) fun _ _ e => e)
  refine wpAny_bind (wpAny_standAt (wpAny_bind (wpAny_of_eq (hs v) (wpAny_bind (wpAny_holding (wpAny_mono h₁ (fun it s₂ ⟨S₂, ft, st, hf, hg, hy, hself⟩ => ?_) fun _ _ e => e))))))
  have O₂ := O.step st
  have ac₂ := ac.step O.inv st
  have ap := O.apart' hf hg
  have hDf : Dd ∉ ft.adr := fun q => by
    obtain ⟨o, ho, _⟩ := ac.obj
    rw [hf _ q] at ho; exact nomatch ho
  refine wpAny_bind (wpAny_runOwn (Q := fun _ s' => wpAny G.M A (pure ()) (fun _ s' => ∃ S', Gro kp S S' ∧ OK G act kp adr ρ S' s' ∧ AccO G act kp S' s' Dd (.list (ds ++ (bs.filter p).map f))) No s') ?_)
  have key : ∀ s', Yields G A tgt2 it (bs.map φ) ft S₂ s' → OK G act kp adr ρ S₂ s' → AccO G act kp S₂ s' Dd (.list ds) → codeAny G.M A (.compLoop (lc2 elt tgt iter tgt2 iter2 ifs ifs2 scope pos) 1 it (.ref Dd) act.env) (fun r s' => match r with
      | .ok _ => wpAny G.M A (pure ()) (fun _ s' => ∃ S', Gro kp S S' ∧ OK G act kp adr ρ S' s' ∧ AccO G act kp S' s' Dd (.list (ds ++ (bs.filter p).map f))) No s'
      | .error e => cameBackBy G.M A act.env No e s') s' := fun s' hy O' ac' => by
    refine comp_loop (ifs := ifs2) (p := iter2.pos) (tail := fun acc => listTail elt act.env acc) rfl (fun Q E s h => ?_) hown (fun xs d => ∃ done rest, bs = done ++ rest ∧ xs = rest.map φ ∧ d = .list (ds ++ (done.filter p).map f)) ?_ ?_ ⟨[], bs, rfl, rfl, by simp⟩ O' ac' ap hDf hy
    · show wpAny _ _ ((compTurn (lc2 elt tgt iter tgt2 iter2 ifs ifs2 scope pos) 1 it (.ref Dd) act.env).onRaise (fun x => do noteFrame x act.env; theTreesLotGoes x)) _ _ s
      refine wpAny_noted (wpAny_mono ?_ (fun _ _ q => q) (fun _ _ e => False.elim e))
      rw [turn2b]
      exact h
    · rintro x xs d ⟨done, rest, e, hx, rfl⟩
      cases rest with
      | nil => exact nomatch hx
      | cons a rest =>
        obtain ⟨rfl, rfl⟩ := List.cons.inj hx
        obtain ⟨t1, t2, t3, t4⟩ := turn a (by rw [e]; simp)
        have hle : (ds ++ (done.filter p).map f).length ≤ sizeLine := by
          rw [List.length_append, List.length_map]
          have := List.length_filter_le p done
          have : done.length ≤ bs.length := by rw [e, List.length_append]; exact Nat.le_add_right _ _
          lia
        cases hp : p a with
        | true =>
          rw [hp] at t3
          exact ⟨ρ' a, true, _, t1, t2, t3, fun _ => App.list (t4 hp) hle, (fun e => nomatch e), done ++ [a], rest, by rw [e]; simp, rfl, by simp [List.filter_append, hp]⟩
        | false =>
          rw [hp] at t3
          exact ⟨ρ' a, false, _, t1, t2, t3, (fun e => nomatch e), fun _ => rfl, done ++ [a], rest, by rw [e]; simp, rfl, by simp [List.filter_append, hp]⟩
    · rintro S' s'' d' ⟨done, rest, e, hx, rfl⟩ g O'' ac''
      obtain rfl : rest = [] := List.map_eq_nil_iff.mp hx.symm
      rw [List.append_nil] at e
      subst e
      exact wpAny_pure ⟨S', (O.gro st).trans g, O'', ac''⟩
  exact start2b (key s₂ hy O₂ ac₂) (hself S₂ s₂ (.refl st.inv hy.good) _ _ (key s₂ hy O₂ ac₂))
end
end Mine
end

section
namespace Mine
variable {sc : Scope} {mc : List Str}
open PySem PySem.Calls PyProof.Rows
section
variable {G : Gl} {A : Around} {act : Act sc mc} {ρ : LEnv} {d : D} {elt tgt iter tgt2 iter2 : Expr} {ifs ifs2 : List Expr} {scope : Scope} {pos : Pos}
theorem CompRuns.two {α : Type} (as : List α) (φ : α → D) (ρ' : α → LEnv) (p : α → Bool) (g : α → List D)
    (hsrc : Src G A act ρ tgt iter (as.map φ)) (hlen : ((as.filter p).flatMap g).length ≤ sizeLine)
    (turn : ∀ (act' : Act (relS scope sc) (cellNames scope.names)) a, a ∈ as → Takes G A act' tgt (φ a) (ρ.inner scope) (ρ' a) ∧ (∀ y l, (ρ.inner scope).lookup y = some l → (ρ' a).lookup y = some l) ∧
      Tests G A act' (ρ' a) ifs (p a) ∧ (p a = true → ∀ ds : List D, ds.length + (g a).length ≤ sizeLine → App G A act' (ρ' a) (tail2 (lc2 elt tgt iter tgt2 iter2 ifs ifs2 scope pos) iter2 act'.env) (.list ds) (.list (ds ++ g a))))
    (hfit : compFit scope sc = true) (hs : ∀ x, foldedSetIterable iter act.env x = pure x) :
    CompRuns G A act ρ (fun use => comprehension (lc2 elt tgt iter tgt2 iter2 ifs ifs2 scope pos) scope act.env iter.pos (newList []) false (eval iter act.env) use) (.list ((as.filter p).flatMap g)) := fun kp adr S s use Q O hQ => by
  refine comp_core (o₀ := { cls := .type "list", data := .seq #[] }) (d₀ := .list []) (tail := fun env acc => tail2 (lc2 elt tgt iter tgt2 iter2 ifs ifs2 scope pos) iter2 env acc) (p := iter.pos) (gs := [⟨tgt2, iter2, ifs2, 0⟩]) hfit rfl hs (fun s Q h => wpAny_newList h) (fun S => .list (vs := []) .nil) rfl
    (fun it acc env R s h0 h => codeAny_compStart_list h0 h) (fun _ _ _ => rfl) (fun it Dd env Q E s h => ?_) hsrc
    (fun xs d => ∃ done rest, as = done ++ rest ∧ xs = rest.map φ ∧ d = .list ((done.filter p).flatMap g)) ⟨[], as, rfl, rfl, rfl⟩ ?_ O ?_
  · show wpAny _ _ ((compTurn (lc2 elt tgt iter tgt2 iter2 ifs ifs2 scope pos) 0 it (.ref Dd) env).onRaise (fun x => do noteFrame x env; theTreesLotGoes x)) _ _ s
    refine wpAny_noted (wpAny_mono ?_ (fun _ _ q => q) (fun _ _ e => False.elim e))
    rw [turn2a]
    exact h
  · rintro act' x xs d ⟨done, rest, e, hx, rfl⟩
    cases rest with
    | nil => exact nomatch hx
    | cons a rest =>
      obtain ⟨rfl, rfl⟩ := List.cons.inj hx
      obtain ⟨t1, t2, t3, t4⟩ := turn act' a (by rw [e]; simp)
      cases hp : p a with
      | true =>
        rw [hp] at t3
        have hle : ((done.filter p).flatMap g).length + (g a).length ≤ sizeLine := by
          rw [e, List.filter_append, List.filter_cons_of_pos hp, List.flatMap_append, List.flatMap_cons, List.length_append, List.length_append] at hlen
          lia
        exact ⟨ρ' a, true, _, t1, t2, t3, fun _ => t4 hp _ hle, (fun e => nomatch e), done ++ [a], rest, by rw [e]; simp, rfl, by simp [List.filter_append, hp]⟩
      | false =>
        rw [hp] at t3
        exact ⟨ρ' a, false, _, t1, t2, t3, (fun e => nomatch e), fun _ => rfl, done ++ [a], rest, by rw [e]; simp, rfl, by simp [List.filter_append, hp]⟩
  · rintro S' s' C Dd d' ⟨done, rest, e, hx, rfl⟩ st hD ho hS hm hC hSC nt hne
    obtain rfl : rest = [] := List.map_eq_nil_iff.mp hx.symm
    rw [List.append_nil] at e
    subst e
    exact hQ S' s' C Dd st hD ho hS hm hC hSC nt hne
end
end Mine
end

section
namespace Mine
open PySem PySem.Calls PyProof.Rows PySem.W
noncomputable def kasRun {α : Type} (lt : Nat → Nat → Bool) : KasT α → α
  | .ret a => a
  | .ask i j k => kasRun lt (k (lt i j))
noncomputable def rowLt : List Int → List Int → Bool
  | _, [] => false
  | [], _ :: _ => true
  | a :: as, b :: bs => if a = b then rowLt as bs else decide (a < b)
noncomputable def sortRows (rows : List (List Int)) : List (List Int) := (kasRun (fun i j => rowLt (rows.getD i []) (rows.getD j [])) (kas_sort rows.length)).toList.map fun i => rows.getD i []
end Mine
end

section
namespace Mine
variable {sc : Scope} {mc : List Str}
open PySem PySem.Calls PyProof.Rows PySem.SeqAt
open PySem.AutoSeq1 (wpAny_loadPart')
open PySem.MeetsSeq PySem.MeetsSeq2 PySem.MeetsSeq3
noncomputable abbrev rowV (zs : List (Int × Tok)) : List Value := zs.map fun z => Value.int z.1 z.2
noncomputable abbrev rowI (zs : List (Int × Tok)) : List Int := zs.map fun z => z.1
theorem lt_rows_loop (l b : Addr) (zs ws : List (Int × Tok)) (n n2 : Nat) (dd dd2 : Option Addr) (sl sl2 : Array (Option Value)) (k : Nat) :
    ∀ i : Nat, zs.length - i = k → i ≤ zs.length → i ≤ ws.length → Meets (Builtin.«list.__eq__.loop» ⟨[.ref l, .ref b, rawInt i, rawInt 0], []⟩)
      (fun A R s => s.heap.get? l = some { cls := .type "list", dict := dd, data := .seq (rowV zs).toArray n, slots := sl } ∧ s.heap.get? b = some { cls := .type "list", dict := dd2, data := .seq (rowV ws).toArray n2, slots := sl2 } ∧
        R (.ok (.ret (.bool (rowLt (rowI (zs.drop i)) (rowI (ws.drop i)))))) s) := by
  induction k with
  | zero =>
    intro i hk h1 h2 prog w A R s h
    obtain ⟨hp, g, d, tk, os⟩ := s; obtain ⟨hl, hb, h⟩ := h
    wp_walk using wpAny_loadPart' hl, wpAny_loadPart' hb
    have hi1 : (rowV zs).toArray[((i : Nat) : Int).toNat]? = none := by simp; omega
    have hd : zs.drop i = [] := by simp; omega
    rw [hd] at h
    rw [hi1]
    wp_walk using wpAny_loadPart' hl, wpAny_loadPart' hb
    show R (.ok (.ret (.bool (decide ((rowV zs).toArray.size < (rowV ws).toArray.size))))) _
    have : decide ((rowV zs).toArray.size < (rowV ws).toArray.size) = rowLt (rowI []) (rowI (ws.drop i)) := by
      cases hw : ws.drop i with
      | nil =>
        have : ws.length ≤ i := by simpa using hw
        simp [rowLt]; omega
      | cons x xs =>
        have : i < ws.length := by
          rcases Nat.lt_or_ge i ws.length with q | q
          · exact q
          · rw [List.drop_of_length_le q] at hw; cases hw
        simp [rowLt]; omega
    rw [this]
    exact h
  | succ k ih =>
    intro i hk h1 h2 prog w A R s h
    obtain ⟨hp, g, d, tk, os⟩ := s; obtain ⟨hl, hb, h⟩ := h
    wp_walk using wpAny_loadPart' hl, wpAny_loadPart' hb
    have hlt : i < zs.length := by omega
    have hi1 : (rowV zs).toArray[((i : Nat) : Int).toNat]? = some (.int zs[i].1 zs[i].2) := by simp [hlt]
    rw [hi1]
    rcases Nat.lt_or_ge i ws.length with q | q
    · have hi2 : (rowV ws).toArray[((i : Nat) : Int).toNat]? = some (.int ws[i].1 ws[i].2) := by simp [q]
      have hc : ((i : Int) + 1) = ((i + 1 : Nat) : Int) := by push_cast; rfl
      rw [hi2]
      rw [List.drop_eq_getElem_cons hlt, List.drop_eq_getElem_cons q] at h
      refine wpAny_bind (m := eqBool (.int zs[i].1 zs[i].2) (.int ws[i].1 ws[i].2)) (wpAny_eqBool_int ?_)
      show wpAny _ _ (if (zs[i].1 == ws[i].1) = true then _ else _) _ _ _
      by_cases e : zs[i].1 = ws[i].1
      · rw [if_pos (by simpa using e)]
        have : rowLt (rowI (zs[i] :: zs.drop (i + 1))) (rowI (ws[i] :: ws.drop (i + 1))) = rowLt (rowI (zs.drop (i + 1))) (rowI (ws.drop (i + 1))) := by
          show (if zs[i].1 = ws[i].1 then _ else _) = _
          rw [if_pos e]
        rw [this] at h
        wp_walk
        rw [hc]
        exact ⟨plainId_quiet plain_eq_loop _, codeAny_builtin entry_eq_loop (by
          rw [Around.under_plainId plain_eq_loop _]
          exact ih (i + 1) (by omega) hlt q prog w A R _ ⟨hl, hb, h⟩)⟩
      · rw [if_neg (by simpa using e)]
        have : rowLt (rowI (zs[i] :: zs.drop (i + 1))) (rowI (ws[i] :: ws.drop (i + 1))) = decide (zs[i].1 < ws[i].1) := by
          show (if zs[i].1 = ws[i].1 then _ else _) = _
          rw [if_neg e]
        rw [this] at h
        refine wpAny_bind (listItems_at hl rfl (wpAny_bind (listItems_at hb rfl ?_)))
        rw [hi1, hi2]
        show wpAny _ _ (compareOp .Lt (.int zs[i].1 zs[i].2) (.int ws[i].1 ws[i].2) >>= fun r => ret r) _ _ _
        refine wpAny_bind (lt_int ?_)
        wp_walk
        exact h
    · have hi2 : (rowV ws).toArray[((i : Nat) : Int).toNat]? = none := by simp; omega
      rw [hi2]
      wp_walk using wpAny_loadPart' hl, wpAny_loadPart' hb
      show R (.ok (.ret (.bool (decide ((rowV zs).toArray.size < (rowV ws).toArray.size))))) _
      rw [List.drop_of_length_le q] at h
      have : decide ((rowV zs).toArray.size < (rowV ws).toArray.size) = rowLt (rowI (zs.drop i)) (rowI []) := by
        simp [rowLt]; omega
      rw [this]
      exact h
theorem list_lt_rows (l b : Addr) (zs ws : List (Int × Tok)) (n n2 : Nat) (dd dd2 : Option Addr) (sl sl2 : Array (Option Value)) :
    Meets (Builtin.«list.__lt__» ⟨[.ref l, .ref b], []⟩)
      (fun A R s => s.heap.get? l = some { cls := .type "list", dict := dd, data := .seq (rowV zs).toArray n, slots := sl } ∧ s.heap.get? b = some { cls := .type "list", dict := dd2, data := .seq (rowV ws).toArray n2, slots := sl2 } ∧
        R (.ok (.ret (.bool (rowLt (rowI zs) (rowI ws))))) s) := by
  intro prog w A R s h
  obtain ⟨hp, g, d, tk, os⟩ := s; obtain ⟨hl, hb, h⟩ := h
  have f3 := AutoSeq1.sub_list_list
  wp_walk using wpAny_loadPart' hl, wpAny_loadPart' hb
  exact ⟨plainId_quiet plain_eq_loop _, codeAny_builtin entry_eq_loop (by
        rw [Around.under_plainId plain_eq_loop _]
        exact lt_rows_loop l b zs ws n n2 dd dd2 sl sl2 _ 0 rfl (Nat.zero_le _) (Nat.zero_le _) prog w A R _ ⟨hl, hb, h⟩)⟩
theorem alls_intsV {G : Gl} {S : Fz} : ∀ {vs : List Value} {row : List Int}, Alls G S vs (row.map .int) → ∃ zs : List (Int × Tok), rowV zs = vs ∧ rowI zs = row
  | [], [], _ => ⟨[], rfl, rfl⟩
  | v :: vs, r :: row, .cons i h => by
    obtain ⟨t, rfl⟩ := i.int'
    obtain ⟨zs, h1, h2⟩ := alls_intsV h
    exact ⟨(r, t) :: zs, by simp [rowV, h1], by simp [rowI, h2]⟩
section
variable {G : Gl} {A : Around} {n : Nat}
end
end Mine
end

section
namespace Mine
variable {sc : Scope} {mc : List Str}
open PySem PySem.Calls PyProof.Rows PySem.W
noncomputable def kasIn {α : Type} (n : Nat) (lt : Nat → Nat → Bool) : KasT α → Bool
  | .ret _ => true
  | .ask i j k => decide (i < n) && decide (j < n) && kasIn n lt (k (lt i j))
theorem kasIn_wp {α : Type} {n : Nat} {cmp : Nat → Nat → (Bool → Shared → Prop) → Shared → Prop} {lt : Nat → Nat → Bool} {P : Shared → Prop} (h : ∀ i j (C : Bool → Shared → Prop) s, i < n → j < n → P s → C (lt i j) s → cmp i j C s) :
    ∀ (t : KasT α) (Q : α → Shared → Prop) (s : Shared), kasIn n lt t = true → P s → Q (kasRun lt t) s → t.kasWp cmp Q s
  | .ret a, Q, s, _, _, q => q
  | .ask i j k, Q, s, hi, p, q => by
    unfold kasIn at hi
    simp only [Bool.and_eq_true, decide_eq_true_eq] at hi
    exact h i j _ s hi.1.1 hi.1.2 p (kasIn_wp h (k (lt i j)) Q s hi.2 p q)
noncomputable def rowsLt (rows : List (List Int)) (i j : Nat) : Bool := rowLt (rows.getD i []) (rows.getD j [])
noncomputable def rowsIn (rows : List (List Int)) : Bool := kasIn rows.length (rowsLt rows) (kas_sort rows.length) && (kasRun (rowsLt rows) (kas_sort rows.length)).toList.all fun i => decide (i < rows.length)
noncomputable abbrev rowD (r : List Int) : D := .list (r.map .int)
section
variable {G : Gl} {A : Around} {act : Act sc mc} {kp : Kept} {adr : Str → Addr} {ρ : LEnv} {S S' : Fz} {s s' : Shared} {n : Nat} {pos : Pos} {mg mb : Str → Option Value}
theorem keyLt_rows {va vb : Value} {a b : List Int} {Q : Bool → Shared → Prop} {E : Value → Shared → Prop} (I : Inv G S s) (hu : A.units < cLine) (ha : Is G S va (rowD a)) (hb : Is G S vb (rowD b)) (h : Q (rowLt a b) s) :
    wpAny G.M A (keyLt' oneType' va vb) Q E s := by
  (refine cps fun ZP zk => ?_; obtain ⟨l, o, k, vs, rfl, h1, h2, h3, r⟩ := ha.listI; refine zk ?_)
  (refine cps fun ZP zk => ?_; obtain ⟨l', o', k', vs', rfl, h1', h2', h3', r'⟩ := hb.listI; refine zk ?_)
  obtain ⟨zs, rfl, rfl⟩ := alls_intsV r
  obtain ⟨ws, rfl, rfl⟩ := alls_intsV r'
  obtain ⟨cls, dd, data, sl⟩ := o
  obtain ⟨cls', dd', data', sl'⟩ := o'
  simp only at h2 h3 h2' h3'
  subst h2 h3 h2' h3'
  have ho := I.sub _ _ h1
  have ho' := I.sub _ _ h1'
  rw [keyLt'_oneType, oneLt'_eq]
  simp only [if_true]
  refine wpAny_bind (wpAny_cRoomFor hu ?_)
  refine wpAny_bind (wpAny_callSpecialIfBound?_slot ⟨_, ho, rfl⟩ F.slot_list_lt ?_)
  exact call_meets F.slot_list_lt ⟨_, ho, rfl⟩ F.entry_list_lt (F.args_list_lt_2 _ _) (list_lt_rows l l' zs ws k k' dd dd' sl sl') ⟨ho, ho', wpAny_truthy_bool h⟩
theorem alls_getD {vs : List Value} {rows : List (List Int)} (r : Alls G S vs (rows.map rowD)) {i : Nat} (hi : i < rows.length) : Is G S (vs.getD i Value.none) (rowD (rows.getD i [])) := by
  have hl := r.length
  rw [List.length_map] at hl
  have hv : i < vs.length := by omega
  obtain ⟨d, h1, h2⟩ := r.get' (k := i) (v := vs[i]) (by simp [hv])
  rw [List.getElem?_map, List.getElem?_eq_getElem hi] at h1
  cases h1
  simpa [List.getD, hv, hi] using h2
end
end Mine
end

section
namespace Mine
open PySem PySem.Calls PyProof.Rows PySem.W
noncomputable def kasOut (lt : Nat → Nat → Bool) (vs : List Value) : Array Value := List.toArray ((kasRun lt (kas_sort vs.length)).toList.map fun i => vs.getD i Value.none)
noncomputable def sortMid (h : Heap) (a : Addr) (vs : List Value) : Heap := ((h.update a (Obj.mapSeq fun _ => (#[] : Array Value))).push (seqObj "tuple" vs.toArray 0)).push (seqObj "list" #[] 0)
section
variable {prog : Program} {w : World} {A : Around} {E : Value → Shared → Prop} {s : Shared}
theorem kas_exact {a : Addr} {vs : List Value} {n : Nat} {T : Value} {lt : Nat → Nat → Bool} {P : PySem.Fin → Shared → Prop} (ho : s.heap.get? a = some (seqObj "list" vs.toArray n)) (h2 : 2 ≤ vs.length) (h64 : vs.length < 64)
    (hT : ∀ v ∈ vs, Looks (model prog w) (sortMid s.heap a vs) (typeOf v) T) (hT1 : (T != Value.type "tuple") = true) (hT2 : (T == T) = true) (hin : kasIn vs.length lt (kas_sort vs.length) = true)
    (hlt : ∀ i j (Q : Bool → Shared → Prop), i < vs.length → j < vs.length → Q (lt i j) { s with heap := sortMid s.heap a vs } → wpAny (model prog w) A (keyLt' oneType' (vs.getD i Value.none) (vs.getD j Value.none)) Q (fun _ _ => False) { s with heap := sortMid s.heap a vs })
    (h : P (.done (.ret .none)) { s with heap := sortedHeap s.heap a vs (kasOut lt vs) }) :
    wpAny (model prog w) A (Builtin.«list.sort» ⟨[.ref a], []⟩) P E s := by
  have ha : a < s.heap.objs.size := Heap.lt_size ho
  obtain ⟨e1, ho1⟩ : ∃ e1, (s.heap.update a (Obj.mapSeq fun _ => (#[] : Array Value))).get? a = some (seqObj "list" #[] e1) := ⟨_, get?_update_seq ho fun _ => #[]⟩
  have na : (sortMid s.heap a vs).get? a = some (seqObj "list" #[] e1) := Heap.get?_push_of_some _ (Heap.get?_push_of_some _ ho1)
  have run := kas_runs (prog := prog) (w := w) (A := A) (κ := oneType') (it := pairsOf vs) (E := E) (s := { s with heap := sortMid s.heap a vs })
    (Q := fun _ st' s' => s' = { s with heap := sortMid s.heap a vs } ∧ (arrOf st').map (·.2) = kasOut lt vs ∧ (kasOut lt vs).size = vs.length ∧ failedOf st' = none)
    (G := fun p s' => p = kasRun lt (kas_sort vs.length) ∧ s' = { s with heap := sortMid s.heap a vs }) h2 h64 (fun p' st' s' a1 a2 a3 a4 => by
      refine ⟨a4.2, ?_, ?_, a3⟩
      · apply Array.toList_inj.mp
        rw [a2, Array.map_map, Array.toList_map]
        unfold kasOut
        rw [← a4.1]
        exact List.map_congr_left fun i _ => by show (kas_item (pairsOf vs) i).2 = _; rw [kas_item_eq]
      · unfold kasOut
        rw [List.size_toArray, List.length_map, Array.length_toList, ← a4.1, a1])
    (by
      rw [← kas_ask_eq]
      exact kasIn_wp (P := fun s' => s' = { s with heap := sortMid s.heap a vs }) (lt := lt) (fun i j C s' hi hj e hc => by subst e; exact hlt i j C hi hj hc) _ _ _ hin rfl ⟨rfl, rfl⟩)
  have est : SortSt.mk' oneType' (vs.toArray.zip vs.toArray) #[] 7 none = kas_st oneType' (pairsOf vs) (List.toArray (List.range vs.length)) := by
    have e := kas_range (pairsOf vs)
    rw [pairsOf_size] at e
    show SortSt.mk' oneType' (pairsOf vs) #[] 7 none = SortSt.mk' oneType' ((List.toArray (List.range vs.length)).map (kas_item (pairsOf vs))) #[] 7 none
    rw [e]
  rw [← est] at run
  rw [list_sort_plain]
  refine wpAny_bind (listItems_at ho rfl ?_)
  refine wpAny_bind (listUpdate_at ho rfl ?_ (by rw [List.size_toArray, sizeLine_eq]; omega) (Nat.zero_le _))
  refine wpAny_bind (seqEpoch_at ho1 rfl ?_)
  refine wpAny_bind (wpAny_newTuple ?_ (by show vs.length ≤ _; rw [sizeLine_eq]; omega))
  refine wpAny_bind (wpAny_newList ?_ (Nat.zero_le _))
  refine wpAny_holding ?_
  show wpAny (model prog w) A _ P E { s with heap := sortMid s.heap a vs }
  have hn2 : ¬ vs.toArray.size < 2 := by rw [List.size_toArray]; omega
  rw [if_neg hn2, if_neg hn2]
  refine wpAny_bind (kas_kind h2 hT hT1 hT2 ?_)
  refine wpAny_bind (wpAny_mono run ?_ fun _ _ e => e)
  rintro ⟨⟨⟩, st'⟩ s' ⟨rfl, hout, hsz, hf⟩
  dsimp only
  rw [hout]
  refine wpAny_bind (seqEpoch_at na rfl ?_)
  refine wpAny_bind (listUpdate_at na rfl ?_ (Nat.zero_le _) (Nat.le_trans (Nat.le_of_eq hsz) (by rw [sizeLine_eq]; omega)))
  rw [hf]
  simp only [bne_self_eq_false, Bool.false_eq_true, if_false]
  exact wpAny_pure h
end
end Mine
end

section
namespace Mine
open PySem PySem.Calls PyProof.Rows PySem.W
theorem alls_rows_out {G : Gl} {S : Fz} {vs : List Value} {rows : List (List Int)} (r : Alls G S vs (rows.map rowD)) : ∀ {is : List Nat}, (is.all fun i => decide (i < rows.length)) = true → Alls G S (is.map fun i => vs.getD i Value.none) ((is.map fun i => rows.getD i []).map rowD)
  | [], _ => .nil
  | i :: is, h => by
    simp only [List.all_cons, Bool.and_eq_true, decide_eq_true_eq] at h
    exact .cons (alls_getD r h.1) (alls_rows_out r h.2)
section
variable {G : Gl} {A : Around} {n : Nat} {S : Fz} {s : Shared}
theorem CallO.sortRows {rows : List (List Int)} (hA : Room n A) (h2 : 2 ≤ rows.length) (h64 : rows.length < 64) (hin : rowsIn rows = true) : CallO G A (.builtin "sorted") [.list (rows.map rowD)] (.list ((Mine.sortRows rows).map rowD)) := fun S s us I rr => by
  obtain ⟨v, rfl, iv⟩ := alls1 rr
  obtain ⟨l, vs, rfl, hl, r⟩ := iv.lst I
  have hwl := r.length
  rw [List.length_map] at hwl
  unfold rowsIn at hin
  simp only [Bool.and_eq_true] at hin
  refine Calls.call_function_entry kind_sorted plain_sorted entry_sorted (args_sorted1 _) ?_
  unfold Builtin.«sorted»
  refine wpAny_bind (m := checkCount "sorted" 1 1 _) (wpAny_pure ?_)
  refine wpAny_bind (collect_list hl ?_ (by rw [sizeLine_eq]; omega))
  refine wpAny_bind (wpAny_newList ?_ (by rw [sizeLine_eq]; omega))
  have hsz : ((s.heap.push (seqObj "list" #[] 0)).update s.heap.objs.size (Obj.mapSeq (· ++ vs.toArray))).objs.size = s.heap.objs.size + 1 := by
    rw [Heap.size_update, size_push']
  have hoL : (((s.heap.push (seqObj "list" #[] 0)).update s.heap.objs.size (Obj.mapSeq (· ++ vs.toArray))).push (seqObj "list" vs.toArray 0)).get? (s.heap.objs.size + 1) = some (seqObj "list" vs.toArray 0) := by
    rw [← hsz]; exact Heap.get?_push_size _ rfl
  have keep : ∀ b o, s.heap.get? b = some o → (((s.heap.push (seqObj "list" #[] 0)).update s.heap.objs.size (Obj.mapSeq (· ++ vs.toArray))).push (seqObj "list" vs.toArray 0)).get? b = some o := fun b o q => by
    have hlt : b < s.heap.objs.size := Heap.lt_size q
    rw [Heap.get?_push_ne _ _ _ (by rw [hsz]; exact Nat.ne_of_lt (Nat.lt_succ_of_lt hlt)), Heap.get?_update_ne _ _ _ _ (Nat.ne_of_lt hlt), Heap.get?_push_ne _ _ _ (Nat.ne_of_lt hlt)]
    exact q
  have keepM : ∀ b o, s.heap.get? b = some o → (sortMid (((s.heap.push (seqObj "list" #[] 0)).update s.heap.objs.size (Obj.mapSeq (· ++ vs.toArray))).push (seqObj "list" vs.toArray 0)) (s.heap.objs.size + 1) vs).get? b = some o := fun b o q => by
    refine Heap.get?_push_of_some _ (Heap.get?_push_of_some _ ?_)
    rw [Heap.get?_update_ne _ _ _ _ (Nat.ne_of_lt (Nat.lt_succ_of_lt (Heap.lt_size q)))]
    exact keep b o q
  have IM := (I.keeps (t := s.toks) keepM).inv
  show wpAny _ _ _ _ _ { s with heap := ((s.heap.push (seqObj "list" #[] 0)).update s.heap.objs.size (Obj.mapSeq (· ++ vs.toArray))).push (seqObj "list" vs.toArray 0) }
  rw [hsz]
  refine wpAny_bind (wpAny_holding (wpAny_call_entry slot_list_sort ⟨_, hoL, rfl⟩ entry_list_sort ?body (args_list_sort _)))
  case body =>
    refine kas_exact (s := { s with heap := ((s.heap.push (seqObj "list" #[] 0)).update s.heap.objs.size (Obj.mapSeq (· ++ vs.toArray))).push (seqObj "list" vs.toArray 0) }) (T := Value.type "list") (lt := rowsLt rows) hoL (by omega) (by omega) (fun v hv => ?_) rfl rfl (by rw [← hwl] at *; exact hin.1) (fun i j Q hi hj hq => ?_) ?_
    · obtain ⟨j, hj, rfl⟩ := List.getElem_of_mem hv
      have i := alls_getD r (i := j) (by omega)
      rw [List.getD_eq_getElem?_getD, List.getElem?_eq_getElem hj] at i
      obtain ⟨l', o, k, xs, e, h1, h2, h3, _⟩ := i.listI
      simp only [Option.getD_some] at e
      rw [e, ← h2]
      exact (Looks.ld (IM.sub _ _ h1)).andThen .now
    · exact keyLt_rows IM (by have := hA.units; show A.units + 1 + 1 < 9900; omega) (alls_getD r (by omega)) (alls_getD r (by omega)) hq
    · refine ⟨_, rfl, wpAny_pure ⟨_, rfl, ?_⟩⟩
      obtain ⟨ep, he⟩ := sortedAll_at s.heap vs (kasOut (rowsLt rows) vs)
      have hn : s.heap.get? (s.heap.objs.size + 1) = none := by
        cases q : s.heap.get? (s.heap.objs.size + 1) with
        | none => rfl
        | some o => exact absurd (Heap.lt_size q) (Nat.not_lt.mpr (Nat.le_succ _))
      refine ⟨S, _, _, I.keeps (t := s.toks) fun b o e => sortedAll_old e, rfl, he, ?_, ?_, hn⟩
      · unfold kasOut
        rw [hwl]
        exact .list (alls_rows_out r hin.2)
      · cases q : S (s.heap.objs.size + 1) with
        | none => rfl
        | some o => have := I.sub _ _ q; rw [hn] at this; exact nomatch this
end
end Mine
end

section
namespace Mine
open PySem PySem.Calls PyProof.Rows PySem.W
section
variable {prog : Program} {w : World} {A : Around} {E : Value → Shared → Prop} {s : Shared}
theorem sort_one {a : Addr} {v : Value} {n : Nat} {P : PySem.Fin → Shared → Prop} (ho : s.heap.get? a = some (seqObj "list" [v].toArray n))
    (h : P (.done (.ret .none)) { s with heap := sortedHeap s.heap a [v] [v].toArray }) : wpAny (model prog w) A (Builtin.«list.sort» ⟨[.ref a], []⟩) P E s := by
  have ha : a < s.heap.objs.size := Heap.lt_size ho
  obtain ⟨e1, ho1⟩ : ∃ e1, (s.heap.update a (Obj.mapSeq fun _ => (#[] : Array Value))).get? a = some (seqObj "list" #[] e1) := ⟨_, get?_update_seq ho fun _ => #[]⟩
  have na : (sortMid s.heap a [v]).get? a = some (seqObj "list" #[] e1) := Heap.get?_push_of_some _ (Heap.get?_push_of_some _ ho1)
  rw [list_sort_plain]
  refine wpAny_bind (listItems_at ho rfl ?_)
  refine wpAny_bind (listUpdate_at ho rfl ?_ (by rw [List.size_toArray, sizeLine_eq]; show 1 ≤ _; omega) (Nat.zero_le _))
  refine wpAny_bind (seqEpoch_at ho1 rfl ?_)
  refine wpAny_bind (wpAny_newTuple ?_ (by show 1 ≤ _; rw [sizeLine_eq]; omega))
  refine wpAny_bind (wpAny_newList ?_ (Nat.zero_le _))
  refine wpAny_holding ?_
  show wpAny (model prog w) A _ P E { s with heap := sortMid s.heap a [v] }
  have hn2 : [v].toArray.size < 2 := by show 1 < 2; omega
  rw [if_pos hn2, if_pos hn2]
  refine wpAny_bind (wpAny_pure ?_)
  refine wpAny_bind (m := (pure () : StateT SortSt Sem Unit).run (SortSt.mk' general' ([v].toArray.zip [v].toArray) #[] 7 none)) (wpAny_pure ?_)
  have hz : Array.map (fun x : Keyed => x.2) (arrOf (SortSt.mk' general' ([v].toArray.zip [v].toArray) #[] 7 none)) = [v].toArray := by
    show Array.map (fun x : Value × Value => x.2) ([v].toArray.zip [v].toArray) = [v].toArray
    simp
  dsimp only
  rw [hz]
  refine wpAny_bind (seqEpoch_at na rfl ?_)
  refine wpAny_bind (listUpdate_at na rfl ?_ (Nat.zero_le _) (show 1 ≤ sizeLine + 1 by rw [sizeLine_eq]; omega))
  simp only [bne_self_eq_false, Bool.false_eq_true, if_false]
  exact wpAny_pure h
end
section
variable {G : Gl} {A : Around} {n : Nat} {S : Fz} {s : Shared} {d : D}
theorem CallO.sortOne : CallO G A (.builtin "sorted") [.list [d]] (.list [d]) := fun S s us I rr => by
  obtain ⟨v, rfl, iv⟩ := alls1 rr
  obtain ⟨l, vs, rfl, hl, r⟩ := iv.lst I
  obtain ⟨v, rfl, i⟩ := alls1 r
  refine Calls.call_function_entry kind_sorted plain_sorted entry_sorted (args_sorted1 _) ?_
  unfold Builtin.«sorted»
  refine wpAny_bind (m := checkCount "sorted" 1 1 _) (wpAny_pure ?_)
  refine wpAny_bind (collect_list hl ?_ (show 1 ≤ sizeLine by rw [sizeLine_eq]; omega))
  refine wpAny_bind (wpAny_newList ?_ (show 1 ≤ sizeLine by rw [sizeLine_eq]; omega))
  have hsz : ((s.heap.push (seqObj "list" #[] 0)).update s.heap.objs.size (Obj.mapSeq (· ++ [v].toArray))).objs.size = s.heap.objs.size + 1 := by
    rw [Heap.size_update, size_push']
  have hoL : (((s.heap.push (seqObj "list" #[] 0)).update s.heap.objs.size (Obj.mapSeq (· ++ [v].toArray))).push (seqObj "list" [v].toArray 0)).get? (s.heap.objs.size + 1) = some (seqObj "list" [v].toArray 0) := by
    rw [← hsz]; exact Heap.get?_push_size _ rfl
  show wpAny _ _ _ _ _ { s with heap := ((s.heap.push (seqObj "list" #[] 0)).update s.heap.objs.size (Obj.mapSeq (· ++ [v].toArray))).push (seqObj "list" [v].toArray 0) }
  rw [hsz]
  refine wpAny_bind (wpAny_holding (wpAny_call_entry slot_list_sort ⟨_, hoL, rfl⟩ entry_list_sort ?body (args_list_sort _)))
  case body =>
    refine sort_one (s := { s with heap := ((s.heap.push (seqObj "list" #[] 0)).update s.heap.objs.size (Obj.mapSeq (· ++ [v].toArray))).push (seqObj "list" [v].toArray 0) }) hoL ?_
    refine ⟨_, rfl, wpAny_pure ⟨_, rfl, ?_⟩⟩
    obtain ⟨ep, he⟩ := sortedAll_at s.heap [v] [v].toArray
    have hn : s.heap.get? (s.heap.objs.size + 1) = none := by
      cases q : s.heap.get? (s.heap.objs.size + 1) with
      | none => rfl
      | some o => exact absurd (Heap.lt_size q) (Nat.not_lt.mpr (Nat.le_succ _))
    refine ⟨S, _, _, I.keeps (t := s.toks) fun b o e => sortedAll_old e, rfl, he, .list (.cons i .nil), ?_, hn⟩
    cases q : S (s.heap.objs.size + 1) with
    | none => rfl
    | some o => have := I.sub _ _ q; rw [hn] at this; exact nomatch this
end
end Mine
end

section
namespace Mine
open PySem PySem.Calls PyProof.Rows
section
variable {G : Gl} {A : Around} {n : Nat} {S S' : Fz} {s s' : Shared}
theorem Stp.freezeAll : ∀ {as : List Addr} {S' : Fz}, Stp G S s S' s' → as.Pairwise (· < ·) → (∀ a ∈ as, ∃ o, s'.heap.get? a = some o ∧ o.cls ≠ .none ∧ s.heap.get? a = none ∧ S' a = none) →
    ∃ S'', Stp G S s S'' s' ∧ Sub S' S'' ∧ (∀ a ∈ as, S'' a = s'.heap.get? a) ∧ ∀ b, b ∉ as → S'' b = S' b
  | [], S', st, _, _ => ⟨S', st, Sub.refl _, (fun a h => nomatch h), fun _ _ => rfl⟩
  | a :: as, S', st, hp, h => by
    obtain ⟨p1, p2⟩ := List.pairwise_cons.mp hp
    obtain ⟨o, ho, hc, hn, hS⟩ := h a (.head _)
    have st1 : Stp G S s (S'.put a o) s' := ⟨st.inv.freeze ho hc hS, st.sub.trans (Fz.sub_put hS), fun b o' e => by
      by_cases q : b = a
      · exact .inr (q ▸ hn)
      · rw [Fz.put_ne _ _ q] at e; exact st.new b o' e, st.keep, st.gens⟩
    obtain ⟨S'', k1, k2, k3, k4⟩ := Stp.freezeAll st1 p2 fun b hb => by
      obtain ⟨o', q1, q2, q3, q4⟩ := h b (.tail _ hb)
      exact ⟨o', q1, q2, q3, by rw [Fz.put_ne _ _ (Nat.ne_of_gt (p1 b hb))]; exact q4⟩
    refine ⟨S'', k1, (Fz.sub_put hS).trans k2, fun b hb => ?_, fun b hb => ?_⟩
    · rcases List.mem_cons.mp hb with rfl | hb
      · rw [ho]; exact k2 _ _ (Fz.put_self ..)
      · exact k3 b hb
    · rw [k4 b fun q => hb (.tail _ q), Fz.put_ne _ _ fun (q : b = a) => hb (by rw [q]; exact .head _)]
theorem CallO.listItems (hA : Room n A) {ks : List Ky} {ds : List D} (h : ks.length ≤ sizeLine) : CallO G A (.type "list") [.items ks ds] (.list (itemDs ks ds)) := fun S s vs I r => by
  obtain ⟨v, rfl, i⟩ := alls1 r
  obtain ⟨v, d, rfl, hv, hd⟩ := i.itemsI
  (refine cps fun ZP zk => ?_; obtain ⟨_, es, ep, kvs, q0, h1, h2, h3, h4, h5, r, h6⟩ := hd.dictI; refine zk ?_)
  obtain rfl := PySem.Value.ref.inj q0
  have hdt : s.heap.DictAt G.knd d kvs ep := ⟨_, es, I.sub _ _ h1, ⟨rfl, rfl, rfl⟩, rfl, h2, h3, h4 ▸ h5⟩
  have hl : ks.length = kvs.length := by rw [h4]; simp
  refine PySem.W.kdx_call (knd := G.knd) (kvs := kvs) (ep := ep) hA.handled ⟨_, I.sub _ _ hv, rfl, rfl⟩ hdt (by rw [← hl]; exact h) fun h' tk acc c as hk hS' hla hG hacc => ?_
  have hnew : ∀ a, s.heap.objs.size ≤ a → s.heap.get? a = none := fun a ha => by
    cases e : s.heap.get? a with
    | none => rfl
    | some o => exact absurd (Heap.lt_size e) (Nat.not_lt.mpr ha)
  have hnS : ∀ a, s.heap.objs.size ≤ a → S a = none := fun a ha => by
    cases e : S a with
    | none => rfl
    | some o => have := I.sub _ _ e; rw [hnew a ha] at this; exact nomatch this
  have st := I.keeps (h' := h') (t := tk) hk
  obtain ⟨S'', k1, k2, k3, k4⟩ := Stp.freezeAll (as := as) st hG.rise fun a ha => by
    obtain ⟨j, hj⟩ := List.mem_iff_getElem?.mp ha
    obtain ⟨key, k, x, _, _, e⟩ := hG.pairs j a hj
    exact ⟨_, e, by simp, hnew a (Nat.le_of_lt (hG.above a ha)), hnS a (Nat.le_of_lt (hG.above a ha))⟩
  have hz : s.heap.objs.size ∉ as := fun q => Nat.lt_irrefl _ (hG.above _ q)
  refine ⟨S'', _, _, k1, rfl, hS', ?_, by rw [k4 _ hz]; exact I.sizeS, Inv.fresh⟩
  have e : acc = acc.toList.toArray := by simp
  rw [e, hacc]
  refine .list (alls_of_get ?_ fun j v hj => ?_)
  · have := r.length
    rw [List.length_map] at this
    unfold itemDs
    rw [List.length_map, hla, List.length_zipWith, h4, List.length_map, ← this, Nat.min_self]
  · rw [List.getElem?_map] at hj
    cases q : as[j]? with
    | none => rw [q] at hj; cases hj
    | some a =>
      rw [q] at hj
      cases hj
      obtain ⟨key, k, x, e1, e2, e3⟩ := hG.pairs j a q
      obtain ⟨d', q1, q2⟩ := pairs_items r j k x e1
      rw [← h4] at q1
      refine ⟨_, q1, .tuple (vs := [key, x]) (by rw [k3 a (List.mem_of_getElem? q)]; exact e3) rfl rfl (.cons (Ky.isD e2) (.cons (q2.mono (k1.sub)) .nil))⟩
end
end Mine
end

section
namespace Mine
open PySem PySem.Calls PyProof.Rows
theorem Alls.rep {G : Gl} {S : Fz} {vs : List Value} {ds : List D} (h : Alls G S vs ds) : ∀ n : Nat, Alls G S (List.replicate n vs).flatten (List.replicate n ds).flatten
  | 0 => .nil
  | n + 1 => by
    rw [List.replicate_succ, List.replicate_succ, List.flatten_cons, List.flatten_cons]
    exact h.append (h.rep n)
theorem Op2O.mulL {G : Gl} {A : Around} {ds : List D} {x : Int} (h0 : 0 ≤ x) (h1 : x < 2 ^ 60) (hn : ds.length * x.toNat ≤ 1000) : Op2O G A (binaryOp .Mult) (.list ds) (.int x) (.list (List.replicate x.toNat ds).flatten) := fun S s va vb I ha hb => by
  obtain ⟨l, vs, rfl, hl, r⟩ := ha.lst I
  obtain ⟨u, rfl⟩ := hb.intI
  (refine cps fun ZP zk => ?_; obtain ⟨⟨cls, d, data, sl⟩, ho, hc, k, hd⟩ := id hl; refine zk ?_)
  simp only at hc hd
  subst hc hd
  have hsz' : vs.length * x.toNat ≤ 1000 := by rw [r.length]; exact hn
  have hsz2 : vs.toArray.size * x.toNat ≤ 1000 := by rw [List.size_toArray, r.length]; exact hn
  refine wpAny_binaryOp_repeat_ref (T := "list") (U := "int") (by decide) ⟨_, ho, rfl⟩ (fun s' => typeIs_int s' x u) noFill_list_mul PySem.F.fills_int_mul PySem.F.slot_int_rmul repeat_list PySem.F.slot_int_index.lookup
    (call_meets PySem.F.slot_int_rmul (typeIs_int s x u) PySem.F.entry_int_rmul (PySem.F.args_int_rmul_2 _ _) (lm_int_rmul_list_any x u l vs.toArray k d sl)
      ⟨ho, rfl, ⟨_, ho, rfl⟩, call_meets PySem.F.slot_list_mul ⟨_, ho, rfl⟩ PySem.F.entry_list_mul (PySem.F.args_list_mul_2 _ _)
        (lm_list_mul_any l vs.toArray k d sl x u (by simp [Builtin.List.listFitsIndex]; omega) (by omega) (by simp [Builtin.List.listTooLong, sizeLine]; omega))
        ⟨ho, ?_⟩⟩)
  rw [listMul_foldl_if]
  exact PostO.push I (.list (r.rep x.toNat)) rfl
end Mine
end

section
namespace Mine
open PySem PySem.Calls PyProof.Rows

/- what is looked up in the start heap: the kernel computes it once -/
noncomputable def fnD : Data → Option FuncData
  | .func fd => some fd
  | _ => none
noncomputable def fieldsD : Data → Option (Array Value)
  | .fields vs => some vs
  | _ => none
noncomputable def seqD : Data → Option (List Value × Nat)
  | .seq vs n => some (vs.toList, n)
  | _ => none
noncomputable def dictD : Data → Option (Array DictEntry × Nat)
  | .dict es n => some (es, n)
  | _ => none
theorem fnD_of {d : Data} {x : FuncData} (h : fnD d = some x) : d = .func x := by
  cases d with
  | func fd => exact congrArg _ (Option.some.inj h)
  | _ => exact nomatch h
theorem fieldsD_of {d : Data} {x : Array Value} (h : fieldsD d = some x) : d = .fields x := by
  cases d with
  | fields fd => exact congrArg _ (Option.some.inj h)
  | _ => exact nomatch h
theorem dictD_of {d : Data} {x : Array DictEntry} {n : Nat} (h : dictD d = some (x, n)) : d = .dict x n := by
  cases d with
  | dict es m => obtain ⟨rfl, rfl⟩ := Prod.mk.inj (Option.some.inj h); rfl
  | _ => exact nomatch h
noncomputable abbrev FnLook := Arguments × FuncBody × Scope × Addr × Addr × List (Str × Addr) × Value × Value × Value × Str
noncomputable def fnTup (fd : FuncData) : FnLook := (fd.params, fd.body, fd.scope, fd.globals, fd.builtins, fd.closure, fd.defaults, fd.kwdefaults, fd.code, fd.qualname)
noncomputable def strV : Value → Option Str
  | .str q _ => some q
  | _ => none
theorem strV_of {v : Value} {q : Str} (h : strV v = some q) : ∃ t, v = .str q t := by
  cases v with
  | str x t => exact ⟨t, by rw [Option.some.inj h]⟩
  | _ => exact nomatch h
noncomputable def fnLook (h : Heap) (a c : Addr) : Option FnLook × Option Bool :=
  (((h.get? a).bind fun o => fnD o.data).map fnTup, ((h.get? c).bind fun o => fieldsD o.data).bind fun vs => (vs[1]?).bind fun v => (strV v).bind fun q => ((h.get? a).bind fun o => fnD o.data).map fun fd => PySem.W.Fast.sEq q fd.qualname)
noncomputable def nmLook (h : Heap) (ns : List Str) : Option (List (Option Value)) := ((h.get? mainGlobals).bind fun o => dictD o.data).map fun es => ns.map (nsFind es.1)
noncomputable def isStr : Value → Bool
  | .str _ _ => true
  | _ => false
noncomputable def isInt : Value → Bool
  | .int _ _ => true
  | _ => false
noncomputable def isBool : Value → Bool
  | .bool _ => true
  | _ => false
noncomputable def cdLook (h : Heap) (c : Addr) : Option (Value × Option Value × Value × Bool × Bool × Bool × Bool) := (h.get? c).bind fun o => (fieldsD o.data).map fun vs =>
  (o.cls, vs[11]?, vs.getD 11 .none, isStr (vs.getD 18 .none), isInt (vs.getD 7 .none), isBool (vs.getD 9 .none), isInt (vs.getD 10 .none))
theorem isStr_of {v : Value} (h : isStr v = true) : ∃ x t, v = .str x t := by cases v with | str x t => exact ⟨x, t, rfl⟩ | _ => exact nomatch h
theorem isInt_of {v : Value} (h : isInt v = true) : ∃ x t, v = .int x t := by cases v with | int x t => exact ⟨x, t, rfl⟩ | _ => exact nomatch h
theorem isBool_of {v : Value} (h : isBool v = true) : ∃ x, v = .bool x := by cases v with | bool x => exact ⟨x, rfl⟩ | _ => exact nomatch h
section
variable {h h₁ : Heap} {a c : Addr} {P : Arguments} {B : FuncBody} {S : Scope} {g b : Addr} {cl : List (Str × Addr)} {d k : Value}
theorem bind_of {α β : Type} {o : Option α} {f : α → Option β} {y : β} (e : o.bind f = some y) : ∃ x, o = some x ∧ f x = some y := Option.bind_eq_some_iff.mp e
theorem map_of {α β : Type} {o : Option α} {f : α → β} {y : β} (e : o.map f = some y) : ∃ x, o = some x ∧ f x = y := Option.map_eq_some_iff.mp e
noncomputable def FnIs (h : Heap) (a c : Addr) (x : FnLook) : Prop := ∃ o fd oc vs t, h.get? a = some o ∧ o.data = .func fd ∧ fnTup fd = x ∧ h.get? c = some oc ∧ oc.data = .fields vs ∧ vs[1]? = some (.str fd.qualname t)
theorem fnLook_of {x : FnLook} (e : fnLook h a c = (some x, some true)) : FnIs h a c x := by
  obtain ⟨e1, e2⟩ := Prod.mk.inj e
  obtain ⟨fd, e1, ex⟩ := map_of e1
  obtain ⟨vs, e2, e3⟩ := bind_of e2
  obtain ⟨o, h1, h2⟩ := bind_of e1
  obtain ⟨oc, h3, h4⟩ := bind_of e2
  obtain ⟨v, e3, e4⟩ := bind_of e3
  obtain ⟨q, e4, e5⟩ := bind_of e4
  rw [e1] at e5
  obtain ⟨t, rfl⟩ := strV_of e4
  exact ⟨o, fd, oc, vs, t, h1, fnD_of h2, ex, h3, fieldsD_of h4, PySem.W.Fast.sEq_iff.mp (Option.some.inj e5) ▸ e3⟩
theorem nmLook_of {ns : List Str} {vs : List (Option Value)} {m : Str → Option Value} (keeps : ∀ b o, h.get? b = some o → h₁.get? b = some o) (e : nmLook h ns = some vs) (T : h₁.Ns mainGlobals m) : ns.map m = vs := by
  obtain ⟨es, e0, rfl⟩ := map_of e
  obtain ⟨o, x1, x2⟩ := bind_of e0
  obtain ⟨o', es', ep, ho, hd, _, hf⟩ := T
  obtain rfl := Option.some.inj ((keeps _ _ x1).symm.trans ho)
  have hd' := dictD_of (n := es.2) (x := es.1) x2
  rw [(PySem.Data.dict.inj (hd'.symm.trans hd)).1]
  exact List.map_congr_left fun n _ => (hf n).symm
theorem cdLook_of {P : Addr} (e : cdLook h c = some (.type "code", some (.ref P), .ref P, true, true, true, true)) (hne : c ≠ P) (keeps : ∀ a o, h.get? a = some o → h₁.get? a = some o) : PySem.W.CodeHd h₁ c P := by
  obtain ⟨o, x1, e⟩ := bind_of e
  obtain ⟨vs, x2, e⟩ := map_of e
  obtain ⟨y1, y⟩ := Prod.mk.inj e
  obtain ⟨y2, y⟩ := Prod.mk.inj y
  obtain ⟨y3, y⟩ := Prod.mk.inj y
  obtain ⟨y4, y⟩ := Prod.mk.inj y
  obtain ⟨y5, y⟩ := Prod.mk.inj y
  obtain ⟨y6, y7⟩ := Prod.mk.inj y
  obtain ⟨f, tf, z1⟩ := isStr_of y4
  obtain ⟨g, tg, z2⟩ := isInt_of y5
  obtain ⟨i, z3⟩ := isBool_of y6
  obtain ⟨j, tt, z4⟩ := isInt_of y7
  exact ⟨o, vs, f, tf, g, tg, i, j, tt, keeps _ _ x1, y1, fieldsD_of x2, y2, y3, z1, z2, z3, z4, hne⟩
end
noncomputable def baseOf (h : Heap) (t : Addr) : Fz := fun a => if a = t then none else h.get? a
section
variable {h h₁ : Heap} {t a c : Addr} {o : Obj} {G : Gl}
theorem base_at (hG : G.base = baseOf h t) (e : h.get? a = some o) (ha : a ≠ t) : G.base a = some o := by
  rw [hG]; exact (if_neg ha).trans e
theorem base_of (e : baseOf h t a = some o) : h.get? a = some o := by
  unfold baseOf at e
  split at e
  · exact nomatch e
  · exact e
theorem nsObj_at (hG : G.base = baseOf h t) (keeps : ∀ b o, h.get? b = some o → h₁.get? b = some o) (e : (h.get? a).isSome = true) (ha : a ≠ t) {m : Str → Option Value} (H : h₁.Ns a m) : ∃ o, G.base a = some o ∧ NsObj o m := by
  obtain ⟨o, ho⟩ := Option.isSome_iff_exists.mp e
  obtain ⟨o', es, ep, ho', r⟩ := H
  obtain rfl := Option.some.inj ((keeps _ _ ho).symm.trans ho')
  exact ⟨o, base_at hG ho ha, es, ep, r⟩
theorem fnAt_of {mg : Str → Option Value} {nm : Str} {P : Arguments} {B : List Stmt} {S : Scope} {d k : Value} {q : Str} (hG : G.base = baseOf h t) (hn : mg nm = some (.ref a)) (ha : a ≠ t ∧ c ≠ t)
    (e : fnLook h a c = (some (P, .stmts B, S, mainGlobals, builtinsNs, [], d, k, .ref c, q), some true)) : FnAt G mg nm P B S d k a := by
  obtain ⟨o, fd, oc, vs, tk, h1, h2, h3, h13, h14, h15⟩ := fnLook_of e
  exact ⟨hn, o, fd, base_at hG h1 ha.1, h2, congrArg (fun x : FnLook => x.1) h3, congrArg (fun x : FnLook => x.2.1) h3, congrArg (fun x : FnLook => x.2.2.1) h3, congrArg (fun x : FnLook => x.2.2.2.1) h3, congrArg (fun x : FnLook => x.2.2.2.2.1) h3, congrArg (fun x : FnLook => x.2.2.2.2.2.1) h3,
    congrArg (fun x : FnLook => x.2.2.2.2.2.2.1) h3, congrArg (fun x : FnLook => x.2.2.2.2.2.2.2.1) h3, c, oc, vs, tk, congrArg (fun x : FnLook => x.2.2.2.2.2.2.2.2.1) h3, base_at hG h13 ha.2, h14, h15⟩
end
end Mine
end

section
namespace Mine
open PySem PySem.Calls PyProof.Rows
theorem at_of {α β : Type} {f : α → β} {l : List α} {l' : List β} (e : l.map f = l') (i : Nat) {x : α} {y : β} (h1 : l[i]? = some x) (h2 : l'[i]? = some y) : f x = y := by
  subst e
  rw [List.getElem?_map, h1] at h2
  exact Option.some.inj h2
theorem alls_ints {G : Gl} {S : Fz} : ∀ {vs : List Value} {ns : List Int}, IntsAre vs ns → Alls G S vs (ns.map .int)
  | _, _, .nil => .nil
  | _, _, .cons n t h => .cons (.int n t) (alls_ints h)
theorem finish {prog : Program} {w : World} {s₀ s₁ : Shared} {T : Tab} {hs : ∃ o, baseOf s₀.heap T.P sysModules = some o} {ns : List Int} {vs : List Value} {cd fa a : Addr}
    (keeps : ∀ b o, s₀.heap.get? b = some o → s₁.heap.get? b = some o) (h114 : s₀.heap.get? T.P = some (tabObj #[])) (hps : T.ps₀ = #[]) (hsz : s₀.heap.objs.size = a)
    (hc : PySem.W.CodeHd s₁.heap cd T.P) (hg : s₁.gens = #[]) (hl : s₁.heap.IsList a vs.toArray) (hi : IntsAre vs ns)
    (cl : CallD ⟨prog, w, baseOf s₀.heap T.P, s₁.os, [T], hs⟩ callerA (.ref fa) [.list (ns.map .int)] (.bool true)) :
    wpAny (model prog w) callerA (call (.ref fa) [.ref a]) (fun v s' => v = .bool true ∧ OldK s₁.heap s'.heap ∧ s'.os = s₁.os ∧ AllBare s'.gens) (fun _ _ => False) s₁ := by
  obtain ⟨o, ho, hcl, n, hd⟩ := hl
  let G : Gl := ⟨prog, w, baseOf s₀.heap T.P, s₁.os, [T], hs⟩
  let S : Fz := G.base.put a o
  have b118 : G.base a = none := by
    show baseOf s₀.heap T.P a = none
    unfold baseOf
    split
    · rfl
    · rw [← hsz]; exact Inv.fresh
  have hne : a ≠ T.P := fun e => by
    have := Heap.lt_size h114
    rw [hsz, ← e] at this
    exact Nat.lt_irrefl _ this
  have I : Inv G S s₁ := by
    refine ⟨fun b o' e => ?_, Fz.sub_put b118, fun t ht => ?_, fun t ht => ?_, .of_eq hg, rfl⟩
    · by_cases q : b = a
      · subst q
        have e : (G.base.put b o) b = some o' := e
        rw [Fz.put_self] at e; obtain rfl := Option.some.inj e; exact ho
      · have e : (G.base.put a o) b = some o' := e
        rw [Fz.put_ne _ _ q] at e
        exact keeps _ _ (base_of e)
    · rw [List.mem_singleton.mp ht]
      exact ⟨#[], keeps _ _ h114, .inl hps.symm⟩
    · rw [List.mem_singleton.mp ht]
      show (G.base.put a o) T.P = none
      rw [Fz.put_ne _ _ (Ne.symm hne)]
      exact if_pos rfl
  refine wpAny_mono (cl S s₁ [.ref a] I (.cons (.list (Fz.put_self ..) hcl hd (alls_ints hi)) .nil)) (fun v s' ⟨S', st, i⟩ => ?_) fun _ _ e => e
  obtain ⟨oc, cv, file, tf, flags, tg, inF, text, tt, c1, c2, c3, c4, _⟩ := hc
  refine ⟨by cases i; rfl, ⟨fun b o' e => ?_, fun b o' e => ?_⟩, st.inv.os, st.inv.bare⟩
  all_goals
    by_cases q : b = T.P
    · subst q
      rw [keeps _ _ h114] at e
      obtain rfl := Option.some.inj e
      obtain ⟨ps, hps', _⟩ := st.inv.tab T (.head _)
      first
      | exact ⟨_, hps'⟩
      | (refine .inr (.inl ⟨⟨cd, oc, cv, c1, c2, c3, c4⟩, rfl, #[], ps, rfl, ?_⟩)
         rw [show (#[] ++ ps : Array Value) = ps by simp]
         exact hps')
    · have k := st.keep b o' (fun t ht e' => q (by rw [List.mem_singleton.mp ht] at e'; exact e'.symm)) e
      first
      | exact ⟨o', k⟩
      | exact .inl k
end Mine
end

section
namespace Mine
open PySem PySem.Challenge
noncomputable def nthS : List Stmt → Nat → Option Stmt
  | [], _ => none
  | s :: _, 0 => some s
  | _ :: r, n + 1 => nthS r n
noncomputable def partsS : Option Stmt → Option (Arguments × List Stmt × Scope)
  | some (.FunctionDef _ a b _ _ _ sc _ _ _) => some (a, b, sc)
  | _ => none
theorem nthS0 (s : Stmt) (r : List Stmt) : nthS (s :: r) 0 = some s := rfl
theorem nthS1 (s : Stmt) (r : List Stmt) (n : Nat) : nthS (s :: r) (n + 1) = nthS r n := rfl
noncomputable abbrev PartsAt (n : Nat) := Σ' t : Arguments × List Stmt × Scope, partsS (nthS pw_xh0025_01.main.body n) = some t
noncomputable abbrev iter_escaped_chars_S : PartsAt 1 := by
  dsimp only [PartsAt, pw_xh0025_01, nthS0, nthS1, partsS]
  exact ⟨_, rfl⟩
noncomputable abbrev iter_escaped_chars_p : Arguments := iter_escaped_chars_S.1.1
noncomputable abbrev iter_escaped_chars_b : List Stmt := iter_escaped_chars_S.1.2.1
noncomputable abbrev iter_escaped_chars_s : Scope := iter_escaped_chars_S.1.2.2
noncomputable abbrev strip_quoted_realnames_S : PartsAt 2 := by
  dsimp only [PartsAt, pw_xh0025_01, nthS0, nthS1, partsS]
  exact ⟨_, rfl⟩
noncomputable abbrev strip_quoted_realnames_p : Arguments := strip_quoted_realnames_S.1.1
noncomputable abbrev strip_quoted_realnames_b : List Stmt := strip_quoted_realnames_S.1.2.1
noncomputable abbrev strip_quoted_realnames_s : Scope := strip_quoted_realnames_S.1.2.2
noncomputable abbrev check_parenthesis_S : PartsAt 3 := by
  dsimp only [PartsAt, pw_xh0025_01, nthS0, nthS1, partsS]
  exact ⟨_, rfl⟩
noncomputable abbrev check_parenthesis_p : Arguments := check_parenthesis_S.1.1
noncomputable abbrev check_parenthesis_b : List Stmt := check_parenthesis_S.1.2.1
noncomputable abbrev check_parenthesis_s : Scope := check_parenthesis_S.1.2.2
noncomputable abbrev insort_right_S : PartsAt 5 := by
  dsimp only [PartsAt, pw_xh0025_01, nthS0, nthS1, partsS]
  exact ⟨_, rfl⟩
noncomputable abbrev insort_right_p : Arguments := insort_right_S.1.1
noncomputable abbrev insort_right_b : List Stmt := insort_right_S.1.2.1
noncomputable abbrev insort_right_s : Scope := insort_right_S.1.2.2
noncomputable abbrev bisect_right_S : PartsAt 6 := by
  dsimp only [PartsAt, pw_xh0025_01, nthS0, nthS1, partsS]
  exact ⟨_, rfl⟩
noncomputable abbrev bisect_right_p : Arguments := bisect_right_S.1.1
noncomputable abbrev bisect_right_b : List Stmt := bisect_right_S.1.2.1
noncomputable abbrev bisect_right_s : Scope := bisect_right_S.1.2.2
noncomputable abbrev insort_left_S : PartsAt 7 := by
  dsimp only [PartsAt, pw_xh0025_01, nthS0, nthS1, partsS]
  exact ⟨_, rfl⟩
noncomputable abbrev insort_left_p : Arguments := insort_left_S.1.1
noncomputable abbrev insort_left_b : List Stmt := insort_left_S.1.2.1
noncomputable abbrev insort_left_s : Scope := insort_left_S.1.2.2
noncomputable abbrev bisect_left_S : PartsAt 8 := by
  dsimp only [PartsAt, pw_xh0025_01, nthS0, nthS1, partsS]
  exact ⟨_, rfl⟩
noncomputable abbrev bisect_left_p : Arguments := bisect_left_S.1.1
noncomputable abbrev bisect_left_b : List Stmt := bisect_left_S.1.2.1
noncomputable abbrev bisect_left_s : Scope := bisect_left_S.1.2.2
noncomputable abbrev add_func_stats_S : PartsAt 10 := by
  dsimp only [PartsAt, pw_xh0025_01, nthS0, nthS1, partsS]
  exact ⟨_, rfl⟩
noncomputable abbrev add_func_stats_p : Arguments := add_func_stats_S.1.1
noncomputable abbrev add_func_stats_b : List Stmt := add_func_stats_S.1.2.1
noncomputable abbrev add_func_stats_s : Scope := add_func_stats_S.1.2.2
noncomputable abbrev add_callers_S : PartsAt 11 := by
  dsimp only [PartsAt, pw_xh0025_01, nthS0, nthS1, partsS]
  exact ⟨_, rfl⟩
noncomputable abbrev add_callers_p : Arguments := add_callers_S.1.1
noncomputable abbrev add_callers_b : List Stmt := add_callers_S.1.2.1
noncomputable abbrev add_callers_s : Scope := add_callers_S.1.2.2
noncomputable abbrev count_calls_S : PartsAt 12 := by
  dsimp only [PartsAt, pw_xh0025_01, nthS0, nthS1, partsS]
  exact ⟨_, rfl⟩
noncomputable abbrev count_calls_p : Arguments := count_calls_S.1.1
noncomputable abbrev count_calls_b : List Stmt := count_calls_S.1.2.1
noncomputable abbrev count_calls_s : Scope := count_calls_S.1.2.2
noncomputable abbrev law_join_S : PartsAt 14 := by
  dsimp only [PartsAt, pw_xh0025_01, nthS0, nthS1, partsS]
  exact ⟨_, rfl⟩
noncomputable abbrev law_join_p : Arguments := law_join_S.1.1
noncomputable abbrev law_join_b : List Stmt := law_join_S.1.2.1
noncomputable abbrev law_join_s : Scope := law_join_S.1.2.2
noncomputable abbrev law_runs_S : PartsAt 15 := by
  dsimp only [PartsAt, pw_xh0025_01, nthS0, nthS1, partsS]
  exact ⟨_, rfl⟩
noncomputable abbrev law_runs_p : Arguments := law_runs_S.1.1
noncomputable abbrev law_runs_b : List Stmt := law_runs_S.1.2.1
noncomputable abbrev law_runs_s : Scope := law_runs_S.1.2.2
noncomputable abbrev law_put_S : PartsAt 16 := by
  dsimp only [PartsAt, pw_xh0025_01, nthS0, nthS1, partsS]
  exact ⟨_, rfl⟩
noncomputable abbrev law_put_p : Arguments := law_put_S.1.1
noncomputable abbrev law_put_b : List Stmt := law_put_S.1.2.1
noncomputable abbrev law_put_s : Scope := law_put_S.1.2.2
noncomputable abbrev law_S : PartsAt 17 := by
  dsimp only [PartsAt, pw_xh0025_01, nthS0, nthS1, partsS]
  exact ⟨_, rfl⟩
noncomputable abbrev law_p : Arguments := law_S.1.1
noncomputable abbrev law_b : List Stmt := law_S.1.2.1
noncomputable abbrev law_s : Scope := law_S.1.2.2
end Mine
end

section
namespace Mine
open PySem PySem.Challenge PySem.Calls PyProof.Rows
section
variable {G : Gl} {A : Around} {n : Nat} {mg mb : Str → Option Value} {ds : List D} {x hiD : D} {lo hi c : Int}
noncomputable def clampTo (lo hi c : Int) : Int := max lo (min hi c)
theorem mid_lo {l h : Int} (q : l < h) : l ≤ (l + h) / 2 := by omega
theorem mid_hi {l h : Int} (q : l < h) : (l + h) / 2 < h := by omega
theorem toNat_lt {m h : Int} {n : Nat} (a : 0 ≤ m) (q : m < h) (r : h ≤ n) : m.toNat < n := by omega
theorem small_mid {m h : Int} {n : Nat} (q : m < h) (r : h ≤ n) (z : n ≤ 1000) : m < 2 ^ 63 := by omega
theorem clamp_up {l h c m : Int} (a : l ≤ m) (b : m < h) (q : m < c) : clampTo (m + 1) h c = clampTo l h c := by unfold clampTo; omega
theorem clamp_dn {l h c m : Int} (a : l ≤ m) (b : m < h) (q : c ≤ m) : clampTo l m c = clampTo l h c := by unfold clampTo; omega
theorem clamp_end {l h c : Int} (q : ¬ l < h) : clampTo l h c = l := by unfold clampTo; omega
theorem less_up {l h m : Int} (a : l ≤ m) (b : m < h) : (h - (m + 1)).toNat < (h - l).toNat := by omega
theorem less_dn {l h m : Int} (a : l ≤ m) (b : m < h) : (m - l).toNat < (h - l).toNat := by omega
theorem run_bisect_left (hA : Room n A) (N : Names G mg mb) (hlen : mg "len" = none ∧ mb "len" = some (.builtin "len")) (hn : ds.length ≤ 1000) (h0 : 0 ≤ lo) (hhi : hiD = .int hi ∨ (hiD = .none ∧ hi = ds.length)) (hle : hi ≤ ds.length) (hc : c ≤ ds.length)
    (p : ∀ i : Nat, ∀ d, ds[i]? = some d → Cmp G A .Lt d x (decide ((i : Int) < c))) (act : Act bisect_left_s (cellNames bisect_left_s.names)) :
    Run G A act (execs bisect_left_b act.env) (zipEnv ["a", "x", "lo", "hi", "key"] [.list ds, x, .int lo, hiD, .none]) fun fd _ => fd = .ret (.int (clampTo lo hi c)) := by
  unfold bisect_left_b
  refine Run.cons (Run.ite (b := false) ?_ (fun h => nomatch h) fun _ => Run.nil ?_)
  · refine Te.eq (Te.cmp (Ev.name rfl) (Ev.int 0) Cmp.lt) ?_
    exact decide_eq_false (by lia)
  refine Run.cons (Run.mono (Q := fun fd ρ => fd = .next ∧ Has ρ [("a", .val (.list ds)), ("x", .val x), ("lo", .val (.int lo)), ("hi", .val (.int hi)), ("key", .val .none)]) ?_ ?_)
  · refine Run.ite (Te.cmp (Ev.name rfl) Ev.none Cmp.isNone) (fun h => ?_) fun h => Run.nil ?_
    · rcases hhi with rfl | ⟨rfl, rfl⟩
      · cases h
      · refine Run.cons (Run.assign (Ev.call (EvV.blt N rfl hlen.1 hlen.2) (.builtin _) (.more (Ev.name rfl) .nil) (CallD.lenL (Nat.le_trans hn (by decide)))) (by decide) (Run.nil ⟨rfl, ?_⟩))
        exact Has.of rfl
    · rcases hhi with rfl | ⟨rfl, rfl⟩
      · exact ⟨rfl, Has.of rfl⟩
      · cases h
  rintro fd ρ ⟨rfl, hρ⟩
  refine Run.has ?_ hρ
  refine Run.cons (Run.mono (Q := fun fd ρ => fd = .next ∧ Has ρ [("lo", .val (.int (clampTo lo hi c)))]) ?_ ?_)
  · refine Run.ite (b := true) (Te.cmp (Ev.name rfl) Ev.none Cmp.isNone) (fun h => ?_) (fun h => nomatch h)
    refine Run.cons (Run.loop (fun a : Int × Int => [("a", .val (.list ds)), ("x", .val x), ("lo", .val (.int a.1)), ("hi", .val (.int a.2)), ("key", .val .none)])
      (fun a => 0 ≤ a.1 ∧ a.2 ≤ ds.length ∧ clampTo a.1 a.2 c = clampTo lo hi c) (fun a => (a.2 - a.1).toNat) (lo, hi) ⟨h0, hle, rfl⟩ (Has.of rfl) ?_)
    rintro ⟨l, h⟩ ⟨i0, i1, i2⟩
    refine ⟨decide (l < h), Te.cmp (Ev.name rfl) (Ev.name rfl) Cmp.lt, fun hb => ?_, fun hb ρ' hρ' => Run.nil ⟨rfl, ?_⟩⟩
    · have hb : l < h := of_decide_eq_true hb
      have m1 := mid_lo hb
      have m2 := mid_hi hb
      have m0 := Int.le_trans i0 m1
      have hm : ((l + h) / 2).toNat < ds.length := toNat_lt m0 m2 i1
      refine Run.cons (Run.assign (Ev.bin (Ev.bin (Ev.name rfl) (Ev.name rfl) Op2.add) (Ev.int 2) (Op2.fdiv (by decide) (by decide))) (by decide) ?_)
      refine Run.cons (Run.ite (b := decide ((l + h) / 2 < c)) ?_ (fun hb => ?_) fun hb => ?_)
      · refine Te.eq (Te.cmp (Ev.sub (Ev.name rfl) (Ev.name rfl) (SubD.list m0 (small_mid m2 i1 hn) (List.getElem?_eq_getElem hm))) (Ev.name rfl) (p _ _ (List.getElem?_eq_getElem hm))) ?_
        rw [Int.toNat_of_nonneg m0]
      · refine Run.cons (Run.assign (Ev.bin (Ev.name rfl) (Ev.int 1) Op2.add) (by decide) (Run.nil (Run.nil ⟨((l + h) / 2 + 1, h), ⟨?_, i1, ?_⟩, ?_, Has.of rfl⟩)))
        · exact Int.le_trans m0 (Int.le_add_one (Int.le_refl _))
        · exact (clamp_up m1 m2 (of_decide_eq_true hb)).trans i2
        · exact less_up m1 m2
      · refine Run.cons (Run.assign (Ev.name rfl) (by decide) (Run.nil (Run.nil ⟨(l, (l + h) / 2), ⟨i0, ?_, ?_⟩, ?_, Has.of rfl⟩)))
        · exact Int.le_trans (Int.le_of_lt m2) i1
        · exact (clamp_dn m1 m2 (Int.not_lt.mp (of_decide_eq_false hb))).trans i2
        · exact less_dn m1 m2
    · rw [i2.symm.trans (clamp_end (of_decide_eq_false hb))]
      exact ⟨hρ'.2.2.1, trivial⟩
  rintro fd ρ ⟨rfl, hρ⟩
  refine Run.has ?_ hρ
  exact Run.cons (Run.ret (Ev.name rfl) rfl)
theorem run_bisect_right (hA : Room n A) (N : Names G mg mb) (hlen : mg "len" = none ∧ mb "len" = some (.builtin "len")) (hn : ds.length ≤ 1000) (h0 : 0 ≤ lo) (hhi : hiD = .int hi ∨ (hiD = .none ∧ hi = ds.length)) (hle : hi ≤ ds.length) (hc : c ≤ ds.length)
    (p : ∀ i : Nat, ∀ d, ds[i]? = some d → Cmp G A .Lt x d (decide (c ≤ (i : Int)))) (act : Act bisect_right_s (cellNames bisect_right_s.names)) :
    Run G A act (execs bisect_right_b act.env) (zipEnv ["a", "x", "lo", "hi", "key"] [.list ds, x, .int lo, hiD, .none]) fun fd _ => fd = .ret (.int (clampTo lo hi c)) := by
  unfold bisect_right_b
  refine Run.cons (Run.ite (b := false) ?_ (fun h => nomatch h) fun _ => Run.nil ?_)
  · refine Te.eq (Te.cmp (Ev.name rfl) (Ev.int 0) Cmp.lt) ?_
    exact decide_eq_false (by lia)
  refine Run.cons (Run.mono (Q := fun fd ρ => fd = .next ∧ Has ρ [("a", .val (.list ds)), ("x", .val x), ("lo", .val (.int lo)), ("hi", .val (.int hi)), ("key", .val .none)]) ?_ ?_)
  · refine Run.ite (Te.cmp (Ev.name rfl) Ev.none Cmp.isNone) (fun h => ?_) fun h => Run.nil ?_
    · rcases hhi with rfl | ⟨rfl, rfl⟩
      · cases h
      · refine Run.cons (Run.assign (Ev.call (EvV.blt N rfl hlen.1 hlen.2) (.builtin _) (.more (Ev.name rfl) .nil) (CallD.lenL (Nat.le_trans hn (by decide)))) (by decide) (Run.nil ⟨rfl, ?_⟩))
        exact Has.of rfl
    · rcases hhi with rfl | ⟨rfl, rfl⟩
      · exact ⟨rfl, Has.of rfl⟩
      · cases h
  rintro fd ρ ⟨rfl, hρ⟩
  refine Run.has ?_ hρ
  refine Run.cons (Run.mono (Q := fun fd ρ => fd = .next ∧ Has ρ [("lo", .val (.int (clampTo lo hi c)))]) ?_ ?_)
  · refine Run.ite (b := true) (Te.cmp (Ev.name rfl) Ev.none Cmp.isNone) (fun h => ?_) (fun h => nomatch h)
    refine Run.cons (Run.loop (fun a : Int × Int => [("a", .val (.list ds)), ("x", .val x), ("lo", .val (.int a.1)), ("hi", .val (.int a.2)), ("key", .val .none)])
      (fun a => 0 ≤ a.1 ∧ a.2 ≤ ds.length ∧ clampTo a.1 a.2 c = clampTo lo hi c) (fun a => (a.2 - a.1).toNat) (lo, hi) ⟨h0, hle, rfl⟩ (Has.of rfl) ?_)
    rintro ⟨l, h⟩ ⟨i0, i1, i2⟩
    refine ⟨decide (l < h), Te.cmp (Ev.name rfl) (Ev.name rfl) Cmp.lt, fun hb => ?_, fun hb ρ' hρ' => Run.nil ⟨rfl, ?_⟩⟩
    · have hb : l < h := of_decide_eq_true hb
      have m1 := mid_lo hb
      have m2 := mid_hi hb
      have m0 := Int.le_trans i0 m1
      have hm : ((l + h) / 2).toNat < ds.length := toNat_lt m0 m2 i1
      refine Run.cons (Run.assign (Ev.bin (Ev.bin (Ev.name rfl) (Ev.name rfl) Op2.add) (Ev.int 2) (Op2.fdiv (by decide) (by decide))) (by decide) ?_)
      refine Run.cons (Run.ite (b := decide (c ≤ (l + h) / 2)) ?_ (fun hb => ?_) fun hb => ?_)
      · refine Te.eq (Te.cmp (Ev.name rfl) (Ev.sub (Ev.name rfl) (Ev.name rfl) (SubD.list m0 (small_mid m2 i1 hn) (List.getElem?_eq_getElem hm))) (p _ _ (List.getElem?_eq_getElem hm))) ?_
        rw [Int.toNat_of_nonneg m0]
      · refine Run.cons (Run.assign (Ev.name rfl) (by decide) (Run.nil (Run.nil ⟨(l, (l + h) / 2), ⟨i0, ?_, ?_⟩, ?_, Has.of rfl⟩)))
        · exact Int.le_trans (Int.le_of_lt m2) i1
        · exact (clamp_dn m1 m2 (of_decide_eq_true hb)).trans i2
        · exact less_dn m1 m2
      · refine Run.cons (Run.assign (Ev.bin (Ev.name rfl) (Ev.int 1) Op2.add) (by decide) (Run.nil (Run.nil ⟨((l + h) / 2 + 1, h), ⟨?_, i1, ?_⟩, ?_, Has.of rfl⟩)))
        · exact Int.le_trans m0 (Int.le_add_one (Int.le_refl _))
        · exact (clamp_up m1 m2 (Int.not_le.mp (of_decide_eq_false hb))).trans i2
        · exact less_up m1 m2
    · rw [i2.symm.trans (clamp_end (of_decide_eq_false hb))]
      exact ⟨hρ'.2.2.1, trivial⟩
  rintro fd ρ ⟨rfl, hρ⟩
  refine Run.has ?_ hρ
  exact Run.cons (Run.ret (Ev.name rfl) rfl)
end
end Mine
end

section
namespace Mine
open PySem PySem.Challenge PySem.Calls PyProof.Rows
structure Dfl (G : Gl) (T K : Addr) : Prop where
  t : ∃ n tk, G.base T = some { cls := .type "tuple", data := .seq #[.int 0 tk, .none] n }
  k : ∃ h tk ep, G.base K = some { cls := .type "dict", data := .dict #[{ hash := h, key := .str "key" tk, val := .none }] ep }
set_option tactic.hygienic true in
theorem frag2 {a b : Addr} {o p : Obj} {h : Heap} (h1 : h.get? a = some o) (h2 : h.get? b = some p) : PySem.W.Frag.In [(a, o), (b, p)] h := fun c q e => by
  simp only [List.lookup] at e
  split at e
  · rename_i hc; obtain rfl := Option.some.inj e; rw [eq_of_beq hc]; exact h1
  · split at e
    · rename_i hc; obtain rfl := Option.some.inj e; rw [eq_of_beq hc]; exact h2
    · exact nomatch e
structure Mod (G : Gl) (mg mb : Str → Option Value) : Prop where
  N : Names G mg mb
  b_len : mg "len" = none ∧ mb "len" = some (.builtin "len")
  b_range : mg "range" = none ∧ mb "range" = some (.type "range")
  b_list : mg "list" = none ∧ mb "list" = some (.type "list")
  b_dict : mg "dict" = none ∧ mb "dict" = some (.type "dict")
  b_sorted : mg "sorted" = none ∧ mb "sorted" = some (.builtin "sorted")
  b_sum : mg "sum" = none ∧ mb "sum" = some (.builtin "sum")
  b_max : mg "max" = none ∧ mb "max" = some (.builtin "max")
  b_min : mg "min" = none ∧ mb "min" = some (.builtin "min")
  b_int : mg "int" = none ∧ mb "int" = some (.type "int")
  b_isinstance : mg "isinstance" = none ∧ mb "isinstance" = some (.builtin "isinstance")
  b_tuple : mg "tuple" = none ∧ mb "tuple" = some (.type "tuple")
  b_str : mg "str" = none ∧ mb "str" = some (.type "str")
  b_enumerate : mg "enumerate" = none ∧ mb "enumerate" = some (.type "enumerate")
  b_zip : mg "zip" = none ∧ mb "zip" = some (.type "zip")
  b_ValueError : mg "ValueError" = none ∧ mb "ValueError" = some (.type "ValueError")
  f_iter_escaped_chars : FnAt G mg "_iter_escaped_chars" iter_escaped_chars_p iter_escaped_chars_b iter_escaped_chars_s .none .none 21
  f_strip_quoted_realnames : FnAt G mg "_strip_quoted_realnames" strip_quoted_realnames_p strip_quoted_realnames_b strip_quoted_realnames_s .none .none 28
  f_check_parenthesis : FnAt G mg "_check_parenthesis" check_parenthesis_p check_parenthesis_b check_parenthesis_s .none .none 35
  f_insort_right : FnAt G mg "insort_right" insort_right_p insort_right_b insort_right_s (.ref 36) (.ref 37) 44
  f_bisect_right : FnAt G mg "bisect_right" bisect_right_p bisect_right_b bisect_right_s (.ref 45) (.ref 46) 53
  f_insort_left : FnAt G mg "insort_left" insort_left_p insort_left_b insort_left_s (.ref 54) (.ref 55) 62
  f_bisect_left : FnAt G mg "bisect_left" bisect_left_p bisect_left_b bisect_left_s (.ref 63) (.ref 64) 71
  f_add_func_stats : FnAt G mg "add_func_stats" add_func_stats_p add_func_stats_b add_func_stats_s .none .none 78
  f_add_callers : FnAt G mg "add_callers" add_callers_p add_callers_b add_callers_s .none .none 85
  f_count_calls : FnAt G mg "count_calls" count_calls_p count_calls_b count_calls_s .none .none 92
  f_law_join : FnAt G mg "_law_join" law_join_p law_join_b law_join_s .none .none 97
  f_law_runs : FnAt G mg "_law_runs" law_runs_p law_runs_b law_runs_s .none .none 102
  f_law_put : FnAt G mg "_law_put" law_put_p law_put_b law_put_s .none .none 107
  f_law : FnAt G mg "law" law_p law_b law_s .none .none 112
  d_insort_right : Dfl G 36 37
  d_bisect_right : Dfl G 45 46
  d_insort_left : Dfl G 54 55
  d_bisect_left : Dfl G 63 64
section
variable {G : Gl} {A : Around} {S : Fz} {s : Shared} {a x lo hi : Value} {tk : Tok} {n : Nat}
theorem bind_insort_right2 (ht : G.base 36 = some { cls := .type "tuple", data := .seq #[.int 0 tk, .none] n }) (D : Dfl G 36 37) (fd : FuncData) (h1 : fd.params = insort_right_p) (h2 : fd.defaults = .ref 36) (h3 : fd.kwdefaults = .ref 37) (I : Inv G S s) :
    BindsTo s fd ⟨[a, x], []⟩ [("a", a), ("x", x), ("lo", (.int 0 tk)), ("hi", .none), ("key", .none)] := by
  obtain ⟨hh, tk', ep, ho'⟩ := D.k
  obtain ⟨nm, qn, ps, bd, sc, gl, cl, df, kd, doc, mo, an, cd, ct, bl⟩ := fd
  simp only at h1 h2 h3
  subst h1 h2 h3
  exact PySem.W.kp_binds (frag2 (I.sub _ _ (I.base _ _ ht)) (I.sub _ _ (I.base _ _ ho'))) fun S => rfl
theorem bind_insort_right3 (ht : G.base 36 = some { cls := .type "tuple", data := .seq #[.int 0 tk, .none] n }) (D : Dfl G 36 37) (fd : FuncData) (h1 : fd.params = insort_right_p) (h2 : fd.defaults = .ref 36) (h3 : fd.kwdefaults = .ref 37) (I : Inv G S s) :
    BindsTo s fd ⟨[a, x, lo], []⟩ [("a", a), ("x", x), ("lo", lo), ("hi", .none), ("key", .none)] := by
  obtain ⟨hh, tk', ep, ho'⟩ := D.k
  obtain ⟨nm, qn, ps, bd, sc, gl, cl, df, kd, doc, mo, an, cd, ct, bl⟩ := fd
  simp only at h1 h2 h3
  subst h1 h2 h3
  exact PySem.W.kp_binds (frag2 (I.sub _ _ (I.base _ _ ht)) (I.sub _ _ (I.base _ _ ho'))) fun S => rfl
theorem bind_insort_right4 (ht : G.base 36 = some { cls := .type "tuple", data := .seq #[.int 0 tk, .none] n }) (D : Dfl G 36 37) (fd : FuncData) (h1 : fd.params = insort_right_p) (h2 : fd.defaults = .ref 36) (h3 : fd.kwdefaults = .ref 37) (I : Inv G S s) :
    BindsTo s fd ⟨[a, x, lo, hi], []⟩ [("a", a), ("x", x), ("lo", lo), ("hi", hi), ("key", .none)] := by
  obtain ⟨hh, tk', ep, ho'⟩ := D.k
  obtain ⟨nm, qn, ps, bd, sc, gl, cl, df, kd, doc, mo, an, cd, ct, bl⟩ := fd
  simp only at h1 h2 h3
  subst h1 h2 h3
  exact PySem.W.kp_binds (frag2 (I.sub _ _ (I.base _ _ ht)) (I.sub _ _ (I.base _ _ ho'))) fun S => rfl
theorem bind_bisect_right2 (ht : G.base 45 = some { cls := .type "tuple", data := .seq #[.int 0 tk, .none] n }) (D : Dfl G 45 46) (fd : FuncData) (h1 : fd.params = bisect_right_p) (h2 : fd.defaults = .ref 45) (h3 : fd.kwdefaults = .ref 46) (I : Inv G S s) :
    BindsTo s fd ⟨[a, x], []⟩ [("a", a), ("x", x), ("lo", (.int 0 tk)), ("hi", .none), ("key", .none)] := by
  obtain ⟨hh, tk', ep, ho'⟩ := D.k
  obtain ⟨nm, qn, ps, bd, sc, gl, cl, df, kd, doc, mo, an, cd, ct, bl⟩ := fd
  simp only at h1 h2 h3
  subst h1 h2 h3
  exact PySem.W.kp_binds (frag2 (I.sub _ _ (I.base _ _ ht)) (I.sub _ _ (I.base _ _ ho'))) fun S => rfl
theorem bind_bisect_right4 (ht : G.base 45 = some { cls := .type "tuple", data := .seq #[.int 0 tk, .none] n }) (D : Dfl G 45 46) (fd : FuncData) (h1 : fd.params = bisect_right_p) (h2 : fd.defaults = .ref 45) (h3 : fd.kwdefaults = .ref 46) (I : Inv G S s) :
    BindsTo s fd ⟨[a, x, lo, hi], []⟩ [("a", a), ("x", x), ("lo", lo), ("hi", hi), ("key", .none)] := by
  obtain ⟨hh, tk', ep, ho'⟩ := D.k
  obtain ⟨nm, qn, ps, bd, sc, gl, cl, df, kd, doc, mo, an, cd, ct, bl⟩ := fd
  simp only at h1 h2 h3
  subst h1 h2 h3
  exact PySem.W.kp_binds (frag2 (I.sub _ _ (I.base _ _ ht)) (I.sub _ _ (I.base _ _ ho'))) fun S => rfl
theorem bind_insort_left2 (ht : G.base 54 = some { cls := .type "tuple", data := .seq #[.int 0 tk, .none] n }) (D : Dfl G 54 55) (fd : FuncData) (h1 : fd.params = insort_left_p) (h2 : fd.defaults = .ref 54) (h3 : fd.kwdefaults = .ref 55) (I : Inv G S s) :
    BindsTo s fd ⟨[a, x], []⟩ [("a", a), ("x", x), ("lo", (.int 0 tk)), ("hi", .none), ("key", .none)] := by
  obtain ⟨hh, tk', ep, ho'⟩ := D.k
  obtain ⟨nm, qn, ps, bd, sc, gl, cl, df, kd, doc, mo, an, cd, ct, bl⟩ := fd
  simp only at h1 h2 h3
  subst h1 h2 h3
  exact PySem.W.kp_binds (frag2 (I.sub _ _ (I.base _ _ ht)) (I.sub _ _ (I.base _ _ ho'))) fun S => rfl
theorem bind_insort_left4 (ht : G.base 54 = some { cls := .type "tuple", data := .seq #[.int 0 tk, .none] n }) (D : Dfl G 54 55) (fd : FuncData) (h1 : fd.params = insort_left_p) (h2 : fd.defaults = .ref 54) (h3 : fd.kwdefaults = .ref 55) (I : Inv G S s) :
    BindsTo s fd ⟨[a, x, lo, hi], []⟩ [("a", a), ("x", x), ("lo", lo), ("hi", hi), ("key", .none)] := by
  obtain ⟨hh, tk', ep, ho'⟩ := D.k
  obtain ⟨nm, qn, ps, bd, sc, gl, cl, df, kd, doc, mo, an, cd, ct, bl⟩ := fd
  simp only at h1 h2 h3
  subst h1 h2 h3
  exact PySem.W.kp_binds (frag2 (I.sub _ _ (I.base _ _ ht)) (I.sub _ _ (I.base _ _ ho'))) fun S => rfl
theorem bind_bisect_left2 (ht : G.base 63 = some { cls := .type "tuple", data := .seq #[.int 0 tk, .none] n }) (D : Dfl G 63 64) (fd : FuncData) (h1 : fd.params = bisect_left_p) (h2 : fd.defaults = .ref 63) (h3 : fd.kwdefaults = .ref 64) (I : Inv G S s) :
    BindsTo s fd ⟨[a, x], []⟩ [("a", a), ("x", x), ("lo", (.int 0 tk)), ("hi", .none), ("key", .none)] := by
  obtain ⟨hh, tk', ep, ho'⟩ := D.k
  obtain ⟨nm, qn, ps, bd, sc, gl, cl, df, kd, doc, mo, an, cd, ct, bl⟩ := fd
  simp only at h1 h2 h3
  subst h1 h2 h3
  exact PySem.W.kp_binds (frag2 (I.sub _ _ (I.base _ _ ht)) (I.sub _ _ (I.base _ _ ho'))) fun S => rfl
theorem bind_bisect_left3 (ht : G.base 63 = some { cls := .type "tuple", data := .seq #[.int 0 tk, .none] n }) (D : Dfl G 63 64) (fd : FuncData) (h1 : fd.params = bisect_left_p) (h2 : fd.defaults = .ref 63) (h3 : fd.kwdefaults = .ref 64) (I : Inv G S s) :
    BindsTo s fd ⟨[a, x, lo], []⟩ [("a", a), ("x", x), ("lo", lo), ("hi", .none), ("key", .none)] := by
  obtain ⟨hh, tk', ep, ho'⟩ := D.k
  obtain ⟨nm, qn, ps, bd, sc, gl, cl, df, kd, doc, mo, an, cd, ct, bl⟩ := fd
  simp only at h1 h2 h3
  subst h1 h2 h3
  exact PySem.W.kp_binds (frag2 (I.sub _ _ (I.base _ _ ht)) (I.sub _ _ (I.base _ _ ho'))) fun S => rfl
theorem bind_bisect_left4 (ht : G.base 63 = some { cls := .type "tuple", data := .seq #[.int 0 tk, .none] n }) (D : Dfl G 63 64) (fd : FuncData) (h1 : fd.params = bisect_left_p) (h2 : fd.defaults = .ref 63) (h3 : fd.kwdefaults = .ref 64) (I : Inv G S s) :
    BindsTo s fd ⟨[a, x, lo, hi], []⟩ [("a", a), ("x", x), ("lo", lo), ("hi", hi), ("key", .none)] := by
  obtain ⟨hh, tk', ep, ho'⟩ := D.k
  obtain ⟨nm, qn, ps, bd, sc, gl, cl, df, kd, doc, mo, an, cd, ct, bl⟩ := fd
  simp only at h1 h2 h3
  subst h1 h2 h3
  exact PySem.W.kp_binds (frag2 (I.sub _ _ (I.base _ _ ht)) (I.sub _ _ (I.base _ _ ho'))) fun S => rfl
end
section
variable {G : Gl} {A : Around} {n : Nat} {mg mb : Str → Option Value} {ds : List D} {x hiD : D} {lo hi c : Int}
theorem call_bisect_left2 (M : Mod G mg mb) (hA : Room (n + 1) A) (hn : ds.length ≤ 1000)  (hc : c ≤ ds.length)
    (p : ∀ A' (i : Nat) d, ds[i]? = some d → Room n A' → Cmp G A' .Lt d x (decide ((i : Int) < c))) : CallD G A (.ref 71) [.list ds, x] (.int (clampTo 0 ds.length c)) := by
  obtain ⟨m, tk, ht⟩ := M.d_bisect_left.t
  refine CallD.fn (n := n) (xs := ["a", "x", "lo", "hi", "key"]) M.f_bisect_left M.N hA (by decide) (by decide) [("lo", .int 0 tk, .int 0), ("hi", .none, .none), ("key", .none, .none)] rfl (fun vs fd S s hl h1 h2 h3 I => ?_) (fun S s I => .cons (.int ..) (.cons (.none) (.cons (.none) (.nil)))) fun act => ?_
  · obtain ⟨a0, a1, rfl⟩ := len2 hl
    exact bind_bisect_left2 ht M.d_bisect_left fd h1 h2 h3 I
  · exact (run_bisect_left (hA.deeper act.env) M.N M.b_len hn (Int.le_refl 0) (.inr ⟨rfl, rfl⟩) (Int.le_refl _) hc (fun i d hd => p _ i d hd (hA.deeper act.env)) act).mono fun fd _ e => by rw [e]; rfl
theorem call_bisect_left4 (M : Mod G mg mb) (hA : Room (n + 1) A) (hn : ds.length ≤ 1000) (h0 : 0 ≤ lo) (hhi : hiD = .int hi ∨ (hiD = .none ∧ hi = ds.length)) (hle : hi ≤ ds.length) (hc : c ≤ ds.length)
    (p : ∀ A' (i : Nat) d, ds[i]? = some d → Room n A' → Cmp G A' .Lt d x (decide ((i : Int) < c))) : CallD G A (.ref 71) [.list ds, x, .int lo, hiD] (.int (clampTo lo hi c)) := by
  obtain ⟨m, tk, ht⟩ := M.d_bisect_left.t
  refine CallD.fn (n := n) (xs := ["a", "x", "lo", "hi", "key"]) M.f_bisect_left M.N hA (by decide) (by decide) [("key", .none, .none)] rfl (fun vs fd S s hl h1 h2 h3 I => ?_) (fun S s I => .cons (.none) (.nil)) fun act => ?_
  · obtain ⟨a0, a1, a2, a3, rfl⟩ := len4 hl
    exact bind_bisect_left4 ht M.d_bisect_left fd h1 h2 h3 I
  · exact (run_bisect_left (hA.deeper act.env) M.N M.b_len hn h0 hhi hle hc (fun i d hd => p _ i d hd (hA.deeper act.env)) act).mono fun fd _ e => by rw [e]; rfl
theorem call_bisect_right2 (M : Mod G mg mb) (hA : Room (n + 1) A) (hn : ds.length ≤ 1000)  (hc : c ≤ ds.length)
    (p : ∀ A' (i : Nat) d, ds[i]? = some d → Room n A' → Cmp G A' .Lt x d (decide (c ≤ (i : Int)))) : CallD G A (.ref 53) [.list ds, x] (.int (clampTo 0 ds.length c)) := by
  obtain ⟨m, tk, ht⟩ := M.d_bisect_right.t
  refine CallD.fn (n := n) (xs := ["a", "x", "lo", "hi", "key"]) M.f_bisect_right M.N hA (by decide) (by decide) [("lo", .int 0 tk, .int 0), ("hi", .none, .none), ("key", .none, .none)] rfl (fun vs fd S s hl h1 h2 h3 I => ?_) (fun S s I => .cons (.int ..) (.cons (.none) (.cons (.none) (.nil)))) fun act => ?_
  · obtain ⟨a0, a1, rfl⟩ := len2 hl
    exact bind_bisect_right2 ht M.d_bisect_right fd h1 h2 h3 I
  · exact (run_bisect_right (hA.deeper act.env) M.N M.b_len hn (Int.le_refl 0) (.inr ⟨rfl, rfl⟩) (Int.le_refl _) hc (fun i d hd => p _ i d hd (hA.deeper act.env)) act).mono fun fd _ e => by rw [e]; rfl
theorem call_bisect_right4 (M : Mod G mg mb) (hA : Room (n + 1) A) (hn : ds.length ≤ 1000) (h0 : 0 ≤ lo) (hhi : hiD = .int hi ∨ (hiD = .none ∧ hi = ds.length)) (hle : hi ≤ ds.length) (hc : c ≤ ds.length)
    (p : ∀ A' (i : Nat) d, ds[i]? = some d → Room n A' → Cmp G A' .Lt x d (decide (c ≤ (i : Int)))) : CallD G A (.ref 53) [.list ds, x, .int lo, hiD] (.int (clampTo lo hi c)) := by
  obtain ⟨m, tk, ht⟩ := M.d_bisect_right.t
  refine CallD.fn (n := n) (xs := ["a", "x", "lo", "hi", "key"]) M.f_bisect_right M.N hA (by decide) (by decide) [("key", .none, .none)] rfl (fun vs fd S s hl h1 h2 h3 I => ?_) (fun S s I => .cons (.none) (.nil)) fun act => ?_
  · obtain ⟨a0, a1, a2, a3, rfl⟩ := len4 hl
    exact bind_bisect_right4 ht M.d_bisect_right fd h1 h2 h3 I
  · exact (run_bisect_right (hA.deeper act.env) M.N M.b_len hn h0 hhi hle hc (fun i d hd => p _ i d hd (hA.deeper act.env)) act).mono fun fd _ e => by rw [e]; rfl
end
end Mine
end

section
namespace Mine
open PySem PySem.Challenge PySem.Calls PyProof.Rows
section
variable {G : Gl} {A : Around} {n : Nat} {mg mb : Str → Option Value} {ds : List D} {x hiD : D} {lo hi c : Int}
theorem run_insort_left (M : Mod G mg mb) (hA : Room (n + 1) A) (hn : ds.length ≤ 1000) (h0 : 0 ≤ lo) (hhi : hiD = .int hi ∨ (hiD = .none ∧ hi = ds.length)) (hle : hi ≤ ds.length) (hlo : lo ≤ ds.length) (hc : c ≤ ds.length)
    (p : ∀ A' (i : Nat) d, ds[i]? = some d → Room n A' → Cmp G A' .Lt d x (decide ((i : Int) < c))) (act : Act insort_left_s (cellNames insort_left_s.names)) :
    ∃ ρ', RunV G A act (execs insort_left_b act.env) (("a", .own (.list ds)) :: zipEnv ["x", "lo", "hi", "key"] [x, .int lo, hiD, .none]) ρ' ∧ ρ'.lookup ("a" : Str) = some (.own (.list (insAt (clampTo lo hi c).toNat x ds))) := by
  unfold insort_left_b
  have h1 : 0 ≤ clampTo lo hi c := by unfold clampTo; lia
  have h2 : clampTo lo hi c ≤ ds.length := by unfold clampTo; omega
  refine ⟨_, RunV.cons (RunV.yes (Te.cmp (Ev.name rfl) Ev.none Cmp.isNone) (RunV.cons (RunV.assign (Ev.lend (Ev.call (EvV.glob M.N rfl M.f_bisect_left.named) M.f_bisect_left.callee (.more (Ev.name rfl) (.more (Ev.name rfl) (.more (Ev.name rfl) (.more (Ev.name rfl) .nil)))) (call_bisect_left4 M hA hn h0 hhi hle hc p)) rfl) (by decide)) .nil))
    (RunV.cons (RunV.expr (EvX.insert rfl (Ev.name rfl) (Ev.name rfl) h1 h2 (Nat.le_trans hn (by decide)))) .nil), rfl⟩
theorem call_insort_left2 (M : Mod G mg mb) (hA : Room (n + 2) A) (hn : ds.length ≤ 1000)  (hc : c ≤ ds.length)
    (p : ∀ A' (i : Nat) d, ds[i]? = some d → Room n A' → Cmp G A' .Lt d x (decide ((i : Int) < c))) : CallX G A (.ref 62) (.list ds) [x] (.list (insAt (clampTo 0 ds.length c).toNat x ds)) := by
  obtain ⟨m, tk, ht⟩ := M.d_insort_left.t
  refine CallX.fn (n := n + 1) (x := "a") (xs := ["x", "lo", "hi", "key"]) M.f_insort_left M.N hA (by decide) (by decide) [("lo", .int 0 tk, .int 0), ("hi", .none, .none), ("key", .none, .none)] rfl (fun v vs fd S s hl h1 h2 h3 I => ?_) (fun S s I => .cons (.int ..) (.cons (.none) (.cons (.none) (.nil)))) (fun act => run_insort_left M (hA.deeper act.env) hn (Int.le_refl 0) (.inr ⟨rfl, rfl⟩) (Int.le_refl _) (Int.natCast_nonneg _) hc p act)
  · obtain ⟨a1, rfl⟩ := len1 hl
    exact bind_insort_left2 ht M.d_insort_left fd h1 h2 h3 I
theorem call_insort_left4 (M : Mod G mg mb) (hA : Room (n + 2) A) (hn : ds.length ≤ 1000) (h0 : 0 ≤ lo) (hhi : hiD = .int hi ∨ (hiD = .none ∧ hi = ds.length)) (hle : hi ≤ ds.length) (hlo : lo ≤ ds.length) (hc : c ≤ ds.length)
    (p : ∀ A' (i : Nat) d, ds[i]? = some d → Room n A' → Cmp G A' .Lt d x (decide ((i : Int) < c))) : CallX G A (.ref 62) (.list ds) [x, .int lo, hiD] (.list (insAt (clampTo lo hi c).toNat x ds)) := by
  obtain ⟨m, tk, ht⟩ := M.d_insort_left.t
  refine CallX.fn (n := n + 1) (x := "a") (xs := ["x", "lo", "hi", "key"]) M.f_insort_left M.N hA (by decide) (by decide) [("key", .none, .none)] rfl (fun v vs fd S s hl h1 h2 h3 I => ?_) (fun S s I => .cons (.none) (.nil)) (fun act => run_insort_left M (hA.deeper act.env) hn h0 hhi hle hlo hc p act)
  · obtain ⟨a1, a2, a3, rfl⟩ := len3 hl
    exact bind_insort_left4 ht M.d_insort_left fd h1 h2 h3 I
theorem run_insort_right (M : Mod G mg mb) (hA : Room (n + 1) A) (hn : ds.length ≤ 1000) (h0 : 0 ≤ lo) (hhi : hiD = .int hi ∨ (hiD = .none ∧ hi = ds.length)) (hle : hi ≤ ds.length) (hlo : lo ≤ ds.length) (hc : c ≤ ds.length)
    (p : ∀ A' (i : Nat) d, ds[i]? = some d → Room n A' → Cmp G A' .Lt x d (decide (c ≤ (i : Int)))) (act : Act insort_right_s (cellNames insort_right_s.names)) :
    ∃ ρ', RunV G A act (execs insort_right_b act.env) (("a", .own (.list ds)) :: zipEnv ["x", "lo", "hi", "key"] [x, .int lo, hiD, .none]) ρ' ∧ ρ'.lookup ("a" : Str) = some (.own (.list (insAt (clampTo lo hi c).toNat x ds))) := by
  unfold insort_right_b
  have h1 : 0 ≤ clampTo lo hi c := by unfold clampTo; lia
  have h2 : clampTo lo hi c ≤ ds.length := by unfold clampTo; omega
  refine ⟨_, RunV.cons (RunV.yes (Te.cmp (Ev.name rfl) Ev.none Cmp.isNone) (RunV.cons (RunV.assign (Ev.lend (Ev.call (EvV.glob M.N rfl M.f_bisect_right.named) M.f_bisect_right.callee (.more (Ev.name rfl) (.more (Ev.name rfl) (.more (Ev.name rfl) (.more (Ev.name rfl) .nil)))) (call_bisect_right4 M hA hn h0 hhi hle hc p)) rfl) (by decide)) .nil))
    (RunV.cons (RunV.expr (EvX.insert rfl (Ev.name rfl) (Ev.name rfl) h1 h2 (Nat.le_trans hn (by decide)))) .nil), rfl⟩
theorem call_insort_right2 (M : Mod G mg mb) (hA : Room (n + 2) A) (hn : ds.length ≤ 1000)  (hc : c ≤ ds.length)
    (p : ∀ A' (i : Nat) d, ds[i]? = some d → Room n A' → Cmp G A' .Lt x d (decide (c ≤ (i : Int)))) : CallX G A (.ref 44) (.list ds) [x] (.list (insAt (clampTo 0 ds.length c).toNat x ds)) := by
  obtain ⟨m, tk, ht⟩ := M.d_insort_right.t
  refine CallX.fn (n := n + 1) (x := "a") (xs := ["x", "lo", "hi", "key"]) M.f_insort_right M.N hA (by decide) (by decide) [("lo", .int 0 tk, .int 0), ("hi", .none, .none), ("key", .none, .none)] rfl (fun v vs fd S s hl h1 h2 h3 I => ?_) (fun S s I => .cons (.int ..) (.cons (.none) (.cons (.none) (.nil)))) (fun act => run_insort_right M (hA.deeper act.env) hn (Int.le_refl 0) (.inr ⟨rfl, rfl⟩) (Int.le_refl _) (Int.natCast_nonneg _) hc p act)
  · obtain ⟨a1, rfl⟩ := len1 hl
    exact bind_insort_right2 ht M.d_insort_right fd h1 h2 h3 I
theorem call_insort_right4 (M : Mod G mg mb) (hA : Room (n + 2) A) (hn : ds.length ≤ 1000) (h0 : 0 ≤ lo) (hhi : hiD = .int hi ∨ (hiD = .none ∧ hi = ds.length)) (hle : hi ≤ ds.length) (hlo : lo ≤ ds.length) (hc : c ≤ ds.length)
    (p : ∀ A' (i : Nat) d, ds[i]? = some d → Room n A' → Cmp G A' .Lt x d (decide (c ≤ (i : Int)))) : CallX G A (.ref 44) (.list ds) [x, .int lo, hiD] (.list (insAt (clampTo lo hi c).toNat x ds)) := by
  obtain ⟨m, tk, ht⟩ := M.d_insort_right.t
  refine CallX.fn (n := n + 1) (x := "a") (xs := ["x", "lo", "hi", "key"]) M.f_insort_right M.N hA (by decide) (by decide) [("key", .none, .none)] rfl (fun v vs fd S s hl h1 h2 h3 I => ?_) (fun S s I => .cons (.none) (.nil)) (fun act => run_insort_right M (hA.deeper act.env) hn h0 hhi hle hlo hc p act)
  · obtain ⟨a1, a2, a3, rfl⟩ := len3 hl
    exact bind_insort_right4 ht M.d_insort_right fd h1 h2 h3 I
end
end Mine
end

section
namespace Mine
open PySem PySem.Challenge PySem.Calls PyProof.Rows
noncomputable def escGo : List Nat → Int → Int → Bool → List (Int × Str)
  | [], _, p, e => if e then [(p, ⟨#[92]⟩)] else []
  | c :: cs, i, p, e => if e then (i, ⟨#[92, c]⟩) :: escGo cs (i + 1) i false else if c = 92 then escGo cs (i + 1) i true else (i, ⟨#[c]⟩) :: escGo cs (i + 1) i false
noncomputable def escaped (x : Str) : List (Int × Str) := escGo x.cps.toList 0 0 false
noncomputable def outD (p : Int × Str) : D := .tuple [.int p.1, .str p.2]
section
variable {G : Gl} {B : Around} {mg mb : Str → Option Value} {n k : Nat} {F : List Addr} {g : Nat} {X : List D} {x : Str} {T : String} {tk : Tok} {e it : Addr}
noncomputable abbrev gsc := iter_escaped_chars_s
noncomputable abbrev Gact := Act gsc (cellNames gsc.names)
noncomputable def gLoop : List Stmt × Expr := match iter_escaped_chars_b with
  | [_, _, .For t _ b _ _, _] => (b, t)
  | _ => ([], .Name "x" ⟨0, 0, 0, 0⟩)
noncomputable def gRest : List Stmt := iter_escaped_chars_b.drop 3
noncomputable abbrev gK0 : Flow → Sem PySem.Fin := fun f => .pure (.done (.ret (match f with | .ret v => v | _ => .none)))
noncomputable abbrev gH0 (env : Env) : Value → Sem PySem.Fin := fun e => (leaving env e).wrap (fun _ => .raise e) .raise id id
noncomputable abbrev gKc (env : Env) : Flow → Sem PySem.Fin := fun f => match f with | .next => (execs gRest env).wrap gK0 (gH0 env) id id | f => gK0 f
theorem seg_rest (act : Gact) (hA : Room (k + 2) B) (N : Names G mg mb) (hcells : act.env.cells = []) {adr : Str → Addr} {S : Fz} {s s₀ : Shared} {p : Int} {b : Bool}
    (O : OK G act (kpBut G s₀ F) adr [("pos", .val (.int p)), ("escape", .val (.bool b))] S s) (hmt : ∀ b ∈ act.mt, b ∈ F) (gr : Gro (kpBut G s₀ F) (Smin G s₀) S) (off : OffF G F S s)
    (hn : n ≤ X.length) (hX : X.drop (X.length - n) = (escGo [] 0 p b).map outD) : Seg G.M B (Rp G F g) (Yp G F g X) n s₀ (.func iter_escaped_chars_b act.env) ((execs gRest act.env).wrap gK0 (gH0 act.env) id id) [] s := by
  have hlen : n = ((escGo [] 0 p b).map outD).length := by rw [← hX, List.length_drop]; omega
  have hR := hA.over iter_escaped_chars_b act.env
  unfold gRest iter_escaped_chars_b
  show Seg _ _ _ _ n s₀ _ (Sem.wrap _ _ _ _ (execs (_ :: _) act.env)) [] s
  refine seg_execs_cons ?_
  refine seg_If (wp_seq ((show Te G _ act _ _ b from Te.of (Ev.name rfl) Tru.bool) _ adr S s O) fun S₁ b' s₁ st e => ?_)
  subst e
  have O₁ := O.step st
  have gr₁ := gr.trans (O.gro st)
  have off₁ := off.step st
  cases b' with
  | false =>
    simp only [Bool.false_eq_true, if_false]
    have h0 : n = 0 := hlen
    subst h0
    refine seg_execs_nil ?_
    refine seg_execs_nil ?_
    exact seg_end (.ok (.ret .none)) ⟨rfl, rfl, S₁, O₁.nxF g gr₁ off₁⟩
  | true =>
    simp only [if_true]
    have h1 : n = 1 := hlen
    subst h1
    refine seg_execs_cons ?_
    refine seg_Yield rfl rfl rfl (wp_seq (S := S₁) (P := fun S' v => Is G S' v (outD (p, ⟨#[92]⟩))) ?_ fun S₂ v s₂ st₂ i kap hkap => ?_) (by rw [act.hsc]; rfl) (interactive_fn O₁)
    · refine Ev.use ?_ O₁
      exact Ev.tuple (.more (Ev.name rfl) (.more (Ev.str _) .nil))
    have O₂ := O₁.step st₂
    have gr₂ := gr₁.trans (O₁.gro st₂)
    have off₂ := off₁.step st₂
    refine ⟨S₂, O₂.nxF g gr₂ off₂, ⟨_, ?_, i⟩, fun s₃ S₃ I₃ same off₃ => hkap _ ?_⟩
    · have : X[X.length - 1 - 0]? = (X.drop (X.length - 1))[0]? := by rw [List.getElem?_drop]; congr 1
      rw [this, hX]
      rfl
    · refine seg_execs_nil (seg_execs_nil ?_)
      have O₃ := O₂.resume hmt hcells rfl I₃ same off₃ (fun b hb => (off₂ b hb).2.1) ⟨⟨_, rfl, rfl⟩, ⟨_, rfl, rfl⟩, trivial⟩
      exact seg_end (.ok (.ret .none)) ⟨rfl, rfl, _, O₃.nxF g (.refl ..) (off₂.resume I₃ same off₃)⟩
theorem drop_tail {X l : List D} {a : D} {m : Nat} (hm : m + 1 ≤ X.length) (h : X.drop (X.length - (m + 1)) = a :: l) : X.drop (X.length - m) = l ∧ X[X.length - 1 - m]? = some a := by
  have hi : X.length - (m + 1) < X.length := by omega
  rw [List.drop_eq_getElem_cons hi, show X.length - (m + 1) + 1 = X.length - m by lia] at h
  injection h with h1 h2
  refine ⟨h2, ?_⟩
  rw [show X.length - 1 - m = X.length - (m + 1) by lia, List.getElem?_eq_getElem hi, h1]
noncomputable abbrev gBody : List Stmt := gLoop.1
noncomputable abbrev gTgt : Expr := gLoop.2
noncomputable def gTup : List Expr × Nat × Pos := match gTgt with | .Tuple es k p => (es, k, p) | _ => ([], 0, ⟨0, 0, 0, 0⟩)
noncomputable abbrev gCF (env : Env) (e : Addr) : Code := .forLoop gTgt (.ref e) gBody [] env
noncomputable abbrev gFr (env : Env) (pp : Pos) : Frame := .ret (ownK (gKc env) (gH0 env) id id env) none (id false) (id []) (.func iter_escaped_chars_b env) pp []
theorem asideW {act : Act gsc (cellNames gsc.names)} {adr : Str → Addr} {ρ : LEnv} {s₀ : Shared} (hcells : act.env.cells = []) (hat : Atoms ρ) (he : ∀ b ∈ [e, it], b ∈ F ∧ b ∉ act.mt) : Aside act (kpBut G s₀ F) adr ρ ⟨[e, it], []⟩ where
  mt := fun a ha => (he a ha).2
  cells := fun a ha p hp => by rw [hcells] at hp; cases hp
  own := fun a ha x d hx => by obtain ⟨d', h, _⟩ := hat.at x _ hx; exact nomatch h
  ko := fun a ha => by
    unfold kpBut; simp only
    rw [if_neg fun h => h.2 (he a ha).1]
  kgn := fun g hg => nomatch hg
theorem goodW {S : Fz} {s : Shared} {act : Act gsc (cellNames gsc.names)} (he : ∀ b ∈ [e, it], b ∈ F ∧ b ∉ act.mt) (off : OffF G F S s) : Good G ⟨[e, it], []⟩ S s := ⟨fun b hb => off b (he b hb).1, fun g hg => nomatch hg⟩
theorem outW {act : Act gsc (cellNames gsc.names)} {adr' : Str → Addr} {ρ ρ' : LEnv} {S S' : Fz} {s s' s₀ : Shared} (hcells : act.env.cells = []) (hat : Atoms ρ) (he : ∀ b ∈ [e, it], b ∈ F ∧ b ∉ act.mt) (hF : ∀ b ∈ F, b ∈ act.mt ∨ b ∈ [e, it])
    (off : OffF G F S s) (O' : OK G act ((kpBut G s₀ F).with ⟨[e, it], []⟩ s) adr' ρ' S' s') (g : Gro ((kpBut G s₀ F).with ⟨[e, it], []⟩ s) S S') :
    OK G act (kpBut G s₀ F) adr' ρ' S' s' ∧ Gro (kpBut G s₀ F) S S' ∧ OffF G F S' s' ∧ ∀ b ∈ [e, it], ∀ o, s.heap.get? b = some o → s'.heap.get? b = some o := by
  have ap : Aside act (kpBut G s₀ F) adr' ρ ⟨[e, it], []⟩ := asideW hcells hat he
  have keep : ∀ b ∈ [e, it], ∀ o, s.heap.get? b = some o → s'.heap.get? b = some o := fun b hb o e => O'.kept b o (by
    unfold Kept.with; simp only
    rw [if_pos hb]; exact e)
  refine ⟨O'.without ap.ko ap.kgn, g.without (fun a ha => (off a (he a ha).1).2.2) ap.ko, fun b hb => ?_, keep⟩
  rcases hF b hb with h | h
  · obtain ⟨h1, _, h3, h4⟩ := O'.mt b h
    exact ⟨h1, h3, h4⟩
  · obtain ⟨h1, h2, o, ho⟩ := off b hb
    refine ⟨?_, h2, o, keep b h o ho⟩
    cases q : S' b with
    | none => rfl
    | some o' =>
      rcases g.new _ _ q with z | z
      · rw [h1] at z; exact nomatch z
      · unfold Kept.with at z; simp only at z
        rw [if_pos h, ho] at z; exact nomatch z
theorem seg_loop (act : Act gsc (cellNames gsc.names)) (hA : Room (k + 2) B) (N : Names G mg mb) (hcells : act.env.cells = []) (hmt : ∀ b ∈ act.mt, b ∈ F) (he : ∀ b ∈ [e, it], b ∈ F ∧ b ∉ act.mt) (hF : ∀ b ∈ F, b ∈ act.mt ∨ b ∈ [e, it]) {St : Nat → Heap → Prop} {Pt : Nat → Array Value → Prop} {Mid : Nat → Addr → Heap → Prop}
    (W : WalksT G.prog G.w (B.over (.func iter_escaped_chars_b act.env) []) e [e, it] [e, it] x.cps.size Pt St Mid)
    (hT : T = "str_ascii_iterator" ∨ T = "str_iterator") (hStE : ∀ h, St x.cps.size h → ∃ old, IsEnum h e it x.cps.size old ∧ h.IsStrIter it T x tk x.cps.size)
    (hP : ∀ (S : Fz) i c vals, x.cps[i]? = some c → Pt i vals → Alls G S vals.toList [.int i, .str ⟨#[c]⟩]) (hStL : ∀ i h, St i h → ∀ b ∈ [e, it], ∃ o, h.get? b = some o) (pp : Pos) :
    ∀ m i, m = x.cps.size - i → i ≤ x.cps.size → ∀ n (adr : Str → Addr) ρ S s s₀ (p : Int) (b : Bool), OK G act (kpBut G s₀ F) adr ρ S s → Atoms ρ → Has ρ [("pos", .val (.int p)), ("escape", .val (.bool b))] → Gro (kpBut G s₀ F) (Smin G s₀) S → OffF G F S s → St i s.heap →
      n ≤ X.length → X.drop (X.length - n) = (escGo (x.cps.toList.drop i) i p b).map outD →
      Seg G.M B (Rp G F g) (Yp G F g X) n s₀ (gCF act.env e) (G.M.den (gCF act.env e)) [gFr act.env pp] s := by
  have hR := hA.over iter_escaped_chars_b act.env
  have hRoom : Room (k + 1) (B.over (.func iter_escaped_chars_b act.env) []) := hR
  have hov : B.over (gCF act.env e) [gFr act.env pp] = B.over (.func iter_escaped_chars_b act.env) [] := over_loop ..
  intro m
  induction m with
  | zero =>
    intro i hm hi n adr ρ S s s₀ p b O hat hhas gr off hst hn hX
    have hi : i = x.cps.size := by lia
    subst hi
    obtain ⟨old, hen, hsi⟩ := hStE _ hst
    refine seg_forLoop ?_
    rw [hov]
    refine strEnum_end hT hRoom.in1.handled hen hsi fun h' hk hal => ?_
    refine seg_leaf (.ok .next) ?_
    have hk' : ∀ b o, b ∉ [e, it] → s.heap.get? b = some o → h'.get? b = some o := fun b o hb ho => hk b o (fun q => hb (by rw [q]; exact .tail _ (.head _))) ho
    have nx : Nx G ⟨[e, it], []⟩ S s S { s with heap := h' } ⟨[e, it], []⟩ := ⟨O.inv.but (t := s.toks) (wr := [e, it]) (fun a ha => ⟨(off a (he a ha).1).1, (off a (he a ha).1).2.1⟩) hk', Sub.refl _, fun _ _ e => .inl e, fun b o hb _ e => hk' b o hb e, fun _ _ _ e => e, fun a ha => .inl ha, fun g hg => nomatch hg⟩
    have O' := O.nx (asideW hcells hat he) nx
    have off' : OffF G F S { s with heap := h' } := fun b hb => by
      obtain ⟨h1, h2, o, ho⟩ := off b hb
      refine ⟨h1, h2, ?_⟩
      by_cases q : b = it
      · rw [q]; exact hal
      · exact ⟨o, hk b o q ho⟩
    exact seg_rest act hA N hcells (O'.weaken (Has.sub hhas)) hmt gr off' hn (by rw [hX, List.drop_of_length_le (by simp)]; rfl)
  | succ m ih =>
    intro i hm hi n adr ρ S s s₀ p b O hat hhas gr off hst hn hX
    have hi : i < x.cps.size := by lia
    have hget : x.cps[i]? = some x.cps[i] := Array.getElem?_eq_getElem hi
    generalize hc : x.cps[i] = c at hget
    have hdrop : x.cps.toList.drop i = c :: x.cps.toList.drop (i + 1) := by
      rw [List.drop_eq_getElem_cons (by simpa using hi), Array.getElem_toList, hc]
    rw [hdrop] at hX
    refine seg_forLoop ?_
    rw [hov]
    refine wpAny_mono (WalksT.draw (elts := gTup.1) (kk := gTup.2.1) (tp := gTup.2.2) W O.inv hst (fun b hb => ⟨(off b (he b hb).1).1, (off b (he b hb).1).2.1⟩) hi (fun vals h => hP S i c vals hget h)) (fun r s₁ hrr => ?_) fun _ _ z => z
    obtain ⟨v, hr, hg⟩ := hrr
    subst hr
    dsimp only
    refine wpAny_mono hg (fun _ s₂ ⟨S₂, nx, iv, hst₂, _, hoff₂⟩ => ?_) fun _ _ z => z
    have ap := asideW (G := G) (F := F) (s₀ := s₀) (adr := adr) hcells hat he
    have O₂ := O.nx ap nx
    have gr₂ := gr.trans (O.nxGro nx)
    have off₂ : OffF G F S₂ s₂ := fun b hb => by
      rcases hF b hb with h | h
      · obtain ⟨h1, _, h3, h4⟩ := O₂.mt b h
        exact ⟨h1, h3, h4⟩
      · refine ⟨hoff₂ b h, (off b hb).2.1, ?_⟩
        exact hStL _ _ hst₂ b h
    have O₂w := O₂.with (goodW he off₂) ap
    refine wpAny_mono (Takes.tuple (xs := ["pos", "ch"]) hRoom (.cons (by decide) (.cons (by decide) .nil)) rfl _ _ _ _ v O₂w iv) (fun _ s₃ ⟨S₃, adr₃, g₃, O₃w, _⟩ => ?_) fun _ _ z => z
    obtain ⟨O₃, g₃', off₃, keep₃⟩ := outW hcells hat he hF off₂ O₃w g₃
    have gr₃ := gr₂.trans g₃'
    have hst₃ : St (i + 1) s₃.heap := W.frame _ _ _ hst₂ keep₃
    clear O₂w O₃w g₃ g₃' keep₃ hst₂ O₂ gr₂ off₂ nx ap hg hoff₂ iv O gr off hst
    have hρ : bindLs ["pos", "ch"] (([D.int i, D.str ⟨#[c]⟩] : List D).map .val) ρ = (((("ch" : Str), Loc.val (.str ⟨#[c]⟩)) :: (("pos" : Str), Loc.val (.int i)) :: ρ) : LEnv) := rfl
    rw [hρ] at O₃
    generalize hρ₁ : (((("ch" : Str), Loc.val (.str ⟨#[c]⟩)) :: (("pos" : Str), Loc.val (.int i)) :: ρ) : LEnv) = ρ₁ at O₃
    have hat₁ : Atoms ρ₁ := by rw [← hρ₁]; exact ⟨⟨_, rfl, rfl⟩, ⟨_, rfl, rfl⟩, hat⟩
    have hh₁ : Has ρ₁ [("pos", .val (.int i)), ("escape", .val (.bool b)), ("ch", .val (.str ⟨#[c]⟩))] := by rw [← hρ₁]; exact ⟨rfl, hhas.2.1, rfl, trivial⟩
    clear hρ₁ hρ hhas hat
    have hlen : n = ((escGo (c :: x.cps.toList.drop (i + 1)) i p b).map outD).length := by rw [← hX, List.length_drop]; omega
    have yld : ∀ (n : Nat) (p : Int × Str) (l : List D) (ex : Expr) (yp ep : Pos) (bodyRest : List Stmt) (Kb : Flow → Sem PySem.Fin) (Hb : Value → Sem PySem.Fin) (adr : Str → Addr) (S : Fz) (s : Shared),
        Ev G (B.over (.func iter_escaped_chars_b act.env) []) act ρ₁ ex (outD p) → OK G act (kpBut G s₀ F) adr ρ₁ S s → Gro (kpBut G s₀ F) (Smin G s₀) S → OffF G F S s → St (i + 1) s.heap → n + 1 ≤ X.length → X.drop (X.length - (n + 1)) = outD p :: l →
        (∀ s', OK G act (kpBut G s' F) adr ρ₁ (Smin G s') s' → OffF G F (Smin G s') s' → St (i + 1) s'.heap → X.drop (X.length - n) = l → Seg G.M B (Rp G F g) (Yp G F g X) n s' (gCF act.env e) (Kb .next) [gFr act.env pp] s') →
        Seg G.M B (Rp G F g) (Yp G F g X) (n + 1) s₀ (gCF act.env e) ((exec (.Expr (.Yield (some ex) yp) ep) act.env).wrap Kb Hb id id) [gFr act.env pp] s := by
      intro n p l ex yp ep bodyRest Kb Hb adr S s hev O gr off hst hn hX hk
      obtain ⟨hX', hX''⟩ := drop_tail hn hX
      refine seg_Yield rfl rfl rfl ?_ (by rw [act.hsc]; rfl) (interactive_fn O)
      rw [hov]
      refine wp_seq (hev.use O) fun S₁ v s₁ st iv kap hkap => ?_
      have O₁ := O.step st
      have off₁ := off.step st
      have hst₁ : St (i + 1) s₁.heap := W.frame _ _ _ hst fun b hb o z => st.keep _ _ (off b (he b hb).1).2.1 z
      refine ⟨S₁, O₁.nxF g (gr.trans (O.gro st)) off₁, ⟨_, hX'', iv⟩, fun s₂ S₂ I₂ same off₂ => hkap _ (hk s₂ ?_ (off₁.resume I₂ same off₂) (W.frame _ _ _ hst₁ fun b hb o z => same b (he b hb).1 o z) hX')⟩
      exact O₁.resume hmt hcells rfl I₂ same off₂ (fun b hb => (off₁ b hb).2.1) hat₁
    refine seg_execs_cons ?_
    refine seg_If ?_
    rw [hov]
    refine wp_seq ((show Te G _ act ρ₁ _ b from Te.of (Ev.name hh₁.2.1) Tru.bool) _ adr₃ S₃ s₃ O₃) fun S₄ b' s₄ st₄ z => ?_
    subst z
    have O₄ := O₃.step st₄
    have gr₄ := gr₃.trans (O₃.gro st₄)
    have off₄ := off₃.step st₄
    have hst₄ : St (i + 1) s₄.heap := W.frame _ _ _ hst₃ fun b hb o z => st₄.keep _ _ (off₃ b (he b hb).1).2.1 z
    have put : ∀ (bb : Bool) (np ap cp : Pos) (cn : Nat) (n : Nat) (adr : Str → Addr) (S : Fz) (s s₀ : Shared) (Kb : Flow → Sem PySem.Fin) (Hb : Value → Sem PySem.Fin),
        OK G act (kpBut G s₀ F) adr ρ₁ S s → Gro (kpBut G s₀ F) (Smin G s₀) S → OffF G F S s → St (i + 1) s.heap → n ≤ X.length → X.drop (X.length - n) = (escGo (x.cps.toList.drop (i + 1)) ((i + 1 : Nat) : Int) i bb).map outD →
        (Kb .next = .pure (.again (gCF act.env e))) → Seg G.M B (Rp G F g) (Yp G F g X) n s₀ (gCF act.env e) ((execs [.Assign [.Name "escape" np] (.Constant (.bool bb) cn cp) ap] act.env).wrap Kb Hb id id) [gFr act.env pp] s := by
      intro bb np ap cp cn n adr S s s₀ Kb Hb O gr off hst hn hX hK
      refine seg_execs_cons (seg_wrap ?_)
      rw [hov]
      refine wpAny_mono (RunV.assign (Ev.bool bb) (by decide) rfl _ _ _ _ (O.with (goodW he off) (asideW hcells hat₁ he))) (fun f s₁ ⟨z, S₁, g₁, O₁w⟩ => ?_) fun _ _ z => False.elim z
      subst z
      obtain ⟨O₁, g₁', off₁, keep₁⟩ := outW hcells hat₁ he hF off O₁w g₁
      refine seg_execs_nil ?_
      rw [hK]
      refine seg_again rfl (ih (i + 1) (by omega) (by lia) n adr _ S₁ s₁ s₀ i bb O₁ ⟨⟨_, rfl, rfl⟩, hat₁⟩ ⟨hh₁.1, rfl, trivial⟩ (gr.trans g₁') off₁ (W.frame _ _ _ hst keep₁) hn hX)
    cases b' with
    | true => 
      simp only [if_true]
      have hX' : X.drop (X.length - n) = outD ((i : Int), ⟨#[92, c]⟩) :: (escGo (x.cps.toList.drop (i + 1)) ((i + 1 : Nat) : Int) i false).map outD := hX
      obtain ⟨n', rfl⟩ : ∃ n', n = n' + 1 := ⟨n - 1, by rw [hlen]; rfl⟩
      refine seg_execs_cons ?_
      refine yld n' _ _ _ _ _ [] _ _ _ _ _ ?_ O₄ gr₄ off₄ hst₄ hn hX' fun s' O' off' hst' hX'' => ?_
      · exact Ev.tuple (.more (Ev.name hh₁.1) (.more (Ev.eq (Ev.bin (Ev.str _) (Ev.name hh₁.2.2.1) (Op2.addS (by show 1 + 1 ≤ sizeLine; unfold sizeLine; lia))) rfl) .nil))
      · exact put false _ _ _ _ n' _ _ _ _ _ _ O' (.refl ..) off' hst' (by lia) hX'' rfl
    | false =>
      simp only [Bool.false_eq_true, if_false]
      refine seg_execs_cons ?_
      refine seg_If ?_
      rw [hov]
      have hce : ((⟨#[c]⟩ : Str) == "\\") = decide (c = 92) := by
        by_cases q : c = 92
        · subst q; rfl
        · rw [decide_eq_false q, beq_eq_false_iff_ne]
          intro h
          have h := congrArg (fun s : Str => s.cps.toList) h
          exact q (List.cons.inj h).1
      refine wp_seq ((show Te G _ act ρ₁ _ (decide (c = 92)) from hce ▸ Te.cmp (Ev.name hh₁.2.2.1) (Ev.str _) (Cmp.eqS hRoom)) _ adr₃ S₄ s₄ O₄) fun S₅ b' s₅ st₅ z => ?_
      subst z
      have O₅ := O₄.step st₅
      have gr₅ := gr₄.trans (O₄.gro st₅)
      have off₅ := off₄.step st₅
      have hst₅ : St (i + 1) s₅.heap := W.frame _ _ _ hst₄ fun b hb o z => st₅.keep _ _ (off₄ b (he b hb).1).2.1 z
      by_cases q : c = 92
      · rw [decide_eq_true q]
        simp only [if_true]
        refine put true _ _ _ _ n _ _ _ _ _ _ O₅ gr₅ off₅ hst₅ hn ?_ rfl
        rw [hX]
        simp only [escGo, q, if_true]
        rfl
      · rw [decide_eq_false q]
        simp only [Bool.false_eq_true, if_false]
        have hX' : X.drop (X.length - n) = outD ((i : Int), ⟨#[c]⟩) :: (escGo (x.cps.toList.drop (i + 1)) ((i + 1 : Nat) : Int) i false).map outD := by
          rw [hX]
          simp only [escGo, q, if_false]
          rfl
        obtain ⟨n', rfl⟩ : ∃ n', n = n' + 1 := ⟨n - 1, by
          have := congrArg List.length hX'
          rw [List.length_drop, List.length_cons] at this
          omega⟩
        refine seg_execs_cons ?_
        refine yld n' _ _ _ _ _ [] _ _ _ _ _ ?_ O₅ gr₅ off₅ hst₅ hn hX' fun s' O' off' hst' hX'' => ?_
        · exact Ev.tuple (.more (Ev.name hh₁.1) (.more (Ev.name hh₁.2.2.1) .nil))
        · refine seg_execs_nil ?_
          refine seg_execs_nil ?_
          exact seg_again rfl (ih (i + 1) (by omega) (by lia) n' _ _ _ s' s' i false O' hat₁ ⟨hh₁.1, hh₁.2.1, trivial⟩ (.refl ..) off' hst' (by lia) hX'')
end
end Mine
end

section
namespace Mine
open PySem PySem.Challenge PySem.Calls PyProof.Rows
section
variable {sc : Scope} {mc : List Str} {G : Gl} {A : Around} {act : Act sc mc} {kp : Kept} {adr : Str → Addr} {ρ : LEnv} {S S₂ : Fz} {s s₂ : Shared} {d : D} {F F' : List Addr}
theorem kpBut_eq (h1 : ∀ b ∈ F, b ∈ F') (h2 : ∀ b ∈ F', b ∈ F ∨ s.heap.get? b = none) : kpBut G s F = kpBut G s F' := by
  unfold kpBut
  congr 1
  funext a
  by_cases q : a ∈ F'
  · rw [if_neg (c := NoTab G a ∧ a ∉ F') (fun h => h.2 q)]
    rcases h2 a q with z | z
    · rw [if_neg fun h => h.2 z]
    · split
      · exact z
      · rfl
  · have q' : a ∉ F := fun z => q (h1 a z)
    by_cases nt : NoTab G a
    · rw [if_pos ⟨nt, q'⟩, if_pos ⟨nt, q⟩]
    · rw [if_neg fun h => nt h.1, if_neg fun h => nt h.1]
theorem RunV.assignSz {x : Str} {e : Expr} {np pos : Pos} (O : OK G act kp adr ρ S s) (hk : sc.names.lookup x = some .local) (hx : Stores sc mc x)
    (he : ∀ (Q : Value → Shared → Prop), (∀ v t, Is G S v d → Q v { s with toks := t }) → wpAny G.M A (eval e act.env) Q No s) (hs : swapsWith e (some (.Name x np)) pos.line act.env = pure false := by rfl) :
    wpAny G.M A (exec (.Assign [.Name x np] e pos) act.env) (fun f s' => f = .next ∧ OK G act kp adr ((x, .val d) :: ρ) S s' ∧ s'.heap.objs.size = s.heap.objs.size) No s :=
  wpAny_Assign_Name (he _ fun v t i => by
    have O' : OK G act kp adr ρ S { s with toks := t } := O.step (O.inv.toks t)
    exact O'.storeValSz (Q := fun _ s' => Flow.next = .next ∧ OK G act kp adr ((x, .val d) :: ρ) S s' ∧ s'.heap.objs.size = s.heap.objs.size) hx i fun h' t' O'' z => ⟨rfl, O'', z hk⟩) hs
end
section
variable {G : Gl} {B : Around} {mg mb : Str → Option Value} {n k : Nat} {F : List Addr} {g : Nat} {x : Str} {T : String} {tk : Tok} {e it : Addr}
theorem strDraw {A : Around} (hh : A.handled = none) (hT : T = "str_ascii_iterator" ∨ T = "str_iterator") : Draws G.prog G.w A it [it] x.cps.size (fun i v => ∃ c u, x.cps[i]? = some c ∧ v = Value.str ⟨#[c]⟩ u) (fun i h => h.IsStrIter it T x tk i) := by
  rcases hT with rfl | rfl
  · exact Draws.strAscii hh it x tk
  · exact Draws.strWide hh it x tk
theorem gen_first (act : Act gsc (cellNames gsc.names)) (hA : Room (k + 2) B) (N : Names G mg mb) (hen : mg "enumerate" = none) (hbn : mb "enumerate" = some (.type "enumerate")) (hcells : act.env.cells = []) (hmt : act.mt = [act.env.locals])
    {kp : Kept} {adr : Str → Addr} {S S₂ : Fz} {s s₂ : Shared} (O : OK G act kp adr [("addr", .val (.str x))] S s) (I : Inv G S₂ s₂)
    (same : ∀ b ∈ [act.env.locals], ∀ o, s.heap.get? b = some o → s₂.heap.get? b = some o) (off : ∀ b ∈ [act.env.locals], S₂ b = none) :
    ∃ F, (∀ b ∈ F, b ∈ [act.env.locals] ∨ s₂.heap.get? b = none) ∧ (∀ b ∈ [act.env.locals], b ∈ F) ∧
      (GenState.fresh (.func iter_escaped_chars_b act.env)).Goes G.M B (Rp G F g) (Yp G F g ((escaped x).map outD)) ((escaped x).map outD).length (.send .none) s₂ := by
  have hR : Room (k + 1) (B.over (.func iter_escaped_chars_b act.env) []) := hA.over iter_escaped_chars_b act.env
  have hLa : ∃ o, s₂.heap.get? act.env.locals = some o := by
    obtain ⟨_, _, _, o, ho⟩ := O.mt _ O.mtL
    exact ⟨o, same _ (.head _) o ho⟩
  have hLt : act.env.locals < s₂.heap.objs.size := by obtain ⟨o, ho⟩ := hLa; exact Heap.lt_size ho
  have fresh : ∀ b, s₂.heap.objs.size ≤ b → s₂.heap.get? b = none := fun b hb => Heap.get?_none_of_le hb
  have hnt : NoTab G act.env.locals := (O.mt _ O.mtL).2.2.1
  generalize hz : s₂.heap.objs.size = z at hLt fresh
  refine ⟨[act.env.locals, z + 1, z], fun b hb => ?_, fun b hb => by rw [List.mem_singleton.mp hb]; exact .head _, rfl, ?_⟩
  · rcases List.mem_cons.mp hb with rfl | hb
    · exact .inl (.head _)
    rcases List.mem_cons.mp hb with rfl | hb
    · exact .inr (fresh _ (Nat.le_succ _))
    · rw [List.mem_singleton.mp hb]; exact .inr (fresh _ (Nat.le_refl _))
  have O₁ := O.resume (F := [act.env.locals]) (fun b hb => by rw [hmt] at hb; exact hb) hcells rfl I same off (fun b hb => by rw [List.mem_singleton.mp hb]; exact hnt) ⟨⟨_, rfl, rfl⟩, trivial⟩
  rw [kpBut_eq (F' := [act.env.locals, z + 1, z]) (fun b hb => by rw [List.mem_singleton.mp hb]; exact .head _) (fun b hb => by
    rcases List.mem_cons.mp hb with rfl | hb
    · exact .inl (.head _)
    rcases List.mem_cons.mp hb with rfl | hb
    · exact .inr (fresh _ (Nat.le_succ _))
    · rw [List.mem_singleton.mp hb]; exact .inr (fresh _ (Nat.le_refl _)))] at O₁
  refine seg_func ?_
  unfold iter_escaped_chars_b
  refine seg_execs_cons (seg_wrap ?_)
  refine wpAny_mono (RunV.assignSz (d := .int 0) O₁ (by decide) (by decide) (fun Q h => wpAny_Constant_int (h _ _ (.int ..)))) (fun f s₃ ⟨q, O₃, z₃⟩ => ?_) fun _ _ q => q.elim
  subst q
  refine seg_execs_cons (seg_wrap ?_)
  refine wpAny_mono (RunV.assignSz (d := .bool false) O₃ (by decide) (by decide) (fun Q h => wpAny_Constant_bool (h _ s₃.toks (.bool ..)))) (fun f s₄ ⟨q, O₄, z₄⟩ => ?_) fun _ _ q => q.elim
  subst q
  refine seg_execs_cons (seg_For ?_)
  have call : ∀ {fx ax : Expr} {pos : Pos} {Q : Value → Shared → Prop}, (eval (.Call fx [ax] [] pos) act.env = (eval fx act.env >>= fun f => callWith pos f [] (backTo pos (starEach [ax] act.env)) (backToKw pos (keywordEach [] act.env)))) →
      (starEach [ax] act.env = (false, eval ax act.env) :: starEach [] act.env) →
      (∀ E Q', Q' (.type "enumerate") s₄ → wpAny G.M (B.over (.func iter_escaped_chars_b act.env) []) (eval fx act.env) Q' E s₄) → (∀ Q' : Value → Shared → Prop, (∀ v, Is G (Smin G s₂) v (.str x) → Q' v s₄) → wpAny G.M (B.over (.func iter_escaped_chars_b act.env) []) (eval ax act.env) Q' No s₄) →
      (∀ h' t, IsEnum h' (s₄.heap.objs.size + 1) s₄.heap.objs.size 0 .none → h'.IsStrIter s₄.heap.objs.size (strIterType x) x t 0 → (∀ b o, s₄.heap.get? b = some o → h'.get? b = some o) → Q (.ref (s₄.heap.objs.size + 1)) { s₄ with heap := h' }) →
      wpAny G.M (B.over (.func iter_escaped_chars_b act.env) []) (eval (.Call fx [ax] [] pos) act.env) Q No s₄ := by
    intro fx ax pos Q h1 h2 h3 h4 h5
    rw [h1]
    refine wpAny_bind (h3 _ _ ?_)
    have pl : (backTo pos (starEach [ax] act.env)).any (·.1) = false := by rw [h2]; rfl
    have sp : ∀ Q' : List Value → Shared → Prop, (∀ v, Is G (Smin G s₂) v (.str x) → Q' [v] s₄) → wpAny G.M (B.over (.func iter_escaped_chars_b act.env) []) (spliced (backTo pos (starEach [ax] act.env))) Q' No s₄ := fun Q' h => spliced_more (h4 _ fun v i => spliced_none (h v i)) h2
    rw [h2] at pl sp ⊢
    refine PyProof.Rows.callWith_type pl (evalArgs_plain (sp _ fun v i => ?_))
    obtain ⟨t, rfl⟩ := i.str'
    exact call_enumerate_str fun h' he' hit hsz hk => h5 h' t he' hit hk
  refine call rfl rfl (fun E Q' h => ?_) (fun Q' h => ?_) fun h' t he' hit hk => ?_
  · obtain ⟨o, ho, hn⟩ := N.g
    obtain ⟨o', ho', hn'⟩ := N.b
    exact Name_function_global O₄.fn' (by rw [act.kindOf]; decide) (loadGlobal_builtin (mg := mg) (mb := mb) (by rw [O₄.glob]; exact hn.ns (O₄.inv.sub _ _ (O₄.inv.base _ _ ho))) hen
      (by rw [O₄.blt]; exact hn'.ns (O₄.inv.sub _ _ (O₄.inv.base _ _ ho'))) hbn h) (by decide)
  · exact O₄.name rfl h
  have hz4 : s₄.heap.objs.size = z := by rw [z₄, z₃, hz]
  rw [hz4] at he' hit ⊢
  refine wpAny_pyIter_enum he' ?_
  intro pp
  have hT : strIterType x = "str_ascii_iterator" ∨ strIterType x = "str_iterator" := by unfold strIterType; split <;> simp
  generalize hTT : strIterType x = T at hit hT
  have hne : z + 1 ≠ z := Nat.succ_ne_self _
  have hLz : act.env.locals ≠ z := Nat.ne_of_lt hLt
  have hLz' : act.env.locals ≠ z + 1 := Nat.ne_of_lt (Nat.lt_succ_of_lt hLt)
  have W := WalksT.enumerateD (strDraw (G := G) (x := x) (tk := t) (it := z) (A := (B.over (.func iter_escaped_chars_b act.env) []).in1) hR.in1.handled hT) (z + 1) hne (fun hm => hne (List.mem_singleton.mp hm)) (.head _)
  have st := O₄.inv.keeps (h' := h') (t := s₄.toks) hk
  have O₅ := O₄.step st
  have fr4 : ∀ b, z ≤ b → s₄.heap.get? b = none := fun b hb => Heap.get?_none_of_le (by rw [hz4]; exact hb)
  have offN : ∀ b, z ≤ b → Smin G s₂ b = none ∧ NoTab G b := fun b hb => by
    refine ⟨?_, O₄.inv.noTabFresh (fr4 b hb)⟩
    cases q : Smin G s₂ b with
    | none => rfl
    | some o => have := O₄.inv.sub _ _ q; rw [fr4 b hb] at this; exact nomatch this
  refine seg_loop (tk := t) act hA N hcells (fun b hb => ?_) (fun b hb => ?_) (fun b hb => ?_) W hT (fun h hs => ?_) (fun S i c vals hc hv => ?_) (fun i h hs b hb => ?_) pp x.cps.size 0 rfl (Nat.zero_le _) _ _ _ _ _ _ 0 false O₅ ⟨⟨_, rfl, rfl⟩, ⟨_, rfl, rfl⟩, ⟨_, rfl, rfl⟩, trivial⟩ (Has.of rfl) (.refl ..) (fun b hb => ?_) ⟨⟨_, he'⟩, hit⟩ (Nat.le_refl _) ?_
  · rw [hmt] at hb; rw [List.mem_singleton.mp hb]; exact .head _
  · rcases List.mem_cons.mp hb with rfl | hb
    · exact ⟨.tail _ (.head _), fun hm => by rw [hmt] at hm; exact hLz' (List.mem_singleton.mp hm).symm⟩
    · rw [List.mem_singleton.mp hb]
      exact ⟨.tail _ (.tail _ (.head _)), fun hm => by rw [hmt] at hm; exact hLz (List.mem_singleton.mp hm).symm⟩
  · rcases List.mem_cons.mp hb with rfl | hb
    · exact .inl O.mtL
    · exact .inr hb
  · obtain ⟨⟨old, h1⟩, h2⟩ := hs
    exact ⟨old, h1, h2⟩
  · obtain ⟨t', v, ⟨c', u, hc', rfl⟩, rfl⟩ := hv
    rw [hc] at hc'
    obtain rfl := Option.some.inj hc'
    exact .cons (.int ..) (.cons (.str ..) .nil)
  · obtain ⟨⟨old, h1⟩, o, h2, _⟩ := hs
    rcases List.mem_cons.mp hb with rfl | hb
    · exact ⟨_, h1⟩
    · rw [List.mem_singleton.mp hb]; exact ⟨_, h2⟩
  · rcases List.mem_cons.mp hb with rfl | hb
    · obtain ⟨h1, _, h3, h4⟩ := O₅.mt _ O.mtL
      exact ⟨h1, h3, h4⟩
    rcases List.mem_cons.mp hb with rfl | hb
    · exact ⟨(offN _ (Nat.le_succ _)).1, (offN _ (Nat.le_succ _)).2, _, he'⟩
    · rw [List.mem_singleton.mp hb]
      obtain ⟨o, h2, _⟩ := hit
      exact ⟨(offN _ (Nat.le_refl _)).1, (offN _ (Nat.le_refl _)).2, _, h2⟩
  · rw [Nat.sub_self, List.drop_zero, List.drop_zero]
    rfl
theorem bare_push {gens : Array GenState} {c : GenState} (h : AllBare gens) (hc : c.bare = true) : AllBare (gens.push c) := fun y hy => by
  rcases Array.mem_push.mp hy with q | rfl
  · exact h y q
  · exact hc
theorem Src.escaped {sc : Scope} {mc : List Str} {A : Around} {act : Act sc mc} {ρ : LEnv} (hA : Room (n + 4) A) {f : Addr} (Fn : FnAt G mg "_iter_escaped_chars" iter_escaped_chars_p iter_escaped_chars_b iter_escaped_chars_s .none .none f) (N : Names G mg mb) (hen : mg "enumerate" = none) (hbn : mb "enumerate" = some (.type "enumerate"))
    {tgt : Expr} {fx ex : Expr} {pos : Pos} (hf : EvV G A act ρ fx (.ref f)) (he : Ev G A act ρ ex (.str x))
    (hev : eval (.Call fx [ex] [] pos) act.env = (eval fx act.env >>= fun f => callWith pos f [] (backTo pos (starEach [ex] act.env)) (backToKw pos (keywordEach [] act.env))) := by rfl) (hs : ∀ env, starEach [ex] env = (false, eval ex env) :: starEach [] env := by intro _; rfl) :
    Src G A act ρ tgt (.Call fx [ex] [] pos) ((escaped x).map outD) := fun kp adr S s O => by
  rw [hev]
  refine wpAny_bind (wp_seq (hf kp adr S s O) fun S₁ v s₁ st e => ?_)
  subst e
  obtain ⟨o, fd, ho, hd, h1, h2, h3, h4, h5, h6, h7, h8, c, oc, cv, t, hc, hoc, hcd, hq⟩ := Fn.obj
  refine call_args (.func ho hd) (Evs.cons he .nil hs) (O.step st) fun S₂ s₂ vs st₂ is => ?_
  obtain ⟨v, rfl, i⟩ := alls1 is
  have I := st₂.inv
  have up : ∀ {a o}, G.base a = some o → s₂.heap.get? a = some o := fun e => I.sub _ _ (I.base _ _ e)
  refine wpAny_call ?_
  refine codeAny_call_generator hA.lt (up ho) hd (by rw [h3]; rfl) (by rw [h3]; rfl) h2 ⟨c, oc, cv, t, hc, up hoc, hcd, hq⟩ ?_
  refine enterEnv N h3 h4 h5 h6 rfl (by decide) (by decide) [("addr", v, .val (.str x))] (by show bindFit iter_escaped_chars_s ["addr"] = true; decide) ?_ I [] (fun _ => 0) (fun a h => nomatch h) (fun b hb => ?_) (fun x y dx dy hx _ _ => ?_) fun act' s₃ O' hk hg hm hmt ⟨hcl, hfr, _⟩ => ?_
  · obtain ⟨nm, qn, ps, bd, sc, gl, cl, df, kd, doc, mo, an, cd, ct, bl⟩ := fd
    simp only at h1 h7 h8
    subst h1 h7 h8
    exact BindsTo.of_eq rfl
  · rw [List.mem_singleton.mp hb]
    exact i
  · obtain ⟨b, hbm, e⟩ := List.mem_map.mp (mem_of_lookup hx)
    rw [List.mem_singleton.mp hbm] at e
    cases e
  have hcl' : act'.env.cells = [] := hcl.trans rfl
  have hmt' : act'.mt = [act'.env.locals] := by rw [hmt, hcl']; rfl
  have st₃ : Stp G S₂ s₂ S₂ s₃ := O'.leave I rfl (.refl ..)
  show wpAny G.M A (pyIter (.ref s₃.heap.objs.size)) _ _ _
  generalize hoa : ({ cls := .type "generator", data := .fields #[.int s₃.gens.size 0, .str fd.name s₃.toks, .str fd.qualname (s₃.toks + 1)] } : Obj) = oa
  generalize ha : s₃.heap.objs.size = a
  generalize hgz : s₃.gens.size = g at hoa
  have st₄ : Stp G S₂ s₃ (S₂.put a oa) { s₃ with heap := s₃.heap.push oa, toks := s₃.toks + 1 + 1, gens := s₃.gens.push (.fresh (.func iter_escaped_chars_b act'.env)) } := by
    have q := O'.inv.push oa (t := s₃.toks + 1 + 1) (by rw [← hoa]; rfl) (by rw [← hoa]; exact fun e => nomatch e)
    rw [ha] at q
    exact ⟨⟨q.inv.sub, q.inv.base, q.inv.tab, q.inv.tabS, bare_push q.inv.bare rfl, q.inv.os⟩, q.sub, q.new, q.keep, fun g x e => by
      show (s₃.gens.push _)[g]? = some x
      rw [Array.getElem?_push]
      have := (Array.getElem?_eq_some_iff.mp e).1
      rw [if_neg (by lia)]
      exact e⟩
  generalize hs₄ : ({ s₃ with heap := s₃.heap.push oa, toks := s₃.toks + 1 + 1, gens := s₃.gens.push (.fresh (.func iter_escaped_chars_b act'.env)) } : Shared) = s₄ at st₄ ⊢
  have O₄ := O'.step st₄
  have haS : (S₂.put a oa) a = some oa := Fz.put_self ..
  have isg : ∀ {S' : Fz} {s' : Shared}, Inv G S' s' → Sub (S₂.put a oa) S' → s'.heap.IsGen a g := fun {S' s'} I h => ⟨oa, _, _, I.sub _ _ (h _ _ haS), by rw [← hoa], by rw [← hoa], by rw [← hoa]⟩
  have hgs : s₄.gens[g]? = some (.fresh (.func iter_escaped_chars_b act'.env)) := by
    rw [← hs₄, ← hgz]
    show (s₃.gens.push _)[s₃.gens.size]? = _
    rw [Array.getElem?_push_size]
  have hL := O₄.mt _ O₄.mtL
  have all := (st.trans st₂).trans (st₃.trans st₄)
  refine wpAny_pyIter_gen (isg st₄.inv (Sub.refl _)) ⟨S₂.put a oa, ⟨[act'.env.locals], [g]⟩, all, fun b hb => ?_, fun h hh => ?_, ?_, fun S' s' af Q E h => wpAny_pyIter_gen (isg af.inv af.sub) h⟩
  · rw [List.mem_singleton.mp hb]
    cases q : s.heap.get? act'.env.locals with
    | none => rfl
    | some o =>
      have := (st.trans st₂).keep _ _ hL.2.2.1 q
      rw [hm _ O'.mtL] at this; exact nomatch this
  · rw [List.mem_singleton.mp hh, ← hgz]
    rcases Nat.lt_or_ge s₃.gens.size s.gens.size with q | q
    · have := ((st.trans st₂).trans st₃).gens _ _ (Array.getElem?_eq_getElem q)
      rw [Array.getElem?_eq_some_iff] at this
      exact absurd this.1 (Nat.lt_irrefl _)
    · exact q
  · have := gen_start (tgt := tgt) (X := (Mine.escaped x).map outD) (n := ((Mine.escaped x).map outD).length) (F₀ := [act'.env.locals]) (g := g) (a := a) (S := S₂.put a oa) (s := s₄) (oa := oa) (nm := .str fd.name s₃.toks) (qn := .str fd.qualname (s₃.toks + 1)) hA N (by rw [← hoa]) (by rw [← hoa]) (by rw [← hoa]) (Nat.le_refl _) st₄.inv haS
      (fun b hb => by rw [List.mem_singleton.mp hb]; exact ⟨hL.1, hL.2.2.1, hL.2.2.2⟩) hgs
      (fun s₅ S₅ I₅ same off => gen_first act' hA.in1 N hen hbn hcl' hmt' O₄ I₅ same off)
    rw [Nat.sub_self, List.drop_zero] at this
    exact this
end
end Mine
end

section
namespace Mine
open PySem PySem.Challenge PySem.Calls PyProof.Rows
noncomputable def oD : Option Int → D
  | some i => .int i
  | none => .none
noncomputable abbrev SSt := Int × Option Int × List Str
noncomputable def stripStep (x : Str) (b : SSt) (p : Int × Str) : SSt := if p.2 == "\"" then (match b.2.1 with
    | none => (b.1, some p.1, b.2.2)
    | some o => (p.1 + 1, none, if b.1 != o then b.2.2 ++ [Txt.slice x (some b.1) (some o)] else b.2.2)) else b
noncomputable def stripEnd (x : Str) : SSt := (escaped x).foldl (stripStep x) (0, none, [])
noncomputable def strip (x : Str) : Str := if Txt.contains x "\"" then (let b := stripEnd x; Txt.join "" (if b.1 < x.length then b.2.2 ++ [Txt.slice x (some b.1) none] else b.2.2)) else x
theorem escGo_len : ∀ (l : List Nat) (i p : Int) (e : Bool), (escGo l i p e).length ≤ l.length + (if e then 1 else 0)
  | [], _, _, e => by unfold escGo; cases e <;> simp
  | c :: cs, i, p, e => by
    unfold escGo
    cases e with
    | true => simp only [if_true, List.length_cons]; have := escGo_len cs (i + 1) i false; simp only [Bool.false_eq_true, if_false] at this; lia
    | false =>
      simp only [Bool.false_eq_true, if_false, List.length_cons]
      split
      · have := escGo_len cs (i + 1) i true; simp only [if_true] at this; lia
      · rw [List.length_cons]; have := escGo_len cs (i + 1) i false; simp only [Bool.false_eq_true, if_false] at this; lia
theorem escaped_len (x : Str) : (escaped x).length ≤ x.length := by
  have := escGo_len x.cps.toList 0 0 false
  unfold escaped Str.length
  simpa using this
theorem slice_len (x : Str) (l u : Option Int) : (Txt.slice x l u).length ≤ x.length := by
  unfold Txt.slice
  split
  · exact Nat.le_refl _
  · show (List.toArray _).size ≤ _
    rw [List.size_toArray]
    exact Nat.le_trans (List.length_filterMap_le ..) (sliceIndices_le ..)
noncomputable def SOk (x : Str) (k : Nat) (b : SSt) : Prop := b.2.2.length ≤ k ∧ ∀ y ∈ b.2.2, y.length ≤ x.length
set_option tactic.hygienic true in
theorem stripStep_ok {x : Str} {k : Nat} {b : SSt} (h : SOk x k b) (p : Int × Str) : SOk x (k + 1) (stripStep x b p) := by
  have w : SOk x (k + 1) b := ⟨by have := h.1; lia, h.2⟩
  unfold stripStep
  split
  · split
    · exact w
    · rename_i o _
      refine ⟨?_, ?_⟩
      · show (if (b.1 != o) = true then b.2.2 ++ [Txt.slice x (some b.1) (some o)] else b.2.2).length ≤ _
        have := h.1
        split
        · simp; lia
        · omega
      · show ∀ y ∈ (if (b.1 != o) = true then b.2.2 ++ [Txt.slice x (some b.1) (some o)] else b.2.2), _
        split
        · intro y hy
          rcases List.mem_append.mp hy with q | q
          · exact h.2 y q
          · rw [List.mem_singleton.mp q]; exact slice_len ..
        · exact h.2
  · exact w
theorem strip_fold_ok {x : Str} : ∀ (l : List (Int × Str)) {k : Nat} {b : SSt}, SOk x k b → SOk x (k + l.length) (l.foldl (stripStep x) b)
  | [], k, b, h => h
  | p :: l, k, b, h => by
    have := strip_fold_ok l (stripStep_ok h p)
    rw [List.foldl_cons, List.length_cons]
    rw [show k + (l.length + 1) = k + 1 + l.length by lia]
    exact this
section
variable {G : Gl} {A : Around} {n : Nat} {mg mb : Str → Option Value} {x : Str}
theorem run_strip (hA : Room (n + 4) A) (M : Mod G mg mb) (hx : x.length ≤ 1000) (act : Act strip_quoted_realnames_s (cellNames strip_quoted_realnames_s.names)) :
    Run G A act (execs strip_quoted_realnames_b act.env) (zipEnv ["addr"] [.str x]) fun fd _ => fd = .ret (.str (strip x)) := by
  unfold strip_quoted_realnames_b
  have hsz : x.length ≤ sizeLine := by unfold sizeLine; lia
  refine Run.cons (Run.ite (b := !Txt.contains x "\"") (Te.cmp (Ev.str _) (Ev.name rfl) Cmp.notInS) (fun h => ?_) fun h => Run.nil ?_)
  · refine Run.cons (Run.ret (Ev.name rfl) ?_)
    have h : Txt.contains x "\"" = false := by simpa using h
    unfold strip
    rw [h]; rfl
  have hc : Txt.contains x "\"" = true := by simpa using h
  refine Run.cons (Run.assign (Ev.int 0) (by decide) ?_)
  refine Run.cons (Run.assign Ev.none (by decide) ?_)
  refine Run.cons (Run.assignOwn (EvO.list .nil) (by decide) ?_)
  refine Run.cons (Run.mono (Q := fun fd ρ => fd = .next ∧ Has ρ [("addr", .val (.str x)), ("start", .val (.int (stripEnd x).1)), ("result", .own (.list ((stripEnd x).2.2.map .str)))]) ?_ ?_)
  · refine Run.forL (escaped x) outD (fun b : SSt => [("addr", .val (.str x)), ("start", .val (.int b.1)), ("open_pos", .val (oD b.2.1)), ("result", .own (.list (b.2.2.map .str)))]) (fun done rest b => b = done.foldl (stripStep x) (0, none, [])) (0, none, []) (Src.escaped hA M.f_iter_escaped_chars M.N M.b_enumerate.1 M.b_enumerate.2 (EvV.glob M.N rfl M.f_iter_escaped_chars.named) (Ev.name rfl)) rfl (Has.of rfl)
      (fun p b => bindLs ["pos", "ch"] [.val (.int p.1), .val (.str p.2)] [("addr", .val (.str x)), ("start", .val (.int b.1)), ("open_pos", .val (oD b.2.1)), ("result", .own (.list (b.2.2.map .str)))]) (fun done p rest b e hI => ⟨Takes.tuple hA (.cons (by decide) (.cons (by decide) .nil)) rfl, ?_⟩) (fun b ρ' hI hh => ?_)
    · have hok : SOk x done.length b := by
        rw [hI]
        have := strip_fold_ok (x := x) (k := 0) (b := (0, none, [])) done ⟨Nat.le_refl _, fun y hy => nomatch hy⟩
        rwa [Nat.zero_add] at this
      have hlen : b.2.2.length ≤ sizeLine := by
        have h1 := hok.1
        have h2 := escaped_len x
        rw [e] at h2
        simp at h2
        lia
      have hnext : stripStep x b p = (done ++ [p]).foldl (stripStep x) (0, none, []) := by rw [List.foldl_append, ← hI]; rfl
      refine Run.cons (Run.ite (b := p.2 == "\"") (Te.cmp (Ev.name rfl) (Ev.str _) (Cmp.eqS hA)) (fun h => ?_) fun h => ?_)
      · obtain ⟨st, op, res⟩ := b
        refine Run.cons (Run.ite (b := (oD op).isNone) (Te.cmp (Ev.name rfl) Ev.none Cmp.isNone) (fun h' => ?_) fun h' => ?_)
        · cases op with
          | some o => cases h'
          | none =>
            refine Run.cons (Run.assign (Ev.name rfl) (by decide) (Run.nil (Run.nil (Run.nil ⟨_, hnext, ?_⟩))))
            unfold stripStep
            rw [if_pos h]
            exact Has.of rfl
        · cases op with
          | none => cases h'
          | some o =>
            refine Run.cons (Run.mono (Q := fun fd ρ => fd = .next ∧ Has ρ [("addr", .val (.str x)), ("pos", .val (.int p.1)), ("result", .own (.list ((if st != o then res ++ [Txt.slice x (some st) (some o)] else res).map .str)))]) ?_ ?_)
            · refine Run.ite (b := st != o) (Te.cmp (Ev.name rfl) (Ev.name rfl) Cmp.neI) (fun h'' => ?_) fun h'' => Run.nil ⟨rfl, ?_⟩
              · refine Run.cons (Run.expr (EvX.append rfl (Ev.sliceS (Ev.name rfl) (Bd.at (Ev.name rfl)) (Bd.at (Ev.name rfl)) hsz) (by rw [List.length_map]; exact hlen)) (Run.nil ⟨rfl, ?_⟩))
                rw [if_pos h'', List.map_append]
                exact Has.of rfl
              · rw [h'']
                exact Has.of rfl
            · rintro fd ρ ⟨rfl, hρ⟩
              refine Run.has ?_ hρ
              refine Run.cons (Run.assign (Ev.bin (Ev.name rfl) (Ev.int 1) Op2.add) (by decide) ?_)
              refine Run.cons (Run.assign Ev.none (by decide) (Run.nil (Run.nil (Run.nil ⟨_, hnext, ?_⟩))))
              unfold stripStep
              rw [if_pos h]
              exact Has.of rfl
      · refine Run.nil (Run.nil ⟨_, hnext, ?_⟩)
        unfold stripStep
        rw [h]
        exact Has.of rfl
    · subst hI
      exact ⟨rfl, hh.1, hh.2.1, hh.2.2.2.1, trivial⟩
  rintro fd ρ ⟨rfl, hρ⟩
  refine Run.has ?_ hρ
  have hok : SOk x x.length (stripEnd x) := by
    have := strip_fold_ok (x := x) (k := 0) (b := (0, none, [])) (escaped x) ⟨Nat.le_refl _, fun y hy => nomatch hy⟩
    exact ⟨Nat.le_trans this.1 (by have := escaped_len x; lia), this.2⟩
  have hs : strip x = Txt.join "" (if (stripEnd x).1 < x.length then (stripEnd x).2.2 ++ [Txt.slice x (some (stripEnd x).1) none] else (stripEnd x).2.2) := by
    unfold strip
    rw [hc]; rfl
  rw [hs]
  clear hs
  generalize stripEnd x = b at hok
  obtain ⟨st, op, res⟩ := b
  have hk : ∀ l : List Str, l.length ≤ x.length + 1 → (∀ y ∈ l, y.length ≤ x.length) → (l.map (·.length)).sum + l.length ≤ 1048576 := fun l h1 h2 => by
    have : (l.map (·.length)).sum ≤ l.length * x.length := by
      clear h1
      induction l with
      | nil => simp
      | cons a l ih =>
        have := ih fun y hy => h2 y (.tail _ hy)
        have := h2 a (.head _)
        simp only [List.map_cons, List.sum_cons, List.length_cons]
        rw [Nat.succ_mul]; lia
    have h3 : l.length * x.length ≤ 1001 * 1000 := Nat.mul_le_mul (by lia) hx
    lia
  refine Run.cons (Run.mono (Q := fun fd ρ => fd = .next ∧ Has ρ [("result", .own (.list ((if st < x.length then res ++ [Txt.slice x (some st) none] else res).map .str)))]) ?_ ?_)
  · refine Run.ite (b := decide (st < x.length)) (Te.cmp (Ev.name rfl) (Ev.call (EvV.blt M.N rfl M.b_len.1 M.b_len.2) (.builtin _) (.more (Ev.name rfl) .nil) (CallD.lenS hsz)) Cmp.lt) (fun h => ?_) fun h => Run.nil ⟨rfl, ?_⟩
    · refine Run.cons (Run.expr (EvX.append rfl (Ev.sliceS (Ev.name rfl) (Bd.at (Ev.name rfl)) Bd.non hsz) (by rw [List.length_map]; exact Nat.le_trans hok.1 hsz)) (Run.nil ⟨rfl, ?_⟩))
      rw [if_pos (of_decide_eq_true h), List.map_append]
      exact Has.of rfl
    · rw [if_neg (of_decide_eq_false h)]
      exact Has.of rfl
  rintro fd ρ ⟨rfl, hρ⟩
  refine Run.has ?_ hρ
  refine Run.freeze "result" _ rfl (Run.cons (Run.ret (Ev.join (Ev.str _) (Ev.name rfl) (by decide) (hk _ ?_ ?_)) rfl))
  · have h1 : res.length ≤ x.length := hok.1
    split
    · simp; lia
    · lia
  · split
    · intro y hy
      rcases List.mem_append.mp hy with q | q
      · exact hok.2 y q
      · rw [List.mem_singleton.mp q]; exact slice_len ..
    · exact hok.2
end
end Mine
end

section
namespace Mine
open PySem PySem.Challenge PySem.Calls PyProof.Rows
theorem bindPlain {P : Arguments} {s : Shared} {fd : FuncData} {as : Args} {bs : List (Str × Value)} (h1 : fd.params = P) (h2 : fd.defaults = .none) (h3 : fd.kwdefaults = .none)
    (h : ∀ nm qn bd sc gl cl doc mo an cd ct bl, BindsTo s ⟨nm, qn, P, bd, sc, gl, cl, .none, .none, doc, mo, an, cd, ct, bl⟩ as bs) : BindsTo s fd as bs := by
  obtain ⟨nm, qn, ps, bd, sc, gl, cl, df, kd, doc, mo, an, cd, ct, bl⟩ := fd
  subst h1 h2 h3
  exact h _ _ _ _ _ _ _ _ _ _ _ _
noncomputable def checkGo : List (Int × Str) → Int → Bool
  | [], o => o == 0
  | p :: r, o => if p.2 == "(" then checkGo r (o + 1) else if p.2 == ")" then (if o - 1 < 0 then false else checkGo r (o - 1)) else checkGo r o
noncomputable def check (x : Str) : Bool := checkGo (escaped (strip x)) 0
section
variable {G : Gl} {A : Around} {n : Nat} {mg mb : Str → Option Value} {x : Str}
theorem call_strip (hA : Room (n + 5) A) (M : Mod G mg mb) (hx : x.length ≤ 1000) : CallD G A (.ref 28) [.str x] (.str (strip x)) := by
  refine CallD.fn (n := n + 4) (xs := ["addr"]) M.f_strip_quoted_realnames M.N hA (by decide) (by decide) [] rfl (fun vs fd S s hl h1 h2 h3 I => ?_) (fun S s I => .nil) fun act => (run_strip (hA.deeper act.env) M hx act).mono fun fd _ e => by rw [e]; rfl
  obtain ⟨a0, rfl⟩ := len1 hl
  exact bindPlain h1 h2 h3 fun _ _ _ _ _ _ _ _ _ _ _ _ => .of_eq rfl
theorem run_check (hA : Room (n + 5) A) (M : Mod G mg mb) (hx : x.length ≤ 1000) (act : Act check_parenthesis_s (cellNames check_parenthesis_s.names)) :
    Run G A act (execs check_parenthesis_b act.env) (zipEnv ["addr"] [.str x]) fun fd _ => fd = .ret (.bool (check x)) := by
  unfold check_parenthesis_b
  refine Run.cons (Run.assign (Ev.call (EvV.glob M.N rfl M.f_strip_quoted_realnames.named) (.func (M.f_strip_quoted_realnames.obj.choose_spec.choose_spec).1 (M.f_strip_quoted_realnames.obj.choose_spec.choose_spec).2.1) (.more (Ev.name rfl) .nil) (call_strip hA M hx)) (by decide) ?_)
  refine Run.cons (Run.assign (Ev.int 0) (by decide) ?_)
  have hch : check x = checkGo (escaped (strip x)) 0 := rfl
  generalize strip x = y at hch ⊢
  refine Run.cons (Run.mono (Q := fun fd ρ => (fd = .ret (.bool false) ∧ check x = false) ∨ (fd = .next ∧ ∃ o : Int, check x = (o == 0) ∧ Has ρ [("opens", .val (.int o))])) ?_ ?_)
  · refine Run.forL (escaped y) outD (fun o : Int => [("addr", .val (.str y)), ("opens", .val (.int o))]) (fun done rest o => check x = checkGo rest o) 0 (Src.escaped (n := n + 1) hA M.f_iter_escaped_chars M.N M.b_enumerate.1 M.b_enumerate.2 (EvV.glob M.N rfl M.f_iter_escaped_chars.named) (Ev.name rfl)) hch (Has.of rfl)
      (fun p o => bindLs ["pos", "ch"] [.val (.int p.1), .val (.str p.2)] [("addr", .val (.str y)), ("opens", .val (.int o))]) (fun done p rest o e hI => ⟨Takes.tuple hA (.cons (by decide) (.cons (by decide) .nil)) rfl, ?_⟩) (fun o ρ' hI hh => ?_)
    · unfold checkGo at hI
      refine Run.cons (Run.ite (b := p.2 == "(") (Te.cmp (Ev.name rfl) (Ev.str _) (Cmp.eqS hA)) (fun h => ?_) fun h => ?_)
      · rw [if_pos h] at hI
        exact Run.cons (Run.aug rfl (Ev.int 1) Op2.iadd (by decide) (Run.nil (Run.nil ⟨_, hI, Has.of rfl⟩)))
      · rw [h] at hI
        refine Run.cons (Run.ite (b := p.2 == ")") (Te.cmp (Ev.name rfl) (Ev.str _) (Cmp.eqS hA)) (fun h' => ?_) fun h' => ?_)
        · rw [if_pos h'] at hI
          refine Run.cons (Run.aug rfl (Ev.int 1) Op2.isub (by decide) ?_)
          refine Run.cons (Run.ite (b := decide (o - 1 < 0)) (Te.cmp (Ev.name rfl) (Ev.int 0) Cmp.lt) (fun h'' => ?_) fun h'' => ?_)
          · rw [if_pos (of_decide_eq_true h'')] at hI
            exact Run.cons (Run.ret (Ev.bool _) (.inl ⟨rfl, hI⟩))
          · rw [if_neg (of_decide_eq_false h'')] at hI
            exact Run.nil (Run.nil (Run.nil (Run.nil ⟨_, hI, Has.of rfl⟩)))
        · rw [h'] at hI
          exact Run.nil (Run.nil (Run.nil ⟨_, hI, Has.of rfl⟩))
    · exact .inr ⟨rfl, o, hI, hh.2.1, trivial⟩
  rintro fd ρ (⟨rfl, h⟩ | ⟨rfl, o, h, hρ⟩)
  · rw [h]; rfl
  · rw [h]
    refine Run.has ?_ hρ
    exact Run.cons (Run.ret (Ev.cmp (Ev.name rfl) (Ev.int 0) Cmp.eqI) rfl)
theorem call_check (hA : Room (n + 6) A) (M : Mod G mg mb) (hx : x.length ≤ 1000) : CallD G A (.ref 35) [.str x] (.bool (check x)) := by
  refine CallD.fn (n := n + 5) (xs := ["addr"]) M.f_check_parenthesis M.N hA (by decide) (by decide) [] rfl (fun vs fd S s hl h1 h2 h3 I => ?_) (fun S s I => .nil) fun act => (run_check (hA.deeper act.env) M hx act).mono fun fd _ e => by rw [e]; rfl
  obtain ⟨a0, rfl⟩ := len1 hl
  exact bindPlain h1 h2 h3 fun _ _ _ _ _ _ _ _ _ _ _ _ => .of_eq rfl
end
end Mine
end

section
namespace Mine
open PySem PySem.Challenge PySem.Calls PyProof.Rows
section
variable {α : Type}
noncomputable def aget (k : Ky) : List (Ky × α) → Option α
  | [] => none
  | p :: l => if p.1 = k then some p.2 else aget k l
noncomputable def aput (l : List (Ky × α)) (k : Ky) (v : α) : List (Ky × α) := if k ∈ l.map (·.1) then l.map (fun p => if p.1 = k then (p.1, v) else p) else l ++ [(k, v)]
noncomputable def adict (φ : α → D) (l : List (Ky × α)) : D := .dict (l.map (·.1)) (l.map fun p => φ p.2)
theorem dfind_aget (φ : α → D) {k : Ky} : ∀ {l : List (Ky × α)}, dfind k (l.map (·.1)) (l.map fun p => φ p.2) = (aget k l).map φ
  | [] => rfl
  | p :: l => by
    simp only [List.map_cons, dfind, aget]
    split
    · rfl
    · exact dfind_aget φ
theorem zip_put (φ : α → D) {k : Ky} {v : α} : ∀ l : List (Ky × α), List.zipWith (fun k' d' => if k' = k then φ v else d') (l.map (·.1)) (l.map fun p => φ p.2) = (l.map fun p => if p.1 = k then (p.1, v) else p).map fun p => φ p.2
  | [] => rfl
  | p :: l => by
    simp only [List.map_cons, List.zipWith_cons_cons]
    rw [zip_put φ l]
    congr 1
    split <;> rfl
theorem dput_aput (φ : α → D) {k : Ky} {v : α} {l : List (Ky × α)} : dput (l.map (·.1)) (l.map fun p => φ p.2) k (φ v) = ((aput l k v).map (·.1), (aput l k v).map fun p => φ p.2) := by
  unfold dput aput
  split
  · rw [zip_put]
    congr 1
    rw [List.map_map]
    refine List.map_congr_left fun p hp => ?_
    simp only [Function.comp]
    split <;> rfl
  · rw [List.map_append, List.map_append]; rfl
theorem aput_len {l : List (Ky × α)} {k : Ky} {v : α} : (aput l k v).length ≤ l.length + 1 := by
  unfold aput
  split
  · rw [List.length_map]; lia
  · simp
theorem aget_none {k : Ky} : ∀ {l : List (Ky × α)}, aget k l = none ↔ k ∉ l.map (·.1)
  | [] => by simp [aget]
  | p :: l => by
    unfold aget
    by_cases q : p.1 = k
    · simp [q]
    · rw [if_neg q, aget_none]
      simp only [List.map_cons, List.mem_cons, not_or]
      exact ⟨fun h => ⟨fun e => q e.symm, h⟩, fun h => h.2⟩
theorem itemDs_map (φ : α → D) {l : List (Ky × α)} : itemDs (l.map (·.1)) (l.map fun p => φ p.2) = l.map fun p => pairD p.1 (φ p.2) := by
  unfold itemDs
  induction l with
  | nil => rfl
  | cons p l ih => simp only [List.map_cons, List.zipWith_cons_cons, ih]
noncomputable def acopy (t : List (Ky × α)) : List (Ky × α) := t.foldl (fun q p => aput q p.1 p.2) []
noncomputable def comb (add : α → α → α) : Option α → α → α
  | some v, w => add v w
  | none, w => w
noncomputable def amerge (add : α → α → α) (t s : List (Ky × α)) : List (Ky × α) := s.foldl (fun q p => aput q p.1 (comb add (aget p.1 q) p.2)) (acopy t)
theorem acopy_len (t : List (Ky × α)) : (acopy t).length ≤ t.length := by
  have : ∀ (t q : List (Ky × α)), (t.foldl (fun q p => aput q p.1 p.2) q).length ≤ q.length + t.length := fun t => by
    induction t with
    | nil => intro q; simp
    | cons p t ih => intro q; rw [List.foldl_cons, List.length_cons]; have := ih (aput q p.1 p.2); have := aput_len (l := q) (k := p.1) (v := p.2); lia
  have := this t []
  unfold acopy
  simpa using this
end
section
variable {G : Gl} {A : Around} {n : Nat} {mg mb : Str → Option Value} {x : Str}
theorem run_count (hA : Room (n + 1) A) {l : List (Ky × Int)} (act : Act count_calls_s (cellNames count_calls_s.names)) :
    Run G A act (execs count_calls_b act.env) (zipEnv ["callers"] [adict .int l]) fun fd _ => fd = .ret (.int (l.map (·.2)).sum) := by
  unfold count_calls_b
  refine Run.cons (Run.assign (Ev.int 0) (by decide) ?_)
  refine Run.cons (Run.mono (Q := fun fd ρ => fd = .next ∧ Has ρ [("nc", .val (.int (l.map (·.2)).sum))]) ?_ ?_)
  · refine Run.forL (l.map (·.2)) D.int (fun o : Int => [("nc", .val (.int o))]) (fun done rest o => o + rest.sum = (l.map (·.2)).sum) 0 (Src.of hA (Ev.values (Ev.name rfl)) (by rw [List.map_map]; exact .values _ _)) (Int.zero_add _) (Has.of rfl)
      (fun v o => ("calls", .val (.int v)) :: [("nc", .val (.int o))]) (fun done v rest o e hI => ⟨Takes.name (by decide), ?_⟩) (fun o ρ' hI hh => ?_)
    · refine Run.cons (Run.aug rfl (Ev.name rfl) Op2.iadd (by decide) (Run.nil ⟨_, ?_, Has.of rfl⟩))
      rw [List.sum_cons] at hI
      lia
    · have : o = (l.map (·.2)).sum := by simpa using hI
      rw [← this]
      exact ⟨rfl, hh⟩
  rintro fd ρ ⟨rfl, hρ⟩
  refine Run.has ?_ hρ
  exact Run.cons (Run.ret (Ev.name rfl) rfl)
end
end Mine
end

section
namespace Mine
open PySem PySem.Challenge PySem.Calls PyProof.Rows
section
variable {G : Gl} {A : Around} {n : Nat} {mg mb : Str → Option Value} {x : Str}
theorem amerge_len {α : Type} (add : α → α → α) (t s : List (Ky × α)) : (amerge add t s).length ≤ t.length + s.length := by
  have : ∀ (s q : List (Ky × α)), (s.foldl (fun q p => aput q p.1 (comb add (aget p.1 q) p.2)) q).length ≤ q.length + s.length := fun s => by
    induction s with
    | nil => intro q; simp
    | cons p t ih => intro q; rw [List.foldl_cons, List.length_cons]; have := ih (aput q p.1 (comb add (aget p.1 q) p.2)); have := aput_len (l := q) (k := p.1) (v := (comb add (aget p.1 q) p.2)); lia
  have h1 := this s (acopy t)
  have h2 := acopy_len t
  unfold amerge
  lia
theorem run_add_callers (hA : Room (n + 1) A) (M : Mod G mg mb) {t s : List (Ky × Int)} (ht : t.length + s.length ≤ 1000) (act : Act add_callers_s (cellNames add_callers_s.names)) :
    Run G A act (execs add_callers_b act.env) (zipEnv ["target", "source"] [adict .int t, adict .int s]) fun fd _ => fd = .ret (adict .int (amerge (· + ·) t s)) := by
  unfold add_callers_b
  have big : 1000 ≤ sizeLine := by decide
  refine Run.cons (Run.assignOwn EvO.dict0 (by decide) ?_)
  refine Run.cons (Run.mono (Q := fun fd ρ => fd = .next ∧ Has ρ [("source", .val (adict .int s)), ("new_callers", .own (adict .int (acopy t)))]) ?_ ?_)
  · refine Run.forL t (fun p => pairD p.1 (.int p.2)) (fun q : List (Ky × Int) => [("source", .val (adict .int s)), ("new_callers", .own (adict .int q))]) (fun done rest q => q = done.foldl (fun q p => aput q p.1 p.2) []) []
      (by rw [← itemDs_map D.int]; exact Src.items hA (Ev.items (Ev.name rfl))) rfl (Has.of rfl)
      (fun p q => bindLs ["func", "caller"] [.val p.1.d, .val (.int p.2)] [("source", .val (adict .int s)), ("new_callers", .own (adict .int q))]) (fun done p rest q e hI => ⟨Takes.tuple hA (.cons (by decide) (.cons (by decide) .nil)) rfl, ?_⟩) (fun o ρ' hI hh => ?_)
    · have hq : q.length ≤ sizeLine := by
        have h1 := acopy_len done
        unfold acopy at h1
        rw [← hI] at h1
        have : done.length ≤ t.length := by rw [e]; simp
        lia
      refine Run.cons (Run.setD rfl (Ev.name rfl) (Ev.name rfl) (by rw [List.length_map]; exact hq) (Run.nil ⟨aput q p.1 p.2, by rw [List.foldl_append, ← hI]; rfl, ?_⟩))
      rw [dput_aput]
      exact Has.of rfl
    · subst hI
      exact ⟨rfl, hh⟩
  rintro fd ρ ⟨rfl, hρ⟩
  refine Run.has ?_ hρ
  refine Run.cons (Run.mono (Q := fun fd ρ => fd = .next ∧ Has ρ [("new_callers", .own (adict .int (amerge (· + ·) t s)))]) ?_ ?_)
  · refine Run.forL s (fun p => pairD p.1 (.int p.2)) (fun q : List (Ky × Int) => [("new_callers", .own (adict .int q))]) (fun done rest q => q = amerge (· + ·) t done) (acopy t)
      (by rw [← itemDs_map D.int]; exact Src.items hA (Ev.items (Ev.name rfl))) rfl (Has.of rfl)
      (fun p q => bindLs ["func", "caller"] [.val p.1.d, .val (.int p.2)] [("new_callers", .own (adict .int q))]) (fun done p rest q e hI => ⟨Takes.tuple hA (.cons (by decide) (.cons (by decide) .nil)) rfl, ?_⟩) (fun o ρ' hI hh => ?_)
    · have hq : q.length ≤ sizeLine := by
        have h1 := amerge_len (· + ·) t done
        rw [← hI] at h1
        have : done.length ≤ s.length := by rw [e]; simp
        lia
      have hn : ∀ v, v = aput q p.1 (comb (· + ·) (aget p.1 q) p.2) → v = amerge (· + ·) t (done ++ [p]) := fun v hv => by
        rw [hv, hI]
        unfold amerge
        rw [List.foldl_append]; rfl
      refine Run.cons (Run.ite (b := decide (p.1 ∈ q.map (·.1))) (Te.inOwn rfl (Ev.name rfl)) (fun h => ?_) fun h => ?_)
      · have h := of_decide_eq_true h
        obtain ⟨v₀, hv₀⟩ : ∃ v₀, aget p.1 q = some v₀ := by
          cases z : aget p.1 q with
          | some v => exact ⟨v, rfl⟩
          | none => exact absurd h (aget_none.mp z)
        refine Run.cons (Run.ite (b := false) (Te.of (Ev.isTup (i := p.2) (ds := []) (EvV.blt M.N rfl M.b_isinstance.1 M.b_isinstance.2) (Ev.name rfl) (EvV.blt M.N rfl M.b_tuple.1 M.b_tuple.2) (.inl rfl)) Tru.bool) (fun h => nomatch h) fun _ => ?_)
        refine Run.cons (Run.augD rfl (Ev.name rfl) (d₀ := .int v₀) (by rw [dfind_aget, hv₀]; rfl) (Ev.name rfl) Op2.iadd (by rw [List.length_map]; exact hq) (Run.nil (Run.nil (Run.nil ⟨_, hn _ rfl, ?_⟩))))
        rw [hv₀, dput_aput]
        exact Has.of rfl
      · have h := of_decide_eq_false h
        refine Run.cons (Run.setD rfl (Ev.name rfl) (Ev.name rfl) (by rw [List.length_map]; exact hq) (Run.nil (Run.nil ⟨_, hn _ rfl, ?_⟩)))
        rw [aget_none.mpr h, dput_aput]
        exact Has.of rfl
    · subst hI
      exact ⟨rfl, hh⟩
  rintro fd ρ ⟨rfl, hρ⟩
  refine Run.has ?_ hρ
  exact Run.freeze "new_callers" _ rfl (Run.cons (Run.ret (Ev.name rfl) rfl))
theorem call_add_callers (hA : Room (n + 2) A) (M : Mod G mg mb) {t s : List (Ky × Int)} (ht : t.length + s.length ≤ 1000) : CallD G A (.ref 85) [adict .int t, adict .int s] (adict .int (amerge (· + ·) t s)) := by
  refine CallD.fn (n := n + 1) (xs := ["target", "source"]) M.f_add_callers M.N hA (by decide) (by decide) [] rfl (fun vs fd S s hl h1 h2 h3 I => ?_) (fun S s I => .nil) fun act => (run_add_callers (hA.deeper act.env) M ht act).mono fun fd _ e => by rw [e]; rfl
  obtain ⟨a0, a1, rfl⟩ := len2 hl
  exact bindPlain h1 h2 h3 fun _ _ _ _ _ _ _ _ _ _ _ _ => .of_eq rfl
theorem call_count (hA : Room (n + 2) A) (M : Mod G mg mb) {l : List (Ky × Int)} : CallD G A (.ref 92) [adict .int l] (.int (l.map (·.2)).sum) := by
  refine CallD.fn (n := n + 1) (xs := ["callers"]) M.f_count_calls M.N hA (by decide) (by decide) [] rfl (fun vs fd S s hl h1 h2 h3 I => ?_) (fun S s I => .nil) fun act => (run_count (hA.deeper act.env) act).mono fun fd _ e => by rw [e]; rfl
  obtain ⟨a0, rfl⟩ := len1 hl
  exact bindPlain h1 h2 h3 fun _ _ _ _ _ _ _ _ _ _ _ _ => .of_eq rfl
end
end Mine
end

section
namespace Mine
open PySem PySem.Challenge PySem.Calls PyProof.Rows
structure Stat where
  cc : Int
  nc : Int
  tt : Int
  ct : Int
  by_ : List (Ky × Int)
noncomputable def Stat.d (s : Stat) : D := .tuple [.int s.cc, .int s.nc, .int s.tt, .int s.ct, adict .int s.by_]
noncomputable def Stat.add (t s : Stat) : Stat := ⟨s.cc + t.cc, s.nc + t.nc, s.tt + t.tt, s.ct + t.ct, amerge (· + ·) t.by_ s.by_⟩
section
variable {G : Gl} {A : Around} {n : Nat} {mg mb : Str → Option Value} {x : Str}
theorem run_add_stats (hA : Room (n + 2) A) (M : Mod G mg mb) {t s : Stat} (ht : t.by_.length + s.by_.length ≤ 1000) (act : Act add_func_stats_s (cellNames add_func_stats_s.names)) :
    Run G A act (execs add_func_stats_b act.env) (zipEnv ["target", "source"] [t.d, s.d]) fun fd _ => fd = .ret (t.add s).d := by
  unfold add_func_stats_b
  refine Run.cons (Run.unpack hA (Ev.name (d := s.d) rfl) (xs := ["cc", "nc", "tt", "ct", "callers"]) (.cons (by decide) (.cons (by decide) (.cons (by decide) (.cons (by decide) (.cons (by decide) .nil))))) rfl ?_)
  refine Run.cons (Run.unpack hA (Ev.name (d := t.d) rfl) (xs := ["t_cc", "t_nc", "t_tt", "t_ct", "t_callers"]) (.cons (by decide) (.cons (by decide) (.cons (by decide) (.cons (by decide) (.cons (by decide) .nil))))) rfl ?_)
  refine Run.cons (Run.ret (Ev.tuple (.more (Ev.bin (Ev.name rfl) (Ev.name rfl) Op2.add) (.more (Ev.bin (Ev.name rfl) (Ev.name rfl) Op2.add) (.more (Ev.bin (Ev.name rfl) (Ev.name rfl) Op2.add) (.more (Ev.bin (Ev.name rfl) (Ev.name rfl) Op2.add)
    (.more (Ev.call (EvV.glob M.N rfl M.f_add_callers.named) (.func (M.f_add_callers.obj.choose_spec.choose_spec).1 (M.f_add_callers.obj.choose_spec.choose_spec).2.1) (.more (Ev.name rfl) (.more (Ev.name rfl) .nil)) (call_add_callers hA M ht)) .nil)))))) rfl)
theorem call_add_stats (hA : Room (n + 3) A) (M : Mod G mg mb) {t s : Stat} (ht : t.by_.length + s.by_.length ≤ 1000) : CallD G A (.ref 78) [t.d, s.d] (t.add s).d := by
  refine CallD.fn (n := n + 2) (xs := ["target", "source"]) M.f_add_func_stats M.N hA (by decide) (by decide) [] rfl (fun vs fd S s hl h1 h2 h3 I => ?_) (fun S s I => .nil) fun act => (run_add_stats (hA.deeper act.env) M ht act).mono fun fd _ e => by rw [e]; rfl
  obtain ⟨a0, a1, rfl⟩ := len2 hl
  exact bindPlain h1 h2 h3 fun _ _ _ _ _ _ _ _ _ _ _ _ => .of_eq rfl
end
end Mine
end

section
namespace Mine
open PySem PySem.Challenge PySem.Calls PyProof.Rows
section
variable {G : Gl} {A : Around} {n : Nat} {mg mb : Str → Option Value} {x : Str}
noncomputable def prD (p : Int × Int) : D := .tuple [.int p.1, .int p.2]
noncomputable def addP (p q : Int × Int) : Int × Int := (p.1 + q.1, p.2 + q.2)
noncomputable abbrev genPos : Pos := { line := 109, col := 42, endLine := 109, endCol := 92 }
structure AddFn (G : Gl) (mg : Str → Option Value) : Prop where
  code : ∃ o fd T, G.base 85 = some o ∧ o.data = .func fd ∧ CodeTab G mg fd.code (fd.qualname ++ ".<locals>." ++ "<genexpr>") T genPos
theorem run_add_pairs (hA : Room (n + 2) A) (M : Mod G mg mb) {t s : List (Ky × (Int × Int))} (ht : t.length + s.length ≤ 1000) (act : Act add_callers_s (cellNames add_callers_s.names)) {T : Tab} (C : CodeTab G mg act.env.code (act.env.qual ++ "<genexpr>") T genPos) :
    Run G A act (execs add_callers_b act.env) (zipEnv ["target", "source"] [adict prD t, adict prD s]) fun fd _ => fd = .ret (adict prD (amerge addP t s)) := by
  unfold add_callers_b
  have big : 1000 ≤ sizeLine := by decide
  refine Run.cons (Run.assignOwn EvO.dict0 (by decide) ?_)
  refine Run.cons (Run.mono (Q := fun fd ρ => fd = .next ∧ Has ρ [("source", .val (adict prD s)), ("new_callers", .own (adict prD (acopy t)))]) ?_ ?_)
  · refine Run.forL t (fun p => pairD p.1 (prD p.2)) (fun q : List (Ky × (Int × Int)) => [("source", .val (adict prD s)), ("new_callers", .own (adict prD q))]) (fun done rest q => q = done.foldl (fun q p => aput q p.1 p.2) []) []
      (by rw [← itemDs_map prD]; exact Src.items (hA.less (m := n + 1) (by lia)) (Ev.items (Ev.name rfl))) rfl (Has.of rfl)
      (fun p q => bindLs ["func", "caller"] [.val p.1.d, .val (prD p.2)] [("source", .val (adict prD s)), ("new_callers", .own (adict prD q))]) (fun done p rest q e hI => ⟨Takes.tuple (hA.less (m := n + 1) (by lia)) (.cons (by decide) (.cons (by decide) .nil)) rfl, ?_⟩) (fun o ρ' hI hh => ?_)
    · have hq : q.length ≤ sizeLine := by
        have h1 := acopy_len done
        unfold acopy at h1
        rw [← hI] at h1
        have : done.length ≤ t.length := by rw [e]; simp
        lia
      refine Run.cons (Run.setD rfl (Ev.name rfl) (Ev.name rfl) (by rw [List.length_map]; exact hq) (Run.nil ⟨aput q p.1 p.2, by rw [List.foldl_append, ← hI]; rfl, ?_⟩))
      rw [dput_aput]
      exact Has.of rfl
    · subst hI
      exact ⟨rfl, hh⟩
  rintro fd ρ ⟨rfl, hρ⟩
  refine Run.has ?_ hρ
  refine Run.cons (Run.mono (Q := fun fd ρ => fd = .next ∧ Has ρ [("new_callers", .own (adict prD (amerge addP t s)))]) ?_ ?_)
  · refine Run.forL s (fun p => pairD p.1 (prD p.2)) (fun q : List (Ky × (Int × Int)) => [("new_callers", .own (adict prD q))]) (fun done rest q => q = amerge addP t done) (acopy t)
      (by rw [← itemDs_map prD]; exact Src.items (hA.less (m := n + 1) (by lia)) (Ev.items (Ev.name rfl))) rfl (Has.of rfl)
      (fun p q => bindLs ["func", "caller"] [.val p.1.d, .val (prD p.2)] [("new_callers", .own (adict prD q))]) (fun done p rest q e hI => ⟨Takes.tuple (hA.less (m := n + 1) (by lia)) (.cons (by decide) (.cons (by decide) .nil)) rfl, ?_⟩) (fun o ρ' hI hh => ?_)
    · have hq : q.length ≤ sizeLine := by
        have h1 := amerge_len addP t done
        rw [← hI] at h1
        have : done.length ≤ s.length := by rw [e]; simp
        lia
      have hn : ∀ v, v = aput q p.1 (comb addP (aget p.1 q) p.2) → v = amerge addP t (done ++ [p]) := fun v hv => by
        rw [hv, hI]
        unfold amerge
        rw [List.foldl_append]; rfl
      refine Run.cons (Run.ite (b := decide (p.1 ∈ q.map (·.1))) (Te.inOwn rfl (Ev.name rfl)) (fun h => ?_) fun h => ?_)
      · have h := of_decide_eq_true h
        obtain ⟨v₀, hv₀⟩ : ∃ v₀, aget p.1 q = some v₀ := by
          cases z : aget p.1 q with
          | some v => exact ⟨v, rfl⟩
          | none => exact absurd h (aget_none.mp z)
        refine Run.cons (Run.ite (b := true) (Te.of (Ev.isTup (i := 0) (ds := [.int p.2.1, .int p.2.2]) (EvV.blt M.N rfl M.b_isinstance.1 M.b_isinstance.2) (Ev.name rfl) (EvV.blt M.N rfl M.b_tuple.1 M.b_tuple.2) (.inr rfl)) Tru.bool) (fun _ => ?_) (fun h => nomatch h))
        refine Run.cons (Run.setD (d := D.tuple ((List.zipWith (· + ·) [p.2.1, p.2.2] [v₀.1, v₀.2]).map .int)) rfl (Ev.name rfl)
          (Ev.tupSum (as := [p.2.1, p.2.2]) (bs := [v₀.1, v₀.2]) hA M.N C (EvV.blt M.N rfl M.b_tuple.1 M.b_tuple.2) (EvV.blt M.N rfl M.b_zip.1 M.b_zip.2) (Ev.name rfl) (Ev.subOwn rfl (Ev.name rfl) (by rw [dfind_aget, hv₀]; rfl)) (show (2 : Nat) ≤ 1000 by decide) rfl)
          (by rw [List.length_map]; exact hq) (Run.nil (Run.nil (Run.nil ⟨_, hn _ rfl, ?_⟩))))
        rw [hv₀]
        have e2 : D.tuple ((List.zipWith (· + ·) [p.2.1, p.2.2] [v₀.1, v₀.2]).map .int) = prD (addP v₀ p.2) := by
          show D.tuple [.int (p.2.1 + v₀.1), .int (p.2.2 + v₀.2)] = _
          rw [Int.add_comm p.2.1, Int.add_comm p.2.2]; rfl
        rw [e2, dput_aput]
        exact Has.of rfl
      · have h := of_decide_eq_false h
        refine Run.cons (Run.setD rfl (Ev.name rfl) (Ev.name rfl) (by rw [List.length_map]; exact hq) (Run.nil (Run.nil ⟨_, hn _ rfl, ?_⟩)))
        rw [aget_none.mpr h, dput_aput]
        exact Has.of rfl
    · subst hI
      exact ⟨rfl, hh⟩
  rintro fd ρ ⟨rfl, hρ⟩
  refine Run.has ?_ hρ
  exact Run.freeze "new_callers" _ rfl (Run.cons (Run.ret (Ev.name rfl) rfl))
theorem call_add_pairs (hA : Room (n + 3) A) (M : Mod G mg mb) (L : AddFn G mg) {t s : List (Ky × (Int × Int))} (ht : t.length + s.length ≤ 1000) : CallD G A (.ref 85) [adict prD t, adict prD s] (adict prD (amerge addP t s)) := by
  refine CallD.fnC (n := n + 2) (xs := ["target", "source"]) M.f_add_callers M.N hA (by decide) (by decide) rfl (fun vs fd S s hl h1 h2 h3 I => ?_) fun act hf hc => ?_
  · obtain ⟨a0, a1, rfl⟩ := len2 hl
    exact bindPlain h1 h2 h3 fun _ _ _ _ _ _ _ _ _ _ _ _ => .of_eq rfl
  · obtain ⟨o, fd, ho, hd, q3, q4⟩ := hc
    obtain ⟨o', fd', T, ho', hd', C⟩ := L.code
    obtain rfl : o = o' := by rw [ho] at ho'; exact Option.some.inj ho'
    obtain rfl : fd = fd' := by rw [hd] at hd'; exact Data.func.inj hd'
    exact (run_add_pairs (hA.deeper act.env) M ht act (by rw [q3, q4]; exact C)).mono fun fd _ e => by rw [e]; rfl
end
end Mine
end

section
namespace Mine
open PySem PySem.Challenge PySem.Calls PyProof.Rows
section
variable {G : Gl} {A : Around} {n : Nat} {mg mb : Str → Option Value} {row : List Int} {mine : Int} {pl : Nat}
noncomputable def one1 (i : Int) : D := .list [.int i]
noncomputable def spanL (p : Int × Int) : D := .list [.int p.1, .int p.2]
theorem run_law_put (hA : Room (n + 1) A) (hr : row.length ≤ 1000) (act : Act law_put_s (cellNames law_put_s.names)) :
    Run G A act (execs law_put_b act.env) (zipEnv ["row", "place", "mine"] [.list (row.map .int), .int pl, .int mine]) fun fd _ => fd = .ret (.list (insAt pl (spanL (mine, 0)) (row.map one1))) := by
  have big : 1000 + 1001 ≤ sizeLine := by decide
  refine Run.cons (Run.ret (d := .list (insAt pl (spanL (mine, 0)) (row.map one1))) ?_ rfl)
  have e : (row.take pl).map one1 ++ [spanL (mine, 0)] ++ (row.drop pl).map one1 = insAt pl (spanL (mine, 0)) (row.map one1) := by
    unfold insAt; rw [List.map_take, List.map_drop, List.append_assoc]; rfl
  rw [← e]
  refine EvO.ev (EvO.bin (EvO.ev (EvO.bin (EvO.ev (EvO.lc (row.take pl) D.int (fun i => ("a", .val (.int i)) :: LEnv.inner _ _) (fun _ => true) one1 ?_ (by rw [List.length_take]; exact Nat.le_trans (Nat.min_le_right _ _) (by lia)) (fun act' k hk => ⟨Takes.name (by decide), inner_keep1 (by decide), Tests.none, fun _ => EvO.ev (EvO.list (.more (Ev.name rfl) .nil))⟩) (by rw [filter_all]))) (EvO.ev (EvO.list (ds := [spanL (mine, 0)]) (.more (EvO.ev (EvO.list (.more (Ev.name rfl) (.more (Ev.int 0) .nil)))) .nil))) (Op2O.addL ?_)))
      (EvO.ev (EvO.lc (row.drop pl) D.int (fun i => ("a", .val (.int i)) :: LEnv.inner _ _) (fun _ => true) one1 ?_ (by rw [List.length_drop]; exact Nat.le_trans (Nat.sub_le _ _) (by lia)) (fun act' k hk => ⟨Takes.name (by decide), inner_keep1 (by decide), Tests.none, fun _ => EvO.ev (EvO.list (.more (Ev.name rfl) .nil))⟩) (by rw [filter_all]))) (Op2O.addL ?_))
  · rw [List.map_take, ← lslice_to]
    exact Src.of hA (EvO.ev (EvO.sliced (Ev.name rfl) Bd.non (Bd.at (Ev.name rfl)) Bd.non (by rw [List.length_map]; lia) (fun e => nomatch e))) (.list _)
  · rw [List.length_map, List.length_take, List.length_singleton]; lia
  · rw [List.map_drop, ← lslice_from]
    exact Src.of hA (EvO.ev (EvO.sliced (Ev.name rfl) (Bd.at (Ev.name rfl)) Bd.non Bd.non (by rw [List.length_map]; lia) (fun e => nomatch e))) (.list _)
  · rw [List.length_append, List.length_map, List.length_map, List.length_take, List.length_drop, List.length_singleton]; lia
theorem call_law_put (hA : Room (n + 2) A) (M : Mod G mg mb) (hr : row.length ≤ 1000) : CallD G A (.ref 107) [.list (row.map .int), .int pl, .int mine] (.list (insAt pl (spanL (mine, 0)) (row.map one1))) := by
  refine CallD.fn (n := n + 1) (xs := ["row", "place", "mine"]) M.f_law_put M.N hA (by decide) (by decide) [] rfl (fun vs fd S s hl h1 h2 h3 I => ?_) (fun S s I => .nil) fun act => (run_law_put (hA.deeper act.env) hr act).mono fun fd _ e => by rw [e]; rfl
  obtain ⟨a0, a1, a2, rfl⟩ := len3 hl
  exact bindPlain h1 h2 h3 fun _ _ _ _ _ _ _ _ _ _ _ _ => .of_eq rfl
end
end Mine
end

section
namespace Mine
open PySem PySem.Challenge PySem.Calls PyProof.Rows
structure Grp where
  row : List Int
  st : Stat
noncomputable def Grp.d (g : Grp) : D := .tuple [rowD g.row, g.st.d]
noncomputable def grpsD (gs : List Grp) : D := .list (gs.map Grp.d)
noncomputable def statOf (owns : Int → Int) (row : List Int) (order : List Int) : Stat := ⟨(row.map fun x => x * x).sum, row.length, (row.map owns).sum, row.sum, order.map fun x => (.i x, 1)⟩
noncomputable def grpWith (gs : List Grp) (label : Int) : Option Grp := gs.find? fun g => g.row.contains label
end Mine
end

section
namespace Mine
open PySem PySem.Challenge PySem.Calls PyProof.Rows
section
variable {G : Gl} {A : Around} {n : Nat} {mg mb : Str → Option Value} {gs : List Grp} {label : Int} {g : Grp} {Q : FD → LEnv → Prop} {pcs ows : D}
theorem run_join_head (hA : Room (n + 1) A) (act : Act law_join_s (cellNames law_join_s.names)) (hg : grpWith gs label = some g) (hl : gs.length ≤ 1000)
    (h : Then G A act law_join_b.tail Q .next (bindLs ["row", "entry"] [.val (rowD g.row), .val g.st.d] (zipEnv ["groups", "label", "pieces", "owns"] [grpsD gs, .int label, pcs, ows]))) :
    Run G A act (execs law_join_b act.env) (zipEnv ["groups", "label", "pieces", "owns"] [grpsD gs, .int label, pcs, ows]) Q := by
  have big : 1000 ≤ sizeLine := by decide
  refine Run.cons (Run.unpack (ds := [rowD g.row, g.st.d]) hA (Ev.sub (a := .list ((gs.filter fun g => decide (label ∈ g.row)).map Grp.d)) (i := .int 0) (EvO.ev (EvO.lc gs Grp.d (fun g => ("g", .val g.d) :: LEnv.inner _ _) (fun g => decide (label ∈ g.row)) Grp.d ?src (by lia)
    (fun act' k hk => ⟨Takes.name (by decide), inner_keep1 (by decide), Tests.one (Te.cmp (Ev.name rfl) (Ev.sub (Ev.name rfl) (Ev.int 0) (SubD.tuple (k := 0) (by decide) (by decide) rfl)) (Cmp.inInts hA)), fun _ => Ev.name rfl⟩) rfl)) (Ev.int 0) ?sub) (xs := ["row", "entry"]) (.cons (by decide) (.cons (by decide) .nil)) rfl h)
  case src => exact Src.of hA (Ev.name rfl) (.list _)
  case sub =>
    refine SubD.list (k := 0) (by decide) (by decide) (d := g.d) ?_
    have e : ∀ gs : List Grp, grpWith gs label = some g → (gs.filter fun g => decide (label ∈ g.row)).head? = some g := fun gs h => by
      unfold grpWith at h
      induction gs with
      | nil => cases h
      | cons a l ih =>
        rw [List.find?_cons] at h
        rw [List.filter_cons]
        by_cases q : label ∈ a.row
        · rw [if_pos (by simpa using q)]
          have : a.row.contains label = true := by simpa using q
          rw [this] at h
          exact h
        · rw [if_neg (by simpa using q)]
          have : a.row.contains label = false := by simpa using q
          rw [this] at h
          exact ih h
    have := e gs hg
    show (List.map Grp.d _)[0]? = some g.d
    rw [List.getElem?_map, ← List.head?_eq_getElem?, this]
    rfl
end
end Mine
end

section
namespace Mine
open PySem PySem.Challenge PySem.Calls PyProof.Rows
noncomputable def joinBody : List Stmt := match law_join_b with
  | [_, _, .For _ _ b _ _, _] => b
  | _ => []
noncomputable def joinsD (o : List (List Grp)) : D := .list (o.map grpsD)
noncomputable def joinEnv (gs : List Grp) (label : Int) (g : Grp) (pcs ows : D) (o : List (List Grp)) : LEnv :=
  ("out", .own (joinsD o)) :: bindLs ["row", "entry"] [.val (rowD g.row), .val g.st.d] (zipEnv ["groups", "label", "pieces", "owns"] [grpsD gs, .int label, pcs, ows])
theorem flatMap_len1 {α β : Type} {f : α → List β} : ∀ {l : List α}, (∀ a ∈ l, (f a).length ≤ 1) → (l.flatMap f).length ≤ l.length
  | [], _ => Nat.le_refl _
  | a :: l, h => by
    rw [List.flatMap_cons, List.length_append, List.length_cons]
    have h1 := h a (.head _)
    have h2 := flatMap_len1 (l := l) fun b hb => h b (.tail _ hb)
    lia
section
variable {G : Gl} {A : Around} {n : Nat} {mg mb : Str → Option Value} {gs : List Grp} {label : Int} {g : Grp} {pcs ows : D} {tn : Grp → List (List Grp)}
theorem run_join_loop (hA : Room (n + 1) A) (act : Act law_join_s (cellNames law_join_s.names)) (hl : gs.length ≤ 1000) (h1 : ∀ far ∈ gs, (tn far).length ≤ 1)
    (turn : ∀ far ∈ gs, ∀ o, o.length ≤ gs.length → Run G A act (execs joinBody act.env) (bindLs ["far", "other"] [.val (rowD far.row), .val far.st.d] (joinEnv gs label g pcs ows o)) fun fd ρ' => match fd with
      | .next => Has ρ' (joinEnv gs label g pcs ows (o ++ tn far))
      | .cont => Has ρ' (joinEnv gs label g pcs ows (o ++ tn far))
      | .brk => False
      | .ret _ => False) :
    Then G A act law_join_b.tail (fun fd _ => fd = .ret (joinsD (gs.flatMap tn))) .next (bindLs ["row", "entry"] [.val (rowD g.row), .val g.st.d] (zipEnv ["groups", "label", "pieces", "owns"] [grpsD gs, .int label, pcs, ows])) := by
  refine Run.cons (Run.assignOwn (d := joinsD []) (EvO.list .nil) (by decide) ?_)
  refine Run.cons (Run.forL gs Grp.d (fun o => joinEnv gs label g pcs ows o) (fun done rest o => o = done.flatMap tn) [] (Src.of hA (Ev.name rfl) (.list _)) rfl (Has.of rfl) (fun far o => bindLs ["far", "other"] [.val (rowD far.row), .val far.st.d] (joinEnv gs label g pcs ows o)) ?t ?d)
  case t =>
    intro done a rest o e ho
    refine ⟨Takes.tuple (ds := [rowD a.row, a.st.d]) hA (.cons (by decide) (.cons (by decide) .nil)) rfl, (turn a (by rw [e]; simp) o (by have := flatMap_len1 (l := done) (f := tn) fun b hb => h1 b (by rw [e]; exact List.mem_append_left _ hb); rw [← ho] at this; have := congrArg List.length e; simp at this; lia)).mono fun fd ρ' h => ?_⟩
    cases fd with
    | next => exact ⟨_, by rw [ho]; simp, h⟩
    | cont => exact ⟨_, by rw [ho]; simp, h⟩
    | brk => exact h.elim
    | ret d => exact h.elim
  case d =>
    intro o ρ' ho hs
    subst ho
    refine Run.has ?_ hs
    exact Run.freeze "out" _ rfl (Run.cons (Run.ret (Ev.name rfl) rfl))
end
end Mine
end

section
namespace Mine
open PySem PySem.Challenge PySem.Calls PyProof.Rows
section
variable {G : Gl} {A : Around} {n : Nat} {mg mb : Str → Option Value} {gs : List Grp} {label : Int} {g far : Grp} {pcs ows : D} {o : List (List Grp)} {Q : FD → LEnv → Prop} {f0 c : Int}
theorem run_join_place (hA : Room (n + 2) A) (M : Mod G mg mb) (act : Act law_join_s (cellNames law_join_s.names)) (hf : far.row[0]? = some f0) (hr : g.row.length ≤ 1000) (hc : c ≤ g.row.length)
    (hlt : ∀ (i : Nat) x, g.row[i]? = some x → decide (x < f0) = decide ((i : Int) < c))
    (h : Then G A act joinBody.tail Q .next (("place", .val (.int (clampTo 0 g.row.length c))) :: bindLs ["far", "other"] [.val (rowD far.row), .val far.st.d] (joinEnv gs label g pcs ows o))) :
    Run G A act (execs joinBody act.env) (bindLs ["far", "other"] [.val (rowD far.row), .val far.st.d] (joinEnv gs label g pcs ows o)) Q := by
  refine Run.cons (Run.assign (d := .int (clampTo 0 g.row.length c)) (Ev.call (EvV.glob M.N rfl M.f_bisect_left.named) M.f_bisect_left.callee (.more (Ev.name (d := rowD g.row) rfl) (.more (Ev.sub (Ev.name (d := rowD far.row) rfl) (Ev.int 0) (SubD.list (k := 0) (d := .int f0) (by decide) (by decide) (by rw [List.getElem?_map]; show Option.map _ far.row[0]? = _; rw [hf]; rfl))) .nil)) ?_) (by decide) h)
  have := call_bisect_left2 (n := n + 1) (ds := g.row.map .int) (x := .int f0) (c := c) M hA (by rw [List.length_map]; exact hr) (by rw [List.length_map]; exact hc) (fun A' i d hd hA' => by
    rw [List.getElem?_map] at hd
    cases q : g.row[i]? with
    | none => rw [q] at hd; cases hd
    | some x => rw [q] at hd; cases hd; rw [← hlt i x q]; exact Cmp.lt)
  rw [List.length_map] at this
  exact this
end
end Mine
end

section
namespace Mine
open PySem PySem.Challenge PySem.Calls PyProof.Rows
noncomputable def joinIf : List Stmt := match joinBody with
  | [_, .If _ b _ _] => b
  | _ => []
section
variable {G : Gl} {A : Around} {n : Nat} {gs : List Grp} {label : Int} {g far : Grp} {pcs ows : D} {o : List (List Grp)} {Q : FD → LEnv → Prop} {f0 r0 pl : Int}
noncomputable def turnEnv (gs : List Grp) (label : Int) (g far : Grp) (pcs ows : D) (o : List (List Grp)) (pl : Int) : LEnv :=
  ("place", .val (.int pl)) :: bindLs ["far", "other"] [.val (rowD far.row), .val far.st.d] (joinEnv gs label g pcs ows o)
theorem run_join_skip (act : Act law_join_s (cellNames law_join_s.names)) (hf : far.row[0]? = some f0) (hr : g.row[0]? = some r0) (hle : f0 ≤ r0) (h : Q .next (turnEnv gs label g far pcs ows o pl)) :
    Then G A act joinBody.tail Q .next (turnEnv gs label g far pcs ows o pl) := by
  have s0 : ∀ (r : List Int) (x : Int), r[0]? = some x → SubD G A (rowD r) (.int 0) (.int x) := fun r x e => SubD.list (k := 0) (by decide) (by decide) (by rw [List.getElem?_map]; show Option.map _ r[0]? = _; rw [e]; rfl)
  refine Run.cons (Run.ite (b := decide (f0 > r0) && false) (Te.and (Te.cmp (Ev.sub (Ev.name (d := rowD far.row) rfl) (Ev.int 0) (s0 _ _ hf)) (Ev.sub (Ev.name (d := rowD g.row) rfl) (Ev.int 0) (s0 _ _ hr)) Cmp.gt) (fun h => absurd (of_decide_eq_true h) (by omega))) (fun h => by simp at h) fun _ => Run.nil (Run.nil h))
end
end Mine
end

section
namespace Mine
open PySem PySem.Challenge PySem.Calls PyProof.Rows
section
variable {G : Gl} {A : Around} {n : Nat} {gs : List Grp} {label : Int} {g far : Grp} {pcs ows : D} {o : List (List Grp)} {Q : FD → LEnv → Prop} {f0 r0 pl w : Int}
theorem run_join_if (act : Act law_join_s (cellNames law_join_s.names)) (hf : far.row[0]? = some f0) (hr : g.row[0]? = some r0) (hlt : r0 < f0) (h1 : 1 ≤ pl) (h2 : pl < 1000) (hw : g.row[(pl - 1).toNat]? = some w)
    (no : w ≠ label → Q .next (turnEnv gs label g far pcs ows o pl)) (yes : w = label → Run G A act (execs joinIf act.env) (turnEnv gs label g far pcs ows o pl) (Then G A act [] Q)) :
    Then G A act joinBody.tail Q .next (turnEnv gs label g far pcs ows o pl) := by
  have s0 : ∀ (r : List Int) (x : Int), r[0]? = some x → SubD G A (rowD r) (.int 0) (.int x) := fun r x e => SubD.list (k := 0) (by decide) (by decide) (by rw [List.getElem?_map]; show Option.map _ r[0]? = _; rw [e]; rfl)
  have s1 : SubD G A (rowD g.row) (.int (pl - 1)) (.int w) := SubD.list (k := pl - 1) (by omega) (by omega) (by rw [List.getElem?_map, hw]; rfl)
  refine Run.cons (Run.ite (b := decide (f0 > r0) && ((w == label) && true)) (Te.and (Te.cmp (Ev.sub (Ev.name (d := rowD far.row) rfl) (Ev.int 0) (s0 _ _ hf)) (Ev.sub (Ev.name (d := rowD g.row) rfl) (Ev.int 0) (s0 _ _ hr)) Cmp.gt) (fun _ => Te.and (Te.cmp (Ev.sub (Ev.name (d := rowD g.row) rfl) (Ev.bin (Ev.name rfl) (Ev.int 1) Op2.sub) s1) (Ev.name rfl) Cmp.eqI) fun _ => Te.and_nil)) (fun h => yes (by simpa [hlt] using h)) fun h => Run.nil (Run.nil (no (by simpa [hlt] using h))))
end
end Mine
end

section
namespace Mine
open PySem PySem.Challenge PySem.Calls PyProof.Rows
theorem deqd_all {ks' : List Ky} {vs' : List D} : ∀ {ks : List Ky} {vs : List D}, ks.length = vs.length → (∀ (k : Ky) (v : D), (k, v) ∈ ks.zip vs → ∃ v', dfind k ks' vs' = some v' ∧ deq 8 v v' = some true) → deqd (deq 8) ks' vs' ks vs = some true
  | [], [], _, _ => rfl
  | k :: ks, v :: vs, hl, h => by
    obtain ⟨v', h1, h2⟩ := h k v (.head _)
    rw [deqd, h1]
    simp only [h2, deqd_all (by simpa using hl) fun k v hm => h k v (.tail _ hm)]
    rfl
  | [], _ :: _, hl, _ => by simp at hl
  | _ :: _, [], hl, _ => by simp at hl
theorem deq_str (n : Nat) (x : Str) : deq n (.str x) (.str x) = some true := by cases n <;> exact congrArg some (beq_self_eq_true x)
theorem deq_int (n : Nat) (x : Int) : deq n (.int x) (.int x) = some true := by cases n <;> exact congrArg some (beq_self_eq_true x)
theorem deqs_self {f : D → D → Option Bool} : ∀ {l : List D}, (∀ d ∈ l, f d d = some true) → deqs f l l = some true
  | [], _ => rfl
  | d :: l, h => by
    rw [deqs, h d (.head _), deqs_self fun e he => h e (.tail _ he)]; rfl
theorem deq_list (n : Nat) {l : List D} (h : ∀ d ∈ l, deq n d d = some true) : deq (n + 1) (.list l) (.list l) = some true := by
  show (if l.length = l.length then deqs (deq n) l l else some false) = some true
  rw [if_pos rfl]; exact deqs_self h
theorem Te.or3 {sc : Scope} {mc : List Str} {G : Gl} {A : Around} {act : Act sc mc} {ρ : LEnv} {x y z : Expr} {pos : Pos} (h : Te G A act ρ x false) (h' : Te G A act ρ y false) (h'' : Te G A act ρ z false) : Te G A act ρ (.BoolOp .Or [x, y, z] pos) false :=
  Te.eq (Te.or h fun _ => Te.or h' fun _ => Te.or h'' fun _ => Te.or_nil) rfl
theorem Te.or2f {sc : Scope} {mc : List Str} {G : Gl} {A : Around} {act : Act sc mc} {ρ : LEnv} {x y : Expr} {pos : Pos} (h : Te G A act ρ x false) (h' : Te G A act ρ y false) : Te G A act ρ (.BoolOp .Or [x, y] pos) false :=
  Te.eq (Te.or h fun _ => Te.or h' fun _ => Te.or_nil) rfl
section
variable {G : Gl} {A : Around} {n : Nat} {mg mb : Str → Option Value} {d e hiD : D} {lo : Int}
theorem raise_bisect_right4 (M : Mod G mg mb) (hA : Room (n + 1) A) (h : lo < 0) : CallE G A (.ref 53) [d, e, .int lo, hiD] "ValueError" "lo must be non-negative" := by
  obtain ⟨m, tk, ht⟩ := M.d_bisect_right.t
  refine CallE.fn (n := n) (xs := ["a", "x", "lo", "hi", "key"]) M.f_bisect_right M.N hA (by decide) (by decide) [("key", .none, .none)] rfl (fun vs fd S s hl h1 h2 h3 I => ?_) (fun S s I => .cons .none .nil) fun act hf kp adr S s outer base O hfr hst hff => ?_
  · obtain ⟨a0, a1, a2, a3, rfl⟩ := len4 hl
    exact bind_bisect_right4 ht M.d_bisect_right fd h1 h2 h3 I
  · unfold bisect_right_b
    exact raise_neg (hA.deeper act.env) M.N M.b_ValueError O rfl h rfl hf hfr hst hff
theorem raise_bisect_left3 (M : Mod G mg mb) (hA : Room (n + 1) A) (h : lo < 0) : CallE G A (.ref 71) [d, e, .int lo] "ValueError" "lo must be non-negative" := by
  obtain ⟨m, tk, ht⟩ := M.d_bisect_left.t
  refine CallE.fn (n := n) (xs := ["a", "x", "lo", "hi", "key"]) M.f_bisect_left M.N hA (by decide) (by decide) [("hi", .none, .none), ("key", .none, .none)] rfl (fun vs fd S s hl h1 h2 h3 I => ?_) (fun S s I => .cons .none (.cons .none .nil)) fun act hf kp adr S s outer base O hfr hst hff => ?_
  · obtain ⟨a0, a1, a2, rfl⟩ := len3 hl
    exact bind_bisect_left3 ht M.d_bisect_left fd h1 h2 h3 I
  · unfold bisect_left_b
    exact raise_neg (hA.deeper act.env) M.N M.b_ValueError O rfl h rfl hf hfr hst hff
end
theorem filter_prefix {q : Int → Bool} : ∀ {l : List Int}, l.Pairwise (fun a b => q b = true → q a = true) → ∀ {i : Nat} {y : Int}, l[i]? = some y → (q y = true ↔ i < (l.filter q).length)
  | [], _, i, y, h => by simp at h
  | a :: l, hp, i, y, h => by
    obtain ⟨h1, h2⟩ := List.pairwise_cons.mp hp
    cases i with
    | zero =>
      simp only [List.getElem?_cons_zero, Option.some.injEq] at h
      subst h
      cases e : q a with
      | true => simp [List.filter_cons, e]
      | false =>
        have : l.filter q = [] := List.filter_eq_nil_iff.mpr fun b hb hq => by rw [h1 b hb hq] at e; exact nomatch e
        simp [List.filter_cons, e, this]
    | succ i =>
      simp only [List.getElem?_cons_succ] at h
      have := filter_prefix h2 h
      cases e : q a with
      | true => simp [List.filter_cons, e, this]
      | false =>
        have h0 : l.filter q = [] := List.filter_eq_nil_iff.mpr fun b hb hq => by rw [h1 b hb hq] at e; exact nomatch e
        rw [h0] at this
        simp [List.filter_cons, e, h0, this]
noncomputable def cntL (l : List Int) (v : Int) : Int := (l.filter fun y => decide (y < v)).length
noncomputable def cntR (l : List Int) (v : Int) : Int := (l.filter fun y => decide (y ≤ v)).length
theorem cntL_at {l : List Int} {v : Int} (h : l.Pairwise (· ≤ ·)) {i : Nat} {y : Int} (hy : l[i]? = some y) : decide (y < v) = decide ((i : Int) < cntL l v) := by
  have := filter_prefix (q := fun y => decide (y < v)) (h.imp fun {a b} hab hb => by simp at hb ⊢; lia) hy
  simp only [decide_eq_true_eq] at this
  unfold cntL
  simp only [decide_eq_decide]
  rw [this]; omega
theorem cntR_at {l : List Int} {v : Int} (h : l.Pairwise (· ≤ ·)) {i : Nat} {y : Int} (hy : l[i]? = some y) : decide (v < y) = decide (cntR l v ≤ (i : Int)) := by
  have := filter_prefix (q := fun y => decide (y ≤ v)) (h.imp fun {a b} hab hb => by simp at hb ⊢; lia) hy
  simp only [decide_eq_true_eq] at this
  unfold cntR
  simp only [decide_eq_decide]
  omega
theorem cntL_le (l : List Int) (v : Int) : 0 ≤ cntL l v ∧ cntL l v ≤ l.length := by unfold cntL; have := List.length_filter_le (fun y => decide (y < v)) l; omega
theorem cntR_le (l : List Int) (v : Int) : 0 ≤ cntR l v ∧ cntR l v ≤ l.length := by unfold cntR; have := List.length_filter_le (fun y => decide (y ≤ v)) l; omega
theorem insAt_perm {α : Type} (k : Nat) (x : α) (l : List α) : (insAt k x l).Perm (x :: l) := by
  unfold insAt
  have := List.take_append_drop k l
  conv => rhs; rw [← this]
  exact List.perm_middle
set_option tactic.hygienic true in
theorem insAt_sorted {l : List Int} {v : Int} {k : Nat} (h : l.Pairwise (· ≤ ·)) (h1 : ∀ i y, l[i]? = some y → i < k → y ≤ v) (h2 : ∀ i y, l[i]? = some y → k ≤ i → v ≤ y) : (insAt k v l).Pairwise (· ≤ ·) := by
  unfold insAt
  have hs : (l.take k ++ l.drop k).Pairwise (· ≤ ·) := by rw [List.take_append_drop]; exact h
  obtain ⟨p1, p2, p3⟩ := List.pairwise_append.mp hs
  have a1 : ∀ a ∈ l.take k, a ≤ v := fun a ha => by
    obtain ⟨i, hi⟩ := List.getElem?_of_mem ha
    rw [List.getElem?_take] at hi
    split at hi
    · rename_i hk; exact h1 i a hi hk
    · exact nomatch hi
  have a2 : ∀ a ∈ l.drop k, v ≤ a := fun a ha => by
    obtain ⟨i, hi⟩ := List.getElem?_of_mem ha
    rw [List.getElem?_drop] at hi
    exact h2 _ a hi (by lia)
  refine List.pairwise_append.mpr ⟨p1, List.pairwise_cons.mpr ⟨a2, p2⟩, fun a ha b hb => ?_⟩
  rcases List.mem_cons.mp hb with rfl | hb
  · exact a1 a ha
  · exact p3 a ha b hb
theorem insL_isort {l : List Int} {v : Int} : insAt (cntL (isort l) v).toNat v (isort l) = isort (l ++ [v]) := by
  have hs := isort_le l
  refine isort_uniq ?_ (insAt_sorted hs (fun i y hy hi => ?_) fun i y hy hi => ?_)
  · exact (insAt_perm ..).trans (((isort_perm l).cons v).trans (List.perm_append_comm (l₁ := [v])))
  · have := cntL_at (v := v) hs hy
    have := (cntL_le (isort l) v).1
    simp only [decide_eq_decide] at *
    lia
  · have := cntL_at (v := v) hs hy
    have := (cntL_le (isort l) v).1
    simp only [decide_eq_decide] at *
    lia
theorem insR_isort {l : List Int} {v : Int} : insAt (cntR (isort l) v).toNat v (isort l) = isort (l ++ [v]) := by
  have hs := isort_le l
  refine isort_uniq ?_ (insAt_sorted hs (fun i y hy hi => ?_) fun i y hy hi => ?_)
  · exact (insAt_perm ..).trans (((isort_perm l).cons v).trans (List.perm_append_comm (l₁ := [v])))
  · have := cntR_at (v := v) hs hy
    have := (cntR_le (isort l) v).1
    simp only [decide_eq_decide] at *
    lia
  · have := cntR_at (v := v) hs hy
    have := (cntR_le (isort l) v).1
    simp only [decide_eq_decide] at *
    lia
theorem clamp_c {n c : Int} (h0 : 0 ≤ c) (h : c ≤ n) : clampTo 0 n c = c := by unfold clampTo; lia
section
variable {G : Gl} {A : Around} {n : Nat} {mg mb : Str → Option Value} {l : List Int} {v lo hi : Int}
theorem insort_left_ints (M : Mod G mg mb) (hA : Room (n + 2) A) {l : List Int} {v : Int} (hn : l.length ≤ 1000) : CallX G A (.ref 62) (.list ((isort l).map .int)) [.int v] (.list ((isort (l ++ [v])).map .int)) := by
  have hl : (isort l).length = l.length := (isort_perm l).length_eq
  have h := call_insort_left2 (ds := (isort l).map .int) (x := .int v) (c := cntL (isort l) v) M hA (by rw [List.length_map]; lia) (by rw [List.length_map]; exact (cntL_le _ _).2) (fun A' i d hd hA' => by
    rw [List.getElem?_map] at hd
    cases q : (isort l)[i]? with
    | none => rw [q] at hd; cases hd
    | some y => rw [q] at hd; cases hd; rw [← cntL_at (isort_le l) q]; exact Cmp.lt)
  rw [List.length_map, clamp_c (cntL_le _ _).1 (cntL_le _ _).2] at h
  rw [← insL_isort]
  unfold insAt at h ⊢
  rw [List.map_append, List.map_cons, List.map_take, List.map_drop]
  exact h
theorem insort_right_ints (M : Mod G mg mb) (hA : Room (n + 2) A) {l : List Int} {v : Int} (hn : l.length ≤ 1000) : CallX G A (.ref 44) (.list ((isort l).map .int)) [.int v] (.list ((isort (l ++ [v])).map .int)) := by
  have hl : (isort l).length = l.length := (isort_perm l).length_eq
  have h := call_insort_right2 (ds := (isort l).map .int) (x := .int v) (c := cntR (isort l) v) M hA (by rw [List.length_map]; lia) (by rw [List.length_map]; exact (cntR_le _ _).2) (fun A' i d hd hA' => by
    rw [List.getElem?_map] at hd
    cases q : (isort l)[i]? with
    | none => rw [q] at hd; cases hd
    | some y => rw [q] at hd; cases hd; rw [← cntR_at (isort_le l) q]; exact Cmp.lt)
  rw [List.length_map, clamp_c (cntR_le _ _).1 (cntR_le _ _).2] at h
  rw [← insR_isort]
  unfold insAt at h ⊢
  rw [List.map_append, List.map_cons, List.map_take, List.map_drop]
  exact h
theorem ints_get {i : Nat} {d : D} (h : (l.map D.int)[i]? = some d) : ∃ y, l[i]? = some y ∧ d = .int y := by
  rw [List.getElem?_map] at h
  cases q : l[i]? with
  | none => rw [q] at h; cases h
  | some y => rw [q] at h; cases h; exact ⟨y, rfl, rfl⟩
theorem br2 (M : Mod G mg mb) (hA : Room (n + 1) A) (hn : l.length ≤ 1000) (hs : l.Pairwise (· ≤ ·)) : CallD G A (.ref 53) [.list (l.map .int), .int v] (.int (cntR l v)) := by
  have h := call_bisect_right2 (ds := l.map .int) (x := .int v) (c := cntR l v) M hA (by rw [List.length_map]; exact hn) (by rw [List.length_map]; exact (cntR_le _ _).2) (fun A' i d hd hA' => by obtain ⟨y, hy, rfl⟩ := ints_get hd; rw [← cntR_at hs hy]; exact Cmp.lt)
  rw [List.length_map, clamp_c (cntR_le _ _).1 (cntR_le _ _).2] at h
  exact h
theorem bl4 (M : Mod G mg mb) (hA : Room (n + 1) A) (hn : l.length ≤ 1000) (hs : l.Pairwise (· ≤ ·)) (h0 : 0 ≤ lo) (h1 : hi ≤ l.length) : CallD G A (.ref 71) [.list (l.map .int), .int v, .int lo, .int hi] (.int (clampTo lo hi (cntL l v))) :=
  call_bisect_left4 (ds := l.map .int) (x := .int v) (c := cntL l v) M hA (by rw [List.length_map]; exact hn) h0 (.inl rfl) (by rw [List.length_map]; exact h1) (by rw [List.length_map]; exact (cntL_le _ _).2) (fun A' i d hd hA' => by obtain ⟨y, hy, rfl⟩ := ints_get hd; rw [← cntL_at hs hy]; exact Cmp.lt)
theorem br4 (M : Mod G mg mb) (hA : Room (n + 1) A) (hn : l.length ≤ 1000) (hs : l.Pairwise (· ≤ ·)) (h0 : 0 ≤ lo) (h1 : hi ≤ l.length) : CallD G A (.ref 53) [.list (l.map .int), .int v, .int lo, .int hi] (.int (clampTo lo hi (cntR l v))) :=
  call_bisect_right4 (ds := l.map .int) (x := .int v) (c := cntR l v) M hA (by rw [List.length_map]; exact hn) h0 (.inl rfl) (by rw [List.length_map]; exact h1) (by rw [List.length_map]; exact (cntR_le _ _).2) (fun A' i d hd hA' => by obtain ⟨y, hy, rfl⟩ := ints_get hd; rw [← cntR_at hs hy]; exact Cmp.lt)
end
end Mine
end

section
namespace Mine
open PySem PySem.Challenge PySem.Calls PyProof.Rows
section
variable {G : Gl} {A : Around} {n : Nat} {mg mb : Str → Option Value} {ds : List D} {x : D} {lo c : Int}
theorem call_insort_right3 (M : Mod G mg mb) (hA : Room (n + 2) A) (hn : ds.length ≤ 1000) (h0 : 0 ≤ lo) (hlo : lo ≤ ds.length) (hc : c ≤ ds.length)
    (p : ∀ A' (i : Nat) d, ds[i]? = some d → Room n A' → Cmp G A' .Lt x d (decide (c ≤ (i : Int)))) : CallX G A (.ref 44) (.list ds) [x, .int lo] (.list (insAt (clampTo lo ds.length c).toNat x ds)) := by
  obtain ⟨m, tk, ht⟩ := M.d_insort_right.t
  refine CallX.fn (n := n + 1) (x := "a") (xs := ["x", "lo", "hi", "key"]) M.f_insort_right M.N hA (by decide) (by decide) [("hi", .none, .none), ("key", .none, .none)] rfl (fun v vs fd S s hl h1 h2 h3 I => ?_) (fun S s I => .cons (.none) (.cons (.none) (.nil))) (fun act => run_insort_right M (hA.deeper act.env) hn h0 (.inr ⟨rfl, rfl⟩) (Int.le_refl _) hlo hc p act)
  · obtain ⟨a1, a2, rfl⟩ := len2 hl
    exact bind_insort_right3 ht M.d_insort_right fd h1 h2 h3 I
end
noncomputable def hdOf (l : List Int) : Int := l.getD 0 0
noncomputable def lastOf (l : List Int) : Int := l.getD (l.length - 1) 0
noncomputable def b2i (b : Bool) : Int := if b then 1 else 0
noncomputable def KS : List Int := [1, 2, 3, 4, 5]
noncomputable def gapRow (rest : List Grp) (y : Int) : List Int := ((grpWith rest y).map Grp.row).getD []
noncomputable def lineStr (pc : Int → Str) (y : Int) (line : List Int) : Str := Txt.mul ")" (hdOf line * b2i (y != hdOf line)) ++ pc y ++ Txt.mul "(" (hdOf line * b2i (y != lastOf line))
noncomputable def gapText (pc : Int → Str) (rest : List Grp) (gap : List Int) : Str := Txt.join "" (gap.map fun y => lineStr pc y (gapRow rest y))
noncomputable def insideOf (a b : Int) (row : List Int) : List Int := row.filter fun y => decide (a ≤ y ∧ y < b)
noncomputable def gapDue (rest : List Grp) (a b : Int) : Bool := rest.all fun g => (insideOf a b g.row == []) || (insideOf a b g.row == g.row)
noncomputable def piecesD (pc : Int → Str) : D := adict .str (KS.map fun k => (.i k, pc k))
structure GapOk (pc : Int → Str) (rest : List Grp) (a b : Int) : Prop where
  lo : 0 ≤ a ∧ a ≤ 10
  hi : 0 ≤ b ∧ b ≤ 10
  rows : ∀ y ∈ ri a b, y ∈ KS ∧ ∃ g, grpWith rest y = some g ∧ 0 < g.row.length ∧ g.row.length ≤ 5 ∧ 0 ≤ hdOf g.row ∧ hdOf g.row ≤ 5
  told : check (gapText pc rest (ri a b)) = gapDue rest a b
theorem deq_ints (n : Nat) : ∀ (x y : List Int), x.length = y.length → deqs (deq n) (x.map .int) (y.map .int) = some (x == y)
  | [], [], _ => rfl
  | a :: x, b :: y, h => by
    have e : deq n (.int a) (.int b) = some (a == b) := by cases n <;> rfl
    rw [List.map_cons, List.map_cons, deqs, e, deq_ints n x y (by simpa using h)]
    rfl
  | [], _ :: _, h => by simp at h
  | _ :: _, [], h => by simp at h
theorem deq_row (n : Nat) (x y : List Int) : deq (n + 1) (rowD x) (rowD y) = some (x == y) := by
  show (if (x.map D.int).length = (y.map D.int).length then deqs (deq n) (x.map .int) (y.map .int) else some false) = _
  rw [List.length_map, List.length_map]
  by_cases h : x.length = y.length
  · rw [if_pos h, deq_ints n x y h]
  · rw [if_neg h, beq_eq_false_iff_ne.mpr fun e => h (by rw [e])]
theorem deq_nil (n : Nat) (ds : List D) : deq (n + 1) (.list ds) (.list []) = some ds.isEmpty := by
  show (if ds.length = 0 then deqs (deq n) ds [] else some false) = _
  cases ds <;> rfl
theorem grpWith_head {gs : List Grp} {label : Int} {g : Grp} (h : grpWith gs label = some g) : (gs.filter fun g => decide (label ∈ g.row)).head? = some g := by
  unfold grpWith at h
  induction gs with
  | nil => cases h
  | cons a l ih =>
    rw [List.find?_cons] at h
    rw [List.filter_cons]
    by_cases q : label ∈ a.row
    · rw [if_pos (by simpa using q)]
      have : a.row.contains label = true := by simpa using q
      rw [this] at h
      exact h
    · rw [if_neg (by simpa using q)]
      have : a.row.contains label = false := by simpa using q
      rw [this] at h
      exact ih h
theorem grpWith_row {gs : List Grp} {label : Int} {g : Grp} (h : grpWith gs label = some g) : ((gs.filter fun g => decide (label ∈ g.row)).map fun g => rowD g.row)[0]? = some (rowD g.row) := by
  rw [List.getElem?_map, ← List.head?_eq_getElem?, grpWith_head h]; rfl
theorem filter_empty {α : Type} (l : List α) (p q : α → Bool) (h : ∀ a ∈ l, p a = !q a) : (l.filter p).isEmpty = l.all q := by
  induction l with
  | nil => rfl
  | cons a l ih =>
    rw [List.filter_cons, List.all_cons, h a (.head _)]
    cases q a with
    | true => simpa using ih fun b hb => h b (.tail _ hb)
    | false => rfl
theorem zipDs_map {α : Type} (l : List α) (f g : α → D) : zipDs (l.map f) (l.map g) = l.map fun a => D.tuple [f a, g a] := by
  unfold zipDs
  induction l with
  | nil => rfl
  | cons a l ih => rw [List.map_cons, List.map_cons, List.zipWith_cons_cons, ih]; rfl
theorem small5 {k : Int} (h : 0 ≤ k) (h' : k ≤ 5) : k = 0 ∨ k = 1 ∨ k = 2 ∨ k = 3 ∨ k = 4 ∨ k = 5 := by lia
theorem mul_cps (c : Nat) {k : Int} (h : 0 ≤ k) (h' : k ≤ 5) : (Txt.mul ⟨#[c]⟩ k).cps.toList = List.replicate k.toNat c := by
  rcases small5 h h' with rfl | rfl | rfl | rfl | rfl | rfl <;> rfl
theorem mul_len (c : Nat) {k : Int} (h : 0 ≤ k) (h' : k ≤ 5) : (Txt.mul ⟨#[c]⟩ k).length ≤ 5 := by
  show (Txt.mul ⟨#[c]⟩ k).cps.size ≤ 5
  rw [← Array.length_toList, mul_cps c h h', List.length_replicate]; lia
theorem mul_ok (c : Nat) {k : Int} (h : 0 ≤ k) (h' : k ≤ 5) : MulOk ⟨#[c]⟩ k := by
  rcases small5 h h' with rfl | rfl | rfl | rfl | rfl | rfl <;> first | exact ⟨rfl, fun h => absurd (by decide) h, fun h => absurd (by decide) h⟩ | exact ⟨rfl, (fun _ _ => show ¬ (1 : Int) > _ by decide), fun _ _ => rfl⟩
theorem b2i_mul {h : Int} (h0 : 0 ≤ h) (h5 : h ≤ 5) (b : Bool) : 0 ≤ h * b2i b ∧ h * b2i b ≤ 5 := by
  unfold b2i
  cases b with
  | true => simp only [if_true]; lia
  | false => simp
theorem str_len_append (a b : Str) : (a ++ b).length = a.length + b.length := by
  show (a.cps ++ b.cps).size = _
  rw [Array.size_append]; rfl
theorem lineStr_len {pc : Int → Str} {y : Int} {line : List Int} (hp : (pc y).length ≤ 6) (h0 : 0 ≤ hdOf line) (h5 : hdOf line ≤ 5) : (lineStr pc y line).length ≤ 16 := by
  unfold lineStr
  obtain ⟨a1, a2⟩ := b2i_mul h0 h5 (y != hdOf line)
  obtain ⟨b1, b2⟩ := b2i_mul h0 h5 (y != lastOf line)
  have e1 := mul_len 41 a1 a2
  have e2 := mul_len 40 b1 b2
  show ((Txt.mul ⟨#[41]⟩ _ ++ pc y) ++ Txt.mul ⟨#[40]⟩ _).length ≤ 16
  rw [str_len_append, str_len_append]
  lia
end Mine
end

section
namespace Mine
open PySem PySem.Challenge PySem.Calls PyProof.Rows
noncomputable def gapBody : List Stmt := match joinIf with
  | [_, .For _ _ b _ _, _] => b
  | _ => []
noncomputable def gapEnv (gs : List Grp) (label : Int) (g far : Grp) (pcs ows : D) (o : List (List Grp)) (pl : Int) (rest : List Grp) (fits : List Bool) : LEnv :=
  ("fits", .own (.list (fits.map .bool))) :: ("rest", .val (grpsD rest)) :: turnEnv gs label g far pcs ows o pl
theorem ri_length (a b : Int) : (ri a b).length = (b - a).toNat := by unfold ri; rw [List.length_map, List.length_range]
theorem ks_find {pc : Int → Str} {y : Int} (h : y ∈ KS) : dfind (.i y) ((KS.map fun k => (Ky.i k, pc k)).map (·.1)) ((KS.map fun k => (Ky.i k, pc k)).map fun p => D.str p.2) = some (.str (pc y)) := by
  unfold KS at h ⊢
  simp only [List.mem_cons, List.not_mem_nil, or_false] at h
  rcases h with rfl | rfl | rfl | rfl | rfl <;> rfl
section
variable {G : Gl} {A : Around} {n : Nat} {mg mb : Str → Option Value} {gs : List Grp} {label : Int} {g far : Grp} {ows : D} {o : List (List Grp)} {pl a b : Int} {pc : Int → Str} {rest : List Grp} {fits : List Bool}
theorem SubD.hd {l : List Int} (h : 0 < l.length) : SubD G A (rowD l) (.int 0) (.int (hdOf l)) := SubD.list (k := 0) (by decide) (by decide) (by
  show (l.map D.int)[0]? = _
  rw [List.getElem?_map, List.getElem?_eq_getElem h]
  unfold hdOf
  rw [List.getD_eq_getElem?_getD, List.getElem?_eq_getElem h]; rfl)
theorem SubD.last {l : List Int} (h : 0 < l.length) : SubD G A (rowD l) (.int (-1)) (.int (lastOf l)) := SubD.listN (k := -1) (by decide) (by decide) (by rw [List.length_map]; lia) (by
  have h1 : l.length - 1 < l.length := by lia
  rw [List.length_map, show ((-1 : Int) + (l.length : Int)).toNat = l.length - 1 by lia, List.getElem?_map, List.getElem?_eq_getElem h1]
  unfold lastOf
  rw [List.getD_eq_getElem?_getD, List.getElem?_eq_getElem h1]; rfl)
set_option maxHeartbeats 4000000 in
theorem run_gap (hA : Room (n + 7) A) (M : Mod G mg mb) (hp : ∀ y, (pc y).length ≤ 6) (hr : rest.length ≤ 1000) (hrl : ∀ g ∈ rest, g.row.length ≤ 1000) (H : GapOk pc rest a b) (hfl : fits.length ≤ 10) (act : Act law_join_s (cellNames law_join_s.names)) :
    Run G A act (execs gapBody act.env) (("gap", .val (.range a b)) :: gapEnv gs label g far (piecesD pc) ows o pl rest fits) fun fd ρ => fd = .next ∧ Has ρ (gapEnv gs label g far (piecesD pc) ows o pl rest (fits ++ [gapDue rest a b])) := by
  have big : 1000 ≤ sizeLine := by decide
  obtain ⟨a0, a1⟩ := H.lo
  obtain ⟨b0, b1⟩ := H.hi
  have hl : (ri a b).length ≤ 10 := by rw [ri_length]; lia
  have sR : ∀ g : Grp, SubD G A g.d (.int 0) (rowD g.row) := fun g => SubD.tuple (k := 0) (by decide) (by decide) rfl
  refine Run.cons (Run.assignComp (CompRuns.list (ri a b) D.int (fun y => ("y", .val (.int y)) :: LEnv.inner _ _) (fun _ => true) (fun y => rowD (gapRow rest y)) (Src.of hA (Ev.name rfl) (.range (by lia) (by lia) (by lia) (by lia))) (by lia) (fun act' y hy => ⟨Takes.name (by decide), inner_keep1 (by decide), Tests.none, fun _ =>
    Ev.sub (a := .list ((rest.filter fun g => decide (y ∈ g.row)).map fun g => rowD g.row)) (i := .int 0) (EvO.ev (EvO.lc rest Grp.d (fun g => ("g", .val g.d) :: LEnv.inner _ _) (fun g => decide (y ∈ g.row)) (fun g => rowD g.row) (Src.of hA (Ev.name rfl) (.list _)) (by lia)
      (fun act'' k hk => ⟨Takes.name (by decide), inner_keep1 (by decide), Tests.one (Te.cmp (Ev.name rfl) (Ev.sub (Ev.name rfl) (Ev.int 0) (sR k)) (Cmp.inInts hA)), fun _ => Ev.sub (Ev.name rfl) (Ev.int 0) (sR k)⟩) rfl)) (Ev.int 0) ?_⟩) (by decide) (by intro _; rfl)) rfl (by intro _; rfl) (by decide) ?_ _ rfl)
  · obtain ⟨_, g', e, _⟩ := H.rows y hy
    refine SubD.list (k := 0) (by decide) (by decide) ?_
    rw [show gapRow rest y = g'.row by unfold gapRow; rw [e]; rfl]
    exact grpWith_row e
  rw [filter_all]
  refine Run.freeze "lines" _ rfl ?_
  refine Run.cons (Run.assign (d := .str (gapText pc rest (ri a b))) (Ev.join (ss := (ri a b).map fun y => lineStr pc y (gapRow rest y)) (Ev.str _) (EvO.ev (EvO.lc (ri a b) (fun y => .tuple [.int y, rowD (gapRow rest y)]) (fun y => bindLs ["y", "line"] [.val (.int y), .val (rowD (gapRow rest y))] (LEnv.inner _ _)) (fun _ => true) (fun y => .str (lineStr pc y (gapRow rest y))) ?_ (by lia)
    (fun act' y hy => ⟨Takes.tuple (ds := [.int y, rowD (gapRow rest y)]) hA (.cons (by decide) (.cons (by decide) .nil)) rfl, inner_keep2 (by decide) (by decide), Tests.none, fun _ => ?_⟩) (by rw [filter_all, List.map_map]; rfl))) (by decide) ?_) (by decide) ?_)
  · rw [← zipDs_map]
    refine Src.zip (n := n + 6) hA (EvV.blt M.N rfl M.b_zip.1 M.b_zip.2) (Ev.name rfl) (Ev.name rfl) (Opn.range (by lia) (by lia) (by lia) (by lia)) Opn.list
  · obtain ⟨hk, g', e, q0, q5, h0, h5⟩ := H.rows y hy
    have er : gapRow rest y = g'.row := by unfold gapRow; rw [e]; rfl
    rw [er]
    obtain ⟨u1, u2⟩ := b2i_mul h0 h5 (y != hdOf g'.row)
    obtain ⟨v1, v2⟩ := b2i_mul h0 h5 (y != lastOf g'.row)
    have e1 := mul_len 41 u1 u2
    have e2 := mul_len 40 v1 v2
    have e3 := hp y
    have ci : ∀ {sc : Scope} {mc : List Str} {act : Act sc mc} {ρ : LEnv} {e : Expr} {fx : Expr} {pos : Pos} {b : Bool}, EvV G A act ρ fx (.type "int") → Ev G A act ρ e (.bool b) →
      (eval (.Call fx [e] [] pos) act.env = (eval fx act.env >>= fun f => callWith pos f [] (backTo pos (starEach [e] act.env)) (backToKw pos (keywordEach [] act.env)))) → (∀ env, starEach [e] env = (false, eval e env) :: starEach [] env) → Ev G A act ρ (.Call fx [e] [] pos) (.int (b2i b)) := fun hf he h1 h2 => Ev.call hf (.type _) (.more he .nil h2) CallD.intB h1
    refine Ev.bin (Ev.bin (Ev.bin (Ev.str _) (Ev.bin (Ev.sub (Ev.name (d := rowD g'.row) ?_) (Ev.int 0) (SubD.hd q0)) (ci (EvV.blt M.N rfl M.b_int.1 M.b_int.2) (Ev.cmp (Ev.name rfl) (Ev.sub (Ev.name (d := rowD g'.row) ?_) (Ev.int 0) (SubD.hd q0)) Cmp.neI) rfl (by intro _; rfl)) (Op2.mul (mulOk_left ?_ ?_))) (Op2.mulS (mul_ok 41 u1 u2))) (Ev.sub (Ev.name (d := piecesD pc) rfl) (Ev.name rfl) (SubD.dict (k := .i y) (ks_find hk))) (Op2.addS ?_))
      (Ev.bin (Ev.str _) (Ev.bin (Ev.sub (Ev.name (d := rowD g'.row) ?_) (Ev.int 0) (SubD.hd q0)) (ci (EvV.blt M.N rfl M.b_int.1 M.b_int.2) (Ev.cmp (Ev.name rfl) (Ev.sub (Ev.name (d := rowD g'.row) ?_) (Ev.neg (Ev.int 1)) (SubD.last q0)) Cmp.neI) rfl (by intro _; rfl)) (Op2.mul (mulOk_left ?_ ?_))) (Op2.mulS (mul_ok 40 v1 v2))) (Op2.addS ?_)
    · rfl
    · rfl
    · lia
    · lia
    · exact Nat.le_trans (Nat.add_le_add e1 e3) (by decide)
    · rfl
    · rfl
    · lia
    · lia
    · rw [str_len_append]
      exact Nat.le_trans (Nat.add_le_add (Nat.add_le_add e1 e3) e2) (by decide)
  · have : ∀ l : List Int, (∀ y ∈ l, y ∈ ri a b) → ((l.map fun y => lineStr pc y (gapRow rest y)).map (·.length)).sum ≤ 16 * l.length := by
      intro l
      induction l with
      | nil => intro _; exact Nat.le_refl _
      | cons y l ih =>
        intro h
        have := ih fun z hz => h z (.tail _ hz)
        obtain ⟨_, g', e, _, _, h0, h5⟩ := H.rows y (h y (.head _))
        have er : gapRow rest y = g'.row := by unfold gapRow; rw [e]; rfl
        have hl := lineStr_len (y := y) (line := gapRow rest y) (hp y) (by rw [er]; exact h0) (by rw [er]; exact h5)
        rw [List.map_cons, List.map_cons, List.sum_cons, List.length_cons]
        lia
    have := this (ri a b) fun _ h => h
    rw [List.length_map]
    lia
  have tl : (gapText pc rest (ri a b)).length ≤ 1000 := by
    unfold gapText
    rw [join_len]
    have : ∀ l : List Int, (∀ y ∈ l, y ∈ ri a b) → ((l.map fun y => lineStr pc y (gapRow rest y)).map (·.length)).sum ≤ 16 * l.length := by
      intro l
      induction l with
      | nil => intro _; exact Nat.le_refl _
      | cons y l ih =>
        intro h
        have := ih fun z hz => h z (.tail _ hz)
        obtain ⟨_, g', e, _, _, h0, h5⟩ := H.rows y (h y (.head _))
        have er : gapRow rest y = g'.row := by unfold gapRow; rw [e]; rfl
        have hl := lineStr_len (y := y) (line := gapRow rest y) (hp y) (by rw [er]; exact h0) (by rw [er]; exact h5)
        rw [List.map_cons, List.map_cons, List.sum_cons, List.length_cons]
        lia
    have := this (ri a b) fun _ h => h
    lia
  refine Run.cons (Run.assignTT hA (xs := ["told", "due"]) (.cons (by decide) (.cons (by decide) .nil)) (.v (d := .bool (gapDue rest a b)) (Ev.eq (Ev.call (EvV.glob M.N rfl M.f_check_parenthesis.named) M.f_check_parenthesis.callee (.more (Ev.name rfl) .nil) (call_check (n := n + 1) hA M tl)) (by rw [H.told]))
    (.v (d := .bool (gapDue rest a b)) (Ev.cmp (EvO.ev (EvO.lc rest Grp.d (fun g => ("g", .val g.d) :: LEnv.inner _ _) (fun g => !(([D.list [], rowD g.row]).any fun d => (deq 8 d (rowD (insideOf a b g.row))).getD false)) Grp.d (Src.of hA (Ev.name rfl) (.list _)) (by lia)
      (fun act' k hk => ⟨Takes.name (by decide), inner_keep1 (by decide), Tests.one (Te.cmp (EvO.ev (EvO.lc k.row D.int (fun y => ("y", .val (.int y)) :: LEnv.inner _ _) (fun y => decide (a ≤ y ∧ y < b)) D.int (Src.of hA (Ev.sub (Ev.name rfl) (Ev.int 0) (sR k)) (.list _)) ?_ (fun act'' y hy => ⟨Takes.name (by decide), inner_keep1 (by decide), Tests.one (Te.cmp (Ev.name rfl) (Ev.name rfl) Cmp.inR), fun _ => Ev.name rfl⟩) rfl))
        (Ev.tuple (ds := [D.list [], rowD k.row]) (.more (EvO.ev (EvO.list .nil)) (.more (Ev.sub (Ev.name rfl) (Ev.int 0) (sR k)) .nil))) (Cmp.notInT hA ?_ ?_)), fun _ => Ev.name rfl⟩) rfl)) (EvO.ev (EvO.list .nil)) (Cmp.eq hA ?_)) .nil)) rfl (by decide) (show 2 ≤ sizeLine by decide) rfl ?_)
  · have := hrl k hk; lia
  · have rw1 : ∀ d ∈ [D.list [], rowD k.row], ∃ l : List Int, d = rowD l := fun d hd => by
      rcases List.mem_cons.mp hd with rfl | hd
      · exact ⟨[], rfl⟩
      · rw [List.mem_singleton.mp hd]; exact ⟨_, rfl⟩
    intro d hd e he
    obtain ⟨l, rfl⟩ := rw1 d hd
    obtain ⟨m, rfl⟩ := rw1 e he
    exact ⟨_, deq_row 7 l m⟩
  · intro d hd
    obtain ⟨l, rfl⟩ : ∃ l : List Int, d = rowD l := by
      rcases List.mem_cons.mp hd with rfl | hd
      · exact ⟨[], rfl⟩
      · rw [List.mem_singleton.mp hd]; exact ⟨_, rfl⟩
    show deq 8 (rowD l) (rowD (insideOf a b k.row)) = _
    rw [deq_row]; rfl
  · rw [deq_nil, List.isEmpty_map]
    unfold gapDue
    rw [filter_empty _ _ _ fun k hk => ?_]
    rw [List.any_cons, List.any_cons, List.any_nil, show D.list [] = rowD [] from rfl, deq_row, deq_row, Option.getD_some, Option.getD_some, Bool.or_false]
    congr 2
    · exact BEq.comm
    · exact BEq.comm
  have sw : ∀ b : Bool, deq 8 (.list [.bool (b == true), .bool (b == false)]) (.list [.bool b, .bool (!b)]) = some true := fun b => by cases b <;> rfl
  refine Run.cons (Run.ite (b := false) (Te.eq (Te.cmp (EvO.ev (EvO.list (.more (Ev.cmp (Ev.name rfl) (Ev.bool _) Cmp.isBool) (.more (Ev.cmp (Ev.name rfl) (Ev.bool _) Cmp.isBool) .nil)))) (EvO.ev (EvO.list (.more (Ev.name rfl) (.more (Ev.not (Ev.name rfl) Tru.bool) .nil)))) (Cmp.ne hA (sw (gapDue rest a b)))) rfl) (fun h => nomatch h) fun _ => Run.nil ?_)
  refine Run.cons (Run.expr (EvX.append rfl (Ev.name rfl) (by rw [List.length_map]; exact Nat.le_trans hfl (by decide))) (Run.nil ⟨rfl, ?_⟩))
  unfold gapEnv
  rw [List.map_append]
  exact Has.of rfl
end
end Mine
end

section
namespace Mine
open PySem PySem.Challenge PySem.Calls PyProof.Rows
noncomputable def joinTail : List Stmt := match joinIf with
  | [_, _, .If _ b _ _] => b
  | _ => []
noncomputable def ownsD (ow : Int → Int) : D := adict .int (KS.map fun k => (.i k, ow k))
noncomputable def itD (l : List (Ky × Int)) : D := .list (l.map fun p => pairD p.1 (.int p.2))
noncomputable def onesD (l : List Int) : List Ky × List D := dmk (l.map fun x => (Ky.i x, D.int 1))
structure PassOk (ow : Int → Int) (g far : Grp) (pl : Int) : Prop where
  pl0 : 0 ≤ pl
  ple : pl ≤ g.row.length
  srt : isort g.row = g.row
  l1 : g.row.length ≤ 5
  l2 : 0 < far.row.length ∧ far.row.length ≤ 5
  ins : ∀ k v, far.row[k]? = some v → cntL (isort (g.row ++ far.row.take k)) v ≤ pl + k ∧ pl ≤ cntR (isort (g.row ++ far.row.take k)) v
  br : cntR g.row (lastOf far.row) = pl
  ks : ∀ x ∈ isort (g.row ++ far.row), x ∈ KS
  cc : (g.st.add far.st).cc = ((isort (g.row ++ far.row)).map fun x => x * x).sum
  nc : (g.st.add far.st).nc = (isort (g.row ++ far.row)).length
  tt : (g.st.add far.st).tt = ((isort (g.row ++ far.row)).map ow).sum
  ct : (g.st.add far.st).ct = (isort (g.row ++ far.row)).sum
  dct : deqD ((g.st.add far.st).by_.map (·.1)) ((g.st.add far.st).by_.map fun p => D.int p.2) (onesD (isort (g.row ++ far.row))).1 (onesD (isort (g.row ++ far.row))).2 = some true
  its : (g.st.add far.st).by_ = g.st.by_ ++ far.st.by_
  b1 : g.st.by_.length ≤ 10
  b2 : far.st.by_.length ≤ 10
theorem ows_find {ow : Int → Int} {y : Int} (h : y ∈ KS) : dfind (.i y) ((KS.map fun k => (Ky.i k, ow k)).map (·.1)) ((KS.map fun k => (Ky.i k, ow k)).map fun p => D.int p.2) = some (.int (ow y)) := by
  unfold KS at h ⊢
  simp only [List.mem_cons, List.not_mem_nil, or_false] at h
  rcases h with rfl | rfl | rfl | rfl | rfl <;> rfl
theorem deq_ky (n : Nat) (k : Ky) : deq n k.d k.d = some true := by
  cases k with
  | i k => exact deq_int n k
  | s x => exact deq_str n x
theorem deq_pair (n : Nat) (k : Ky) (i : Int) : deq (n + 1) (pairD k (.int i)) (pairD k (.int i)) = some true := by
  show (if [k.d, D.int i].length = [k.d, D.int i].length then deqs (deq n) [k.d, .int i] [k.d, .int i] else none) = some true
  rw [if_pos rfl]
  refine deqs_self fun d hd => ?_
  rcases List.mem_cons.mp hd with rfl | hd
  · exact deq_ky n k
  · rw [List.mem_singleton.mp hd]; exact deq_int n i
theorem deq_its (n : Nat) (l : List (Ky × Int)) : deq (n + 2) (itD l) (itD l) = some true := deq_list (n + 1) fun d hd => by
  obtain ⟨p, _, rfl⟩ := List.mem_map.mp hd
  exact deq_pair n p.1 p.2
theorem enum_ints (l : List Int) : enumDs (l.map D.int) = l.zipIdx.map fun p => D.tuple [.int p.2, .int p.1] := by
  unfold enumDs
  rw [List.zipIdx_map, List.map_map]; rfl
section
variable {G : Gl} {A : Around} {n : Nat} {mg mb : Str → Option Value} {gs : List Grp} {label : Int} {g far : Grp} {o : List (List Grp)} {pl : Int} {pc ow : Int → Str} {rest : List Grp} {fits : List Bool} {pcs : D} {l : List Int} {v lo hi : Int}
theorem insL4 (M : Mod G mg mb) (hA : Room (n + 2) A) (hn : l.length ≤ 1000) (h1 : hi ≤ l.length) (hc : cntL (isort l) v ≤ hi) : CallX G A (.ref 62) (.list ((isort l).map .int)) [.int v, .int 0, .int hi] (.list ((isort (l ++ [v])).map .int)) := by
  have hl : (isort l).length = l.length := (isort_perm l).length_eq
  have c0 := (cntL_le (isort l) v).1
  have h := call_insort_left4 (lo := 0) (hiD := .int hi) (hi := hi) (ds := (isort l).map .int) (x := .int v) (c := cntL (isort l) v) M hA (by rw [List.length_map]; lia) (by decide) (.inl rfl) (by rw [List.length_map]; lia) (by rw [List.length_map]; lia) (by rw [List.length_map]; exact (cntL_le _ _).2) (fun A' i d hd hA' => by
    obtain ⟨y, hy, rfl⟩ := ints_get hd; rw [← cntL_at (isort_le l) hy]; exact Cmp.lt)
  rw [clamp_c c0 hc] at h
  rw [← insL_isort]
  unfold insAt at h ⊢
  rw [List.map_append, List.map_cons, List.map_take, List.map_drop]
  exact h
theorem insR3 (M : Mod G mg mb) (hA : Room (n + 2) A) (hn : l.length ≤ 1000) (h0 : 0 ≤ lo) (hc : lo ≤ cntR (isort l) v) : CallX G A (.ref 44) (.list ((isort l).map .int)) [.int v, .int lo] (.list ((isort (l ++ [v])).map .int)) := by
  have hl : (isort l).length = l.length := (isort_perm l).length_eq
  have c1 := (cntR_le (isort l) v).2
  have h := call_insort_right3 (lo := lo) (ds := (isort l).map .int) (x := .int v) (c := cntR (isort l) v) M hA (by rw [List.length_map]; lia) h0 (by rw [List.length_map]; lia) (by rw [List.length_map]; exact c1) (fun A' i d hd hA' => by
    obtain ⟨y, hy, rfl⟩ := ints_get hd; rw [← cntR_at (isort_le l) hy]; exact Cmp.lt)
  rw [List.length_map, show clampTo lo ((isort l).length : Int) (cntR (isort l) v) = cntR (isort l) v by unfold clampTo; lia] at h
  rw [← insR_isort]
  unfold insAt at h ⊢
  rw [List.map_append, List.map_cons, List.map_take, List.map_drop]
  exact h
end
end Mine
end

section
namespace Mine
open PySem PySem.Challenge PySem.Calls PyProof.Rows
section
variable {G : Gl} {A : Around} {n : Nat} {mg mb : Str → Option Value} {gs : List Grp} {label : Int} {g far : Grp} {o : List (List Grp)} {pl : Int} {ow : Int → Int} {rest : List Grp} {fits : List Bool} {pcs : D}
theorem Ev.items4 {sc : Scope} {mc : List Str} {act : Act sc mc} {ρ : LEnv} {e fx : Expr} {apos pos sp kp : Pos} {kk : Nat} {st : Stat} (hA : Room n A) (M : Mod G mg mb) (hb : st.by_.length ≤ 1000) (hf : EvV G A act ρ fx (.type "list")) (he : Ev G A act ρ e st.d)
    (hbase : attributeBase (.Subscript e (.Constant (.int 4) kk kp) sp) "items" act.env (eval (.Subscript e (.Constant (.int 4) kk kp) sp) act.env) = eval (.Subscript e (.Constant (.int 4) kk kp) sp) act.env) (hline : (apos.endLine == pos.line) = true)
    {lpos : Pos} (hev : eval (.Call fx [.Call (.Attribute (.Subscript e (.Constant (.int 4) kk kp) sp) "items" apos) [] [] pos] [] lpos) act.env = (eval fx act.env >>= fun f => callWith lpos f [] (backTo lpos (starEach [.Call (.Attribute (.Subscript e (.Constant (.int 4) kk kp) sp) "items" apos) [] [] pos] act.env)) (backToKw lpos (keywordEach [] act.env))))
    (hs : ∀ env, starEach [.Call (.Attribute (.Subscript e (.Constant (.int 4) kk kp) sp) "items" apos) [] [] pos] env = (false, eval (.Call (.Attribute (.Subscript e (.Constant (.int 4) kk kp) sp) "items" apos) [] [] pos) env) :: starEach [] env) :
    EvO G A act ρ (.Call fx [.Call (.Attribute (.Subscript e (.Constant (.int 4) kk kp) sp) "items" apos) [] [] pos] [] lpos) (itD st.by_) := by
  have h := CallO.listItems (G := G) (ks := st.by_.map (·.1)) (ds := st.by_.map fun p => D.int p.2) hA (by rw [List.length_map]; exact Nat.le_trans hb (by decide))
  rw [itemDs_map] at h
  exact EvO.call hf (.type _) (.more (Ev.items (ks := st.by_.map (·.1)) (ds := st.by_.map fun p => D.int p.2) (Ev.sub he (Ev.int 4) (SubD.tuple (k := 4) (by decide) (by decide) rfl)) hbase hline) .nil hs) h hev
theorem zipIdx_split {l : List Int} {done r : List (Int × Nat)} {p : Int × Nat} (h : l.zipIdx = done ++ p :: r) : p.2 = done.length ∧ l[done.length]? = some p.1 ∧ done.map (·.1) = l.take done.length := by
  have h1 : (l.zipIdx)[done.length]? = some p := by rw [h]; simp
  have h2 : l = done.map (·.1) ++ p.1 :: r.map (·.1) := by
    have := congrArg (List.map (·.1)) h
    rw [List.zipIdx_map_fst] at this
    rw [this]; simp
  rw [List.getElem?_zipIdx] at h1
  cases q : l[done.length]? with
  | none => rw [q] at h1; cases h1
  | some x =>
    rw [q] at h1
    cases h1
    refine ⟨by simp, rfl, ?_⟩
    conv => rhs; rw [h2]
    rw [List.take_left' (by simp)]
set_option maxHeartbeats 4000000 in
theorem run_join_tail (hA : Room (n + 7) A) (M : Mod G mg mb) (P : PassOk ow g far pl) (hr : rest.length ≤ 100) (ho : o.length ≤ 100) (act : Act law_join_s (cellNames law_join_s.names)) :
    Run G A act (execs joinTail act.env) (("rest", .val (grpsD rest)) :: turnEnv gs label g far pcs (ownsD ow) o pl) fun fd ρ => fd = .next ∧ Has ρ (joinEnv gs label g pcs (ownsD ow) (o ++ [rest ++ [⟨isort (g.row ++ far.row), g.st.add far.st⟩]])) := by
  have big : 1000 ≤ sizeLine := by decide
  have l1 := P.l1
  have l2 := P.l2.2
  let E0 : LEnv := ("rest", .val (grpsD rest)) :: turnEnv gs label g far pcs (ownsD ow) o pl
  refine Run.has (ρ₁ := E0) ?_ (Has.of rfl)
  refine Run.cons (Run.assignTT hA (xs := ["joined", "stood"]) (.cons (by decide) (.cons (by decide) .nil)) (.o (d := rowD g.row) (EvO.call (EvV.blt M.N rfl M.b_list.1 M.b_list.2) (.type _) (.more (Ev.name (d := rowD g.row) rfl) .nil) (CallO.list (by rw [List.length_map]; lia)))
    (.v (d := .list [itD g.st.by_, itD far.st.by_]) (EvO.ev (EvO.list (.more (EvO.ev (Ev.items4 hA M (Nat.le_trans P.b1 (by decide)) (EvV.blt M.N rfl M.b_list.1 M.b_list.2) (Ev.name rfl) rfl rfl rfl (by intro _; rfl))) (.more (EvO.ev (Ev.items4 hA M (Nat.le_trans P.b2 (by decide)) (EvV.blt M.N rfl M.b_list.1 M.b_list.2) (Ev.name rfl) rfl rfl rfl (by intro _; rfl))) .nil)))) .nil)) rfl (by decide) (show 2 ≤ sizeLine by decide) rfl ?_)
  let E1 : LEnv := ("stood", .val (.list [itD g.st.by_, itD far.st.by_])) :: E0
  refine Run.cons (Run.mono (Q := fun fd ρ => fd = .next ∧ Has ρ (("joined", .own (rowD (isort (g.row ++ far.row)))) :: E1)) ?_ ?_)
  · refine Run.forL far.row.zipIdx (fun p => D.tuple [.int p.2, .int p.1]) (fun l : List Int => ("joined", .own (rowD (isort (g.row ++ l)))) :: E1) (fun done rest l => l = done.map (·.1)) [] ?_ rfl ?_
      (fun p l => bindLs ["n", "x"] [.val (.int p.2), .val (.int p.1)] (("joined", .own (rowD (isort (g.row ++ l)))) :: E1)) (fun done p r l e hI => ⟨Takes.tuple (ds := [.int p.2, .int p.1]) hA (.cons (by decide) (.cons (by decide) .nil)) rfl, ?_⟩) (fun l ρ' hI hh => ⟨rfl, ?_⟩)
    · rw [← enum_ints]
      exact Src.enumL (n := n + 6) hA (EvV.blt M.N rfl M.b_enumerate.1 M.b_enumerate.2) (Ev.name rfl)
    · rw [List.append_nil, P.srt]
      exact Has.of rfl
    · obtain ⟨e1, e2, e3⟩ := zipIdx_split e
      obtain ⟨x, k⟩ := p
      simp only at e1 e2
      subst e1
      rw [← hI] at e3
      subst e3
      have hk : done.length < far.row.length := by
        by_cases q : done.length < far.row.length
        · exact q
        · rw [List.getElem?_eq_none (by lia)] at e2; cases e2
      obtain ⟨i1, i2⟩ := P.ins done.length x e2
      have hll : (g.row ++ far.row.take done.length).length = g.row.length + done.length := by rw [List.length_append, List.length_take]; lia
      have hap : g.row ++ far.row.take done.length ++ [x] = g.row ++ (far.row.take done.length ++ [x]) := List.append_assoc ..
      have hpl := P.ple
      have hp0 := P.pl0
      refine Run.cons (Run.expr (ρ' := ("joined", .own (rowD (isort (g.row ++ (far.row.take done.length ++ [x]))))) :: bindLs ["n", "x"] [.val (.int done.length), .val (.int x)] (("joined", .own (rowD (isort (g.row ++ far.row.take done.length)))) :: E1)) (EvX.ite (p := x % 2 == 0) (Te.cmp (Ev.bin (Ev.name rfl) (Ev.int 2) (Op2.mod (by decide))) (Ev.int 0) Cmp.eqI) (fun _ => ?_) fun _ => ?_) (Run.nil ⟨far.row.take done.length ++ [x], by rw [hI, List.map_append]; rfl, Has.of rfl⟩))
      · rw [← hap]
        exact EvX.call (EvV.glob M.N rfl M.f_insort_left.named) M.f_insort_left.callee rfl (.more (Ev.name rfl) (.more (Ev.int 0) (.more (Ev.bin (Ev.name rfl) (Ev.name rfl) Op2.add) .nil))) (insL4 (n := n + 5) M hA (by lia) (by lia) i1)
      · rw [← hap]
        exact EvX.call (EvV.glob M.N rfl M.f_insort_right.named) M.f_insort_right.callee rfl (.more (Ev.name rfl) (.more (Ev.name rfl) .nil)) (insR3 (n := n + 5) M hA (by lia) hp0 i2)
    · rw [hI, List.zipIdx_map_fst] at hh
      exact hh
  rintro fd ρ ⟨rfl, hρ⟩
  refine Run.has ?_ hρ
  refine Run.freeze "joined" _ rfl ?_
  have hlen : (isort (g.row ++ far.row)).length = g.row.length + far.row.length := by rw [(isort_perm _).length_eq, List.length_append]
  refine Run.cons (Run.assignTT hA (xs := ["both", "plain"]) (.cons (by decide) (.cons (by decide) .nil)) (.v (d := (g.st.add far.st).d) (Ev.call (EvV.glob M.N rfl M.f_add_func_stats.named) M.f_add_func_stats.callee (.more (Ev.name rfl) (.more (Ev.name rfl) .nil)) (call_add_stats (n := n + 4) hA M (by have := P.b1; have := P.b2; lia)))
    (.o (d := rowD (isort (g.row ++ far.row))) (EvO.call (EvV.blt M.N rfl M.b_sorted.1 M.b_sorted.2) (.builtin _) (.more (d := .list ((g.row ++ far.row).map .int)) (EvO.ev (by rw [List.map_append]; exact EvO.bin (Ev.name rfl) (Ev.name rfl) (Op2O.addL (by rw [List.length_map, List.length_map]; lia)))) .nil) (CallO.sorted (by rw [List.length_append]; lia))) .nil)) rfl (by decide) (show 2 ≤ sizeLine by decide) rfl ?_)
  refine Run.freeze "plain" _ rfl ?_
  generalize hpl : isort (g.row ++ far.row) = plain at hlen ⊢
  let E2 : LEnv := ("joined", .val (rowD plain)) :: ("both", .val (g.st.add far.st).d) :: ("plain", .val (rowD plain)) :: E1
  refine Run.has (ρ₁ := E2) ?_ (Has.of rfl)
  have hsr : g.row.Pairwise (· ≤ ·) := by rw [← P.srt]; exact isort_le _
  refine Run.cons (Run.ite (b := false) (Te.or2f (Te.eq (Te.cmp (Ev.name (d := rowD plain) rfl) (Ev.name (d := rowD plain) rfl) (Cmp.ne hA (r := true) (by rw [deq_row, beq_self_eq_true]))) rfl)
    (Te.eq (Te.cmp (Ev.call (EvV.glob M.N rfl M.f_bisect_right.named) M.f_bisect_right.callee (.more (Ev.name rfl) (.more (Ev.sub (Ev.name (d := rowD far.row) rfl) (Ev.neg (Ev.int 1)) (SubD.last P.l2.1)) .nil)) (br2 (n := n + 6) M hA (by lia) hsr)) (Ev.name rfl) Cmp.neI) (by rw [P.br]; simp))) (fun h => nomatch h) fun _ => Run.nil ?_)
  have hks : ∀ x ∈ plain, 1 ≤ x ∧ x ≤ 5 := fun x hx => by
    have := P.ks x (by rw [hpl]; exact hx)
    unfold KS at this
    simp only [List.mem_cons, List.not_mem_nil, or_false] at this
    lia
  have pcc := P.cc
  have pnc := P.nc
  have ptt := P.tt
  have pct := P.ct
  have pdc := P.dct
  rw [hpl] at pcc pnc ptt pct pdc
  refine Run.cons (Run.ite (b := false) (Te.cmp (b := .tuple [.int (plain.map fun x => x * x).sum, .int plain.length, .int (plain.map ow).sum, .int plain.sum, .dict (onesD plain).1 (onesD plain).2]) (Ev.name (d := (g.st.add far.st).d) rfl) (Ev.tuple (.more (Ev.call (EvV.blt M.N rfl M.b_sum.1 M.b_sum.2) (.builtin _) (.more (d := .list ((plain.map fun x => x * x).map .int)) (EvO.ev (EvO.lc plain D.int (fun x => ("x", .val (.int x)) :: LEnv.inner _ _) (fun _ => true) (fun x => .int (x * x)) (Src.of hA (Ev.name rfl) (.list _)) (by lia) (fun act' x hx => ⟨Takes.name (by decide), inner_keep1 (by decide), Tests.none, fun _ => Ev.bin (Ev.name rfl) (Ev.name rfl) (Op2.mul (mulOk_left (by have := hks x hx; lia) (by have := hks x hx; lia)))⟩) (by rw [filter_all, List.map_map]; rfl))) .nil) (CallD.sum hA))
    (.more (Ev.eq (Ev.call (EvV.blt M.N rfl M.b_len.1 M.b_len.2) (.builtin _) (.more (Ev.name (d := rowD plain) rfl) .nil) (CallD.lenL (by rw [List.length_map]; lia))) (by rw [List.length_map]))
    (.more (Ev.call (EvV.blt M.N rfl M.b_sum.1 M.b_sum.2) (.builtin _) (.more (d := .list ((plain.map ow).map .int)) (EvO.ev (EvO.lc plain D.int (fun x => ("x", .val (.int x)) :: LEnv.inner _ _) (fun _ => true) (fun x => .int (ow x)) (Src.of hA (Ev.name rfl) (.list _)) (by lia) (fun act' x hx => ⟨Takes.name (by decide), inner_keep1 (by decide), Tests.none, fun _ => Ev.sub (Ev.name (d := ownsD ow) rfl) (Ev.name rfl) (SubD.dict (k := .i x) (ows_find (P.ks x (by rw [hpl]; exact hx))))⟩) (by rw [filter_all, List.map_map]; rfl))) .nil) (CallD.sum hA))
    (.more (Ev.call (EvV.blt M.N rfl M.b_sum.1 M.b_sum.2) (.builtin _) (.more (Ev.name (d := rowD plain) rfl) .nil) (CallD.sum hA))
    (.more (EvO.ev (EvO.dc plain D.int (fun x => ("x", .val (.int x)) :: LEnv.inner _ _) (fun _ => true) (fun x => .i x) (fun x => .int 1) (Src.of hA (Ev.name rfl) (.list _)) (by lia) (fun act' x hx => ⟨Takes.name (by decide), inner_keep1 (by decide), Tests.none, fun _ => ⟨Ev.name rfl, Ev.int 1⟩⟩) (by rw [filter_all]; rfl))) .nil)))))) (Cmp.neT hA ?_)) (fun h => nomatch h) fun _ => Run.nil ?_)
  · refine .cons ?_ (.cons ?_ (.cons ?_ (.cons ?_ (.cons ?_ .nil))))
    · rw [pcc]; exact deq_int 7 _
    · rw [pnc]; exact deq_int 7 _
    · rw [ptt]; exact deq_int 7 _
    · rw [pct]; exact deq_int 7 _
    · exact pdc
  have i0 : ∀ k : Nat, ∀ d, [itD g.st.by_, itD far.st.by_][k]? = some d → k < 2 → SubD G A (.list [itD g.st.by_, itD far.st.by_]) (.int k) d := fun k d h hk => SubD.list (by lia) (by lia) h
  refine Run.cons (Run.ite (b := false) (Te.or2f (Te.eq (Te.cmp (EvO.ev (Ev.items4 (st := g.st.add far.st) hA M (by rw [P.its, List.length_append]; have := P.b1; have := P.b2; lia) (EvV.blt M.N rfl M.b_list.1 M.b_list.2) (Ev.name rfl) rfl rfl rfl (by intro _; rfl))) (EvO.ev (EvO.bin (Ev.sub (Ev.name rfl) (Ev.int 0) (i0 0 (itD g.st.by_) rfl (by decide))) (Ev.sub (Ev.name rfl) (Ev.int 1) (i0 1 (itD far.st.by_) rfl (by decide))) (Op2O.addL ?_))) (Cmp.ne hA (r := true) ?_)) rfl)
    (Te.eq (Te.cmp (EvO.ev (EvO.list (ds := [itD g.st.by_, itD far.st.by_]) (.more (EvO.ev (Ev.items4 hA M (Nat.le_trans P.b1 (by decide)) (EvV.blt M.N rfl M.b_list.1 M.b_list.2) (Ev.name rfl) rfl rfl rfl (by intro _; rfl))) (.more (EvO.ev (Ev.items4 hA M (Nat.le_trans P.b2 (by decide)) (EvV.blt M.N rfl M.b_list.1 M.b_list.2) (Ev.name rfl) rfl rfl rfl (by intro _; rfl))) .nil)))) (Ev.name rfl) (Cmp.ne hA (r := true) ?_)) rfl)) (fun h => nomatch h) fun _ => Run.nil ?_)
  · rw [List.length_map, List.length_map]; have := P.b1; have := P.b2; lia
  · rw [P.its, ← List.map_append]
    exact deq_its 6 _
  · refine deq_list 7 fun d hd => ?_
    rcases List.mem_cons.mp hd with rfl | hd
    · exact deq_its 5 _
    · rw [List.mem_singleton.mp hd]; exact deq_its 5 _
  refine Run.cons (Run.expr (EvX.append (ds := o.map grpsD) rfl (EvO.ev (EvO.bin (d := .list (rest.map Grp.d ++ [Grp.d ⟨plain, g.st.add far.st⟩])) (Ev.name (d := grpsD rest) rfl) (EvO.ev (EvO.list (ds := [Grp.d ⟨plain, g.st.add far.st⟩]) (.more (Ev.tuple (.more (Ev.name rfl) (.more (Ev.name rfl) .nil))) .nil))) (Op2O.addL (by rw [List.length_map]; show rest.length + 1 ≤ sizeLine; lia)))) (by rw [List.length_map]; lia)) (Run.nil ⟨rfl, ?_⟩))
  have e : grpsD (rest ++ [⟨plain, g.st.add far.st⟩]) = .list (rest.map Grp.d ++ [Grp.d ⟨plain, g.st.add far.st⟩]) := by unfold grpsD; rw [List.map_append]; rfl
  unfold joinEnv joinsD
  rw [List.map_append, List.map_cons, List.map_nil, e]
  exact Has.of rfl
end
end Mine
end

section
namespace Mine
open PySem PySem.Challenge PySem.Calls PyProof.Rows
noncomputable def restOf (gs : List Grp) (g far : Grp) : List Grp := gs.filter fun h => (h.row != g.row) && (h.row != far.row)
noncomputable def plOf (g far : Grp) : Int := cntL g.row (hdOf far.row)
noncomputable def b2Of (g far : Grp) : Int := (g.row ++ [lastOf far.row + 1]).getD (plOf g far).toNat 0
noncomputable def turnIf (label : Int) (g far : Grp) : Bool := decide (hdOf far.row > hdOf g.row) && (g.row.getD (plOf g far - 1).toNat 0 == label)
noncomputable def bothDue (gs : List Grp) (label : Int) (g far : Grp) : Bool := gapDue (restOf gs g far) (label + 1) (hdOf far.row) && gapDue (restOf gs g far) (lastOf far.row + 1) (b2Of g far)
noncomputable def joinOf (g far : Grp) : Grp := ⟨isort (g.row ++ far.row), g.st.add far.st⟩
noncomputable def turnOf (gs : List Grp) (label : Int) (g far : Grp) : List (List Grp) := if turnIf label g far && bothDue gs label g far then [restOf gs g far ++ [joinOf g far]] else []
structure TurnOk (pc : Int → Str) (ow : Int → Int) (gs : List Grp) (label : Int) (g far : Grp) : Prop where
  f0 : 0 < far.row.length
  gap1 : turnIf label g far = true → GapOk pc (restOf gs g far) (label + 1) (hdOf far.row)
  gap2 : turnIf label g far = true → GapOk pc (restOf gs g far) (lastOf far.row + 1) (b2Of g far)
  pass : turnIf label g far = true → bothDue gs label g far = true → PassOk ow g far (plOf g far)
structure JoinOk (pc : Int → Str) (ow : Int → Int) (gs : List Grp) (label : Int) (g : Grp) : Prop where
  with' : grpWith gs label = some g
  len : gs.length ≤ 10
  lens : ∀ h ∈ gs, h.row.length ≤ 10
  g0 : 0 < g.row.length
  srt : isort g.row = g.row
  turns : ∀ far ∈ gs, TurnOk pc ow gs label g far
section
variable {G : Gl} {A : Around} {n : Nat} {mg mb : Str → Option Value} {gs : List Grp} {label : Int} {g far : Grp} {o : List (List Grp)} {pl : Int} {ow : Int → Int} {pc : Int → Str}
theorem hd_get {l : List Int} (h : 0 < l.length) : l[0]? = some (hdOf l) := by
  unfold hdOf
  rw [List.getD_eq_getElem?_getD, List.getElem?_eq_getElem h]; rfl
set_option maxHeartbeats 4000000 in
theorem run_join_yes (hA : Room (n + 7) A) (M : Mod G mg mb) (hp : ∀ y, (pc y).length ≤ 6) (J : JoinOk pc ow gs label g) (T : TurnOk pc ow gs label g far) (hif : turnIf label g far = true) (ho : o.length ≤ 100) (act : Act law_join_s (cellNames law_join_s.names)) :
    Run G A act (execs joinIf act.env) (turnEnv gs label g far (piecesD pc) (ownsD ow) o (plOf g far)) fun fd ρ => fd = .next ∧ Has ρ (joinEnv gs label g (piecesD pc) (ownsD ow) (o ++ if bothDue gs label g far then [restOf gs g far ++ [joinOf g far]] else [])) := by
  have big : 1000 ≤ sizeLine := by decide
  have g1 := T.gap1 hif
  have g2 := T.gap2 hif
  have hgl := J.len
  have hrl : (restOf gs g far).length ≤ gs.length := List.length_filter_le ..
  have hrr : ∀ h ∈ restOf gs g far, h.row.length ≤ 1000 := fun h hh => by have := J.lens h (List.mem_filter.mp hh).1; lia
  have sR : ∀ g : Grp, SubD G A g.d (.int 0) (rowD g.row) := fun g => SubD.tuple (k := 0) (by decide) (by decide) rfl
  have pl0 : 0 ≤ plOf g far ∧ plOf g far ≤ g.row.length := cntL_le _ _
  have pget : ((g.row ++ [lastOf far.row + 1]).map D.int)[(plOf g far).toNat]? = some (.int (b2Of g far)) := by
    have h1 : (plOf g far).toNat < (g.row ++ [lastOf far.row + 1]).length := by rw [List.length_append, List.length_singleton]; lia
    unfold b2Of
    rw [List.getElem?_map, List.getElem?_eq_getElem h1, List.getD_eq_getElem?_getD, List.getElem?_eq_getElem h1]; rfl
  refine Run.cons (Run.assignTT hA (xs := ["rest", "fits"]) (.cons (by decide) (.cons (by decide) .nil)) (.v (d := grpsD (restOf gs g far)) (EvO.ev (EvO.lc gs Grp.d (fun g => ("g", .val g.d) :: LEnv.inner _ _) (fun h => (h.row != g.row) && (h.row != far.row)) Grp.d (Src.of hA (Ev.name rfl) (.list _)) (by lia)
    (fun act' k hk => ⟨Takes.name (by decide), inner_keep1 (by decide), Tests.one (Te.eq (Te.and (Te.cmp (Ev.sub (Ev.name rfl) (Ev.int 0) (sR k)) (Ev.name (d := rowD g.row) rfl) (Cmp.ne hA (deq_row 7 _ _))) fun _ => Te.and (Te.cmp (Ev.sub (Ev.name rfl) (Ev.int 0) (sR k)) (Ev.name (d := rowD far.row) rfl) (Cmp.ne hA (deq_row 7 _ _))) fun _ => Te.and_nil) (by rw [Bool.and_true]; rfl)), fun _ => Ev.name rfl⟩) rfl)) (.o (EvO.list .nil) .nil)) rfl (by decide) (show 2 ≤ sizeLine by decide) rfl ?_)
  refine Run.has (ρ₁ := gapEnv gs label g far (piecesD pc) (ownsD ow) o (plOf g far) (restOf gs g far) []) ?_ (Has.of rfl)
  let R : List Grp := restOf gs g far
  refine Run.cons (Run.mono (Q := fun fd ρ => fd = .next ∧ Has ρ (gapEnv gs label g far (piecesD pc) (ownsD ow) o (plOf g far) R [gapDue R (label + 1) (hdOf far.row), gapDue R (lastOf far.row + 1) (b2Of g far)])) ?_ ?_)
  · refine Run.forL [((label + 1, hdOf far.row) : Int × Int), (lastOf far.row + 1, b2Of g far)] (fun p => D.range p.1 p.2) (fun fits : List Bool => gapEnv gs label g far (piecesD pc) (ownsD ow) o (plOf g far) R fits) (fun done rest fits => fits = done.map fun p => gapDue R p.1 p.2) [] ?_ rfl (Has.of rfl)
      (fun p fits => ("gap", .val (.range p.1 p.2)) :: gapEnv gs label g far (piecesD pc) (ownsD ow) o (plOf g far) R fits) (fun done p r fits e hI => ⟨Takes.name (by decide), ?_⟩) (fun fits ρ' hI hh => ⟨rfl, by rw [hI] at hh; exact hh⟩)
    · refine Src.of hA (EvO.ev (EvO.list (.more (Ev.call (EvV.blt M.N rfl M.b_range.1 M.b_range.2) (.type _) (.more (Ev.bin (Ev.name rfl) (Ev.int 1) Op2.add) (.more (Ev.sub (Ev.name (d := rowD far.row) rfl) (Ev.int 0) (SubD.hd T.f0)) .nil)) CallD.range2)
        (.more (Ev.call (EvV.blt M.N rfl M.b_range.1 M.b_range.2) (.type _) (.more (Ev.bin (Ev.sub (Ev.name (d := rowD far.row) rfl) (Ev.neg (Ev.int 1)) (SubD.last T.f0)) (Ev.int 1) Op2.add) (.more (Ev.sub (a := .list ((g.row ++ [lastOf far.row + 1]).map .int)) (EvO.ev ?_) (Ev.name rfl) (SubD.list pl0.1 (by have := J.lens g (List.mem_of_find?_eq_some J.with'); lia) pget)) .nil)) CallD.range2) .nil)))) (.list _)
      rw [List.map_append]
      exact EvO.bin (Ev.name rfl) (EvO.ev (EvO.list (.more (Ev.bin (Ev.sub (Ev.name (d := rowD far.row) rfl) (Ev.neg (Ev.int 1)) (SubD.last T.f0)) (Ev.int 1) Op2.add) .nil))) (Op2O.addL (by rw [List.length_map]; have := J.lens g (List.mem_of_find?_eq_some J.with'); show _ + 1 ≤ _; lia))
    · have H : GapOk pc R p.1 p.2 := by
        have hm : p ∈ [((label + 1, hdOf far.row) : Int × Int), (lastOf far.row + 1, b2Of g far)] := by rw [e]; simp
        rcases List.mem_cons.mp hm with rfl | hm
        · exact g1
        · rw [List.mem_singleton.mp hm]; exact g2
      have hfl : fits.length ≤ 10 := by
        rw [hI, List.length_map]
        have := congrArg List.length e
        simp at this
        lia
      refine (run_gap (n := n) hA M hp (by lia) hrr H hfl act).mono fun fd ρ' ⟨e1, e2⟩ => ?_
      subst e1
      exact ⟨fits ++ [gapDue R p.1 p.2], by rw [hI, List.map_append]; rfl, e2⟩
  rintro fd ρ ⟨rfl, hρ⟩
  refine Run.has ?_ hρ
  have hd : ∀ p q : Bool, deq 8 (.list [.bool p, .bool q]) (.list [.bool true, .bool true]) = some (p && q) := fun p q => by cases p <;> cases q <;> rfl
  refine Run.freeze "fits" _ rfl ?_
  refine Run.cons (Run.ite (b := bothDue gs label g far) (Te.cmp (Ev.name rfl) (EvO.ev (EvO.list (.more (Ev.bool _) (.more (Ev.bool _) .nil)))) (Cmp.eq hA (hd _ _))) (fun h => ?_) fun h => ?_)
  · rw [h, if_pos rfl]
    refine Run.has (ρ₁ := ("rest", .val (grpsD R)) :: turnEnv gs label g far (piecesD pc) (ownsD ow) o (plOf g far)) ?_ (Has.of rfl)
    refine (run_join_tail (n := n) hA M (T.pass hif h) (by lia) ho act).mono fun fd ρ' ⟨e1, e2⟩ => ?_
    subst e1
    exact Run.nil ⟨rfl, e2⟩
  · rw [h, if_neg (by decide), List.append_nil]
    exact Run.nil (Run.nil ⟨rfl, Has.of rfl⟩)
set_option maxHeartbeats 4000000 in
theorem run_join_turn (hA : Room (n + 7) A) (M : Mod G mg mb) (hp : ∀ y, (pc y).length ≤ 6) (J : JoinOk pc ow gs label g) (T : TurnOk pc ow gs label g far) (ho : o.length ≤ 100) (act : Act law_join_s (cellNames law_join_s.names)) :
    Run G A act (execs joinBody act.env) (bindLs ["far", "other"] [.val (rowD far.row), .val far.st.d] (joinEnv gs label g (piecesD pc) (ownsD ow) o)) fun fd ρ' => fd = .next ∧ Has ρ' (joinEnv gs label g (piecesD pc) (ownsD ow) (o ++ turnOf gs label g far)) := by
  have hgr := J.lens g (List.mem_of_find?_eq_some J.with')
  have hsr : g.row.Pairwise (· ≤ ·) := by rw [← J.srt]; exact isort_le _
  have c0 := cntL_le g.row (hdOf far.row)
  refine run_join_place (n := n + 5) (c := cntL g.row (hdOf far.row)) hA M act (hd_get T.f0) (by lia) c0.2 (fun i x e => cntL_at hsr e) ?_
  rw [clamp_c c0.1 c0.2]
  by_cases hlt : hdOf g.row < hdOf far.row
  · have h1 := cntL_at (v := hdOf far.row) hsr (hd_get J.g0)
    rw [decide_eq_true hlt] at h1
    have h1 := of_decide_eq_true h1.symm
    have hi : (plOf g far - 1).toNat < g.row.length := by unfold plOf; lia
    have hw : g.row[(plOf g far - 1).toNat]? = some (g.row.getD (plOf g far - 1).toNat 0) := by rw [List.getD_eq_getElem?_getD, List.getElem?_eq_getElem hi]; rfl
    refine run_join_if act (hd_get T.f0) (hd_get J.g0) hlt (pl := plOf g far) (by unfold plOf; lia) (by unfold plOf; lia) hw (fun hne => ⟨rfl, ?_⟩) fun he => ?_
    · have : turnOf gs label g far = [] := by
        unfold turnOf turnIf
        rw [beq_eq_false_iff_ne.mpr hne, Bool.and_false, Bool.false_and]; rfl
      rw [this, List.append_nil]
      exact Has.of rfl
    · have hif : turnIf label g far = true := by
        unfold turnIf
        rw [he, decide_eq_true hlt, beq_self_eq_true]; rfl
      refine (run_join_yes (n := n) hA M hp J T hif ho act).mono fun fd ρ' ⟨e1, e2⟩ => ?_
      subst e1
      refine Run.nil ⟨rfl, ?_⟩
      unfold turnOf
      rw [hif, Bool.true_and]
      exact e2
  · refine run_join_skip act (hd_get T.f0) (hd_get J.g0) (by lia) ⟨rfl, ?_⟩
    have : turnOf gs label g far = [] := by
      unfold turnOf turnIf
      rw [decide_eq_false (by lia), Bool.false_and, Bool.false_and]; rfl
    rw [this, List.append_nil]
    exact Has.of rfl
end
end Mine
end

section
namespace Mine
open PySem PySem.Challenge PySem.Calls PyProof.Rows
section
variable {G : Gl} {A : Around} {n : Nat} {mg mb : Str → Option Value} {gs : List Grp} {label : Int} {g far : Grp} {o : List (List Grp)} {pl : Int} {ow : Int → Int} {pc : Int → Str}
theorem turnOf_len (gs : List Grp) (label : Int) (g far : Grp) : (turnOf gs label g far).length ≤ 1 := by
  unfold turnOf
  split <;> simp
noncomputable def joinsOf (gs : List Grp) (label : Int) (g : Grp) : List (List Grp) := gs.flatMap (turnOf gs label g)
theorem call_law_join (hA : Room (n + 8) A) (M : Mod G mg mb) (hp : ∀ y, (pc y).length ≤ 6) (J : JoinOk pc ow gs label g) : CallD G A (.ref 97) [grpsD gs, .int label, piecesD pc, ownsD ow] (joinsD (joinsOf gs label g)) := by
  refine CallD.fn (n := n + 7) (xs := ["groups", "label", "pieces", "owns"]) M.f_law_join M.N hA (by decide) (by decide) [] rfl (fun vs fd S s hl h1 h2 h3 I => ?_) (fun S s I => .nil) fun act => Run.mono (Q := fun fd _ => fd = .ret (joinsD (joinsOf gs label g))) ?_ fun fd _ e => by rw [e]; rfl
  · obtain ⟨a0, a1, a2, a3, rfl⟩ := len4 hl
    exact bindPlain h1 h2 h3 fun _ _ _ _ _ _ _ _ _ _ _ _ => .of_eq rfl
  · have hB := hA.deeper act.env
    refine run_join_head (n := n + 6) hB act J.with' (by have := J.len; lia) (run_join_loop (n := n + 6) hB act (by have := J.len; lia) (fun far _ => turnOf_len gs label g far) fun far hf o ho => ?_)
    refine (run_join_turn (n := n) hB M hp J (J.turns far hf) (by have := J.len; lia) act).mono fun fd ρ' ⟨e1, e2⟩ => ?_
    subst e1
    exact e2
end
end Mine
end

section
namespace Mine
open PySem PySem.Challenge PySem.Calls PyProof.Rows
noncomputable abbrev State := List Grp × List (List (List Int))
noncomputable def storyD (s : List (List (List Int))) : D := .list (s.map fun rows => .list (rows.map rowD))
noncomputable def stateD (s : State) : D := .tuple [grpsD s.1, storyD s.2]
noncomputable def statesD (l : List State) : D := .list (l.map stateD)
noncomputable def initGrp (ow : Int → Int) (k : Int) : Grp := ⟨[k], ⟨k * k, 1, ow k, k, [(.i k, 1)]⟩⟩
noncomputable def gOf (gs : List Grp) (label : Int) : Grp := (grpWith gs label).getD ⟨[], ⟨0, 0, 0, 0, []⟩⟩
noncomputable def joinsFor (gs : List Grp) (label : Int) : List (List Grp) := joinsOf gs label (gOf gs label)
noncomputable def rowsOf (gs : List Grp) : List (List Int) := gs.map Grp.row
noncomputable def sortedRows (gs : List Grp) : List (List Int) := if gs.length = 1 then rowsOf gs else sortRows (rowsOf gs)
noncomputable def nextOf' (s : State) (gs : List Grp) : State := (gs, s.2 ++ [sortedRows gs])
noncomputable def stepAll (label : Int) (sts : List State) : List State := sts.flatMap fun s => (joinsFor s.1 label).map (nextOf' s)
structure StepOk (pc : Int → Str) (ow : Int → Int) (label : Int) (sts : List State) : Prop where
  len : sts.length ≤ 100
  join : ∀ s ∈ sts, JoinOk pc ow s.1 label (gOf s.1 label)
  srt : ∀ s ∈ sts, ∀ gs ∈ joinsFor s.1 label, gs.length = 1 ∨ (2 ≤ gs.length ∧ gs.length < 64 ∧ rowsIn (rowsOf gs) = true)
  story : ∀ s ∈ sts, s.2.length ≤ 100
noncomputable def RunsOk (pc : Int → Str) (ow : Int → Int) : List Int → List State → Prop
  | [], _ => True
  | l :: ls, sts => StepOk pc ow l sts ∧ RunsOk pc ow ls (stepAll l sts)
noncomputable def runsFrom (ls : List Int) (sts : List State) : List State := ls.foldl (fun sts l => stepAll l sts) sts
theorem flatMap_lenK {α β : Type} {K : Nat} {f : α → List β} : ∀ {l : List α}, (∀ a ∈ l, (f a).length ≤ K) → (l.flatMap f).length ≤ K * l.length
  | [], _ => Nat.le_refl _
  | a :: l, h => by
    rw [List.flatMap_cons, List.length_append, List.length_cons, Nat.mul_succ]
    have h1 := h a (.head _)
    have h2 := flatMap_lenK (l := l) fun b hb => h b (.tail _ hb)
    lia
section
variable {sc : Scope} {mc : List Str} {G : Gl} {A : Around} {act : Act sc mc} {ρ : LEnv} {elt tgt iter tgt2 iter2 : Expr} {ifs ifs2 : List Expr} {scope : Scope} {pos : Pos}
theorem App.innerE {β : Type} (bs : List β) (φ : β → D) (ρ' : β → LEnv) (p : β → Bool) (f : β → D) {ds ds' : List D}
    (hsrc : Src G A act ρ tgt2 iter2 (bs.map φ)) (hlen : ds.length + bs.length ≤ sizeLine) (hs : ∀ x, foldedSetIterable iter2 act.env x = pure x)
    (turn : ∀ b, b ∈ bs → Takes G A act tgt2 (φ b) ρ (ρ' b) ∧ (∀ y l, ρ.lookup y = some l → (ρ' b).lookup y = some l) ∧ Tests G A act (ρ' b) ifs2 (p b) ∧ (p b = true → Ev G A act (ρ' b) elt (f b))) (he : ds' = ds ++ (bs.filter p).map f) :
    App G A act ρ (tail2 (lc2 elt tgt iter tgt2 iter2 ifs ifs2 scope pos) iter2 act.env) (.list ds) (.list ds') := by
  rw [he]; exact App.inner bs φ ρ' p f hsrc hlen hs turn
end
section
variable {G : Gl} {A : Around} {n : Nat} {mg mb : Str → Option Value} {label : Int} {ow : Int → Int} {pc : Int → Str} {sts : List State} {ls : List Int}
theorem call_sorted_rows {gs : List Grp} (hA : Room n A) (h : gs.length = 1 ∨ (2 ≤ gs.length ∧ gs.length < 64 ∧ rowsIn (rowsOf gs) = true)) : CallO G A (.builtin "sorted") [.list ((rowsOf gs).map rowD)] (.list ((sortedRows gs).map rowD)) := by
  unfold sortedRows
  rcases h with h | ⟨h1, h2, h3⟩
  · rw [if_pos h]
    obtain ⟨g, rfl⟩ := len1 h
    exact CallO.sortOne
  · rw [if_neg (by lia)]
    have hl : (rowsOf gs).length = gs.length := List.length_map ..
    exact CallO.sortRows hA (by lia) (by lia) h3
noncomputable abbrev runsEnv (pc : Int → Str) (ow : Int → Int) (ls : List Int) (sts : List State) : LEnv := ("states", .val (statesD sts)) :: zipEnv ["labels", "pieces", "owns"] [.list (ls.map .int), piecesD pc, ownsD ow]
noncomputable def runsBody : List Stmt := match law_runs_b with
  | [_, .For _ _ b _ _, _] => b
  | _ => []
set_option maxHeartbeats 4000000 in
theorem run_runs_turn (hA : Room (n + 9) A) (M : Mod G mg mb) (hp : ∀ y, (pc y).length ≤ 6) (H : StepOk pc ow label sts) (act : Act law_runs_s (cellNames law_runs_s.names)) :
    Run G A act (execs runsBody act.env) (("label", .val (.int label)) :: runsEnv pc ow ls sts) fun fd ρ => fd = .next ∧ Has ρ (runsEnv pc ow ls (stepAll label sts)) := by
  have big : 1000 ≤ sizeLine := by decide
  have hl := H.len
  refine Run.cons (Run.assignComp (CompRuns.list sts stateD (fun s => bindLs ["groups", "story"] [.val (grpsD s.1), .val (storyD s.2)] (LEnv.inner _ _)) (fun _ => true) (fun s => .tuple [joinsD (joinsFor s.1 label), storyD s.2]) (Src.of hA (Ev.name rfl) (.list _)) (by lia) (fun act' s hs => ⟨Takes.tuple (ds := [grpsD s.1, storyD s.2]) hA (.cons (by decide) (.cons (by decide) .nil)) rfl, inner_keep2 (by decide) (by decide), Tests.none, fun _ =>
    Ev.tuple (.more (Ev.call (EvV.glob M.N rfl M.f_law_join.named) M.f_law_join.callee (.more (Ev.name rfl) (.more (Ev.name rfl) (.more (Ev.name rfl) (.more (Ev.name rfl) .nil)))) (call_law_join (n := n + 1) hA M hp (H.join s hs))) (.more (Ev.name rfl) .nil))⟩) (by decide) (by intro _; rfl)) rfl (by intro _; rfl) (by decide) ?_ _ rfl)
  rw [filter_all]
  refine Run.freeze "found" _ rfl ?_
  refine Run.cons (Run.ite (b := false) (Te.eq (Te.cmp (EvO.ev (EvO.lc (d := .list []) sts (fun s => .tuple [joinsD (joinsFor s.1 label), storyD s.2]) (fun s => ("f", .val (.tuple [joinsD (joinsFor s.1 label), storyD s.2])) :: LEnv.inner _ _) (fun _ => false) (fun s => .none) (Src.of hA (Ev.name rfl) (.list _)) (by lia)
    (fun act' s hs => ⟨Takes.name (by decide), inner_keep1 (by decide), Tests.one (Te.cmp (b := .none) (Ev.sub (d := joinsD (joinsFor s.1 label)) (Ev.name rfl) (Ev.int 0) (SubD.tuple (k := 0) (by decide) (by decide) rfl)) Ev.none Cmp.isNone), fun h => nomatch h⟩) (by simp))) (EvO.ev (EvO.list .nil)) (Cmp.ne hA (r := true) rfl)) rfl) (fun h => nomatch h) fun _ => Run.nil ?_)
  have jl : ∀ s ∈ sts, (joinsFor s.1 label).length ≤ 10 := fun s hs => Nat.le_trans (flatMap_len1 fun far _ => turnOf_len _ _ _ _) (H.join s hs).len
  refine Run.cons (Run.assignComp (CompRuns.two sts (fun s => .tuple [joinsD (joinsFor s.1 label), storyD s.2]) (fun s => bindLs ["more", "story"] [.val (joinsD (joinsFor s.1 label)), .val (storyD s.2)] (LEnv.inner _ _)) (fun _ => true) (fun s => (joinsFor s.1 label).map fun gs => stateD (nextOf' s gs)) (Src.of hA (Ev.name rfl) (.list _)) ?_ (fun act' s hs => ⟨Takes.tuple (ds := [joinsD (joinsFor s.1 label), storyD s.2]) hA (.cons (by decide) (.cons (by decide) .nil)) rfl, inner_keep2 (by decide) (by decide), Tests.none, fun _ ds hds => ?_⟩) (by decide) (by intro _; rfl)) rfl (by intro _; rfl) (by decide) ?_ _ rfl)
  · rw [filter_all]
    have := flatMap_lenK (K := 10) (l := sts) (f := fun s => (joinsFor s.1 label).map fun gs => stateD (nextOf' s gs)) fun s hs => by rw [List.length_map]; exact jl s hs
    lia
  · refine App.innerE (joinsFor s.1 label) grpsD (fun gs => ("groups", .val (grpsD gs)) :: _) (fun _ => true) (fun gs => stateD (nextOf' s gs)) (Src.of hA (Ev.name rfl) (.list _)) (by rw [List.length_map] at hds; exact hds) (by intro _; rfl) (fun gs hgs => ⟨Takes.name (by decide), ?_, Tests.none, fun _ => ?_⟩) (by rw [filter_all])
    · intro y l h
      by_cases q : y = "groups"
      · subst q
        exact absurd rfl (inner_not (scope := _) (x := "groups") (by decide) (show List.lookup _ (LEnv.inner _ _) = some l from h))
      · rw [lookup_cons_ne q]; exact h
    · have e : storyD (s.2 ++ [sortedRows gs]) = .list (s.2.map (fun rows => .list (rows.map rowD)) ++ [.list ((sortedRows gs).map rowD)]) := by unfold storyD; rw [List.map_append]; rfl
      have hsl := H.story s hs
      show Ev G A act' _ _ (.tuple [grpsD gs, storyD (s.2 ++ [sortedRows gs])])
      rw [e]
      refine Ev.tuple (.more (Ev.name rfl) (.more (EvO.ev (EvO.bin (Ev.name rfl) (EvO.ev (EvO.list (.more (EvO.ev (EvO.call (EvV.blt M.N rfl M.b_sorted.1 M.b_sorted.2) (.builtin _) (.more (EvO.ev (EvO.lc gs Grp.d (fun g => ("g", .val g.d) :: LEnv.inner _ _) (fun _ => true) (fun g => rowD g.row) (Src.of hA (Ev.name rfl) (.list _)) ?_ (fun act'' g hg => ⟨Takes.name (by decide), inner_keep1 (by decide), Tests.none, fun _ => Ev.sub (Ev.name rfl) (Ev.int 0) (SubD.tuple (k := 0) (by decide) (by decide) rfl)⟩) ?_)) .nil) (call_sorted_rows hA (H.srt s hs gs hgs)))) .nil))) (Op2O.addL (by rw [List.length_map]; show s.2.length + 1 ≤ _; lia)))) .nil))
      · rcases H.srt s hs gs hgs with h | h
        · lia
        · lia
      · rw [filter_all]; unfold rowsOf; rw [List.map_map]; rfl
  rw [filter_all]
  have e : sts.flatMap (fun s => (joinsFor s.1 label).map fun gs => stateD (nextOf' s gs)) = (stepAll label sts).map stateD := by
    unfold stepAll
    rw [List.map_flatMap]
    simp only [List.map_map]
    rfl
  rw [e]
  exact Run.freeze "states" _ rfl (Run.nil ⟨rfl, Has.of rfl⟩)
end
end Mine
end

section
namespace Mine
open PySem PySem.Challenge PySem.Calls PyProof.Rows
noncomputable def initSt (ow : Int → Int) : State := (KS.map (initGrp ow), [])
noncomputable def runsOf (ow : Int → Int) (ls : List Int) : List State := runsFrom ls [initSt ow]
theorem iter_owns (ow : Int → Int) : Iter (ownsD ow) (KS.map D.int) := by
  have : Iter (ownsD ow) (((KS.map fun k => (Ky.i k, ow k)).map (·.1)).map Ky.d) := .dict _ _
  exact this
section
variable {G : Gl} {A : Around} {n : Nat} {mg mb : Str → Option Value} {label : Int} {ow : Int → Int} {pc : Int → Str} {sts : List State} {ls : List Int}
set_option maxHeartbeats 4000000 in
theorem run_law_runs (hA : Room (n + 9) A) (M : Mod G mg mb) (hp : ∀ y, (pc y).length ≤ 6) (H : RunsOk pc ow ls [initSt ow]) (act : Act law_runs_s (cellNames law_runs_s.names)) :
    Run G A act (execs law_runs_b act.env) (zipEnv ["labels", "pieces", "owns"] [.list (ls.map .int), piecesD pc, ownsD ow]) fun fd _ => fd = .ret (statesD (runsOf ow ls)) := by
  have big : 1000 ≤ sizeLine := by decide
  refine Run.cons (Run.assignOwn (d := statesD [initSt ow]) (EvO.list (.more (Ev.tuple (ds := [grpsD (KS.map (initGrp ow)), storyD []]) (.more (EvO.ev (EvO.lc KS D.int (fun k => ("k", .val (.int k)) :: LEnv.inner _ _) (fun _ => true) (fun k => (initGrp ow k).d) ?_ (by decide) (fun act' k hk => ⟨Takes.name (by decide), inner_keep1 (by decide), Tests.none, fun _ => ?_⟩) ?_)) (.more (EvO.ev (EvO.list .nil)) .nil))) .nil)) (by decide) ?_)
  · exact Src.of hA (Ev.name rfl) (iter_owns ow)
  · have hk' : 1 ≤ k ∧ k ≤ 5 := by
      unfold KS at hk
      simp only [List.mem_cons, List.not_mem_nil, or_false] at hk
      lia
    refine Ev.tuple (ds := [rowD [k], (initGrp ow k).st.d]) (.more (EvO.ev (EvO.list (.more (Ev.name rfl) .nil))) (.more (Ev.tuple (.more (Ev.bin (Ev.name rfl) (Ev.name rfl) (Op2.mul (mulOk_left (by lia) (by lia)))) (.more (Ev.int 1) (.more (Ev.sub (Ev.name (d := ownsD ow) rfl) (Ev.name rfl) (SubD.dict (k := .i k) (ows_find hk))) (.more (Ev.name rfl) (.more (EvO.ev (EvO.dict1 (k := .i k) (Ev.name rfl) (Ev.int 1) (by intro _; rfl))) .nil)))))) .nil))
  · rw [filter_all]
    unfold grpsD
    rw [List.map_map]; rfl
  refine Run.freeze "states" _ rfl (Run.has (ρ₁ := runsEnv pc ow ls [initSt ow]) ?_ (Has.of rfl))
  refine Run.cons (Run.mono (Q := fun fd ρ => fd = .next ∧ Has ρ (runsEnv pc ow ls (runsOf ow ls))) ?_ ?_)
  · refine Run.forL ls D.int (fun sts : List State => runsEnv pc ow ls sts) (fun done rest sts => RunsOk pc ow rest sts ∧ runsFrom rest sts = runsOf ow ls) [initSt ow] (Src.of hA (Ev.name rfl) (.list _)) ⟨H, rfl⟩ (Has.of rfl)
      (fun l sts => ("label", .val (.int l)) :: runsEnv pc ow ls sts) (fun done l rest sts e hI => ⟨Takes.name (by decide), ?_⟩) (fun sts ρ' hI hh => ⟨rfl, ?_⟩)
    · refine (run_runs_turn (n := n) hA M hp hI.1.1 act).mono fun fd ρ' ⟨e1, e2⟩ => ?_
      subst e1
      exact ⟨_, ⟨hI.1.2, hI.2⟩, e2⟩
    · rw [← hI.2]
      exact hh
  rintro fd ρ ⟨rfl, hρ⟩
  refine Run.has ?_ hρ
  exact Run.cons (Run.ret (Ev.name rfl) rfl)
theorem call_law_runs (hA : Room (n + 10) A) (M : Mod G mg mb) (hp : ∀ y, (pc y).length ≤ 6) (H : RunsOk pc ow ls [initSt ow]) : CallD G A (.ref 102) [.list (ls.map .int), piecesD pc, ownsD ow] (statesD (runsOf ow ls)) := by
  refine CallD.fn (n := n + 9) (xs := ["labels", "pieces", "owns"]) M.f_law_runs M.N hA (by decide) (by decide) [] rfl (fun vs fd S s hl h1 h2 h3 I => ?_) (fun S s I => .nil) fun act => (run_law_runs (n := n) (hA.deeper act.env) M hp H act).mono fun fd _ e => by rw [e]; rfl
  obtain ⟨a0, a1, a2, rfl⟩ := len3 hl
  exact bindPlain h1 h2 h3 fun _ _ _ _ _ _ _ _ _ _ _ _ => .of_eq rfl
end
end Mine
end

section
namespace Mine
open PySem PySem.Challenge PySem.Calls PyProof.Rows
noncomputable def marksL : List Str := ["", "\\(", "\\)", "\")\"", "\"(\\\"(\"", "\\\\"]
noncomputable def cAt (cs : List Int) (k : Nat) : Int := cs.getD k 0
noncomputable def pcOf (cs : List Int) (k : Int) : Str := marksL.getD (cAt cs (k - 1).toNat / 4 % 6).toNat ""
noncomputable def owOf (cs : List Int) (k : Int) : Int := cAt cs (k - 1).toNat / 24 % 9 - 4
noncomputable def labelsOf (cs : List Int) : List Int := (cs.take 4).map fun v => v % 4 + 1
noncomputable def iOf (cs : List Int) : Int := cAt cs 5 % 3
theorem cells_get {cs : List Int} (h : cs.length = 6) {j : Int} (h0 : 0 ≤ j) (hj : j < 6) : (cs.map D.int)[j.toNat]? = some (.int (cAt cs j.toNat)) := by
  have hk : j.toNat < cs.length := by lia
  rw [List.getElem?_map, List.getElem?_eq_getElem hk]
  unfold cAt
  rw [List.getD_eq_getElem?_getD, List.getElem?_eq_getElem hk]; rfl
theorem dmk_KS (f : Int → D) : dmk (KS.map fun k => (Ky.i k, f k)) = (KS.map Ky.i, KS.map f) := by rfl
theorem KS_ri : KS = ri 1 6 := by rfl
theorem KS_mem {k : Int} (h : k ∈ KS) : 1 ≤ k ∧ k ≤ 5 := by
  unfold KS at h
  simp only [List.mem_cons, List.not_mem_nil, or_false] at h
  lia
section
variable {G : Gl} {A : Around} {n : Nat} {mg mb : Str → Option Value} {sc : Scope} {mc : List Str} {act : Act sc mc} {ρ : LEnv} {e ix : Expr} {pos : Pos} {cs : List Int}
theorem Ev.cell (h : cs.length = 6) {j : Int} (h0 : 0 ≤ j) (hj : j < 6) (he : Ev G A act ρ e (.list (cs.map .int))) (hi : Ev G A act ρ ix (.int j)) : Ev G A act ρ (.Subscript e ix pos) (.int (cAt cs j.toNat)) :=
  Ev.sub he hi (SubD.list h0 (by lia) (cells_get h h0 hj))
end
section
variable {G : Gl} {A : Around} {n : Nat} {mg mb : Str → Option Value} {ns : List Int} {Q : FD → LEnv → Prop}
noncomputable abbrev envA (cs : List Int) : LEnv := [("cells", .val (.list (cs.map .int))), ("pieces", .val (piecesD (pcOf cs))), ("owns", .val (ownsD (owOf cs))), ("labels", .val (.list ((labelsOf cs).map .int))), ("i", .val (.int (iOf cs)))]
set_option maxHeartbeats 4000000 in
theorem run_A (hA : Room (n + 20) A) (M : Mod G mg mb) (hn : ns.length ≤ 63) (act : Act law_s (cellNames law_s.names))
    (next : ∀ cs : List Int, cs.length = 6 → Run G A act (execs (law_b.drop 6) act.env) (envA cs) Q) :
    Run G A act (execs law_b act.env) (zipEnv ["script"] [.list (ns.map .int)]) Q := by
  unfold law_b
  refine Run.cons (Run.assignOwn (d := .list (([157, 76, 114, 176, 20, 1] : List Int).map .int)) (EvO.list (.more (Ev.int 157) (.more (Ev.int 76) (.more (Ev.int 114) (.more (Ev.int 176) (.more (Ev.int 20) (.more (Ev.int 1) .nil))))))) (by decide) ?_)
  refine Run.cons (Run.mono (Q := fun fd ρ => fd = .next ∧ ∃ cs : List Int, cs.length = 6 ∧ Has ρ [("cells", .own (.list (cs.map .int)))]) ?_ ?_)
  · refine Run.forL (enumDs ((ns.take 60).map D.int)) id (fun cs : List Int => [("cells", .own (.list (cs.map .int)))]) (fun done rest cs => cs.length = 6) [157, 76, 114, 176, 20, 1] ?_ rfl (Has.of rfl)
      (fun a cs => match a with | .tuple ds => bindLs ["k", "x"] (ds.map .val) [("cells", .own (.list (cs.map .int)))] | _ => []) (fun done a rest cs e hI => ?_) (fun cs ρ' hI hh => ⟨rfl, cs, hI, hh⟩)
    · rw [List.map_id]
      refine Src.enumL (n := n + 19) hA (EvV.blt M.N rfl M.b_enumerate.1 M.b_enumerate.2) (EvO.ev ?_)
      have : (ns.take 60).map D.int = lslice (ns.map D.int) none (some ((60 : Nat) : Int)) none := by rw [lslice_to, List.map_take]
      rw [this]
      exact EvO.sliced (Ev.name rfl) Bd.non (Bd.at (Ev.int 60)) Bd.non (by rw [List.length_map]; exact Nat.le_trans hn (by decide)) (fun e => nomatch e)
    · have ha : a ∈ enumDs ((ns.take 60).map D.int) := by rw [e]; simp
      obtain ⟨k, v, rfl⟩ : ∃ (k : Nat) (v : Int), a = .tuple [.int k, .int v] := by
        unfold enumDs at ha
        obtain ⟨p, hp, rfl⟩ := List.mem_map.mp ha
        have := List.mem_zipIdx hp
        obtain ⟨_, _, h3⟩ := this
        rw [h3, List.getElem_map]
        exact ⟨_, _, rfl⟩
      refine ⟨Takes.tuple hA (.cons (by decide) (.cons (by decide) .nil)) rfl, ?_⟩
      refine Run.cons (Run.augL (ds := cs.map .int) (k := (k : Int) % 6) (d₀ := .int (cAt cs ((k : Int) % 6).toNat)) (d₁ := .int (v % 1000003)) (d := .int (cAt cs ((k : Int) % 6).toNat + v % 1000003)) rfl (Ev.bin (Ev.name rfl) (Ev.int 6) (Op2.mod (by decide))) (by lia) (by lia) (cells_get hI (by lia) (by lia)) (Ev.bin (Ev.name rfl) (Ev.int 1000003) (Op2.mod (by decide))) Op2.iadd (Run.nil ⟨cs.set ((k : Int) % 6).toNat (cAt cs ((k : Int) % 6).toNat + v % 1000003), by rw [List.length_set]; exact hI, ?_⟩))
      rw [List.map_set]
      exact (Has.of rfl)
  rintro fd ρ ⟨rfl, cs, hcs, hρ⟩
  refine Run.has ?_ hρ
  refine Run.freeze "cells" _ rfl ?_
  have nx := next cs hcs
  refine Run.cons (Run.assignOwn (EvO.list (.more (Ev.str _) (.more (Ev.str _) (.more (Ev.str _) (.more (Ev.str _) (.more (Ev.str _) (.more (Ev.str _) .nil))))))) (by decide) ?_)
  refine Run.freeze "marks" _ rfl (Run.has (ρ₁ := [("cells", .val (.list (cs.map .int))), ("marks", .val (.list (marksL.map .str)))]) ?_ (Has.of rfl))
  have kr : ∀ {sc : Scope} {mc : List Str} {act : Act sc mc} {ρ : LEnv} {tgt e : Expr}, Ev G A act ρ e (.range 1 6) → Src G A act ρ tgt e (KS.map D.int) := fun he => by
    rw [KS_ri]
    exact Src.of hA he (.range (by decide) (by decide) (by decide) (by decide))
  refine Run.cons (Run.assignComp (CompRuns.dict KS D.int (fun k => ("k", .val (.int k)) :: LEnv.inner _ _) (fun _ => true) (fun k => .i k) (fun k => .str (pcOf cs k)) (kr (Ev.call (EvV.blt M.N rfl M.b_range.1 M.b_range.2) (.type _) (.more (Ev.int 1) (.more (Ev.int 6) .nil)) CallD.range2)) (by decide) (fun act' k hk => ⟨Takes.name (by decide), inner_keep1 (by decide), Tests.none, fun _ => ⟨Ev.name rfl, ?_⟩⟩) (by decide) (by intro _; rfl)) rfl (by intro _; rfl) (by decide) ?_ _ rfl)
  · have hk := KS_mem hk
    refine Ev.sub (Ev.name rfl) (Ev.bin (Ev.bin (Ev.cell hcs (by lia) (by lia) (Ev.name rfl) (Ev.bin (Ev.name rfl) (Ev.int 1) Op2.sub)) (Ev.int 4) (Op2.fdiv (by decide) (by decide))) (Ev.int 6) (Op2.mod (by decide))) (SubD.list (by lia) (by lia) ?_)
    have h6 : (cAt cs (k - 1).toNat / 4 % 6).toNat < 6 := by lia
    unfold pcOf
    rw [List.getElem?_map, List.getElem?_eq_getElem (by exact h6), List.getD_eq_getElem?_getD, List.getElem?_eq_getElem (by exact h6)]; rfl
  rw [filter_all, dmk_KS fun k => D.str (pcOf cs k)]
  refine Run.freeze "pieces" _ rfl (Run.has (ρ₁ := [("cells", .val (.list (cs.map .int))), ("pieces", .val (piecesD (pcOf cs)))]) ?_ (Has.of rfl))
  refine Run.cons (Run.assignComp (CompRuns.dict KS D.int (fun k => ("k", .val (.int k)) :: LEnv.inner _ _) (fun _ => true) (fun k => .i k) (fun k => .int (owOf cs k)) (kr (Ev.call (EvV.blt M.N rfl M.b_range.1 M.b_range.2) (.type _) (.more (Ev.int 1) (.more (Ev.int 6) .nil)) CallD.range2)) (by decide) (fun act' k hk => ⟨Takes.name (by decide), inner_keep1 (by decide), Tests.none, fun _ => ⟨Ev.name rfl, ?_⟩⟩) (by decide) (by intro _; rfl)) rfl (by intro _; rfl) (by decide) ?_ _ rfl)
  · have hk := KS_mem hk
    exact Ev.bin (Ev.bin (Ev.bin (Ev.cell hcs (by lia) (by lia) (Ev.name rfl) (Ev.bin (Ev.name rfl) (Ev.int 1) Op2.sub)) (Ev.int 24) (Op2.fdiv (by decide) (by decide))) (Ev.int 9) (Op2.mod (by decide))) (Ev.int 4) Op2.sub
  rw [filter_all, dmk_KS fun k => D.int (owOf cs k)]
  refine Run.freeze "owns" _ rfl (Run.has (ρ₁ := [("cells", .val (.list (cs.map .int))), ("pieces", .val (piecesD (pcOf cs))), ("owns", .val (ownsD (owOf cs)))]) ?_ (Has.of rfl))
  refine Run.cons (Run.assignTT hA (xs := ["labels", "i"]) (.cons (by decide) (.cons (by decide) .nil)) (.o (d := .list ((labelsOf cs).map .int)) (EvO.lc (cs.take 4) D.int (fun v => ("v", .val (.int v)) :: LEnv.inner _ _) (fun _ => true) (fun v => .int (v % 4 + 1)) ?_ (by rw [List.length_take]; exact Nat.le_trans (Nat.min_le_left _ _) (by decide)) (fun act' v hv => ⟨Takes.name (by decide), inner_keep1 (by decide), Tests.none, fun _ => Ev.bin (Ev.bin (Ev.name rfl) (Ev.int 4) (Op2.mod (by decide))) (Ev.int 1) Op2.add⟩) (by rw [filter_all]; unfold labelsOf; rw [List.map_map]; rfl))
    (.v (d := .int (iOf cs)) (Ev.bin (Ev.cell (j := 5) hcs (by decide) (by decide) (Ev.name rfl) (Ev.int 5)) (Ev.int 3) (Op2.mod (by decide))) .nil)) rfl (by decide) (show 2 ≤ sizeLine by decide) rfl ?_)
  · have : (cs.take 4).map D.int = lslice (cs.map D.int) none (some ((4 : Nat) : Int)) none := by rw [lslice_to, List.map_take]
    rw [this]
    exact Src.of hA (EvO.ev (EvO.sliced (Ev.name rfl) Bd.non (Bd.at (Ev.int 4)) Bd.non (by rw [List.length_map, hcs]; decide) (fun e => nomatch e))) (.list _)
  exact Run.freeze "labels" _ rfl (Run.has nx (Has.of rfl))
end
end Mine
end

section
namespace Mine
open PySem PySem.Challenge PySem.Calls PyProof.Rows
noncomputable def tabStep (ks : List Int) (a : Int) : List Int := if a ∈ ks then ks else ks ++ [a]
noncomputable def tabK (l : List Int) : List Int := l.foldl tabStep []
noncomputable def cntE (l : List Int) (a : Int) : Int := (l.filter fun b => b == a).length
noncomputable def tabT (l : List Int) : List (Ky × Int) := (tabK l).map fun a => (.i a, cntE l a)
noncomputable def prsT (l : List Int) : List (Ky × (Int × Int)) := (tabK l).map fun a => (.i a, (a * cntE l a, -cntE l a))
set_option tactic.hygienic true in
theorem tabStep_mem {ks : List Int} {a b : Int} : b ∈ tabStep ks a ↔ b ∈ ks ∨ b = a := by
  unfold tabStep
  split
  · rename_i h
    exact ⟨.inl, fun h' => h'.elim id fun e => e ▸ h⟩
  · simp
theorem tabK_snoc (l : List Int) (a : Int) : tabK (l ++ [a]) = tabStep (tabK l) a := by unfold tabK; rw [List.foldl_append]; rfl
set_option tactic.hygienic true in
theorem tab_fold : ∀ (l ks : List Int), ks.Nodup → (l.foldl tabStep ks).Nodup ∧ ∀ b, b ∈ l.foldl tabStep ks ↔ b ∈ ks ∨ b ∈ l
  | [], ks, h => ⟨h, fun b => by simp⟩
  | a :: l, ks, h => by
    have h1 : (tabStep ks a).Nodup := by
      unfold tabStep
      split
      · exact h
      · rename_i q
        exact List.nodup_append.mpr ⟨h, by simp, fun x hx y hy e => q (by rw [List.mem_singleton.mp hy] at e; exact e ▸ hx)⟩
    obtain ⟨k1, k2⟩ := tab_fold l (tabStep ks a) h1
    refine ⟨k1, fun b => ?_⟩
    rw [List.foldl_cons, k2, tabStep_mem, List.mem_cons, or_assoc]
theorem tabK_nodup (l : List Int) : (tabK l).Nodup := (tab_fold l [] (by simp)).1
theorem tabK_mem {l : List Int} {b : Int} : b ∈ tabK l ↔ b ∈ l := by have := (tab_fold l [] (by simp)).2 b; unfold tabK; rw [this]; simp
theorem cntE_snoc (l : List Int) (a b : Int) : cntE (l ++ [b]) a = cntE l a + if b = a then 1 else 0 := by
  unfold cntE
  rw [List.filter_append, List.length_append]
  by_cases h : b = a
  · rw [if_pos h, List.filter_cons_of_pos (by simpa using h)]; simp
  · rw [if_neg h, List.filter_cons_of_neg (by simpa using h)]; simp
theorem cntE_not {l : List Int} {a : Int} (h : a ∉ l) : cntE l a = 0 := by
  unfold cntE
  rw [List.filter_eq_nil_iff.mpr fun b hb e => h (by rw [← eq_of_beq e]; exact hb)]; rfl
section
variable {α : Type}
theorem aget_form {f : Int → α} {a : Int} : ∀ {ks : List Int}, aget (.i a) (ks.map fun b => (Ky.i b, f b)) = if a ∈ ks then some (f a) else none
  | [] => rfl
  | b :: ks => by
    rw [List.map_cons, aget]
    by_cases h : b = a
    · subst h; rw [if_pos rfl, if_pos (.head _)]
    · rw [if_neg (fun e => h (Ky.i.inj e)), aget_form]
      by_cases q : a ∈ ks
      · rw [if_pos q, if_pos (.tail _ q)]
      · rw [if_neg q, if_neg (by simp [q, Ne.symm h])]
theorem form_keys {f : Int → α} (ks : List Int) : (ks.map fun b => (Ky.i b, f b)).map (·.1) = ks.map Ky.i := by rw [List.map_map]; rfl
theorem ky_mem {a : Int} {ks : List Int} : Ky.i a ∈ ks.map Ky.i ↔ a ∈ ks := by
  rw [List.mem_map]
  exact ⟨fun ⟨b, hb, e⟩ => Ky.i.inj e ▸ hb, fun h => ⟨a, h, rfl⟩⟩
theorem acopy_form {f : Int → α} : ∀ (ks : List Int), ks.Nodup → acopy (ks.map fun b => (Ky.i b, f b)) = ks.map fun b => (Ky.i b, f b) := by
  have go : ∀ (ks done : List Int), (done ++ ks).Nodup → (ks.map fun b => (Ky.i b, f b)).foldl (fun q p => aput q p.1 p.2) (done.map fun b => (Ky.i b, f b)) = (done ++ ks).map fun b => (Ky.i b, f b) := by
    intro ks
    induction ks with
    | nil => intro done _; simp
    | cons a ks ih =>
      intro done h
      rw [List.map_cons, List.foldl_cons]
      have : aput (done.map fun b => (Ky.i b, f b)) (.i a) (f a) = (done ++ [a]).map fun b => (Ky.i b, f b) := by
        unfold aput
        rw [form_keys, if_neg fun q => (List.nodup_append.mp h).2.2 a (ky_mem.mp q) a (.head _) rfl, List.map_append]; rfl
      rw [this, ih (done ++ [a]) (by simpa using h)]
      simp
  exact fun ks h => go ks [] h
theorem amerge_form {f f' : Int → α} {add : α → α → α} {l : List Int} {a : Int} {v : α} (h1 : a ∈ l → f' a = add (f a) v) (h2 : a ∉ l → f' a = v) (h3 : ∀ b, b ≠ a → f' b = f b) :
    amerge add ((tabK l).map fun b => (Ky.i b, f b)) [(.i a, v)] = (tabK (l ++ [a])).map fun b => (Ky.i b, f' b) := by
  unfold amerge
  rw [acopy_form _ (tabK_nodup l), List.foldl_cons, List.foldl_nil, aget_form, tabK_snoc]
  unfold aput tabStep
  rw [form_keys]
  by_cases h : a ∈ tabK l
  · rw [if_pos (ky_mem.mpr h), if_pos h, if_pos h, List.map_map]
    refine List.map_congr_left fun b hb => ?_
    by_cases q : b = a
    · subst q
      show (if Ky.i b = Ky.i b then (Ky.i b, add (f b) v) else (Ky.i b, f b)) = _
      rw [if_pos rfl, h1 (tabK_mem.mp h)]
    · show (if Ky.i b = Ky.i a then _ else (Ky.i b, f b)) = _
      rw [if_neg fun e => q (Ky.i.inj e), h3 b q]
  · rw [if_neg fun q => h (ky_mem.mp q), if_neg h, if_neg h, List.map_append]
    have e : (tabK l).map (fun b => (Ky.i b, f b)) = (tabK l).map fun b => (Ky.i b, f' b) := List.map_congr_left fun b hb => by rw [h3 b fun q => h (q ▸ hb)]
    rw [e]
    show _ ++ [(Ky.i a, v)] = _ ++ [(Ky.i a, f' a)]
    rw [h2 fun q => h (tabK_mem.mpr q)]
end
theorem tabT_snoc (l : List Int) (a : Int) : amerge (· + ·) (tabT l) [(.i a, 1)] = tabT (l ++ [a]) :=
  amerge_form (fun h => by rw [cntE_snoc, if_pos rfl]) (fun h => by rw [cntE_snoc, if_pos rfl, cntE_not h]; rfl) fun b h => by rw [cntE_snoc, if_neg (Ne.symm h)]; simp
theorem prsT_snoc (l : List Int) (a : Int) : amerge addP (prsT l) [(.i a, (a, -1))] = prsT (l ++ [a]) :=
  amerge_form (fun h => by rw [cntE_snoc, if_pos rfl]; unfold addP; simp only [Int.mul_add, Int.mul_one, Int.neg_add]) (fun h => by rw [cntE_snoc, if_pos rfl, cntE_not h]; simp) fun b h => by rw [cntE_snoc, if_neg (Ne.symm h)]; simp
theorem tabK_len (l : List Int) : (tabK l).length ≤ l.length := by
  have go : ∀ (l ks : List Int), (l.foldl tabStep ks).length ≤ ks.length + l.length := by
    intro l
    induction l with
    | nil => intro ks; exact Nat.le_refl _
    | cons a l ih =>
      intro ks
      have h := ih (tabStep ks a)
      have h2 : (tabStep ks a).length ≤ ks.length + 1 := by
        unfold tabStep
        split
        · exact Nat.le_succ _
        · rw [List.length_append]; exact Nat.le_refl _
      rw [List.foldl_cons, List.length_cons]
      lia
  have := go l []
  unfold tabK; simpa using this
theorem dmk_form {f : Int → D} : ∀ (l : List Int), dmk (l.map fun a => (Ky.i a, f a)) = ((tabK l).map Ky.i, (tabK l).map f) := by
  have go : ∀ (l done : List Int), dmk (done.map fun a => (Ky.i a, f a)) = ((tabK done).map Ky.i, (tabK done).map f) → dmk ((done ++ l).map fun a => (Ky.i a, f a)) = ((tabK (done ++ l)).map Ky.i, (tabK (done ++ l)).map f) := by
    intro l
    induction l with
    | nil => intro done h; simpa using h
    | cons a l ih =>
      intro done h
      have := ih (done ++ [a]) (by
        rw [List.map_append]
        show dmk (_ ++ [(Ky.i a, f a)]) = _
        rw [dmk_snoc, h, tabK_snoc]
        unfold dput tabStep
        by_cases q : a ∈ tabK done
        · rw [if_pos (ky_mem.mpr q), if_pos q]
          congr 1
          rw [List.zipWith_map, List.zipWith_self]
          refine List.map_congr_left fun b hb => ?_
          by_cases e : b = a
          · subst e; rw [if_pos rfl]
          · rw [if_neg fun q => e (Ky.i.inj q)]
        · rw [if_neg fun e => q (ky_mem.mp e), if_neg q, List.map_append, List.map_append]; rfl)
      simpa using this
  exact fun l => go l [] rfl
end Mine
end

section
namespace Mine
open PySem PySem.Challenge PySem.Calls PyProof.Rows
noncomputable def forBody : List Stmt → List Stmt
  | .For _ _ b _ _ :: _ => b
  | _ => []
noncomputable abbrev envL (cs : List Int) (l : List Int) : LEnv := ("row", .own (rowD (isort l))) :: ("table", .val (adict .int (tabT l))) :: ("pairs", .val (adict prD (prsT l))) :: envA cs
noncomputable abbrev envB (cs : List Int) (l : List Int) : LEnv := ("row", .val (rowD (isort l))) :: ("table", .val (adict .int (tabT l))) :: ("pairs", .val (adict prD (prsT l))) :: envA cs
theorem dfind_form {f : Int → D} {a : Int} : ∀ {ks : List Int}, dfind (.i a) (ks.map Ky.i) (ks.map f) = if a ∈ ks then some (f a) else none
  | [] => rfl
  | b :: ks => by
    rw [List.map_cons, List.map_cons, dfind]
    by_cases h : b = a
    · subst h; rw [if_pos rfl, if_pos (.head _)]
    · rw [if_neg (fun e => h (Ky.i.inj e)), dfind_form]
      by_cases q : a ∈ ks
      · rw [if_pos q, if_pos (.tail _ q)]
      · rw [if_neg q, if_neg (by simp [q, Ne.symm h])]
theorem deqD_form {f f' : Int → D} {ks : List Int} (h : ∀ a ∈ ks, deq 8 (f a) (f' a) = some true) : deqD (ks.map Ky.i) (ks.map f) (ks.map Ky.i) (ks.map f') = some true := by
  unfold deqD
  rw [if_pos rfl]
  refine deqd_all (by simp) fun k v hm => ?_
  rw [List.zip_map', List.mem_map] at hm
  obtain ⟨a, ha, e⟩ := hm
  obtain ⟨rfl, rfl⟩ := Prod.mk.inj e
  exact ⟨f' a, by rw [dfind_form, if_pos ha], h a ha⟩
theorem adict_form {α : Type} (φ : α → D) (f : Int → α) (ks : List Int) : adict φ (ks.map fun a => (Ky.i a, f a)) = .dict (ks.map Ky.i) (ks.map fun a => φ (f a)) := by
  unfold adict
  rw [List.map_map, List.map_map]; rfl
section
variable {G : Gl} {A : Around} {n : Nat} {mg mb : Str → Option Value} {cs l : List Int} {a : Int} {Q : FD → LEnv → Prop}
set_option maxHeartbeats 4000000 in
theorem run_tab_turn (hA : Room (n + 20) A) (M : Mod G mg mb) (L : AddFn G mg) (hl : l.length ≤ 10) (act : Act law_s (cellNames law_s.names)) :
    Run G A act (execs (forBody (law_b.drop 7)) act.env) (("label", .val (.int a)) :: envL cs l) fun fd ρ => fd = .next ∧ Has ρ (envL cs (l ++ [a])) := by
  have big : 1000 ≤ sizeLine := by decide
  have hkl := tabK_len l
  refine Run.cons (Run.expr (ρ' := ("row", .own (rowD (isort (l ++ [a])))) :: ("label", .val (.int a)) :: envL cs l) (EvX.ite (p := a % 2 == 0) (Te.cmp (Ev.bin (Ev.name rfl) (Ev.int 2) (Op2.mod (by decide))) (Ev.int 0) Cmp.eqI) (fun _ => ?_) fun _ => ?_) ?_)
  · exact EvX.call (EvV.glob M.N rfl M.f_insort_left.named) M.f_insort_left.callee rfl (.more (Ev.name rfl) .nil) (insort_left_ints (n := n + 18) M hA (by lia))
  · exact EvX.call (EvV.glob M.N rfl M.f_insort_right.named) M.f_insort_right.callee rfl (.more (Ev.name rfl) .nil) (insort_right_ints (n := n + 18) M hA (by lia))
  have d1 : ∀ {sc : Scope} {mc : List Str} {act : Act sc mc} {ρ : LEnv} {kx : Expr} {kk : Nat} {p pos : Pos}, Ev G A act ρ kx (.int a) → (∀ env, (evalEachOpt [some kx] env).zip ((evalEach [.Constant (.int 1) kk p] env).map fun v => do let x ← v; standAt pos; pure x) = [(some (eval kx env), (do let x ← eval (.Constant (.int 1) kk p) env; standAt pos; pure x))]) → EvO G A act ρ (.Dict [some kx] [.Constant (.int 1) kk p] pos) (adict .int [(.i a, 1)]) := fun h hsh => EvO.dict1 (k := .i a) h (Ev.int 1) hsh
  refine Run.cons (Run.assignTT hA (xs := ["old", "new"]) (.cons (by decide) (.cons (by decide) .nil)) (.o (d := adict .int (tabT l)) (EvO.call (EvV.blt M.N rfl M.b_dict.1 M.b_dict.2) (.type _) (.more (Ev.name (d := adict .int (tabT l)) rfl) .nil) (CallO.dict (by rw [List.length_map]; unfold tabT; rw [List.length_map]; lia)))
    (.o (d1 (Ev.name rfl) (by intro _; rfl)) .nil)) rfl (by decide) (show 2 ≤ sizeLine by decide) rfl ?_)
  refine Run.freeze "new" _ rfl (Run.freeze "old" _ rfl ?_)
  have tl : (tabT l).length ≤ 10 := by unfold tabT; rw [List.length_map]; lia
  have pl : (prsT l).length ≤ 10 := by unfold prsT; rw [List.length_map]; lia
  refine Run.cons (Run.assign (d := adict .int (tabT (l ++ [a]))) (Ev.eq (Ev.call (EvV.glob M.N rfl M.f_add_callers.named) M.f_add_callers.callee (.more (Ev.name (d := adict .int (tabT l)) rfl) (.more (Ev.name (d := adict .int [(.i a, 1)]) rfl) .nil)) (call_add_callers (n := n + 18) hA M (by show _ + 1 ≤ 1000; lia))) (by rw [tabT_snoc])) (by decide) ?_)
  have e1 : deqD ((tabT l).map (·.1)) ((tabT l).map fun p => D.int p.2) ((tabT l).map (·.1)) ((tabT l).map fun p => D.int p.2) = some true := by
    unfold tabT
    rw [List.map_map, List.map_map]
    exact deqD_form fun a _ => deq_int 8 _
  refine Run.cons (Run.ite (b := false) (Te.or2f (Te.eq (Te.cmp (Ev.name (d := adict .int (tabT l)) rfl) (Ev.name (d := adict .int (tabT l)) rfl) (Cmp.neD hA (r := true) e1)) rfl)
    (Te.eq (Te.cmp (Ev.name (d := adict .int [(.i a, 1)]) rfl) (EvO.ev (d1 (Ev.name rfl) (by intro _; rfl))) (Cmp.neD hA (r := true) (deqD_form (ks := [a]) (f := fun _ => .int 1) (f' := fun _ => .int 1) fun _ _ => deq_int 8 _))) rfl)) (fun h => nomatch h) fun _ => Run.nil ?_)
  refine Run.cons (Run.assignTT hA (xs := ["table", "pairs"]) (.cons (by decide) (.cons (by decide) .nil)) (.v (Ev.name rfl) (.v (d := adict prD (prsT (l ++ [a]))) (Ev.eq (Ev.call (EvV.glob M.N rfl M.f_add_callers.named) M.f_add_callers.callee (.more (Ev.name (d := adict prD (prsT l)) rfl) (.more (d := adict prD [(.i a, (a, -1))]) (EvO.ev (EvO.dict1 (k := .i a) (Ev.name rfl) (Ev.tuple (.more (Ev.name rfl) (.more (Ev.neg (Ev.int 1)) .nil))) (by intro _; rfl))) .nil)) (call_add_pairs (n := n + 17) hA M L (by show _ + 1 ≤ 1000; lia))) (by rw [prsT_snoc])) .nil)) rfl (by decide) (show 2 ≤ sizeLine by decide) rfl ?_)
  exact Run.nil ⟨rfl, Has.of rfl⟩
set_option maxHeartbeats 4000000 in
theorem run_tab (hA : Room (n + 20) A) (M : Mod G mg mb) (L : AddFn G mg) (hl : (labelsOf cs).length ≤ 10) (act : Act law_s (cellNames law_s.names)) (next : Run G A act (execs (law_b.drop 8) act.env) (envB cs (labelsOf cs)) Q) :
    Run G A act (execs (law_b.drop 6) act.env) (envA cs) Q := by
  refine Run.cons (Run.assignTT hA (xs := ["row", "table", "pairs"]) (.cons (by decide) (.cons (by decide) (.cons (by decide) .nil))) (.o (EvO.list .nil) (.o EvO.dict0 (.o EvO.dict0 .nil))) rfl (by decide) (show 3 ≤ sizeLine by decide) rfl ?_)
  refine Run.freeze "table" _ rfl (Run.freeze "pairs" _ rfl (Run.has (ρ₁ := envL cs []) ?_ (Has.of rfl)))
  refine Run.cons (Run.mono (Q := fun fd ρ => fd = .next ∧ Has ρ (envL cs (labelsOf cs))) ?_ ?_)
  · refine Run.forL (labelsOf cs) D.int (fun l : List Int => envL cs l) (fun done rest l => l = done) [] (Src.of hA (Ev.name rfl) (.list _)) rfl (Has.of rfl) (fun a l => ("label", .val (.int a)) :: envL cs l) (fun done a rest l e hI => ⟨Takes.name (by decide), ?_⟩) (fun l ρ' hI hh => ⟨rfl, hI ▸ hh⟩)
    subst hI
    refine (run_tab_turn (n := n) hA M L (by have := congrArg List.length e; simp at this; lia) act).mono fun fd ρ' ⟨e1, e2⟩ => ?_
    subst e1
    exact ⟨_, rfl, e2⟩
  rintro fd ρ ⟨rfl, hρ⟩
  refine Run.has ?_ hρ
  exact Run.freeze "row" _ rfl (Run.has next (Has.of rfl))
end
end Mine
end

section
namespace Mine
open PySem PySem.Challenge PySem.Calls PyProof.Rows
noncomputable def upsL (l : List Int) : List Int := (ri 1 5).map (cntR l)
noncomputable def sumK (l : List Int) (k : Int) : Int := (((tabK l).filter fun a => decide (a ≤ k)).map (cntE l)).sum
noncomputable def sumsL (l : List Int) : List Int := (ri 1 5).map (sumK l)
structure LabOk (l : List Int) : Prop where
  len : l.length = 4
  rng : ∀ a ∈ l, 1 ≤ a ∧ a ≤ 4
  sums : sumsL l = upsL l
theorem cntR_isort (l : List Int) (v : Int) : cntR (isort l) v = cntR l v := by
  unfold cntR
  rw [((isort_perm l).filter _).length_eq]
theorem cntL_isort (l : List Int) (v : Int) : cntL (isort l) v = cntL l v := by
  unfold cntL
  rw [((isort_perm l).filter _).length_eq]
theorem tabK_self : ∀ {ks : List Int}, ks.Nodup → tabK ks = ks := by
  have go : ∀ (ks done : List Int), (done ++ ks).Nodup → ks.foldl tabStep done = done ++ ks := by
    intro ks
    induction ks with
    | nil => intro done _; simp
    | cons a ks ih =>
      intro done h
      have : tabStep done a = done ++ [a] := by
        unfold tabStep
        rw [if_neg fun q => (List.nodup_append.mp h).2.2 a q a (.head _) rfl]
      rw [List.foldl_cons, this, ih _ (by simpa using h)]
      simp
  exact fun {ks} h => go ks [] h
theorem iter_form {f : Int → D} (ks : List Int) : Iter (.dict (ks.map Ky.i) (ks.map f)) (ks.map D.int) := by
  have := Iter.dict (ks.map Ky.i) (ks.map f)
  rw [List.map_map] at this
  exact this
theorem deq_prD (p : Int × Int) : deq 8 (prD p) (prD p) = some true := by
  show (if [D.int p.1, D.int p.2].length = [D.int p.1, D.int p.2].length then deqs (deq 7) [D.int p.1, D.int p.2] [D.int p.1, D.int p.2] else none) = some true
  rw [if_pos rfl]
  refine deqs_self fun d hd => ?_
  rcases List.mem_cons.mp hd with rfl | hd
  · exact deq_int 7 _
  · rw [List.mem_singleton.mp hd]; exact deq_int 7 _
noncomputable abbrev envC (cs l : List Int) : LEnv := ("ups", .val (rowD (upsL l))) :: ("row", .val (rowD (isort l))) :: envA cs
section
variable {G : Gl} {A : Around} {n : Nat} {mg mb : Str → Option Value} {cs l : List Int} {a : Int} {Q : FD → LEnv → Prop}
theorem SubD.tab (h : a ∈ tabK l) : SubD G A (adict .int (tabT l)) (.int a) (.int (cntE l a)) := by
  unfold tabT
  rw [adict_form]
  exact SubD.dict (k := .i a) (by rw [dfind_form (f := fun a => D.int (cntE l a)), if_pos h])
set_option maxHeartbeats 4000000 in
theorem run_ups (hA : Room (n + 20) A) (M : Mod G mg mb) (hl : labelsOf cs = l) (H : LabOk l) (act : Act law_s (cellNames law_s.names)) (next : Run G A act (execs (law_b.drop 12) act.env) (envC cs l) Q) :
    Run G A act (execs (law_b.drop 8) act.env) (envB cs l) Q := by
  have big : 1000 ≤ sizeLine := by decide
  have l4 := H.len
  have hkl := tabK_len l
  have kr : ∀ {sc : Scope} {mc : List Str} {act : Act sc mc} {ρ : LEnv} {tgt e : Expr}, Ev G A act ρ e (.range 1 5) → Src G A act ρ tgt e ((ri 1 5).map D.int) := fun he => Src.of hA he (.range (by decide) (by decide) (by decide) (by decide))
  have kl : (ri 1 5).length = 4 := by rfl
  subst hl
  refine Run.cons (Run.assignComp (CompRuns.list (ri 1 5) D.int (fun k => ("k", .val (.int k)) :: LEnv.inner _ _) (fun _ => true) (fun k => .int (cntR (labelsOf cs) k)) (kr (Ev.call (EvV.blt M.N rfl M.b_range.1 M.b_range.2) (.type _) (.more (Ev.int 1) (.more (Ev.int 5) .nil)) CallD.range2)) (by lia) (fun act' k hk => ⟨Takes.name (by decide), inner_keep1 (by decide), Tests.none, fun _ =>
    Ev.eq (Ev.call (EvV.blt M.N rfl M.b_len.1 M.b_len.2) (.builtin _) (.more (EvO.ev (EvO.lc (labelsOf cs) D.int (fun a => ("a", .val (.int a)) :: LEnv.inner _ _) (fun a => decide (a ≤ k)) D.int (Src.of hA (Ev.name rfl) (.list _)) (by lia) (fun act'' a ha => ⟨Takes.name (by decide), inner_keep1 (by decide), Tests.one (Te.cmp (Ev.name rfl) (Ev.name rfl) Cmp.le), fun _ => Ev.name rfl⟩) rfl)) .nil) (CallD.lenL (by rw [List.length_map]; exact Nat.le_trans (List.length_filter_le ..) (by lia)))) (by rw [List.length_map]; rfl)⟩) (by decide) (by intro _; rfl)) rfl (by intro _; rfl) (by decide) ?_ _ rfl)
  rw [filter_all, show (ri 1 5).map (fun k => D.int (cntR (labelsOf cs) k)) = (upsL (labelsOf cs)).map .int by unfold upsL; rw [List.map_map]; rfl]
  refine Run.freeze "ups" _ rfl (Run.has (ρ₁ := ("ups", .val (rowD (upsL (labelsOf cs)))) :: envB cs (labelsOf cs)) ?_ (Has.of rfl))
  refine Run.cons (Run.assignComp (CompRuns.list (ri 1 5) D.int (fun k => ("k", .val (.int k)) :: LEnv.inner _ _) (fun _ => true) (fun k => .int (sumK (labelsOf cs) k)) (kr (Ev.call (EvV.blt M.N rfl M.b_range.1 M.b_range.2) (.type _) (.more (Ev.int 1) (.more (Ev.int 5) .nil)) CallD.range2)) (by lia) (fun act' k hk => ⟨Takes.name (by decide), inner_keep1 (by decide), Tests.none, fun _ =>
    Ev.eq (Ev.call (EvV.glob M.N rfl M.f_count_calls.named) M.f_count_calls.callee (.more (d := adict .int (((tabK (labelsOf cs)).filter fun a => decide (a ≤ k)).map fun a => (Ky.i a, cntE (labelsOf cs) a))) (EvO.ev (EvO.dc (tabK (labelsOf cs)) D.int (fun a => ("a", .val (.int a)) :: LEnv.inner _ _) (fun a => decide (a ≤ k)) (fun a => .i a) (fun a => .int (cntE (labelsOf cs) a)) ?_ (by lia) (fun act'' a ha => ⟨Takes.name (by decide), inner_keep1 (by decide), Tests.one (Te.cmp (Ev.name rfl) (Ev.name rfl) Cmp.le), fun _ => ⟨Ev.name rfl, Ev.sub (Ev.name (d := adict .int (tabT (labelsOf cs))) rfl) (Ev.name rfl) (SubD.tab ha)⟩⟩) ?_)) .nil) (call_count (n := n + 18) hA M)) (by unfold sumK; rw [List.map_map]; rfl)⟩) (by decide) (by intro _; rfl)) rfl (by intro _; rfl) (by decide) ?_ _ rfl)
  · refine Src.of hA (Ev.name (d := adict .int (tabT (labelsOf cs))) rfl) ?_
    unfold tabT
    rw [adict_form]
    exact iter_form _
  · rw [dmk_form (f := fun a => D.int (cntE (labelsOf cs) a)), tabK_self ((List.filter_sublist ..).nodup (tabK_nodup _)), adict_form]
  rw [filter_all, show (ri 1 5).map (fun k => D.int (sumK (labelsOf cs) k)) = (sumsL (labelsOf cs)).map .int by unfold sumsL; rw [List.map_map]; rfl]
  refine Run.freeze "sums" _ rfl ?_
  have us : deq 8 (rowD (upsL (labelsOf cs))) (rowD (upsL (labelsOf cs))) = some true := by rw [deq_row, beq_self_eq_true]
  have hbr := fun k => cntR_isort (labelsOf cs) k
  have hil : (isort (labelsOf cs)).length = 4 := by rw [(isort_perm _).length_eq]; exact l4
  refine Run.cons (Run.ite (b := false) (Te.or3 (Te.eq (Te.cmp (Ev.name (d := rowD (isort (labelsOf cs))) rfl) (EvO.ev (EvO.call (EvV.blt M.N rfl M.b_sorted.1 M.b_sorted.2) (.builtin _) (.more (Ev.name rfl) .nil) (CallO.sorted (by lia)))) (Cmp.ne hA (r := true) (by rw [deq_row, beq_self_eq_true]))) rfl)
    (Te.eq (Te.cmp (Ev.name (d := rowD (sumsL (labelsOf cs))) rfl) (Ev.name (d := rowD (upsL (labelsOf cs))) rfl) (Cmp.ne hA (r := true) (by rw [H.sums]; exact us))) rfl)
    (Te.eq (Te.cmp (EvO.ev (EvO.lc (d := rowD (upsL (labelsOf cs))) (ri 1 5) D.int (fun k => ("k", .val (.int k)) :: LEnv.inner _ _) (fun _ => true) (fun k => .int (cntR (labelsOf cs) k)) (kr (Ev.call (EvV.blt M.N rfl M.b_range.1 M.b_range.2) (.type _) (.more (Ev.int 1) (.more (Ev.int 5) .nil)) CallD.range2)) (by lia) (fun act' k hk => ⟨Takes.name (by decide), inner_keep1 (by decide), Tests.none, fun _ => Ev.eq (Ev.call (EvV.glob M.N rfl M.f_bisect_right.named) M.f_bisect_right.callee (.more (Ev.name (d := rowD (isort (labelsOf cs))) rfl) (.more (Ev.name rfl) .nil)) (br2 (n := n + 19) M hA (by lia) (isort_le _))) (by rw [hbr])⟩) (by rw [filter_all]; unfold rowD upsL; rw [List.map_map]; rfl))) (Ev.name (d := rowD (upsL (labelsOf cs))) rfl) (Cmp.ne hA (r := true) us)) rfl)) (fun h => nomatch h) fun _ => Run.nil ?_)
  have ce : ∀ {sc : Scope} {mc : List Str} {act : Act sc mc} {ρ : LEnv} {a : Int}, ∀ e : Expr, EvO G A act ρ e (.list (((labelsOf cs).filter fun b => b == a).map D.int)) → ∀ {fx : Expr} {pos : Pos}, EvV G A act ρ fx (.builtin "len") → (eval (.Call fx [e] [] pos) act.env = (eval fx act.env >>= fun f => callWith pos f [] (backTo pos (starEach [e] act.env)) (backToKw pos (keywordEach [] act.env)))) → (∀ env, starEach [e] env = (false, eval e env) :: starEach [] env) → Ev G A act ρ (.Call fx [e] [] pos) (.int (cntE (labelsOf cs) a)) := fun e he fx pos hf h1 h2 =>
    Ev.eq (Ev.call hf (.builtin _) (.more (EvO.ev he) .nil h2) (CallD.lenL (by rw [List.length_map]; exact Nat.le_trans (List.length_filter_le ..) (by lia))) h1) (by rw [List.length_map]; rfl)
  refine Run.cons (Run.ite (b := false) (Te.eq (Te.cmp (Ev.name (d := adict prD (prsT (labelsOf cs))) rfl) (EvO.ev (EvO.dc (labelsOf cs) D.int (fun a => ("a", .val (.int a)) :: LEnv.inner _ _) (fun _ => true) (fun a => .i a) (fun a => prD (a * cntE (labelsOf cs) a, -cntE (labelsOf cs) a)) (Src.of hA (Ev.name rfl) (.list _)) (by lia) (fun act' a ha => ⟨Takes.name (by decide), inner_keep1 (by decide), Tests.none, fun _ => ⟨Ev.name rfl, ?_⟩⟩) rfl)) (Cmp.neD hA (r := true) ?_)) rfl) (fun h => nomatch h) fun _ => Run.nil ?_)
  · have hr := H.rng a ha
    refine Ev.tuple (.more (Ev.bin (Ev.name rfl) (ce _ (EvO.lc (labelsOf cs) D.int (fun b => ("b", .val (.int b)) :: LEnv.inner _ _) (fun b => b == a) D.int (Src.of hA (Ev.name rfl) (.list _)) (by lia) (fun act'' b hb => ⟨Takes.name (by decide), inner_keep1 (by decide), Tests.one (Te.cmp (Ev.name rfl) (Ev.name rfl) Cmp.eqI), fun _ => Ev.name rfl⟩) rfl) (EvV.blt M.N rfl M.b_len.1 M.b_len.2) rfl (by intro _; rfl)) (Op2.mul (mulOk_left (by lia) (by lia))))
      (.more (Ev.neg (ce _ (EvO.lc (labelsOf cs) D.int (fun b => ("b", .val (.int b)) :: LEnv.inner _ _) (fun b => b == a) D.int (Src.of hA (Ev.name rfl) (.list _)) (by lia) (fun act'' b hb => ⟨Takes.name (by decide), inner_keep1 (by decide), Tests.one (Te.cmp (Ev.name rfl) (Ev.name rfl) Cmp.eqI), fun _ => Ev.name rfl⟩) rfl) (EvV.blt M.N rfl M.b_len.1 M.b_len.2) rfl (by intro _; rfl))) .nil))
  · rw [filter_all, dmk_form (f := fun a => prD (a * cntE (labelsOf cs) a, -cntE (labelsOf cs) a))]
    unfold prsT
    rw [List.map_map, List.map_map]
    refine deqD_form fun a _ => ?_
    exact deq_prD _
  exact Run.has next (Has.of rfl)
end
end Mine
end

section
namespace Mine
open PySem PySem.Challenge PySem.Calls PyProof.Rows
section
variable {sc : Scope} {mc : List Str} {G : Gl} {A : Around} {act : Act sc mc} {ρ : LEnv}
theorem Run.lay4 {sts rest : List Stmt} {ds1 ds2 : List D} {d1 d2 : D} {k1 k2 : Nat} {Q : FD → LEnv → Prop}
    (h : EvXAs G A act sts (fun _ => ρ) (fun adr => ("right", .own d2) :: ("left", .own d1) :: ("behind", .own (.list (insAt k2 (.raw (.ref (adr "right"))) ds2))) :: ("ahead", .own (.list (insAt k1 (.raw (.ref (adr "left"))) ds1))) :: ρ))
    (hrest : Run G A act (execs rest act.env) (("behind", .own (.list (insAt k2 d2 ds2))) :: ("right", .val d2) :: ("ahead", .own (.list (insAt k1 d1 ds1))) :: ("left", .val d1) :: ρ) Q) :
    Run G A act (execs (sts ++ rest) act.env) ρ Q := fun kp adr S s O => by
  refine EvXAs.run (rest := rest) h O fun S' s' g O' => ?_
  obtain ⟨S1, g1, O1⟩ := O'.plug (x := "ahead") (y := "left") (k := k1) (ds := ds1) (d := d1) (by decide) rfl rfl
  obtain ⟨S2, g2, O2⟩ := O1.plug (x := "behind") (y := "right") (k := k2) (ds := ds2) (d := d2) (by decide) rfl rfl
  refine wpAny_mono (hrest kp adr S2 s' (O2.weaken fun z l hz => ?_)) (fun _ _ h => (h.pre g2).pre g1) fun _ _ e => e
  by_cases q1 : z = "behind"
  · subst q1; exact hz
  rw [lookup_cons_ne q1] at hz ⊢
  by_cases q2 : z = "right"
  · subst q2; exact hz
  rw [lookup_cons_ne q2] at hz ⊢
  by_cases q3 : z = "ahead"
  · subst q3; exact hz
  rw [lookup_cons_ne q3] at hz ⊢
  by_cases q4 : z = "left"
  · subst q4; exact hz
  rw [lookup_cons_ne q4] at hz ⊢
  rw [lookup_cons_ne q2, lookup_cons_ne q4, lookup_cons_ne q1, lookup_cons_ne q3]
  exact hz
end
section
variable {G : Gl} {A : Around} {n : Nat} {mg mb : Str → Option Value} {l : List Int} {v lo hi : Int}
theorem layL4 (M : Mod G mg mb) (hA : Room (n + 2) A) (hn : l.length ≤ 1000) (hs : l.Pairwise (· ≤ ·)) (h0 : 0 ≤ lo) (hl0 : lo ≤ l.length) (hh : hi ≤ l.length) {us : List Value} {u : Value} (hu : us.length = (l.map one1).length) :
    CallX G A (.ref 62) (.list (List.zipWith D.at us (l.map one1))) [.at u (one1 v), .int lo, .int hi] (.list (insAt (clampTo lo hi (cntL l v)).toNat (.at u (one1 v)) (List.zipWith D.at us (l.map one1)))) := by
  rw [List.length_map] at hu
  have hl : (List.zipWith D.at us (l.map one1)).length = l.length := by rw [List.length_zipWith, List.length_map, hu, Nat.min_self]
  have h := call_insort_left4 (lo := lo) (hi := hi) (hiD := .int hi) (ds := List.zipWith D.at us (l.map one1)) (x := .at u (one1 v)) (c := cntL l v) M hA (by rw [hl]; exact hn) h0 (.inl rfl) (by rw [hl]; exact hh) (by rw [hl]; exact hl0) (by rw [hl]; exact (cntL_le _ _).2) (fun A' i d hd hA' => by
    obtain ⟨u', e, rfl, he⟩ := zipWith_at_get hd
    rw [List.getElem?_map] at he
    cases q : l[i]? with
    | none => rw [q] at he; cases he
    | some y => rw [q] at he; cases he; rw [← cntL_at hs q]; exact Cmp.at (Cmp.lt1 hA'))
  exact h
theorem layR4 (M : Mod G mg mb) (hA : Room (n + 2) A) (hn : l.length ≤ 1000) (hs : l.Pairwise (· ≤ ·)) (h0 : 0 ≤ lo) (hl0 : lo ≤ l.length) (hh : hi ≤ l.length) {us : List Value} {u : Value} (hu : us.length = (l.map one1).length) :
    CallX G A (.ref 44) (.list (List.zipWith D.at us (l.map one1))) [.at u (one1 v), .int lo, .int hi] (.list (insAt (clampTo lo hi (cntR l v)).toNat (.at u (one1 v)) (List.zipWith D.at us (l.map one1)))) := by
  rw [List.length_map] at hu
  have hl : (List.zipWith D.at us (l.map one1)).length = l.length := by rw [List.length_zipWith, List.length_map, hu, Nat.min_self]
  have h := call_insort_right4 (lo := lo) (hi := hi) (hiD := .int hi) (ds := List.zipWith D.at us (l.map one1)) (x := .at u (one1 v)) (c := cntR l v) M hA (by rw [hl]; exact hn) h0 (.inl rfl) (by rw [hl]; exact hh) (by rw [hl]; exact hl0) (by rw [hl]; exact (cntR_le _ _).2) (fun A' i d hd hA' => by
    obtain ⟨u', e, rfl, he⟩ := zipWith_at_get hd
    rw [List.getElem?_map] at he
    cases q : l[i]? with
    | none => rw [q] at he; cases he
    | some y => rw [q] at he; cases he; rw [← cntR_at hs q]; exact Cmp.at (Cmp.lt1 hA'))
  exact h
end
end Mine
end

section
namespace Mine
open PySem PySem.Challenge PySem.Calls PyProof.Rows
noncomputable def loOf (cs : List Int) : Int := cAt cs 5 / 3 % 5
noncomputable def hiOf (cs : List Int) : Int := 4 - cAt cs 5 / 15 % 5
noncomputable def bds : List (Int × Int) := (ri 0 5).flatMap fun lo => (ri 0 5).map fun hi => (lo, hi)
noncomputable def bD (p : Int × Int) : D := .tuple [.int p.1, .int p.2]
noncomputable def putL (r : List Int) (m : Int) (k : Nat) : D := .list (insAt k (spanL (m, 0)) (r.map one1))
theorem bds_mem {p : Int × Int} (h : p ∈ bds) : 0 ≤ p.1 ∧ p.1 ≤ 4 ∧ 0 ≤ p.2 ∧ p.2 ≤ 4 := by
  have : ∀ k ∈ ri 0 5, 0 ≤ k ∧ k ≤ 4 := by decide
  unfold bds at h
  obtain ⟨a, ha, h⟩ := List.mem_flatMap.mp h
  obtain ⟨b, hb, rfl⟩ := List.mem_map.mp h
  have h1 := this a ha
  have h2 := this b hb
  exact ⟨h1.1, h1.2, h2.1, h2.2⟩
theorem deq_put (r : List Int) (m : Int) (k : Nat) : deq 7 (putL r m k) (putL r m k) = some true := deq_list 6 fun d hd => by
  have : ∃ x : List Int, d = rowD x := by
    rcases (insAt_perm k (spanL (m, 0)) (r.map one1)).mem_iff.mp hd with _ | ⟨_, hd⟩
    · exact ⟨[m, 0], rfl⟩
    · obtain ⟨i, _, rfl⟩ := List.mem_map.mp hd
      exact ⟨[i], rfl⟩
  obtain ⟨x, rfl⟩ := this
  rw [deq_row, beq_self_eq_true]
theorem ups_get {l : List Int} {m : Int} (h : 1 ≤ m ∧ m ≤ 4) : ((upsL l).map D.int)[(m - 1).toNat]? = some (.int (cntR l m)) := by
  have : m = 1 ∨ m = 2 ∨ m = 3 ∨ m = 4 := by lia
  rcases this with rfl | rfl | rfl | rfl <;> rfl
noncomputable abbrev envF (cs l : List Int) : LEnv := ("ups", .val (rowD (upsL l))) :: ("row", .val (rowD (isort l))) :: envA cs
section
variable {G : Gl} {A : Around} {n : Nat} {mg mb : Str → Option Value} {cs l : List Int} {a : Int} {Q : FD → LEnv → Prop}
set_option maxHeartbeats 4000000 in
theorem run_bounds (hA : Room (n + 20) A) (M : Mod G mg mb) (hl : labelsOf cs = l) (H : LabOk l) (act : Act law_s (cellNames law_s.names)) (next : Run G A act (execs (law_b.drop 16) act.env) (("mine", .val (.int (hdOf l))) :: ("less", .val (.int (cntL l (hdOf l)))) :: envF cs l) Q) :
    Run G A act (execs (law_b.drop 12) act.env) (envC cs l) Q := by
  have big : 1000 ≤ sizeLine := by decide
  have l4 := H.len
  subst hl
  have l0 : 0 < (labelsOf cs).length := by lia
  have hm := H.rng _ (List.mem_of_getElem? (hd_get l0))
  have hil : (isort (labelsOf cs)).length = 4 := by rw [(isort_perm _).length_eq]; exact l4
  refine Run.cons (Run.assignTT hA (xs := ["mine", "less"]) (.cons (by decide) (.cons (by decide) .nil)) (.v (Ev.sub (Ev.name (d := rowD (labelsOf cs)) rfl) (Ev.int 0) (SubD.hd l0)) (.v (d := .int (cntL (labelsOf cs) (hdOf (labelsOf cs)))) (Ev.eq (Ev.call (EvV.blt M.N rfl M.b_len.1 M.b_len.2) (.builtin _) (.more (EvO.ev (EvO.lc (labelsOf cs) D.int (fun a => ("a", .val (.int a)) :: LEnv.inner _ _) (fun a => decide (a < hdOf (labelsOf cs))) D.int (Src.of hA (Ev.name rfl) (.list _)) (by lia) (fun act'' a ha => ⟨Takes.name (by decide), inner_keep1 (by decide), Tests.one (Te.cmp (Ev.name rfl) (Ev.sub (Ev.name (d := rowD (labelsOf cs)) rfl) (Ev.int 0) (SubD.hd l0)) Cmp.lt), fun _ => Ev.name rfl⟩) rfl)) .nil) (CallD.lenL (by rw [List.length_map]; exact Nat.le_trans (List.length_filter_le ..) (by lia)))) (by rw [List.length_map]; rfl)) .nil)) rfl (by decide) (show 2 ≤ sizeLine by decide) rfl ?_)
  generalize hmi : hdOf (labelsOf cs) = m at hm next ⊢
  let E0 : LEnv := ("mine", .val (.int m)) :: ("less", .val (.int (cntL (labelsOf cs) m))) :: envF cs (labelsOf cs)
  refine Run.has (ρ₁ := E0) ?_ (Has.of rfl)
  have kr : ∀ {sc : Scope} {mc : List Str} {act : Act sc mc} {ρ : LEnv} {tgt e : Expr}, Ev G A act ρ e (.range 0 5) → Src G A act ρ tgt e ((ri 0 5).map D.int) := fun he => Src.of hA he (.range (by decide) (by decide) (by decide) (by decide))
  have k5 : (ri 0 5).length = 5 := by rfl
  refine Run.cons (Run.assignComp (CompRuns.two (ri 0 5) D.int (fun lo => ("lo", .val (.int lo)) :: LEnv.inner _ _) (fun _ => true) (fun lo => (ri 0 5).map fun hi => bD (lo, hi)) (kr (Ev.call (EvV.blt M.N rfl M.b_range.1 M.b_range.2) (.type _) (.more (Ev.int 5) .nil) CallD.range1)) ?_ (fun act' lo hlo => ⟨Takes.name (by decide), inner_keep1 (by decide), Tests.none, fun _ ds hds => ?_⟩) (by decide) (by intro _; rfl)) rfl (by intro _; rfl) (by decide) ?_ _ rfl)
  · exact Nat.le_trans (Nat.le_of_eq (by rfl)) (show 25 ≤ sizeLine by decide)
  · refine App.innerE (ri 0 5) D.int (fun hi => ("hi", .val (.int hi)) :: _) (fun _ => true) (fun hi => bD (lo, hi)) (kr (Ev.call (EvV.blt M.N rfl M.b_range.1 M.b_range.2) (.type _) (.more (Ev.int 5) .nil) CallD.range1)) (by rw [List.length_map] at hds; exact hds) (by intro _; rfl) (fun hi hhi => ⟨Takes.name (by decide), ?_, Tests.none, fun _ => Ev.tuple (.more (Ev.name rfl) (.more (Ev.name rfl) .nil))⟩) (by rw [filter_all])
    intro y l h
    by_cases q : y = "hi"
    · subst q
      exact absurd rfl (inner_not (scope := _) (x := "hi") (by decide) (show List.lookup _ (LEnv.inner _ _) = some l from h))
    · rw [lookup_cons_ne q]; exact h
  rw [filter_all, show ((ri 0 5).flatMap fun lo => (ri 0 5).map fun hi => bD (lo, hi)) = bds.map bD by rfl]
  refine Run.freeze "bounds" _ rfl (Run.has (ρ₁ := ("bounds", .val (.list (bds.map bD))) :: E0) ?_ (Has.of rfl))
  have bl : bds.length ≤ sizeLine := Nat.le_trans (Nat.le_of_eq (show bds.length = 25 by rfl)) (by decide)
  have side : ∀ c : Int, deq 8 (.list (bds.map fun p => D.int (clampTo p.1 p.2 c))) (.list (bds.map fun p => D.int (clampTo p.1 p.2 c))) = some true := fun c => deq_list 7 fun d hd => by
    obtain ⟨p, _, rfl⟩ := List.mem_map.mp hd
    exact deq_int 7 _
  refine Run.cons (Run.ite (b := false) (Te.eq (Te.cmp (EvO.ev (EvO.lc (d := .list (bds.map fun p => D.int (clampTo p.1 p.2 (cntL (labelsOf cs) m)))) bds bD (fun p => bindLs ["lo", "hi"] [.val (.int p.1), .val (.int p.2)] (LEnv.inner _ _)) (fun _ => true) (fun p => .int (clampTo p.1 p.2 (cntL (labelsOf cs) m))) (Src.of hA (Ev.name rfl) (.list _)) bl (fun act' p hp => ⟨Takes.tuple (ds := [.int p.1, .int p.2]) hA (.cons (by decide) (.cons (by decide) .nil)) rfl, inner_keep2 (by decide) (by decide), Tests.none, fun _ =>
      Ev.eq (Ev.call (EvV.glob M.N rfl M.f_bisect_left.named) M.f_bisect_left.callee (.more (Ev.name (d := rowD (isort (labelsOf cs))) rfl) (.more (Ev.name rfl) (.more (Ev.name rfl) (.more (Ev.name rfl) .nil)))) (bl4 (n := n + 19) M hA (by lia) (isort_le _) (bds_mem hp).1 (by have := (bds_mem hp).2.2.2; lia))) (by rw [cntL_isort])⟩) (by rw [filter_all])))
    (EvO.ev (EvO.lc (d := .list (bds.map fun p => D.int (clampTo p.1 p.2 (cntL (labelsOf cs) m)))) bds bD (fun p => bindLs ["lo", "hi"] [.val (.int p.1), .val (.int p.2)] (LEnv.inner _ _)) (fun _ => true) (fun p => .int (clampTo p.1 p.2 (cntL (labelsOf cs) m))) (Src.of hA (Ev.name rfl) (.list _)) bl (fun act' p hp => ⟨Takes.tuple (ds := [.int p.1, .int p.2]) hA (.cons (by decide) (.cons (by decide) .nil)) rfl, inner_keep2 (by decide) (by decide), Tests.none, fun _ =>
      Ev.call (EvV.blt M.N rfl M.b_max.1 M.b_max.2) (.builtin _) (.more (Ev.name rfl) (.more (Ev.call (EvV.blt M.N rfl M.b_min.1 M.b_min.2) (.builtin _) (.more (Ev.name rfl) (.more (Ev.name rfl) .nil)) (CallD.min2 hA)) .nil)) (CallD.max2 hA)⟩) (by rw [filter_all]))) (Cmp.ne hA (r := true) (side _))) rfl) (fun h => nomatch h) fun _ => Run.nil ?_)
  refine Run.cons (Run.ite (b := false) (Te.eq (Te.cmp (EvO.ev (EvO.lc (d := .list (bds.map fun p => D.int (clampTo p.1 p.2 (cntR (labelsOf cs) m)))) bds bD (fun p => bindLs ["lo", "hi"] [.val (.int p.1), .val (.int p.2)] (LEnv.inner _ _)) (fun _ => true) (fun p => .int (clampTo p.1 p.2 (cntR (labelsOf cs) m))) (Src.of hA (Ev.name rfl) (.list _)) bl (fun act' p hp => ⟨Takes.tuple (ds := [.int p.1, .int p.2]) hA (.cons (by decide) (.cons (by decide) .nil)) rfl, inner_keep2 (by decide) (by decide), Tests.none, fun _ =>
      Ev.eq (Ev.call (EvV.glob M.N rfl M.f_bisect_right.named) M.f_bisect_right.callee (.more (Ev.name (d := rowD (isort (labelsOf cs))) rfl) (.more (Ev.name rfl) (.more (Ev.name rfl) (.more (Ev.name rfl) .nil)))) (br4 (n := n + 19) M hA (by lia) (isort_le _) (bds_mem hp).1 (by have := (bds_mem hp).2.2.2; lia))) (by rw [cntR_isort])⟩) (by rw [filter_all])))
    (EvO.ev (EvO.lc (d := .list (bds.map fun p => D.int (clampTo p.1 p.2 (cntR (labelsOf cs) m)))) bds bD (fun p => bindLs ["lo", "hi"] [.val (.int p.1), .val (.int p.2)] (LEnv.inner _ _)) (fun _ => true) (fun p => .int (clampTo p.1 p.2 (cntR (labelsOf cs) m))) (Src.of hA (Ev.name rfl) (.list _)) bl (fun act' p hp => ⟨Takes.tuple (ds := [.int p.1, .int p.2]) hA (.cons (by decide) (.cons (by decide) .nil)) rfl, inner_keep2 (by decide) (by decide), Tests.none, fun _ =>
      Ev.call (EvV.blt M.N rfl M.b_max.1 M.b_max.2) (.builtin _) (.more (Ev.name rfl) (.more (Ev.call (EvV.blt M.N rfl M.b_min.1 M.b_min.2) (.builtin _) (.more (Ev.name rfl) (.more (Ev.sub (Ev.name (d := rowD (upsL (labelsOf cs))) rfl) (Ev.bin (Ev.name rfl) (Ev.int 1) Op2.sub) (SubD.list (by lia) (by lia) (ups_get hm))) .nil)) (CallD.min2 hA)) .nil)) (CallD.max2 hA)⟩) (by rw [filter_all]))) (Cmp.ne hA (r := true) (side _))) rfl) (fun h => nomatch h) fun _ => Run.nil ?_)
  exact Run.has next (Has.of rfl)
end
end Mine
end

section
namespace Mine
open PySem PySem.Challenge PySem.Calls PyProof.Rows
section
variable {G : Gl} {A : Around} {n : Nat} {mg mb : Str → Option Value} {cs l : List Int} {a m : Int} {Q : FD → LEnv → Prop}
set_option maxHeartbeats 4000000 in
theorem run_lay (hA : Room (n + 20) A) (M : Mod G mg mb) (hcs : cs.length = 6) (l4 : l.length = 4) (hm : 1 ≤ m ∧ m ≤ 4) (act : Act law_s (cellNames law_s.names)) (next : Run G A act (execs (law_b.drop 23) act.env) (envF cs l) Q) :
    Run G A act (execs (law_b.drop 16) act.env) (("mine", .val (.int m)) :: ("less", .val (.int (cntL l m))) :: envF cs l) Q := by
  have big : 1000 ≤ sizeLine := by decide
  have hil : (isort l).length = 4 := by rw [(isort_perm _).length_eq]; exact l4
  have lo0 : 0 ≤ loOf cs ∧ loOf cs ≤ 4 := by unfold loOf; lia
  have hi0 : 0 ≤ hiOf cs ∧ hiOf cs ≤ 4 := by unfold hiOf; lia
  have c5 : ∀ {sc : Scope} {mc : List Str} {act : Act sc mc} {ρ : LEnv} {e : Expr} {k : Nat} {p pos : Pos}, Ev G A act ρ e (.list (cs.map .int)) → Ev G A act ρ (.Subscript e (.Constant (.int 5) k p) pos) (.int (cAt cs 5)) := fun he => Ev.cell (j := 5) hcs (by decide) (by decide) he (Ev.int 5)
  refine Run.cons (Run.assignTT hA (xs := ["lo", "hi", "left", "right"]) (.cons (by decide) (.cons (by decide) (.cons (by decide) (.cons (by decide) .nil)))) (.v (d := .int (loOf cs)) (Ev.bin (Ev.bin (c5 (Ev.name rfl)) (Ev.int 3) (Op2.fdiv (by decide) (by decide))) (Ev.int 5) (Op2.mod (by decide)))
    (.v (d := .int (hiOf cs)) (Ev.bin (Ev.int 4) (Ev.bin (Ev.bin (c5 (Ev.name rfl)) (Ev.int 15) (Op2.fdiv (by decide) (by decide))) (Ev.int 5) (Op2.mod (by decide))) Op2.sub) (.o (d := one1 m) (EvO.list (.more (Ev.name rfl) .nil)) (.o (d := one1 m) (EvO.list (.more (Ev.name rfl) .nil)) .nil)))) rfl (by decide) (show 4 ≤ sizeLine by decide) rfl ?_)
  refine Run.cons (Run.assignTT hA (xs := ["ahead", "behind"]) (.cons (by decide) (.cons (by decide) .nil)) (.o (d := .list ((isort l).map one1)) (EvO.lc (isort l) D.int (fun i => ("a", .val (.int i)) :: LEnv.inner _ _) (fun _ => true) one1 (Src.of hA (Ev.name rfl) (.list _)) (by lia) (fun act' k hk => ⟨Takes.name (by decide), inner_keep1 (by decide), Tests.none, fun _ => EvO.ev (EvO.list (.more (Ev.name rfl) .nil))⟩) (by rw [filter_all]))
    (.o (d := .list ((isort l).map one1)) (EvO.lc (isort l) D.int (fun i => ("a", .val (.int i)) :: LEnv.inner _ _) (fun _ => true) one1 (Src.of hA (Ev.name rfl) (.list _)) (by lia) (fun act' k hk => ⟨Takes.name (by decide), inner_keep1 (by decide), Tests.none, fun _ => EvO.ev (EvO.list (.more (Ev.name rfl) .nil))⟩) (by rw [filter_all])) .nil)) rfl (by decide) (show 2 ≤ sizeLine by decide) rfl ?_)
  let E0 : LEnv := ("mine", .val (.int m)) :: ("less", .val (.int (cntL l m))) :: ("lo", .val (.int (loOf cs))) :: ("hi", .val (.int (hiOf cs))) :: envF cs l
  let E1 : LEnv := ("behind", .own (.list ((isort l).map one1))) :: ("ahead", .own (.list ((isort l).map one1))) :: ("right", .own (one1 m)) :: ("left", .own (one1 m)) :: E0
  refine Run.has (ρ₁ := E1) ?_ (Has.of rfl)
  let kL : Nat := (clampTo (loOf cs) (hiOf cs) (cntL l m)).toNat
  let kR : Nat := (clampTo (loOf cs) (hiOf cs) (cntR l m)).toNat
  refine Run.lay4 (k1 := kL) (k2 := kR) (ds1 := (isort l).map one1) (ds2 := (isort l).map one1) (d1 := spanL (m, 0)) (d2 := spanL (m, 0)) (sts := (law_b.drop 18).take 4) (rest := law_b.drop 22) (ρ := E1) ?_ ?_
  · refine EvXAs.more (ρ₁ := fun adr => ("ahead", .own (.list (insAt kL (.raw (.ref (adr "left"))) ((isort l).map one1)))) :: E1) (EvXA.lay (pd := one1 m) (more := [.int (loOf cs), .int (hiOf cs)]) (fun adr => EvV.glob M.N rfl M.f_insort_left.named) M.f_insort_left.callee (fun adr => rfl) (fun adr => rfl) (by decide) (fun adr => .more (Ev.name rfl) (.more (Ev.name rfl) .nil)) fun us v hu => ?_) ?_
    · have := layL4 (n := n + 18) M hA (l := isort l) (by lia) (isort_le l) lo0.1 (by lia) (by lia : hiOf cs ≤ (isort l).length) (us := us) (u := v) (v := m) hu
      rw [cntL_isort] at this
      exact this
    refine EvXAs.more (ρ₁ := fun adr => ("behind", .own (.list (insAt kR (.raw (.ref (adr "right"))) ((isort l).map one1)))) :: ("ahead", .own (.list (insAt kL (.raw (.ref (adr "left"))) ((isort l).map one1)))) :: E1) (EvXA.lay (pd := one1 m) (more := [.int (loOf cs), .int (hiOf cs)]) (fun adr => EvV.glob M.N rfl M.f_insort_right.named) M.f_insort_right.callee (fun adr => rfl) (fun adr => rfl) (by decide) (fun adr => .more (Ev.name rfl) (.more (Ev.name rfl) .nil)) fun us v hu => ?_) ?_
    · have := layR4 (n := n + 18) M hA (l := isort l) (by lia) (isort_le l) lo0.1 (by lia) (by lia : hiOf cs ≤ (isort l).length) (us := us) (u := v) (v := m) hu
      rw [cntR_isort] at this
      exact this
    refine EvXAs.more (EvXA.of fun adr => EvX.append (d := .int 0) (ds := [.int m]) rfl (Ev.int 0) (show 1 ≤ sizeLine by decide)) (EvXAs.more (EvXA.of fun adr => EvX.append (d := .int 0) (ds := [.int m]) rfl (Ev.int 0) (show 1 ≤ sizeLine by decide)) .nil)
  · refine Run.freeze "ahead" (putL (isort l) m kL) rfl (Run.freeze "behind" (putL (isort l) m kR) rfl ?_)
    refine Run.has (ρ₁ := ("behind", .val (putL (isort l) m kR)) :: ("ahead", .val (putL (isort l) m kL)) :: E0) ?_ (Has.of rfl)
    have hcl : ∀ c : Int, max (loOf cs) (min (hiOf cs) c) = ((clampTo (loOf cs) (hiOf cs) c).toNat : Int) := fun c => by unfold clampTo; lia
    refine Run.cons (Run.ite (b := false) (Te.eq (Te.cmp (b := .list [putL (isort l) m kL, putL (isort l) m kR]) (EvO.ev (EvO.list (.more (Ev.name rfl) (.more (Ev.name rfl) .nil)))) (EvO.ev (EvO.lc [cntL l m, cntR l m] D.int (fun k => ("n", .val (.int k)) :: LEnv.inner _ _) (fun _ => true) (fun k => putL (isort l) m (clampTo (loOf cs) (hiOf cs) k).toNat) (Src.of hA (Ev.tuple (.more (Ev.name rfl) (.more (Ev.sub (Ev.name (d := rowD (upsL l)) rfl) (Ev.bin (Ev.name rfl) (Ev.int 1) Op2.sub) (SubD.list (by lia) (by lia) (ups_get hm))) .nil))) (.tuple _)) (show 2 ≤ sizeLine by decide)
      (fun act' k hk => ⟨Takes.name (by decide), inner_keep1 (by decide), Tests.none, fun _ => Ev.call (EvV.glob M.N rfl M.f_law_put.named) M.f_law_put.callee (.more (Ev.name (d := rowD (isort l)) rfl) (.more (Ev.eq (Ev.call (EvV.blt M.N rfl M.b_max.1 M.b_max.2) (.builtin _) (.more (Ev.name rfl) (.more (Ev.call (EvV.blt M.N rfl M.b_min.1 M.b_min.2) (.builtin _) (.more (Ev.name rfl) (.more (Ev.name rfl) .nil)) (CallD.min2 hA)) .nil)) (CallD.max2 hA)) (congrArg D.int (hcl k))) (.more (Ev.name rfl) .nil))) (call_law_put (n := n + 18) hA M (by lia))⟩) (by rw [filter_all]; rfl))) (Cmp.ne hA (r := true) (deq_list 7 fun d hd => ?_))) rfl) (fun h => nomatch h) fun _ => Run.nil ?_)
    · rcases List.mem_cons.mp hd with rfl | hd
      · exact deq_put _ _ _
      · rw [List.mem_singleton.mp hd]; exact deq_put _ _ _
    exact Run.has next (Has.of rfl)
end
end Mine
end

section
namespace Mine
open PySem PySem.Challenge PySem.Calls PyProof.Rows
structure LawAct (G : Gl) (mg : Str → Option Value) (A : Around) (act : Act law_s (cellNames law_s.names)) : Prop where
  fr : A.frames = some [act.env]
  own : act.env.frame = some act.env.locals
noncomputable def parksB (l : List Int) : Bool := ((ri 1 5).filter fun k => decide (cntR l k < k)).isEmpty
noncomputable def turnedL (l : List Int) (i : Nat) : List Int := l.take i ++ [l.getD (i + 1) 0, l.getD i 0] ++ l.drop (i + 2)
noncomputable def firstG (gs : List Grp) : Grp := gs.getD 0 ⟨[], ⟨0, 0, 0, 0, []⟩⟩
structure LastOk (pc : Int → Str) (ow : Int → Int) (l : List Int) (i : Nat) : Prop where
  r1 : RunsOk pc ow l [initSt ow]
  r2 : RunsOk pc ow (turnedL l i) [initSt ow]
  l1 : ((runsOf ow l).length : Int) = b2i (parksB l)
  l2 : ((runsOf ow (turnedL l i)).length : Int) = b2i (parksB l)
  pairs : ∀ p ∈ (runsOf ow l).zip (runsOf ow (turnedL l i)), p.1.2.length = 4 ∧ p.2.2.length = 4 ∧
    (ri 0 4).filter (fun t => (p.1.2.getD t.toNat []) != (p.2.2.getD t.toNat [])) = (List.replicate (b2i (l.getD i 0 != l.getD (i + 1) 0)).toNat [(i : Int)]).flatten ∧
    (∀ g ∈ [p.1.1, p.2.1], 0 < g.length ∧ ((firstG g).st.by_.map (·.2)).sum = 5)
section
variable {G : Gl} {A : Around} {n : Nat} {mg mb : Str → Option Value} {cs l : List Int} {a m : Int} {i : Nat} {Q : FD → LEnv → Prop}
set_option maxHeartbeats 4000000 in
theorem run_try (hA : Room (n + 20) A) (M : Mod G mg mb) (hcs : cs.length = 6) (hl : labelsOf cs = l) (l4 : l.length = 4) (act : Act law_s (cellNames law_s.names)) (LA : LawAct G mg A act) (next : Run G A act (execs (law_b.drop 25) act.env) (("parks", .val (.bool (parksB l))) :: ("words", .val (.str "lo must be non-negative")) :: envA cs) Q) :
    Run G A act (execs (law_b.drop 23) act.env) (envF cs l) Q := by
  have big : 1000 ≤ sizeLine := by decide
  have i0 : 0 ≤ iOf cs ∧ iOf cs < 3 := by unfold iOf; lia
  refine Run.cons (Run.tryE hA M.N M.b_ValueError M.b_str (w := "lo must be non-negative") (EvE.ite (p := cAt cs 5 % 2 == 0) (Te.cmp (Ev.bin (Ev.cell (j := 5) hcs (by decide) (by decide) (Ev.name rfl) (Ev.int 5)) (Ev.int 2) (Op2.mod (by decide))) (Ev.int 0) Cmp.eqI) (fun _ => ?_) fun _ => ?_) LA.fr LA.own rfl rfl rfl (by decide) (by decide) rfl ?_)
  · exact EvE.call LA.fr LA.own (EvV.glob M.N rfl M.f_bisect_left.named) M.f_bisect_left.callee (.more (Ev.name rfl) (.more (Ev.int 2) (.more (Ev.bin (Ev.neg (Ev.int 1)) (Ev.name rfl) Op2.sub) .nil))) (raise_bisect_left3 (n := n + 19) M hA (by lia))
  · exact EvE.call LA.fr LA.own (EvV.glob M.N rfl M.f_bisect_right.named) M.f_bisect_right.callee (.more (Ev.name rfl) (.more (Ev.int 2) (.more (Ev.bin (Ev.neg (Ev.int 1)) (Ev.name rfl) Op2.sub) (.more (Ev.int 4) .nil)))) (raise_bisect_right4 (n := n + 19) M hA (by lia))
  have kr : ∀ {sc : Scope} {mc : List Str} {act : Act sc mc} {ρ : LEnv} {tgt e : Expr}, Ev G A act ρ e (.range 1 5) → Src G A act ρ tgt e ((ri 1 5).map D.int) := fun he => Src.of hA he (.range (by decide) (by decide) (by decide) (by decide))
  have km : ∀ k ∈ ri 1 5, 1 ≤ k ∧ k ≤ 4 := by decide
  refine Run.cons (Run.assign (d := .bool (parksB l)) (Ev.cmp (EvO.ev (EvO.lc (ri 1 5) D.int (fun k => ("k", .val (.int k)) :: LEnv.inner _ _) (fun k => decide (cntR l k < k)) D.int (kr (Ev.call (EvV.blt M.N rfl M.b_range.1 M.b_range.2) (.type _) (.more (Ev.int 1) (.more (Ev.int 5) .nil)) CallD.range2)) (Nat.le_trans (Nat.le_of_eq (show (ri 1 5).length = 4 by rfl)) (by decide)) (fun act' k hk => ⟨Takes.name (by decide), inner_keep1 (by decide), Tests.one (Te.cmp (Ev.sub (Ev.name (d := rowD (upsL l)) rfl) (Ev.bin (Ev.name rfl) (Ev.int 1) Op2.sub) (SubD.list (by have := km k hk; lia) (by have := km k hk; lia) (ups_get (km k hk)))) (Ev.name rfl) Cmp.lt), fun _ => Ev.name rfl⟩) rfl)) (EvO.ev (EvO.list .nil)) (Cmp.eq hA (by rw [deq_nil, List.isEmpty_map]; rfl))) (by decide) ?_)
  exact Run.has next (Has.of rfl)
end
end Mine
end

section
namespace Mine
open PySem PySem.Challenge PySem.Calls PyProof.Rows
noncomputable def rowsD (rows : List (List Int)) : D := .list (rows.map rowD)
theorem deq_rowsL (n : Nat) : ∀ (x y : List (List Int)), x.length = y.length → deqs (deq (n + 1)) (x.map rowD) (y.map rowD) = some (x == y)
  | [], [], _ => rfl
  | a :: x, b :: y, h => by
    rw [List.map_cons, List.map_cons, deqs, deq_row n a b, deq_rowsL n x y (by simpa using h)]
    rfl
  | [], _ :: _, h => by simp at h
  | _ :: _, [], h => by simp at h
theorem deq_rows (n : Nat) (x y : List (List Int)) : deq (n + 2) (rowsD x) (rowsD y) = some (x == y) := by
  show (if (x.map rowD).length = (y.map rowD).length then deqs (deq (n + 1)) (x.map rowD) (y.map rowD) else some false) = _
  rw [List.length_map, List.length_map]
  by_cases h : x.length = y.length
  · rw [if_pos h, deq_rowsL n x y h]
  · rw [if_neg h, beq_eq_false_iff_ne.mpr fun e => h (by rw [e])]
theorem zipDs_zip {α β : Type} (f : α → D) (g : β → D) : ∀ (xs : List α) (ys : List β), zipDs (xs.map f) (ys.map g) = (xs.zip ys).map fun p => D.tuple [f p.1, g p.2]
  | [], _ => rfl
  | _ :: _, [] => rfl
  | x :: xs, y :: ys => congrArg (List.cons (D.tuple [f x, g y])) (zipDs_zip f g xs ys)
noncomputable abbrev envR (cs : List Int) (r1 r2 : List State) : LEnv := ("runs", .val (statesD r1)) :: ("others", .val (statesD r2)) :: envA cs
section
variable {G : Gl} {A : Around} {n : Nat} {mg mb : Str → Option Value} {cs l : List Int} {a m : Int} {i : Nat} {p : State × State} {r1 r2 : List State} {Q : FD → LEnv → Prop}
theorem lab_get {l : List Int} {k : Nat} (h : k < l.length) : (l.map D.int)[k]? = some (.int (l.getD k 0)) := by
  rw [List.getElem?_map, List.getElem?_eq_getElem h, List.getD_eq_getElem?_getD, List.getElem?_eq_getElem h]; rfl
set_option maxHeartbeats 4000000 in
theorem run_last_turn (hA : Room (n + 20) A) (M : Mod G mg mb) (hl : labelsOf cs = l) (l4 : l.length = 4) (hi : iOf cs = (i : Int)) (hi3 : i < 3) (s1 : p.1.2.length = 4) (s2 : p.2.2.length = 4)
    (sd : (ri 0 4).filter (fun t => (p.1.2.getD t.toNat []) != (p.2.2.getD t.toNat [])) = (List.replicate (b2i (l.getD i 0 != l.getD (i + 1) 0)).toNat [(i : Int)]).flatten)
    (gd : ∀ g ∈ [p.1.1, p.2.1], 0 < g.length ∧ ((firstG g).st.by_.map (·.2)).sum = 5) (act : Act law_s (cellNames law_s.names)) :
    Run G A act (execs (forBody (law_b.drop 29)) act.env) (bindLs ["one", "two"] [.val (stateD p.1), .val (stateD p.2)] (envR cs r1 r2)) fun fd ρ => fd = .next ∧ Has ρ (envR cs r1 r2) := by
  have big : 1000 ≤ sizeLine := by decide
  subst hl
  refine Run.cons (Run.unpack (ds := [grpsD p.1.1, storyD p.1.2]) hA (Ev.name (d := stateD p.1) rfl) (xs := ["groups", "story"]) (.cons (by decide) (.cons (by decide) .nil)) rfl ?_)
  refine Run.cons (Run.unpack (ds := [grpsD p.2.1, storyD p.2.2]) hA (Ev.name (d := stateD p.2) rfl) (xs := ["more", "tale"]) (.cons (by decide) (.cons (by decide) .nil)) rfl ?_)
  let E0 : LEnv := ("groups", .val (grpsD p.1.1)) :: ("story", .val (storyD p.1.2)) :: ("more", .val (grpsD p.2.1)) :: ("tale", .val (storyD p.2.2)) :: envR cs r1 r2
  refine Run.has (ρ₁ := E0) ?_ (Has.of rfl)
  have km : ∀ t ∈ ri 0 4, 0 ≤ t ∧ t < 4 := by decide
  have st : ∀ {s : List (List (List Int))} {t : Int}, s.length = 4 → t ∈ ri 0 4 → SubD G A (storyD s) (.int t) (rowsD (s.getD t.toNat [])) := fun {s t} hs ht => by
    have h := km t ht
    have hk : t.toNat < s.length := by lia
    refine SubD.list h.1 (by lia) ?_
    show (s.map rowsD)[t.toNat]? = _
    rw [List.getElem?_map, List.getElem?_eq_getElem hk, List.getD_eq_getElem?_getD, List.getElem?_eq_getElem hk]; rfl
  have lk : ∀ {k : Nat}, k < 4 → SubD G A (rowD (labelsOf cs)) (.int (k : Int)) (.int ((labelsOf cs).getD k 0)) := fun {k} hk => SubD.list (by lia) (by lia) (by rw [Int.toNat_natCast]; exact lab_get (by lia))
  have hb : (b2i ((labelsOf cs).getD i 0 != (labelsOf cs).getD (i + 1) 0)).toNat ≤ 1 := by unfold b2i; split <;> decide
  have hb0 : 0 ≤ b2i ((labelsOf cs).getD i 0 != (labelsOf cs).getD (i + 1) 0) := by unfold b2i; split <;> decide
  refine Run.cons (Run.ite (b := false) (Te.eq (Te.cmp (EvO.ev (EvO.lc (d := rowD ((ri 0 4).filter (fun t => (p.1.2.getD t.toNat []) != (p.2.2.getD t.toNat [])))) (ri 0 4) D.int (fun t => ("t", .val (.int t)) :: LEnv.inner _ _) (fun t => (p.1.2.getD t.toNat []) != (p.2.2.getD t.toNat [])) D.int (Src.of hA (Ev.call (EvV.blt M.N rfl M.b_range.1 M.b_range.2) (.type _) (.more (Ev.int 4) .nil) CallD.range1) (.range (by decide) (by decide) (by decide) (by decide))) (Nat.le_trans (Nat.le_of_eq (show (ri 0 4).length = 4 by rfl)) (by decide)) (fun act' t ht => ⟨Takes.name (by decide), inner_keep1 (by decide), Tests.one (Te.cmp (Ev.sub (Ev.name (d := storyD p.1.2) rfl) (Ev.name rfl) (st s1 ht)) (Ev.sub (Ev.name (d := storyD p.2.2) rfl) (Ev.name rfl) (st s2 ht)) (Cmp.ne hA (deq_rows 6 _ _))), fun _ => Ev.name rfl⟩) rfl))
    (Ev.eq (d' := rowD (List.replicate (b2i ((labelsOf cs).getD i 0 != (labelsOf cs).getD (i + 1) 0)).toNat [(i : Int)]).flatten) (EvO.ev (EvO.bin (EvO.ev (EvO.list (ds := [D.int (i : Int)]) (.more (Ev.eq (Ev.name rfl) (congrArg D.int hi)) .nil))) (Ev.call (EvV.blt M.N rfl M.b_int.1 M.b_int.2) (.type _) (.more (Ev.cmp (Ev.sub (Ev.name (d := rowD (labelsOf cs)) rfl) (Ev.eq (Ev.name rfl) (congrArg D.int hi)) (lk (by lia))) (Ev.sub (Ev.name (d := rowD (labelsOf cs)) rfl) (Ev.bin (Ev.eq (Ev.name rfl) (congrArg D.int hi)) (Ev.int 1) Op2.add) (lk (k := i + 1) (by lia))) Cmp.neI) .nil) CallD.intB) (Op2O.mulL hb0 (by split <;> decide) (by show 1 * _ ≤ 1000; exact Nat.le_trans (Nat.le_of_eq (Nat.one_mul _)) (Nat.le_trans hb (by decide)))))) (by unfold rowD; rw [List.map_flatten, List.map_replicate]; rfl))
    (Cmp.ne hA (r := true) (by rw [sd, deq_row, beq_self_eq_true]))) rfl) (fun h => nomatch h) fun _ => Run.nil ?_)
  have gi : ∀ g ∈ [p.1.1, p.2.1], SubD G A (grpsD g) (.int 0) (firstG g).d := fun g hg => by
    have h0 := (gd g hg).1
    refine SubD.list (k := 0) (by decide) (by decide) ?_
    show (g.map Grp.d)[0]? = _
    unfold firstG
    rw [List.getElem?_map, List.getElem?_eq_getElem h0, List.getD_eq_getElem?_getD, List.getElem?_eq_getElem h0]; rfl
  refine Run.cons (Run.ite (b := false) (Te.eq (Te.cmp (EvO.ev (EvO.lc (d := .list [.int 5, .int 5]) [p.1.1, p.2.1] grpsD (fun g => ("g", .val (grpsD g)) :: LEnv.inner _ _) (fun _ => true) (fun _ => .int 5) (Src.of hA (Ev.tuple (.more (Ev.name rfl) (.more (Ev.name rfl) .nil))) (.tuple _)) (show 2 ≤ sizeLine by decide) (fun act' g hg => ⟨Takes.name (by decide), inner_keep1 (by decide), Tests.none, fun _ =>
      Ev.eq (Ev.call (EvV.glob M.N rfl M.f_count_calls.named) M.f_count_calls.callee (.more (d := adict .int (firstG g).st.by_) (Ev.sub (Ev.sub (Ev.sub (Ev.name rfl) (Ev.int 0) (gi g hg)) (Ev.int 1) (SubD.tuple (k := 1) (d := (firstG g).st.d) (by decide) (by decide) rfl)) (Ev.int 4) (SubD.tuple (k := 4) (by decide) (by decide) rfl)) .nil) (call_count (n := n + 18) hA M)) (by rw [(gd g hg).2])⟩) rfl)) (EvO.ev (EvO.list (.more (Ev.int 5) (.more (Ev.int 5) .nil)))) (Cmp.ne hA (r := true) rfl)) rfl) (fun h => nomatch h) fun _ => Run.nil ?_)
  exact Run.nil ⟨rfl, Has.of rfl⟩
end
end Mine
end

section
namespace Mine
open PySem PySem.Challenge PySem.Calls PyProof.Rows
section
variable {G : Gl} {A : Around} {n : Nat} {mg mb : Str → Option Value} {cs l : List Int} {i : Nat}
theorem pc_len (cs : List Int) (y : Int) : (pcOf cs y).length ≤ 6 := by
  have h : ∀ p ∈ marksL, p.length ≤ 6 := by decide
  have h6 : (cAt cs (y - 1).toNat / 4 % 6).toNat < marksL.length := by
    have : marksL.length = 6 := rfl
    lia
  unfold pcOf
  rw [List.getD_eq_getElem?_getD, List.getElem?_eq_getElem h6]
  exact h _ (List.getElem_mem h6)
set_option maxHeartbeats 4000000 in
theorem run_last (hA : Room (n + 20) A) (M : Mod G mg mb) (hl : labelsOf cs = l) (l4 : l.length = 4) (hi : iOf cs = (i : Int)) (hi3 : i < 3) (H : LastOk (pcOf cs) (owOf cs) l i) (act : Act law_s (cellNames law_s.names)) :
    Run G A act (execs (law_b.drop 25) act.env) (("parks", .val (.bool (parksB l))) :: ("words", .val (.str "lo must be non-negative")) :: envA cs) fun fd _ => fd = .ret (.bool true) := by
  have big : 1000 ≤ sizeLine := by decide
  subst hl
  have lk : ∀ {k : Nat}, k < 4 → SubD G A (rowD (labelsOf cs)) (.int (k : Int)) (.int ((labelsOf cs).getD k 0)) := fun {k} hk => SubD.list (by lia) (by lia) (by rw [Int.toNat_natCast]; exact lab_get (by lia))
  have e1 : D.list (lslice ((labelsOf cs).map .int) none (some (i : Int)) none ++ [.int ((labelsOf cs).getD (i + 1) 0), .int ((labelsOf cs).getD i 0)] ++ lslice ((labelsOf cs).map .int) (some ((i : Int) + 2)) none none) = rowD (turnedL (labelsOf cs) i) := by
    rw [lslice_map, lslice_map, lslice_to, show (i : Int) + 2 = ((i + 2 : Nat) : Int) by lia, lslice_from]
    unfold rowD turnedL
    rw [List.map_append, List.map_append]; rfl
  have hln : (labelsOf cs).length ≤ sizeLine := by lia
  refine Run.cons (Run.assign (d := rowD (turnedL (labelsOf cs) i)) (Ev.eq (EvO.ev (EvO.bin (EvO.ev (EvO.bin (EvO.ev (EvO.sliced (Ev.name rfl) Bd.non (Bd.at (Ev.eq (Ev.name rfl) (congrArg D.int hi))) Bd.non (by rw [List.length_map]; exact hln) (fun e => nomatch e))) (EvO.ev (EvO.list (.more (Ev.sub (Ev.name (d := rowD (labelsOf cs)) rfl) (Ev.bin (Ev.eq (Ev.name rfl) (congrArg D.int hi)) (Ev.int 1) Op2.add) (lk (k := i + 1) (by lia))) (.more (Ev.sub (Ev.name (d := rowD (labelsOf cs)) rfl) (Ev.eq (Ev.name rfl) (congrArg D.int hi)) (lk (by lia))) .nil)))) (Op2O.addL ?_)))
    (EvO.ev (EvO.sliced (Ev.name rfl) (Bd.at (Ev.bin (Ev.eq (Ev.name rfl) (congrArg D.int hi)) (Ev.int 2) Op2.add)) Bd.non Bd.non (by rw [List.length_map]; exact hln) (fun e => nomatch e))) (Op2O.addL ?_))) e1) (by decide) ?_)
  · rw [lslice_map, lslice_to, List.length_map, List.length_take]; show min i _ + 2 ≤ _; lia
  · rw [lslice_map, lslice_map, lslice_to, show (i : Int) + 2 = ((i + 2 : Nat) : Int) by lia, lslice_from, List.length_append, List.length_map, List.length_take, List.length_map, List.length_drop]; show min i _ + 2 + _ ≤ _; lia
  refine Run.cons (Run.assignTT hA (xs := ["runs", "others"]) (.cons (by decide) (.cons (by decide) .nil)) (.v (Ev.call (EvV.glob M.N rfl M.f_law_runs.named) M.f_law_runs.callee (.more (Ev.name rfl) (.more (Ev.name rfl) (.more (Ev.name rfl) .nil))) (call_law_runs (n := n + 10) hA M (pc_len cs) H.r1)) (.v (Ev.call (EvV.glob M.N rfl M.f_law_runs.named) M.f_law_runs.callee (.more (Ev.name rfl) (.more (Ev.name rfl) (.more (Ev.name rfl) .nil))) (call_law_runs (n := n + 10) hA M (pc_len cs) H.r2)) .nil)) rfl (by decide) (show 2 ≤ sizeLine by decide) rfl ?_)
  generalize hr1 : runsOf (owOf cs) (labelsOf cs) = r1
  generalize hr2 : runsOf (owOf cs) (turnedL (labelsOf cs) i) = r2
  have L1 := H.l1
  have L2 := H.l2
  have P := H.pairs
  rw [hr1] at L1
  rw [hr2] at L2
  rw [hr1, hr2] at P
  have b1 : b2i (parksB (labelsOf cs)) ≤ 1 := by unfold b2i; split <;> decide
  refine Run.has (ρ₁ := ("parks", .val (.bool (parksB (labelsOf cs)))) :: ("words", .val (.str "lo must be non-negative")) :: envR cs r1 r2) ?_ (Has.of rfl)
  refine Run.cons (Run.ite (b := false) (Te.or3 (Te.eq (Te.cmp (Ev.name rfl) Ev.none Cmp.isNone) rfl) (Te.eq (Te.cmp (Ev.name rfl) Ev.none Cmp.isNone) rfl) (Te.eq (Te.cmp (Ev.name rfl) (Ev.str _) (Cmp.ne hA (deq_str ..))) rfl)) (fun h => nomatch h) fun _ => Run.nil ?_)
  refine Run.cons (Run.ite (b := false) (Te.eq (Te.cmp (a := .list [.int (b2i (parksB (labelsOf cs))), .int (b2i (parksB (labelsOf cs)))]) (EvO.ev (EvO.list (.more (Ev.eq (Ev.call (EvV.blt M.N rfl M.b_len.1 M.b_len.2) (.builtin _) (.more (Ev.name (d := statesD r1) rfl) .nil) (CallD.lenL (by rw [List.length_map]; lia))) (by rw [List.length_map, L1])) (.more (Ev.eq (Ev.call (EvV.blt M.N rfl M.b_len.1 M.b_len.2) (.builtin _) (.more (Ev.name (d := statesD r2) rfl) .nil) (CallD.lenL (by rw [List.length_map]; lia))) (by rw [List.length_map, L2])) .nil))))
    (EvO.ev (EvO.list (.more (Ev.call (EvV.blt M.N rfl M.b_int.1 M.b_int.2) (.type _) (.more (Ev.name rfl) .nil) CallD.intB) (.more (Ev.call (EvV.blt M.N rfl M.b_int.1 M.b_int.2) (.type _) (.more (Ev.name rfl) .nil) CallD.intB) .nil)))) (Cmp.ne hA (r := true) ?_)) rfl) (fun h => nomatch h) fun _ => Run.nil ?_)
  · have := deq_row 7 [b2i (parksB (labelsOf cs)), b2i (parksB (labelsOf cs))] [b2i (parksB (labelsOf cs)), b2i (parksB (labelsOf cs))]
    rw [beq_self_eq_true] at this
    exact this
  refine Run.cons (Run.mono (Q := fun fd ρ => fd = .next) ?_ ?_)
  · refine Run.forL (r1.zip r2) (fun p => D.tuple [stateD p.1, stateD p.2]) (fun _ : Unit => envR cs r1 r2) (fun _ _ _ => True) () ?_ trivial (Has.of rfl)
      (fun p _ => bindLs ["one", "two"] [.val (stateD p.1), .val (stateD p.2)] (envR cs r1 r2)) (fun done p rest t e hI => ⟨Takes.tuple (ds := [stateD p.1, stateD p.2]) hA (.cons (by decide) (.cons (by decide) .nil)) rfl, ?_⟩) (fun t ρ' hI hh => rfl)
    · rw [← zipDs_zip]
      exact Src.zip (n := n + 19) hA (EvV.blt M.N rfl M.b_zip.1 M.b_zip.2) (Ev.name rfl) (Ev.name rfl) Opn.list Opn.list
    · obtain ⟨q1, q2, q3, q4⟩ := P p (by rw [e]; simp)
      refine (run_last_turn (n := n) hA M rfl l4 hi hi3 q1 q2 q3 q4 act).mono fun fd ρ' ⟨f1, f2⟩ => ?_
      subst f1
      exact ⟨(), trivial, f2⟩
  rintro fd ρ rfl
  exact Run.cons (Run.ret (Ev.bool _) rfl)
theorem run_law {ns : List Int} (hA : Room (n + 20) A) (M : Mod G mg mb) (L : AddFn G mg) (hn : ns.length ≤ 63) (act : Act law_s (cellNames law_s.names)) (LA : LawAct G mg A act)
    (P : ∀ cs : List Int, cs.length = 6 → LabOk (labelsOf cs) ∧ LastOk (pcOf cs) (owOf cs) (labelsOf cs) (iOf cs).toNat) :
    Run G A act (execs law_b act.env) (zipEnv ["script"] [.list (ns.map .int)]) fun fd _ => fd = .ret (.bool true) := by
  refine run_A (n := n) hA M hn act fun cs hcs => ?_
  obtain ⟨H, K⟩ := P cs hcs
  have l4 := H.len
  have l0 : 0 < (labelsOf cs).length := by lia
  have hm := H.rng _ (List.mem_of_getElem? (hd_get l0))
  have hi : iOf cs = ((iOf cs).toNat : Int) ∧ (iOf cs).toNat < 3 := by unfold iOf; lia
  exact run_tab (n := n) hA M L (by lia) act (run_ups (n := n) hA M rfl H act (run_bounds (n := n) hA M rfl H act (run_lay (n := n) hA M hcs l4 hm act (run_try (n := n) hA M hcs rfl l4 act LA (run_last (n := n) hA M rfl l4 hi.1 hi.2 K act)))))
end
end Mine
end

section
namespace Mine
open PySem
noncomputable abbrev Sg := List Int × List Int
noncomputable def sFind (gs : List Sg) (y : Int) : Option Sg := gs.find? fun g => g.1.contains y
noncomputable def sGapRow (rest : List Sg) (y : Int) : List Int := ((sFind rest y).map (·.1)).getD []
noncomputable def sDue (rest : List Sg) (a b : Int) : Bool := rest.all fun g => (insideOf a b g.1 == []) || (insideOf a b g.1 == g.1)
noncomputable def sNums (y : Int) (line : List Int) : Nat × Nat := ((hdOf line * b2i (y != hdOf line)).toNat, (hdOf line * b2i (y != lastOf line)).toNat)
noncomputable def chkGo : List (Nat × Nat) → Nat → Bool
  | [], o => o == 0
  | p :: r, o => if o < p.1 then false else chkGo r (o - p.1 + p.2)
noncomputable def sRowOk (rest : List Sg) (y : Int) : Bool := match sFind rest y with
  | none => false
  | some g => decide (0 < g.1.length) && decide (g.1.length ≤ 5) && decide (0 ≤ hdOf g.1) && decide (hdOf g.1 ≤ 5)
noncomputable def sGapOk (rest : List Sg) (a b : Int) : Bool := decide (0 ≤ a) && decide (a ≤ 10) && decide (0 ≤ b) && decide (b ≤ 10) && (ri a b).all (fun y => KS.contains y && sRowOk rest y) &&
  (chkGo ((ri a b).map fun y => sNums y (sGapRow rest y)) 0 == sDue rest a b)
noncomputable def sRest (gs : List Sg) (g far : Sg) : List Sg := gs.filter fun h => (h.1 != g.1) && (h.1 != far.1)
noncomputable def sPl (g far : Sg) : Int := cntL g.1 (hdOf far.1)
noncomputable def sB2 (g far : Sg) : Int := (g.1 ++ [lastOf far.1 + 1]).getD (sPl g far).toNat 0
noncomputable def sIf (label : Int) (g far : Sg) : Bool := decide (hdOf far.1 > hdOf g.1) && (g.1.getD (sPl g far - 1).toNat 0 == label)
noncomputable def sBoth (gs : List Sg) (label : Int) (g far : Sg) : Bool := sDue (sRest gs g far) (label + 1) (hdOf far.1) && sDue (sRest gs g far) (lastOf far.1 + 1) (sB2 g far)
noncomputable def sJoin (g far : Sg) : Sg := (isort (g.1 ++ far.1), g.2 ++ far.2)
noncomputable def sTurn (gs : List Sg) (label : Int) (g far : Sg) : List (List Sg) := if sIf label g far && sBoth gs label g far then [sRest gs g far ++ [sJoin g far]] else []
noncomputable def sJoins (gs : List Sg) (label : Int) : List (List Sg) := match sFind gs label with
  | none => []
  | some g => gs.flatMap (sTurn gs label g)
noncomputable def nodupB : List Int → Bool
  | [] => true
  | a :: l => !l.contains a && nodupB l
noncomputable def sPass (g far : Sg) : Bool := decide (sPl g far ≤ g.1.length) && decide (g.1.length ≤ 5) && decide (0 < far.1.length) && decide (far.1.length ≤ 5) &&
  ((List.range far.1.length).all fun k => decide (cntL (isort (g.1 ++ far.1.take k)) (far.1.getD k 0) ≤ sPl g far + k) && decide (sPl g far ≤ cntR (isort (g.1 ++ far.1.take k)) (far.1.getD k 0))) &&
  (cntR g.1 (lastOf far.1) == sPl g far) && ((g.1 ++ far.1).all fun x => KS.contains x) && (g.1 ++ far.1).isPerm (g.2 ++ far.2) && nodupB (g.2 ++ far.2)
noncomputable def sTurnOk (gs : List Sg) (label : Int) (g far : Sg) : Bool := decide (0 < far.1.length) && (!sIf label g far || (sGapOk (sRest gs g far) (label + 1) (hdOf far.1) && sGapOk (sRest gs g far) (lastOf far.1 + 1) (sB2 g far) && (!sBoth gs label g far || sPass g far)))
noncomputable def sJoinOk (gs : List Sg) (label : Int) : Bool := match sFind gs label with
  | none => false
  | some g => decide (gs.length ≤ 10) && (gs.all fun h => decide (h.1.length ≤ 10)) && decide (0 < g.1.length) && (isort g.1 == g.1) && gs.all (sTurnOk gs label g)
noncomputable abbrev SState := List Sg × List (List (List Int))
noncomputable def sRows (gs : List Sg) : List (List Int) := gs.map (·.1)
noncomputable def sSorted (gs : List Sg) : List (List Int) := if gs.length = 1 then sRows gs else sortRows (sRows gs)
noncomputable def sStep (label : Int) (sts : List SState) : List SState := sts.flatMap fun s => (sJoins s.1 label).map fun gs => (gs, s.2 ++ [sSorted gs])
noncomputable def sSrtOk (gs : List Sg) : Bool := gs.length == 1 || (decide (2 ≤ gs.length) && decide (gs.length < 64) && rowsIn (sRows gs))
noncomputable def sStepOk (label : Int) (sts : List SState) : Bool := decide (sts.length ≤ 100) && sts.all fun s => sJoinOk s.1 label && (sJoins s.1 label).all sSrtOk && decide (s.2.length ≤ 100)
noncomputable def sRunsOk : List Int → List SState → Bool
  | [], _ => true
  | l :: ls, sts => sStepOk l sts && sRunsOk ls (sStep l sts)
noncomputable def sInit : List SState := [(KS.map fun k => ([k], [k]), [])]
noncomputable def sRuns (ls : List Int) : List SState := ls.foldl (fun sts l => sStep l sts) sInit
end Mine
end

section
namespace Mine
open PySem
set_option tactic.hygienic true in
theorem slice_cps (x : Str) {a b : Nat} (hab : a ≤ b) (hb : b ≤ x.length) : (Txt.slice x (some (a : Int)) (some (b : Int))).cps.toList = (x.cps.toList.take b).drop a := by
  have h := StrLaws.sliced_plain x hab hb
  unfold Txt.slice
  split
  · rename_i q
    have q : (Builtin.Str.strSliceIndices (some (a : Int)) (some (b : Int)) 1 x.length).length = x.length := by simpa using q
    rw [StrLaws.strSliceIndices_plain hab hb, List.length_map, List.length_range] at q
    obtain rfl : a = 0 := by lia
    obtain rfl : b = x.length := by lia
    rw [List.drop_zero]
    exact (List.take_of_length_le (Nat.le_refl _)).symm
  · show (List.filterMap _ _).toArray.toList = _
    rw [List.toList_toArray, h, List.drop_take]
theorem slice_cps' (x : Str) {a : Nat} (ha : a ≤ x.length) : (Txt.slice x (some (a : Int)) none).cps.toList = x.cps.toList.drop a := by
  have e : Builtin.Str.strSliceIndices (some (a : Int)) none 1 x.length = Builtin.Str.strSliceIndices (some (a : Int)) (some (x.length : Int)) 1 x.length := by
    show sliceRange _ (x.length : Int) _ = sliceRange _ (max 0 (min (if (x.length : Int) < 0 then (x.length : Int) + x.length else x.length) (x.length : Int))) _
    congr 1
    split <;> lia
  have h : Txt.slice x (some (a : Int)) none = Txt.slice x (some (a : Int)) (some (x.length : Int)) := by
    unfold Txt.slice; rw [e]
  rw [h, slice_cps x ha (Nat.le_refl _)]
  congr 1
  exact List.take_of_length_le (Nat.le_refl _)
theorem contains_one {x : Str} {c : Nat} (h : Txt.contains x ⟨#[c]⟩ = false) : c ∉ x.cps.toList := by
  intro hc
  obtain ⟨i, hi⟩ := List.mem_iff_getElem?.mp hc
  have hat := (StrLaws.subAt_one x c i).mpr hi
  unfold Txt.contains at h
  rcases PyProof.Rows.find_whole x ⟨#[c]⟩ with ⟨h1, h2⟩ | ⟨j, h1, h2, h3⟩
  · exact h2 i hat
  · unfold Txt.find at h1
    cases q : Builtin.Str.occurrences x ⟨#[c]⟩ 0 x.length 1 with
    | nil => rw [q] at h1; simp at h1
    | cons a r => rw [q] at h; simp at h
noncomputable def unitsC : List Nat → Bool → List (List Nat)
  | [], e => if e then [[92]] else []
  | c :: cs, e => if e then [92, c] :: unitsC cs false else if c = 92 then unitsC cs true else [c] :: unitsC cs false
theorem escGo_units : ∀ (l : List Nat) (i p : Int) (e : Bool), (escGo l i p e).map (fun q => q.2.cps.toList) = unitsC l e
  | [], i, p, e => by unfold escGo unitsC; cases e <;> rfl
  | c :: cs, i, p, e => by
    unfold escGo unitsC
    split
    · rw [List.map_cons, escGo_units]
    · split
      · rw [escGo_units]
      · rw [List.map_cons, escGo_units]
theorem escGo_any (l : List Nat) (i p q : Int) : escGo l i p false = escGo l i q false := by cases l <;> rfl
structure Plain (c : List Nat) : Prop where
  no : 34 ∉ c
  un : ∀ rest, unitsC (c ++ rest) false = unitsC c false ++ unitsC rest false
  st : ∀ x rest b, ∀ i : Int, (escGo (c ++ rest) i 0 false).foldl (stripStep x) b = (escGo rest (i + c.length) 0 false).foldl (stripStep x) b
structure Quoted (c : List Nat) : Prop where
  st : ∀ x rest s (r : List Str), ∀ i : Int, (escGo (c ++ rest) i 0 false).foldl (stripStep x) (s, none, r) = (escGo rest (i + c.length) 0 false).foldl (stripStep x) (i + c.length, none, if s != i then r ++ [Txt.slice x (some s) (some i)] else r)
noncomputable def stripFin (x : Str) (b : SSt) : Str := Txt.join "" (if b.1 < x.length then b.2.2 ++ [Txt.slice x (some b.1) none] else b.2.2)
theorem strip_go (x : Str) (keep : List Nat → List Nat) : ∀ (cs : List (List Nat)) (pre : List Nat) (a : Nat) (r : List Str) (kept : List Nat),
    (∀ c ∈ cs, (Plain c ∧ keep c = c) ∨ (Quoted c ∧ keep c = [])) → x.cps.toList = pre ++ cs.flatten → a ≤ pre.length → (r.map (·.cps.toList)).flatten ++ pre.drop a = kept →
    (stripFin x ((escGo cs.flatten pre.length 0 false).foldl (stripStep x) ((a : Int), none, r))).cps.toList = kept ++ (cs.map keep).flatten
  | [], pre, a, r, kept, _, hx, ha, hk => by
    have hl : x.length = pre.length := by
      rw [List.flatten_nil, List.append_nil] at hx
      show x.cps.size = _
      rw [← Array.length_toList, hx]
    show (Txt.join "" (if (a : Int) < x.length then r ++ [Txt.slice x (some (a : Int)) none] else r)).cps.toList = _
    rw [List.map_nil, List.flatten_nil, List.append_nil, ← hk, join_cps]
    have hx' : x.cps.toList = pre := by rw [hx]; simp
    split
    · rw [List.map_append, List.flatten_append, List.map_cons, List.map_nil, List.flatten_cons, List.flatten_nil, List.append_nil, slice_cps' x (by lia), hx']
    · rw [List.drop_eq_nil_iff.mpr (by lia), List.append_nil]
  | c :: cs, pre, a, r, kept, h, hx, ha, hk => by
    have hx2 : x.cps.toList = (pre ++ c) ++ cs.flatten := by rw [hx, List.flatten_cons, List.append_assoc]
    have hp : ((pre.length : Int) + c.length) = ((pre ++ c).length : Nat) := by rw [List.length_append]; lia
    rw [List.map_cons, List.flatten_cons (l := keep c), ← List.append_assoc kept]
    rcases h c (.head _) with ⟨P, e⟩ | ⟨P, e⟩
    · show (stripFin x ((escGo (c ++ cs.flatten) pre.length 0 false).foldl (stripStep x) ((a : Int), none, r))).cps.toList = _
      rw [P.st, hp, e]
      refine strip_go x keep cs (pre ++ c) a r _ (fun d hd => h d (.tail _ hd)) hx2 (by rw [List.length_append]; lia) ?_
      rw [List.drop_append_of_le_length ha, ← List.append_assoc, hk]
    · show (stripFin x ((escGo (c ++ cs.flatten) pre.length 0 false).foldl (stripStep x) ((a : Int), none, r))).cps.toList = _
      rw [P.st, hp, e]
      refine strip_go x keep cs (pre ++ c) (pre ++ c).length _ _ (fun d hd => h d (.tail _ hd)) hx2 (Nat.le_refl _) ?_
      rw [List.drop_length, List.append_nil, List.append_nil, ← hk]
      by_cases q : a = pre.length
      · subst q
        rw [if_neg (by simp), List.drop_length, List.append_nil]
      · rw [if_pos (by simpa using fun e => q (by lia)), List.map_append, List.flatten_append, List.map_cons, List.map_nil, List.flatten_cons, List.flatten_nil, List.append_nil, slice_cps x ha (by
          show _ ≤ x.cps.size
          rw [← Array.length_toList, hx, List.length_append]; lia), hx, List.take_left']
        rfl
theorem str_cps {x y : Str} (h : x.cps.toList = y.cps.toList) : x = y := by
  cases x; cases y
  simp only [Str.mk.injEq]
  exact Array.toList_inj.mp h
set_option tactic.hygienic true in
theorem strip_cps {x : Str} {cs : List (List Nat)} (keep : List Nat → List Nat) (hx : x.cps.toList = cs.flatten) (h : ∀ c ∈ cs, (Plain c ∧ keep c = c) ∨ (Quoted c ∧ 34 ∈ c ∧ keep c = [])) : (strip x).cps.toList = (cs.map keep).flatten := by
  unfold strip
  split
  · unfold stripEnd escaped
    rw [hx]
    have := strip_go x keep cs [] 0 [] [] (fun c hc => (h c hc).imp_right fun q => ⟨q.1, q.2.2⟩) (by rw [hx]; rfl) (Nat.le_refl _) rfl
    exact this
  · rename_i q
    have hn := contains_one (c := 34) (x := x) (eq_false_of_ne_true q)
    rw [hx] at hn ⊢
    congr 1
    refine (List.map_id _).symm.trans (List.map_congr_left fun c hc => ?_)
    rcases h c hc with ⟨_, e⟩ | ⟨_, e, _⟩
    · exact e.symm
    · exact absurd (List.mem_flatten.mpr ⟨c, hc, e⟩) hn
theorem units_plain : ∀ (cs : List (List Nat)), (∀ c ∈ cs, Plain c) → unitsC cs.flatten false = cs.flatMap fun c => unitsC c false
  | [], _ => rfl
  | c :: cs, h => by rw [List.flatten_cons, (h c (.head _)).un, units_plain cs fun d hd => h d (.tail _ hd)]; rfl
end Mine
end

section
namespace Mine
open PySem
theorem str_one_ne {a b : Nat} (h : a ≠ b) : ((⟨#[a]⟩ : Str) == ⟨#[b]⟩) = false := by
  refine beq_eq_false_iff_ne.mpr fun e => h ?_
  simpa using congrArg (fun s : Str => s.cps.toList) e
theorem str_two_ne {a b c : Nat} : ((⟨#[a, b]⟩ : Str) == ⟨#[c]⟩) = false := by
  refine beq_eq_false_iff_ne.mpr fun e => ?_
  have := congrArg (fun s : Str => s.cps.toList) e
  simp at this
theorem plain0 : Plain [] := ⟨by simp, fun _ => rfl, fun x rest b i => by simp⟩
theorem plain1 {c : Nat} (h : c ≠ 34) (h' : c ≠ 92) : Plain [c] where
  no := by simpa using fun e => h e.symm
  un rest := by simp [unitsC, h']
  st x rest b i := by
    have : escGo ([c] ++ rest) i 0 false = (i, ⟨#[c]⟩) :: escGo rest (i + 1) i false := by rw [List.singleton_append, escGo]; simp [h']
    rw [this, List.foldl_cons, escGo_any rest _ i 0]
    have e : stripStep x b (i, ⟨#[c]⟩) = b := by
      unfold stripStep
      rw [if_neg]
      intro q
      exact absurd q (by rw [show ((⟨#[c]⟩ : Str) == "\"") = false from str_one_ne (b := 34) h]; decide)
    rw [e]; rfl
theorem plain2 {c : Nat} (h : c ≠ 34) : Plain [92, c] where
  no := by simpa using fun e => h e.symm
  un rest := by simp [unitsC]
  st x rest b i := by
    have : escGo ([92, c] ++ rest) i 0 false = (i + 1, ⟨#[92, c]⟩) :: escGo rest (i + 1 + 1) (i + 1) false := rfl
    rw [this, List.foldl_cons, escGo_any rest _ _ 0]
    have e : stripStep x b (i + 1, ⟨#[92, c]⟩) = b := by
      unfold stripStep
      rw [if_neg]
      intro q
      exact absurd q (by rw [show ((⟨#[92, c]⟩ : Str) == "\"") = false from str_two_ne (c := 34)]; decide)
    rw [e, show i + 1 + 1 = i + (([92, c] : List Nat).length : Nat) by simp; lia]
theorem step_no {x u : Str} {b : SSt} {i : Int} (h : (u == "\"") = false) : stripStep x b (i, u) = b := by
  unfold stripStep
  rw [if_neg]
  intro q
  exact absurd q (by rw [h]; decide)
theorem quoted1 : Quoted [34, 41, 34] where
  st x rest s r i := by
    have : escGo ([34, 41, 34] ++ rest) i 0 false = (i, ⟨#[34]⟩) :: (i + 1, ⟨#[41]⟩) :: (i + 1 + 1, ⟨#[34]⟩) :: escGo rest (i + 1 + 1 + 1) (i + 1 + 1) false := rfl
    rw [this, List.foldl_cons, List.foldl_cons, List.foldl_cons, escGo_any rest _ _ 0, step_no (u := ⟨#[41]⟩) (str_one_ne (b := 34) (by decide))]
    have e : (i + 1 + 1 + 1 : Int) = i + (([34, 41, 34] : List Nat).length : Nat) := by simp; lia
    rw [← e]
    rfl
theorem quoted2 : Quoted [34, 40, 92, 34, 40, 34] where
  st x rest s r i := by
    have : escGo ([34, 40, 92, 34, 40, 34] ++ rest) i 0 false = (i, ⟨#[34]⟩) :: (i + 1, ⟨#[40]⟩) :: (i + 1 + 1 + 1, ⟨#[92, 34]⟩) :: (i + 1 + 1 + 1 + 1, ⟨#[40]⟩) :: (i + 1 + 1 + 1 + 1 + 1, ⟨#[34]⟩) :: escGo rest (i + 1 + 1 + 1 + 1 + 1 + 1) (i + 1 + 1 + 1 + 1 + 1) false := rfl
    rw [this, List.foldl_cons, List.foldl_cons, List.foldl_cons, List.foldl_cons, List.foldl_cons, escGo_any rest _ _ 0, step_no (u := ⟨#[40]⟩) (str_one_ne (b := 34) (by decide)), step_no (u := ⟨#[40]⟩) (str_one_ne (b := 34) (by decide)), step_no (u := ⟨#[92, 34]⟩) (str_two_ne (c := 34))]
    have e : (i + 1 + 1 + 1 + 1 + 1 + 1 : Int) = i + (([34, 40, 92, 34, 40, 34] : List Nat).length : Nat) := by simp; lia
    rw [← e]
    rfl
noncomputable def keepC (c : List Nat) : List Nat := if 34 ∈ c then [] else c
theorem keepC_plain {c : List Nat} (h : Plain c) : keepC c = c := if_neg h.no
noncomputable def Chunk (c : List Nat) : Prop := (Plain c ∧ keepC c = c) ∨ (Quoted c ∧ 34 ∈ c ∧ keepC c = [])
theorem chunk_plain {c : List Nat} (h : Plain c) : Chunk c := .inl ⟨h, keepC_plain h⟩
theorem keep_chunk {c : List Nat} (h : Chunk c) : Plain (keepC c) := by
  rcases h with ⟨h, e⟩ | ⟨_, _, e⟩
  · rw [e]; exact h
  · rw [e]; exact plain0
structure Piece (p : Str) : Prop where
  chunk : Chunk p.cps.toList
  units : unitsC (keepC p.cps.toList) false = [] ∨ ∃ c, c ≠ 34 ∧ keepC p.cps.toList = [92, c]
  len : p.length ≤ 6
theorem marks_piece : ∀ p ∈ marksL, Piece p := by
  intro p hp
  unfold marksL at hp
  simp only [List.mem_cons, List.not_mem_nil, or_false] at hp
  rcases hp with rfl | rfl | rfl | rfl | rfl | rfl
  · exact ⟨chunk_plain plain0, .inl rfl, by decide⟩
  · exact ⟨chunk_plain (plain2 (c := 40) (by decide)), .inr ⟨40, by decide, rfl⟩, by decide⟩
  · exact ⟨chunk_plain (plain2 (c := 41) (by decide)), .inr ⟨41, by decide, rfl⟩, by decide⟩
  · exact ⟨.inr ⟨quoted1, by decide, rfl⟩, .inl rfl, by decide⟩
  · exact ⟨.inr ⟨quoted2, by decide, rfl⟩, .inl rfl, by decide⟩
  · exact ⟨chunk_plain (plain2 (c := 92) (by decide)), .inr ⟨92, by decide, rfl⟩, by decide⟩
theorem strip_chunks {x : Str} {cs : List (List Nat)} (hx : x.cps.toList = cs.flatten) (h : ∀ c ∈ cs, Chunk c) : (escaped (strip x)).map (fun q => q.2.cps.toList) = cs.flatMap fun c => unitsC (keepC c) false := by
  unfold escaped
  rw [escGo_units, strip_cps keepC hx h, units_plain _ fun c hc => ?_, List.flatMap_map]
  obtain ⟨d, hd, rfl⟩ := List.mem_map.mp hc
  exact keep_chunk (h d hd)
noncomputable def checkU : List (List Nat) → Int → Bool
  | [], o => o == 0
  | u :: r, o => if u = [40] then checkU r (o + 1) else if u = [41] then (if o - 1 < 0 then false else checkU r (o - 1)) else checkU r o
theorem str_beq {x : Str} {c : Nat} : (x == (⟨#[c]⟩ : Str)) = decide (x.cps.toList = [c]) := by
  by_cases h : x = ⟨#[c]⟩
  · subst h; simp
  · rw [beq_eq_false_iff_ne.mpr h, decide_eq_false fun e => h (str_cps e)]
theorem checkGo_units : ∀ (l : List (Int × Str)) (o : Int), checkGo l o = checkU (l.map fun q => q.2.cps.toList) o
  | [], o => rfl
  | p :: l, o => by
    unfold checkGo
    rw [List.map_cons, checkU]
    have h1 : (p.2 == "(") = decide (p.2.cps.toList = [40]) := str_beq (c := 40)
    have h2 : (p.2 == ")") = decide (p.2.cps.toList = [41]) := str_beq (c := 41)
    rw [h1, h2]
    simp only [decide_eq_true_eq, checkGo_units l]
theorem check_chunks {x : Str} {cs : List (List Nat)} (hx : x.cps.toList = cs.flatten) (h : ∀ c ∈ cs, Chunk c) : check x = checkU (cs.flatMap fun c => unitsC (keepC c) false) 0 := by
  unfold check
  rw [checkGo_units, strip_chunks hx h]
end Mine
end

section
namespace Mine
open PySem
theorem flat_rep (c n : Nat) : (List.replicate n [c]).flatten = List.replicate n c := by
  induction n with
  | zero => rfl
  | succ n ih => rw [List.replicate_succ, List.flatten_cons, ih]; rfl
theorem checkU_cl (r : List (List Nat)) : ∀ (a o : Nat), checkU (List.replicate a [41] ++ r) (o : Int) = if o < a then false else checkU r ((o - a : Nat) : Int)
  | 0, o => by simp
  | a + 1, o => by
    rw [List.replicate_succ, List.cons_append, checkU, if_neg (by decide), if_pos rfl]
    by_cases h : o = 0
    · subst h; rw [if_pos (by decide), if_pos (by lia)]
    · rw [if_neg (by lia), show (o : Int) - 1 = ((o - 1 : Nat) : Int) by lia, checkU_cl r a (o - 1)]
      by_cases q : o - 1 < a
      · rw [if_pos q, if_pos (by lia)]
      · rw [if_neg q, if_neg (by lia)]
        congr 2
        lia
theorem checkU_op (r : List (List Nat)) : ∀ (b o : Nat), checkU (List.replicate b [40] ++ r) (o : Int) = checkU r ((o + b : Nat) : Int)
  | 0, o => rfl
  | b + 1, o => by
    rw [List.replicate_succ, List.cons_append, checkU, if_pos rfl, show (o : Int) + 1 = ((o + 1 : Nat) : Int) by lia, checkU_op r b (o + 1)]
    congr 2
    lia
theorem checkU_piece {p : Str} (hp : Piece p) (r : List (List Nat)) (o : Int) : checkU (unitsC (keepC p.cps.toList) false ++ r) o = checkU r o := by
  rcases hp.units with h | ⟨c, hc, h⟩
  · rw [h]; rfl
  · rw [h]
    show checkU ([92, c] :: r) o = _
    rw [checkU, if_neg (by simp), if_neg (by simp)]
noncomputable def uOf (c : List Nat) : List (List Nat) := unitsC (keepC c) false
theorem uOf_rep {c : Nat} (h : c ≠ 34) (h' : c ≠ 92) (n : Nat) : (List.replicate n [c]).flatMap uOf = List.replicate n [c] := by
  have e : uOf [c] = [[c]] := by
    unfold uOf
    rw [keepC_plain (plain1 h h')]
    simp [unitsC, h']
  induction n with
  | zero => rfl
  | succ n ih => rw [List.replicate_succ, List.flatMap_cons, ih, e]; rfl
noncomputable def chunksOf (pc : Int → Str) (y : Int) (q : Nat × Nat) : List (List Nat) := List.replicate q.1 [41] ++ ([(pc y).cps.toList] ++ List.replicate q.2 [40])
theorem chunks_u {pc : Int → Str} {y : Int} (q : Nat × Nat) : (chunksOf pc y q).flatMap uOf = List.replicate q.1 [41] ++ (uOf (pc y).cps.toList ++ List.replicate q.2 [40]) := by
  unfold chunksOf
  rw [List.flatMap_append, List.flatMap_append, uOf_rep (by decide) (by decide), uOf_rep (by decide) (by decide), List.flatMap_singleton]
theorem chunks_check {pc : Int → Str} (f : Int → Nat × Nat) (hp : ∀ y, Piece (pc y)) : ∀ (l : List Int) (o : Nat), checkU ((l.flatMap fun y => chunksOf pc y (f y)).flatMap uOf) (o : Int) = chkGo (l.map f) o
  | [], o => by
    show ((o : Int) == 0) = (o == 0)
    rw [Bool.eq_iff_iff, beq_iff_eq, beq_iff_eq]; lia
  | y :: l, o => by
    rw [List.flatMap_cons, List.flatMap_append, chunks_u, List.map_cons, chkGo, List.append_assoc, List.append_assoc, checkU_cl]
    split
    · rfl
    · rw [show uOf (pc y).cps.toList = unitsC (keepC (pc y).cps.toList) false from rfl, checkU_piece (hp y), checkU_op, chunks_check f hp l]
theorem check_gap {pc : Int → Str} {rest : List Grp} {a b : Int} (hp : ∀ y, Piece (pc y)) (h : ∀ y ∈ ri a b, 0 ≤ hdOf (gapRow rest y) ∧ hdOf (gapRow rest y) ≤ 5) :
    check (gapText pc rest (ri a b)) = chkGo ((ri a b).map fun y => sNums y (gapRow rest y)) 0 := by
  have hx : (gapText pc rest (ri a b)).cps.toList = ((ri a b).flatMap fun y => chunksOf pc y (sNums y (gapRow rest y))).flatten := by
    unfold gapText
    rw [join_cps, List.map_map]
    generalize ri a b = l at h
    induction l with
    | nil => rfl
    | cons y l ih =>
      rw [List.map_cons, List.flatten_cons, List.flatMap_cons, List.flatten_append, ih fun z hz => h z (.tail _ hz)]
      congr 1
      obtain ⟨h0, h5⟩ := h y (.head _)
      obtain ⟨u1, u2⟩ := b2i_mul h0 h5 (y != hdOf (gapRow rest y))
      obtain ⟨v1, v2⟩ := b2i_mul h0 h5 (y != lastOf (gapRow rest y))
      show (lineStr pc y (gapRow rest y)).cps.toList = _
      unfold lineStr chunksOf sNums
      show ((Txt.mul ⟨#[41]⟩ _).cps ++ (pc y).cps ++ (Txt.mul ⟨#[40]⟩ _).cps).toList = _
      rw [Array.toList_append, Array.toList_append, mul_cps 41 u1 u2, mul_cps 40 v1 v2, List.flatten_append, List.flatten_append, flat_rep, flat_rep]
      simp
  rw [check_chunks hx fun c hc => ?_]
  · exact chunks_check (fun y => sNums y (gapRow rest y)) hp (ri a b) 0
  · obtain ⟨y, _, hc⟩ := List.mem_flatMap.mp hc
    unfold chunksOf at hc
    rcases List.mem_append.mp hc with hc | hc
    · rw [List.eq_of_mem_replicate hc]; exact chunk_plain (plain1 (by decide) (by decide))
    · rcases List.mem_append.mp hc with hc | hc
      · rw [List.mem_singleton.mp hc]; exact (hp y).chunk
      · rw [List.eq_of_mem_replicate hc]; exact chunk_plain (plain1 (by decide) (by decide))
end Mine
end

section
namespace Mine
open PySem
noncomputable def toG (ow : Int → Int) (s : Sg) : Grp := ⟨s.1, statOf ow s.1 s.2⟩
section
variable {ow : Int → Int} {pc : Int → Str} {gs rest : List Sg} {g far : Sg} {y label a b : Int}
theorem with_map : ∀ gs : List Sg, grpWith (gs.map (toG ow)) y = (sFind gs y).map (toG ow)
  | [] => rfl
  | g :: gs => by
    unfold grpWith sFind
    rw [List.map_cons, List.find?_cons, List.find?_cons]
    show (match g.1.contains y with | true => some (toG ow g) | false => _) = _
    cases g.1.contains y with
    | true => rfl
    | false => exact with_map gs
theorem gapRow_map (rest : List Sg) (y : Int) : gapRow (rest.map (toG ow)) y = sGapRow rest y := by
  unfold gapRow sGapRow
  rw [with_map, Option.map_map]; rfl
theorem due_map (rest : List Sg) (a b : Int) : gapDue (rest.map (toG ow)) a b = sDue rest a b := by
  unfold gapDue sDue
  rw [List.all_map]; rfl
theorem rest_map (gs : List Sg) (g far : Sg) : restOf (gs.map (toG ow)) (toG ow g) (toG ow far) = (sRest gs g far).map (toG ow) := by
  unfold restOf sRest
  rw [List.filter_map]; rfl
theorem both_map : bothDue (gs.map (toG ow)) label (toG ow g) (toG ow far) = sBoth gs label g far := by
  unfold bothDue sBoth
  rw [rest_map, due_map, due_map]; rfl
theorem if_map : turnIf label (toG ow g) (toG ow far) = sIf label g far := rfl
theorem nodupB_iff : ∀ {l : List Int}, nodupB l = true → l.Nodup
  | [], _ => by simp
  | a :: l, h => by
    unfold nodupB at h
    rw [Bool.and_eq_true] at h
    exact List.nodup_cons.mpr ⟨by simpa using h.1, nodupB_iff h.2⟩
theorem sum_ins (f : Int → Int) (x : Int) : ∀ l : List Int, ((isortIns x l).map f).sum = f x + (l.map f).sum
  | [] => rfl
  | y :: ys => by
    unfold isortIns
    split
    · rfl
    · rw [List.map_cons, List.sum_cons, sum_ins f x ys, List.map_cons, List.sum_cons]; lia
theorem sum_isort (f : Int → Int) : ∀ l : List Int, ((isort l).map f).sum = (l.map f).sum
  | [] => rfl
  | x :: xs => by
    show ((isortIns x (isort xs)).map f).sum = _
    rw [sum_ins, sum_isort f xs]; rfl
theorem fold_ones (add : Int → Int → Int) : ∀ (o2 done : List Int), (done ++ o2).Nodup → (o2.map fun x => (Ky.i x, (1 : Int))).foldl (fun q p => aput q p.1 (comb add (aget p.1 q) p.2)) (done.map fun x => (Ky.i x, 1)) = (done ++ o2).map fun x => (Ky.i x, 1)
  | [], done, _ => by simp
  | x :: o2, done, h => by
    have hx : x ∉ done := fun q => (List.nodup_append.mp h).2.2 x q x (.head _) rfl
    have e : aput (done.map fun x => (Ky.i x, (1 : Int))) (.i x) (comb add (aget (.i x) (done.map fun x => (Ky.i x, 1))) 1) = (done ++ [x]).map fun x => (Ky.i x, 1) := by
      rw [aget_form (f := fun _ => (1 : Int)), if_neg hx]
      unfold aput
      rw [form_keys (f := fun _ => (1 : Int)), if_neg fun q => hx (ky_mem.mp q), List.map_append]; rfl
    rw [List.map_cons, List.foldl_cons, e, fold_ones add o2 (done ++ [x]) (by simpa using h)]
    simp
theorem merge_ones {o1 o2 : List Int} (h : (o1 ++ o2).Nodup) : amerge (· + ·) (o1.map fun x => (Ky.i x, (1 : Int))) (o2.map fun x => (Ky.i x, 1)) = (o1 ++ o2).map fun x => (Ky.i x, 1) := by
  unfold amerge
  rw [acopy_form (f := fun _ => (1 : Int)) _ (List.nodup_append.mp h).1]
  exact fold_ones _ o2 o1 h
theorem stat_add {r1 r2 o1 o2 : List Int} (h : (o1 ++ o2).Nodup) : (statOf ow r1 o1).add (statOf ow r2 o2) = statOf ow (isort (r1 ++ r2)) (o1 ++ o2) := by
  have hs : ∀ l : List Int, (isort l).sum = l.sum := fun l => by
    have := sum_isort id l
    rw [List.map_id, List.map_id] at this
    exact this
  unfold statOf Stat.add
  simp only [merge_ones h, sum_isort, (isort_perm (r1 ++ r2)).length_eq, hs]
  simp only [List.map_append, List.sum_append, List.length_append]
  congr 1 <;> lia
structure SPass (g far : Sg) : Prop where
  ple : sPl g far ≤ g.1.length
  l1 : g.1.length ≤ 5
  l2 : 0 < far.1.length ∧ far.1.length ≤ 5
  ins : ∀ k, k < far.1.length → cntL (isort (g.1 ++ far.1.take k)) (far.1.getD k 0) ≤ sPl g far + k ∧ sPl g far ≤ cntR (isort (g.1 ++ far.1.take k)) (far.1.getD k 0)
  br : cntR g.1 (lastOf far.1) = sPl g far
  ks : ∀ x ∈ g.1 ++ far.1, x ∈ KS
  pm : (g.1 ++ far.1).Perm (g.2 ++ far.2)
  nd : (g.2 ++ far.2).Nodup
theorem SPass.of (h : sPass g far = true) : SPass g far := by
  unfold sPass at h
  simp only [Bool.and_eq_true, decide_eq_true_eq, List.all_eq_true, List.mem_range, beq_iff_eq, List.contains_iff_mem] at h
  obtain ⟨⟨⟨⟨⟨⟨⟨⟨h1, h2⟩, h3⟩, h4⟩, h5⟩, h6⟩, h7⟩, h8⟩, h9⟩ := h
  exact ⟨h1, h2, ⟨h3, h4⟩, h5, h6, h7, List.isPerm_iff.mp h8, nodupB_iff h9⟩
theorem join_map (P : SPass g far) : joinOf (toG ow g) (toG ow far) = toG ow (sJoin g far) := by
  unfold joinOf toG sJoin
  rw [stat_add P.nd]
theorem pass_ok (P : SPass g far) (hs : isort g.1 = g.1) : PassOk ow (toG ow g) (toG ow far) (sPl g far) := by
  have e : (toG ow g).st.add (toG ow far).st = statOf ow (isort (g.1 ++ far.1)) (g.2 ++ far.2) := stat_add P.nd
  have hpl : (isort (g.1 ++ far.1)).Perm (g.2 ++ far.2) := (isort_perm _).trans P.pm
  have hol : (g.2 ++ far.2).length ≤ 10 := by rw [← P.pm.length_eq, List.length_append]; have := P.l1; have := P.l2; lia
  rw [List.length_append] at hol
  refine ⟨(cntL_le _ _).1, P.ple, hs, P.l1, P.l2, fun k v hk => ?_, P.br, fun x hx => P.ks x ((isort_perm _).mem_iff.mp hx), by rw [e]; rfl, by rw [e]; rfl, by rw [e]; rfl, by rw [e]; rfl, ?_, ?_, by show (List.map _ _).length ≤ 10; rw [List.length_map]; lia, by show (List.map _ _).length ≤ 10; rw [List.length_map]; lia⟩
  · have hlt : k < far.1.length := by
      by_cases q : k < far.1.length
      · exact q
      · rw [show (toG ow far).row = far.1 from rfl, List.getElem?_eq_none (by lia)] at hk; cases hk
    have := P.ins k hlt
    rw [show far.1.getD k 0 = v by rw [List.getD_eq_getElem?_getD, show far.1[k]? = some v from hk]; rfl] at this
    exact this
  · rw [e]
    have hnd : (isort (g.1 ++ far.1)).Nodup := hpl.nodup_iff.mpr P.nd
    have e2 : onesD (isort (g.1 ++ far.1)) = ((isort (g.1 ++ far.1)).map Ky.i, (isort (g.1 ++ far.1)).map fun _ => D.int 1) := by
      unfold onesD
      rw [dmk_form (f := fun _ => D.int 1), tabK_self hnd]
    show deqD (((g.2 ++ far.2).map fun x => (Ky.i x, (1 : Int))).map (·.1)) (((g.2 ++ far.2).map fun x => (Ky.i x, (1 : Int))).map fun p => D.int p.2) (onesD (isort (g.1 ++ far.1))).1 (onesD (isort (g.1 ++ far.1))).2 = some true
    rw [e2, List.map_map, List.map_map]
    unfold deqD
    rw [if_pos (by rw [List.length_map, List.length_map]; exact hpl.length_eq.symm)]
    refine deqd_all (by simp) fun k v hm => ?_
    rw [List.zip_map', List.mem_map] at hm
    obtain ⟨x, hx, e3⟩ := hm
    obtain ⟨rfl, rfl⟩ := Prod.mk.inj e3
    exact ⟨.int 1, by rw [show ((fun p : Ky × Int => p.1) ∘ fun x => (Ky.i x, (1 : Int))) x = Ky.i x from rfl, dfind_form (f := fun _ => D.int 1), if_pos (hpl.mem_iff.mpr hx)], deq_int 8 1⟩
  · rw [e]
    show (g.2 ++ far.2).map _ = g.2.map _ ++ far.2.map _
    rw [List.map_append]
end
end Mine
end

section
namespace Mine
open PySem
section
variable {ow : Int → Int} {pc : Int → Str} {gs rest : List Sg} {g far : Sg} {y label a b : Int}
theorem gap_ok (hp : ∀ y, Piece (pc y)) (h : sGapOk rest a b = true) : GapOk pc (rest.map (toG ow)) a b := by
  unfold sGapOk at h
  simp only [Bool.and_eq_true, decide_eq_true_eq, List.all_eq_true, beq_iff_eq, List.contains_iff_mem] at h
  obtain ⟨⟨⟨⟨⟨h1, h2⟩, h3⟩, h4⟩, h5⟩, h6⟩ := h
  have rows : ∀ y ∈ ri a b, ∃ g, sFind rest y = some g ∧ 0 < g.1.length ∧ g.1.length ≤ 5 ∧ 0 ≤ hdOf g.1 ∧ hdOf g.1 ≤ 5 := fun y hy => by
    have := (h5 y hy).2
    unfold sRowOk at this
    cases e : sFind rest y with
    | none => rw [e] at this; exact nomatch this
    | some g =>
      rw [e] at this
      simp only [Bool.and_eq_true, decide_eq_true_eq] at this
      exact ⟨g, rfl, this.1.1.1, this.1.1.2, this.1.2, this.2⟩
  refine ⟨⟨h1, h2⟩, ⟨h3, h4⟩, fun y hy => ⟨(h5 y hy).1, ?_⟩, ?_⟩
  · obtain ⟨g, e, q⟩ := rows y hy
    exact ⟨toG ow g, by rw [with_map, e]; rfl, q⟩
  · rw [check_gap hp fun y hy => ?_]
    · rw [due_map, ← h6]
      congr 1
      refine List.map_congr_left fun y _ => ?_
      rw [gapRow_map]
    · obtain ⟨g, e, q⟩ := rows y hy
      rw [gapRow_map, show sGapRow rest y = g.1 by unfold sGapRow; rw [e]; rfl]
      exact q.2.2
theorem turn_ok (hp : ∀ y, Piece (pc y)) (hs : isort g.1 = g.1) (h : sTurnOk gs label g far = true) : TurnOk pc ow (gs.map (toG ow)) label (toG ow g) (toG ow far) := by
  unfold sTurnOk at h
  simp only [Bool.and_eq_true, decide_eq_true_eq, Bool.or_eq_true, Bool.not_eq_true'] at h
  obtain ⟨h0, h1⟩ := h
  have key : sIf label g far = true → (sGapOk (sRest gs g far) (label + 1) (hdOf far.1) = true ∧ sGapOk (sRest gs g far) (lastOf far.1 + 1) (sB2 g far) = true) ∧ (sBoth gs label g far = false ∨ sPass g far = true) := fun hif => by
    rcases h1 with h1 | h1
    · rw [hif] at h1; exact nomatch h1
    · exact h1
  refine ⟨h0, fun hif => ?_, fun hif => ?_, fun hif hb => ?_⟩
  · rw [rest_map]; exact gap_ok hp (key hif).1.1
  · rw [rest_map]; exact gap_ok hp (key hif).1.2
  · rw [both_map] at hb
    rcases (key hif).2 with h2 | h2
    · rw [hb] at h2; exact nomatch h2
    · exact pass_ok (.of h2) hs
theorem turn_map (h : sTurnOk gs label g far = true) : turnOf (gs.map (toG ow)) label (toG ow g) (toG ow far) = (sTurn gs label g far).map (List.map (toG ow)) := by
  unfold turnOf sTurn
  rw [if_map, both_map]
  by_cases q : (sIf label g far && sBoth gs label g far) = true
  · rw [if_pos q, if_pos q]
    rw [Bool.and_eq_true] at q
    unfold sTurnOk at h
    simp only [Bool.and_eq_true, decide_eq_true_eq, Bool.or_eq_true, Bool.not_eq_true'] at h
    rcases h.2 with h1 | ⟨_, h1⟩
    · rw [q.1] at h1; exact nomatch h1
    · rcases h1 with h2 | h2
      · rw [q.2] at h2; exact nomatch h2
      · rw [rest_map, join_map (.of h2), List.map_cons, List.map_nil, List.map_append]; rfl
  · rw [if_neg q, if_neg q]; rfl
structure SJoin (gs : List Sg) (label : Int) (g : Sg) : Prop where
  find : sFind gs label = some g
  len : gs.length ≤ 10
  lens : ∀ h ∈ gs, h.1.length ≤ 10
  g0 : 0 < g.1.length
  srt : isort g.1 = g.1
  turns : ∀ far ∈ gs, sTurnOk gs label g far = true
theorem SJoin.of (h : sJoinOk gs label = true) : ∃ g, SJoin gs label g := by
  unfold sJoinOk at h
  cases e : sFind gs label with
  | none => rw [e] at h; exact nomatch h
  | some g =>
    rw [e] at h
    simp only [Bool.and_eq_true, decide_eq_true_eq, List.all_eq_true, beq_iff_eq] at h
    exact ⟨g, e, h.1.1.1.1, h.1.1.1.2, h.1.1.2, h.1.2, h.2⟩
theorem SJoin.gOf (J : SJoin gs label g) : gOf (gs.map (toG ow)) label = toG ow g := by
  unfold Mine.gOf
  rw [with_map, J.find]; rfl
theorem join_ok (hp : ∀ y, Piece (pc y)) (J : SJoin gs label g) : JoinOk pc ow (gs.map (toG ow)) label (toG ow g) := by
  refine ⟨by rw [with_map, J.find]; rfl, by rw [List.length_map]; exact J.len, fun h hh => ?_, J.g0, J.srt, fun f hf => ?_⟩
  · obtain ⟨s, hs, rfl⟩ := List.mem_map.mp hh
    exact J.lens s hs
  · obtain ⟨s, hs, rfl⟩ := List.mem_map.mp hf
    exact turn_ok hp J.srt (J.turns s hs)
theorem joins_map (J : SJoin gs label g) : joinsFor (gs.map (toG ow)) label = (sJoins gs label).map (List.map (toG ow)) := by
  unfold joinsFor joinsOf sJoins
  rw [J.gOf, J.find, List.flatMap_map, List.map_flatMap]
  have : ∀ l : List Sg, (∀ f ∈ l, sTurnOk gs label g f = true) → (l.flatMap fun f => turnOf (gs.map (toG ow)) label (toG ow g) (toG ow f)) = l.flatMap fun f => (sTurn gs label g f).map (List.map (toG ow)) := by
    intro l
    induction l with
    | nil => intro _; rfl
    | cons f l ih => intro h; rw [List.flatMap_cons, List.flatMap_cons, ih fun f hf => h f (.tail _ hf), turn_map (h f (.head _))]
  exact this gs J.turns
noncomputable def toS (ow : Int → Int) (s : SState) : State := (s.1.map (toG ow), s.2)
theorem rows_map (gs : List Sg) : rowsOf (gs.map (toG ow)) = sRows gs := by
  unfold rowsOf sRows
  rw [List.map_map]; rfl
theorem sorted_map (gs : List Sg) : sortedRows (gs.map (toG ow)) = sSorted gs := by
  unfold sortedRows sSorted
  rw [List.length_map, rows_map]
theorem step_map : ∀ {sts : List SState}, (∀ s ∈ sts, sJoinOk s.1 label = true) → stepAll label (sts.map (toS ow)) = (sStep label sts).map (toS ow)
  | [], _ => rfl
  | s :: sts, h => by
    have ih := step_map fun t ht => h t (.tail _ ht)
    unfold stepAll sStep at ih ⊢
    rw [List.map_cons, List.flatMap_cons, List.flatMap_cons, List.map_append, ih]
    congr 1
    obtain ⟨g, J⟩ := SJoin.of (h s (.head _))
    show (joinsFor (s.1.map (toG ow)) label).map _ = _
    rw [joins_map J, List.map_map, List.map_map]
    refine List.map_congr_left fun gs _ => ?_
    show nextOf' (toS ow s) (gs.map (toG ow)) = toS ow (gs, s.2 ++ [sSorted gs])
    unfold nextOf' toS
    rw [sorted_map]
theorem step_ok (hp : ∀ y, Piece (pc y)) {sts : List SState} (h : sStepOk label sts = true) : StepOk pc ow label (sts.map (toS ow)) ∧ stepAll label (sts.map (toS ow)) = (sStep label sts).map (toS ow) := by
  unfold sStepOk at h
  simp only [Bool.and_eq_true, decide_eq_true_eq, List.all_eq_true] at h
  obtain ⟨h1, h2⟩ := h
  refine ⟨⟨by rw [List.length_map]; exact h1, fun s hs => ?_, fun s hs gs hgs => ?_, fun s hs => ?_⟩, step_map fun s hs => (h2 s hs).1.1⟩
  · obtain ⟨t, ht, rfl⟩ := List.mem_map.mp hs
    obtain ⟨g, J⟩ := SJoin.of (h2 t ht).1.1
    show JoinOk pc ow (t.1.map (toG ow)) label (gOf (t.1.map (toG ow)) label)
    rw [J.gOf]
    exact join_ok hp J
  · obtain ⟨t, ht, rfl⟩ := List.mem_map.mp hs
    obtain ⟨g, J⟩ := SJoin.of (h2 t ht).1.1
    have hgs : gs ∈ joinsFor (t.1.map (toG ow)) label := hgs
    rw [joins_map J] at hgs
    obtain ⟨u, hu, rfl⟩ := List.mem_map.mp hgs
    have := (h2 t ht).1.2 u hu
    unfold sSrtOk at this
    simp only [Bool.or_eq_true, Bool.and_eq_true, decide_eq_true_eq, beq_iff_eq] at this
    rw [List.length_map, rows_map]
    rcases this with q | ⟨⟨q1, q2⟩, q3⟩
    · exact .inl q
    · exact .inr ⟨q1, q2, q3⟩
  · obtain ⟨t, ht, rfl⟩ := List.mem_map.mp hs
    exact (h2 t ht).2
theorem runs_ok (hp : ∀ y, Piece (pc y)) : ∀ (ls : List Int) {sts : List SState}, sRunsOk ls sts = true → RunsOk pc ow ls (sts.map (toS ow)) ∧ runsFrom ls (sts.map (toS ow)) = (ls.foldl (fun sts l => sStep l sts) sts).map (toS ow)
  | [], sts, _ => ⟨trivial, rfl⟩
  | l :: ls, sts, h => by
    unfold sRunsOk at h
    rw [Bool.and_eq_true] at h
    obtain ⟨k1, k2⟩ := step_ok (ow := ow) hp h.1
    obtain ⟨i1, i2⟩ := runs_ok hp ls h.2
    rw [← k2] at i1 i2
    exact ⟨⟨k1, i1⟩, i2⟩
theorem init_map (ow : Int → Int) : [initSt ow] = sInit.map (toS ow) := by
  have e : ∀ k : Int, initGrp ow k = toG ow ([k], [k]) := fun k => by
    unfold initGrp toG statOf
    simp
  unfold initSt sInit toS
  rw [List.map_cons, List.map_nil, List.map_map]
  congr 2
  exact List.map_congr_left fun k _ => e k
theorem runs_all (hp : ∀ y, Piece (pc y)) {ls : List Int} (h : sRunsOk ls sInit = true) : RunsOk pc ow ls [initSt ow] ∧ runsOf ow ls = (sRuns ls).map (toS ow) := by
  unfold runsOf
  rw [init_map]
  exact runs_ok hp ls h
end
end Mine
end

section
namespace Mine
open PySem
noncomputable def L4 : List Int := [1, 2, 3, 4]
noncomputable def pairOk (l : List Int) (i : Nat) (p : SState × SState) : Bool := p.1.2.length == 4 && p.2.2.length == 4 && ((ri 0 4).filter (fun t => (p.1.2.getD t.toNat []) != (p.2.2.getD t.toNat [])) == (List.replicate (b2i (l.getD i 0 != l.getD (i + 1) 0)).toNat [(i : Int)]).flatten) &&
  ([p.1.1, p.2.1].all fun g => decide (0 < g.length) && ((g.getD 0 ([], [])).2.length == 5))
noncomputable def lastB (l : List Int) (i : Nat) : Bool := (((sRuns l).length : Int) == b2i (parksB l)) && (((sRuns (turnedL l i)).length : Int) == b2i (parksB l)) && ((sRuns l).zip (sRuns (turnedL l i))).all (pairOk l i)
theorem sums_all : ∀ a ∈ L4, ∀ b ∈ L4, ∀ c ∈ L4, ∀ d ∈ L4, sumsL [a, b, c, d] = upsL [a, b, c, d] := by decide +kernel
theorem runs_b : ∀ a ∈ L4, ∀ b ∈ L4, ∀ c ∈ L4, ∀ d ∈ L4, sRunsOk [a, b, c, d] sInit = true := by decide +kernel
theorem last1 : ∀ b ∈ L4, ∀ c ∈ L4, ∀ d ∈ L4, ∀ i < 3, lastB [1, b, c, d] i = true := by decide +kernel
theorem last2 : ∀ b ∈ L4, ∀ c ∈ L4, ∀ d ∈ L4, ∀ i < 3, lastB [2, b, c, d] i = true := by decide +kernel
theorem last3 : ∀ b ∈ L4, ∀ c ∈ L4, ∀ d ∈ L4, ∀ i < 3, lastB [3, b, c, d] i = true := by decide +kernel
theorem last4 : ∀ b ∈ L4, ∀ c ∈ L4, ∀ d ∈ L4, ∀ i < 3, lastB [4, b, c, d] i = true := by decide +kernel
theorem last_all {a b c d : Int} (ha : a ∈ L4) (hb : b ∈ L4) (hc : c ∈ L4) (hd : d ∈ L4) {i : Nat} (hi : i < 3) : lastB [a, b, c, d] i = true := by
  unfold L4 at ha
  simp only [List.mem_cons, List.not_mem_nil, or_false] at ha
  rcases ha with rfl | rfl | rfl | rfl
  · exact last1 b hb c hc d hd i hi
  · exact last2 b hb c hc d hd i hi
  · exact last3 b hb c hc d hd i hi
  · exact last4 b hb c hc d hd i hi
theorem first_map {ow : Int → Int} {gs : List Sg} (h : 0 < gs.length) : firstG (gs.map (toG ow)) = toG ow (gs.getD 0 ([], [])) := by
  cases gs with
  | nil => exact absurd h (by decide)
  | cons g gs => rfl
theorem ones_sum (l : List Int) : ((l.map fun x => (Ky.i x, (1 : Int))).map (·.2)).sum = l.length := by
  induction l with
  | nil => rfl
  | cons x l ih => rw [List.map_cons, List.map_cons, List.sum_cons, ih, List.length_cons]; lia
theorem last_ok {pc : Int → Str} {ow : Int → Int} (hp : ∀ y, Piece (pc y)) {l : List Int} {i : Nat} (h1 : sRunsOk l sInit = true) (h2 : sRunsOk (turnedL l i) sInit = true) (h : lastB l i = true) : LastOk pc ow l i := by
  obtain ⟨a1, a2⟩ := runs_all (ow := ow) hp h1
  obtain ⟨b1, b2⟩ := runs_all (ow := ow) hp h2
  unfold lastB at h
  simp only [Bool.and_eq_true, beq_iff_eq, List.all_eq_true] at h
  obtain ⟨⟨e1, e2⟩, e3⟩ := h
  refine ⟨a1, b1, by rw [a2, List.length_map]; exact e1, by rw [b2, List.length_map]; exact e2, fun p hpm => ?_⟩
  rw [a2, b2, List.zip_map, List.mem_map] at hpm
  obtain ⟨q, hq, rfl⟩ := hpm
  have h3 := e3 q hq
  unfold pairOk at h3
  simp only [Bool.and_eq_true, beq_iff_eq, List.all_eq_true, decide_eq_true_eq] at h3
  obtain ⟨⟨⟨q1, q2⟩, q3⟩, q4⟩ := h3
  refine ⟨q1, q2, q3, fun g hg => ?_⟩
  obtain ⟨s, hs, rfl⟩ : ∃ s, s ∈ [q.1.1, q.2.1] ∧ g = s.map (toG ow) := by
    rcases List.mem_cons.mp hg with rfl | hg
    · exact ⟨_, .head _, rfl⟩
    · rw [List.mem_singleton.mp hg]; exact ⟨_, .tail _ (.head _), rfl⟩
  obtain ⟨k1, k2⟩ := q4 s hs
  refine ⟨by rw [List.length_map]; exact k1, ?_⟩
  rw [first_map k1]
  show (((s.getD 0 ([], [])).2.map fun x => (Ky.i x, (1 : Int))).map (·.2)).sum = 5
  rw [ones_sum, k2]; rfl
theorem mod_L4 (v : Int) : v % 4 + 1 ∈ L4 := by
  unfold L4
  simp only [List.mem_cons, List.not_mem_nil, or_false]
  lia
theorem turned_form {a b c d : Int} (ha : a ∈ L4) (hb : b ∈ L4) (hc : c ∈ L4) (hd : d ∈ L4) {i : Nat} (hi : i < 3) : sRunsOk (turnedL [a, b, c, d] i) sInit = true := by
  have : i = 0 ∨ i = 1 ∨ i = 2 := by lia
  rcases this with rfl | rfl | rfl
  · exact runs_b b hb a ha c hc d hd
  · exact runs_b a ha c hc b hb d hd
  · exact runs_b a ha b hb d hd c hc
theorem piece_of (cs : List Int) (k : Int) : Piece (pcOf cs k) := by
  have h6 : (cAt cs (k - 1).toNat / 4 % 6).toNat < marksL.length := by
    have : marksL.length = 6 := rfl
    lia
  refine marks_piece _ ?_
  unfold pcOf
  rw [List.getD_eq_getElem?_getD, List.getElem?_eq_getElem h6]
  exact List.getElem_mem h6
theorem plain_ok (cs : List Int) (hcs : cs.length = 6) : LabOk (labelsOf cs) ∧ LastOk (pcOf cs) (owOf cs) (labelsOf cs) (iOf cs).toNat := by
  obtain ⟨a, b, c, d, e⟩ := len4 (l := cs.take 4) (by rw [List.length_take, hcs]; rfl)
  have hl : labelsOf cs = [a % 4 + 1, b % 4 + 1, c % 4 + 1, d % 4 + 1] := by unfold labelsOf; rw [e]; rfl
  have hi : (iOf cs).toNat < 3 := by unfold iOf; lia
  rw [hl]
  have ma := mod_L4 a
  have mb := mod_L4 b
  have mc := mod_L4 c
  have md := mod_L4 d
  generalize a % 4 + 1 = a at ma
  generalize b % 4 + 1 = b at mb
  generalize c % 4 + 1 = c at mc
  generalize d % 4 + 1 = d at md
  refine ⟨⟨rfl, fun x hx => ?_, sums_all a ma b mb c mc d md⟩, last_ok (piece_of cs) (runs_b a ma b mb c mc d md) (turned_form ma mb mc md hi) (last_all ma mb mc md hi)⟩
  have : ∀ y ∈ L4, 1 ≤ y ∧ y ≤ 4 := by decide
  simp only [List.mem_cons, List.not_mem_nil, or_false] at hx
  rcases hx with rfl | rfl | rfl | rfl
  · exact this _ ma
  · exact this _ mb
  · exact this _ mc
  · exact this _ md
end Mine
end

section
namespace Mine
open PySem PySem.Challenge PySem.Calls PyProof.Rows
section
variable {G : Gl} {A : Around} {n : Nat} {mg mb : Str → Option Value} {ns : List Int}
theorem call_law (hA : Room (n + 21) A) (hfr : A.frames = some []) (M : Mod G mg mb) (L : AddFn G mg) (hn : ns.length ≤ 63) : CallD G A (.ref 112) [.list (ns.map .int)] (.bool true) := by
  refine CallD.fnC (n := n + 20) (xs := ["script"]) M.f_law M.N hA (by decide) (by decide) rfl (fun vs fd S s hl h1 h2 h3 I => ?_) fun act hf hc => ?_
  · obtain ⟨v, rfl⟩ := len1 hl
    exact bindPlain h1 h2 h3 fun _ _ _ _ _ _ _ _ _ _ _ _ => .of_eq rfl
  · have LA : LawAct G mg (A.deeper act.env) act := ⟨by show A.frames.map (act.env :: ·) = _; rw [hfr]; rfl, hf⟩
    have hR : Room (n + 20) (A.deeper act.env) := hA.deeper act.env
    have hr := @run_law G (A.deeper act.env) n mg mb ns @hR @M @L @hn @act @LA @plain_ok
    exact @Run.val law_s (cellNames law_s.names) G (A.deeper act.env) act _ (zipEnv ["script"] [.list (ns.map .int)]) (.bool true) @hr
end
end Mine
end

section
set_option tactic.hygienic true
set_option maxRecDepth 100000
set_option maxHeartbeats 0
set_option linter.unusedVariables false
set_option Elab.async false
namespace Mine
open PySem PySem.W PySem.Challenge PySem.Calls PyProof.Rows
noncomputable abbrev qv : Program := view pw_xh0025_01 [1, 2, 3, 10, 11, 12, 14, 15, 16, 17]
noncomputable def gNames : List Str := ["_iter_escaped_chars", "_strip_quoted_realnames", "_check_parenthesis", "insort_right", "bisect_right", "insort_left", "bisect_left", "add_func_stats", "add_callers", "count_calls", "_law_join", "_law_runs", "_law_put", "law", "__builtins__", "len", "range", "list", "dict", "sorted", "sum", "max", "min", "int", "isinstance", "tuple", "str", "enumerate", "zip", "ValueError"]
noncomputable def gVals : List (Option Value) := [some (.ref 21), some (.ref 28), some (.ref 35), some (.ref 44), some (.ref 53), some (.ref 62), some (.ref 71), some (.ref 78), some (.ref 85), some (.ref 92), some (.ref 97), some (.ref 102), some (.ref 107), some (.ref 112), some (.ref 4), none, none, none, none, none, none, none, none, none, none, none, none, none, none, none]
noncomputable def fAt : List (Addr × Addr) := [(21, 20), (28, 27), (35, 34), (44, 43), (53, 52), (62, 61), (71, 70), (78, 77), (85, 84), (92, 91), (97, 96), (102, 101), (107, 106), (112, 111)]
noncomputable def dAt : List (Addr × PySem.Tok) := [(36, 223), (45, 236), (54, 250), (63, 263)]
noncomputable def fGood : List (Option FnLook × Option Bool) := [
  (some (iter_escaped_chars_p, .stmts iter_escaped_chars_b, iter_escaped_chars_s, mainGlobals, builtinsNs, [], .none, .none, .ref 20, "_iter_escaped_chars"), some true),
  (some (strip_quoted_realnames_p, .stmts strip_quoted_realnames_b, strip_quoted_realnames_s, mainGlobals, builtinsNs, [], .none, .none, .ref 27, "_strip_quoted_realnames"), some true),
  (some (check_parenthesis_p, .stmts check_parenthesis_b, check_parenthesis_s, mainGlobals, builtinsNs, [], .none, .none, .ref 34, "_check_parenthesis"), some true),
  (some (insort_right_p, .stmts insort_right_b, insort_right_s, mainGlobals, builtinsNs, [], .ref 36, .ref 37, .ref 43, "insort_right"), some true),
  (some (bisect_right_p, .stmts bisect_right_b, bisect_right_s, mainGlobals, builtinsNs, [], .ref 45, .ref 46, .ref 52, "bisect_right"), some true),
  (some (insort_left_p, .stmts insort_left_b, insort_left_s, mainGlobals, builtinsNs, [], .ref 54, .ref 55, .ref 61, "insort_left"), some true),
  (some (bisect_left_p, .stmts bisect_left_b, bisect_left_s, mainGlobals, builtinsNs, [], .ref 63, .ref 64, .ref 70, "bisect_left"), some true),
  (some (add_func_stats_p, .stmts add_func_stats_b, add_func_stats_s, mainGlobals, builtinsNs, [], .none, .none, .ref 77, "add_func_stats"), some true),
  (some (add_callers_p, .stmts add_callers_b, add_callers_s, mainGlobals, builtinsNs, [], .none, .none, .ref 84, "add_callers"), some true),
  (some (count_calls_p, .stmts count_calls_b, count_calls_s, mainGlobals, builtinsNs, [], .none, .none, .ref 91, "count_calls"), some true),
  (some (law_join_p, .stmts law_join_b, law_join_s, mainGlobals, builtinsNs, [], .none, .none, .ref 96, "_law_join"), some true),
  (some (law_runs_p, .stmts law_runs_b, law_runs_s, mainGlobals, builtinsNs, [], .none, .none, .ref 101, "_law_runs"), some true),
  (some (law_put_p, .stmts law_put_b, law_put_s, mainGlobals, builtinsNs, [], .none, .none, .ref 106, "_law_put"), some true),
  (some (law_p, .stmts law_b, law_s, mainGlobals, builtinsNs, [], .none, .none, .ref 111, "law"), some true)]
noncomputable def tupO (t : PySem.Tok) : Obj := { cls := .type "tuple", data := .seq #[.int 0 t, .none] 0 }
noncomputable def dictO (w : World) (t : PySem.Tok) : Obj := { cls := .type "dict", data := .dict #[{ hash := PyData.keyHash w.params "key", key := .str "key" t, val := .none }] 1 }
noncomputable abbrev Looks := Nat × Bool × Option (List (Option Value)) × Option Obj × Option Obj × Option (Value × Option Value × Value × Bool × Bool × Bool × Bool) × List (Option Obj) × List (Option Obj) × List (Option FnLook × Option Bool)
noncomputable def looks (s : Shared) : Looks := (s.heap.objs.size, (s.heap.get? 0).isSome && (s.heap.get? 1).isSome && (s.heap.get? 2).isSome && (s.heap.get? 3).isSome, nmLook s.heap gNames, s.heap.get? 4, s.heap.get? 80, cdLook s.heap 84, dAt.map (fun a => s.heap.get? a.1), dAt.map (fun a => s.heap.get? (a.1 + 1)), fAt.map (fun a => fnLook s.heap a.1 a.2))
noncomputable def looked (w : World) : Looks := (113, true, some gVals, some { cls := .type "module", dict := some 0 }, some (tabObj #[]), some (.type "code", some (.ref 80), .ref 80, true, true, true, true), dAt.map (fun a => some (tupO a.2)), dAt.map (fun a => some (dictO w (a.2 + 1))), fGood)
end Mine
namespace Mine
open PySem PySem.W PySem.Challenge PySem.Calls PyProof.Rows
theorem hl_ok : LeftO pw_xh0025_01 qv ["insort_right", "bisect_right", "insort_left", "bisect_left"] (fun s => xlAt qv [] s && recOk (RowW.records (OpenRow.toRowW rw_xh0025_01.row)) s) looks looked 1134 := by
  intro w
  kernel_rfl
theorem said_ok : OpenLaw.wellSaid rw_xh0025_01 = true := (congrFun PySem.W.Fast.te9446332074065402090 _).trans (by kernel_rfl)
noncomputable def lamQ : Str := "add_callers" ++ ".<locals>." ++ "<genexpr>"
noncomputable def tabL : Tab where
  P := 80
  ps₀ := #[]
  line := 109
  col := 42
  good := fun o => ∃ vs t, o.data = .fields vs ∧ vs[1]? = some (.str lamQ t)
  isCode := fun o ⟨vs, _, h, _⟩ => ⟨vs, h⟩
section
variable {w : World} {s₀ s₁ : Shared} {mg mb : Str → Option Value} {G : Gl}
theorem nm_of (y : looks s₀ = looked w) (keeps : ∀ b o, s₀.heap.get? b = some o → s₁.heap.get? b = some o) (hg : s₁.heap.Ns mainGlobals mg) (i : Nat) {x : Str} {v : Option Value} (h1 : gNames[i]? = some x) (h2 : gVals[i]? = some v) : mg x = v :=
  at_of (nmLook_of keeps (congrArg (fun x : Looks => x.2.2.1) y) hg) i h1 h2
theorem tab_of (y : looks s₀ = looked w) : s₀.heap.get? 80 = some (tabObj #[]) := congrArg (fun x : Looks => x.2.2.2.2.1) y
theorem some_of (y : looks s₀ = looked w) : (((s₀.heap.get? 0).isSome = true ∧ (s₀.heap.get? 1).isSome = true) ∧ (s₀.heap.get? 2).isSome = true) ∧ (s₀.heap.get? 3).isSome = true := by
  have e : (_ && _ && _ && _) = true := congrArg (fun x : Looks => x.2.1) y
  simpa only [Bool.and_eq_true] using e
theorem f_of (y : looks s₀ = looked w) (hG : G.base = baseOf s₀.heap 80) {nm : Str} {a c : Addr} (hn : mg nm = some (.ref a)) (ha : a ≠ 80 ∧ c ≠ 80) (i : Nat) {P : Arguments} {B : List Stmt} {S : Scope} {d k : Value} {q : Str} (h1 : fAt[i]? = some (a, c)) (h2 : fGood[i]? = some (some (P, .stmts B, S, mainGlobals, builtinsNs, [], d, k, .ref c, q), some true)) : FnAt G mg nm P B S d k a :=
  fnAt_of hG hn ha (at_of (congrArg (fun x : Looks => x.2.2.2.2.2.2.2.2) y) i h1 h2)
theorem d_of (y : looks s₀ = looked w) (hG : G.base = baseOf s₀.heap 80) (i : Nat) {a : Addr} {t : PySem.Tok} (ha : a ≠ 80 ∧ a + 1 ≠ 80) (h1 : dAt[i]? = some (a, t)) : Dfl G a (a + 1) :=
  ⟨⟨0, t, base_at hG (at_of (congrArg (fun x : Looks => x.2.2.2.2.2.2.1) y) i h1 ((List.getElem?_map ..).trans (congrArg (Option.map fun a => some (tupO a.2)) h1))) ha.1⟩, ⟨_, t + 1, 1, base_at hG (at_of (congrArg (fun x : Looks => x.2.2.2.2.2.2.2.1) y) i h1 ((List.getElem?_map ..).trans (congrArg (Option.map fun a => some (dictO w (a.2 + 1))) h1))) ha.2⟩⟩
theorem mod_of (y : looks s₀ = looked w) (keeps : ∀ b o, s₀.heap.get? b = some o → s₁.heap.get? b = some o) (hg : s₁.heap.Ns mainGlobals mg) (hb : s₁.heap.Ns builtinsNs mb) (hlim : ∃ m, s₁.heap.Ns cStatics m ∧ m "sys.recursionlimit" = none) (hblt : ∀ x : Str, x ≠ "__name__" → mb x = bootBuiltins x) (hG : G.base = baseOf s₀.heap 80) : Mod G mg mb := by
  have n {x : Str} {v : Option Value} (i : Nat) (h1 : gNames[i]? = some x) (h2 : gVals[i]? = some v) : mg x = v := nm_of y keeps hg i h1 h2
  obtain ⟨⟨⟨q0, q1⟩, q2⟩, q3⟩ := some_of y
  obtain ⟨m, l1, l2⟩ := hlim
  refine ⟨⟨nsObj_at hG keeps q3 (by decide) hg, nsObj_at hG keeps q0 (by decide) hb, let ⟨o, e, x⟩ := nsObj_at hG keeps q2 (by decide) l1; ⟨o, m, e, x, l2⟩⟩, ⟨n 15 rfl rfl, (hblt _ (by decide)).trans (by decide +kernel)⟩, ⟨n 16 rfl rfl, (hblt _ (by decide)).trans (by decide +kernel)⟩, ⟨n 17 rfl rfl, (hblt _ (by decide)).trans (by decide +kernel)⟩, ⟨n 18 rfl rfl, (hblt _ (by decide)).trans (by decide +kernel)⟩, ⟨n 19 rfl rfl, (hblt _ (by decide)).trans (by decide +kernel)⟩, ⟨n 20 rfl rfl, (hblt _ (by decide)).trans (by decide +kernel)⟩, ⟨n 21 rfl rfl, (hblt _ (by decide)).trans (by decide +kernel)⟩, ⟨n 22 rfl rfl, (hblt _ (by decide)).trans (by decide +kernel)⟩, ⟨n 23 rfl rfl, (hblt _ (by decide)).trans (by decide +kernel)⟩, ⟨n 24 rfl rfl, (hblt _ (by decide)).trans (by decide +kernel)⟩, ⟨n 25 rfl rfl, (hblt _ (by decide)).trans (by decide +kernel)⟩, ⟨n 26 rfl rfl, (hblt _ (by decide)).trans (by decide +kernel)⟩, ⟨n 27 rfl rfl, (hblt _ (by decide)).trans (by decide +kernel)⟩, ⟨n 28 rfl rfl, (hblt _ (by decide)).trans (by decide +kernel)⟩, ⟨n 29 rfl rfl, (hblt _ (by decide)).trans (by decide +kernel)⟩, f_of y hG (n 0 rfl rfl) (by decide) 0 rfl rfl, f_of y hG (n 1 rfl rfl) (by decide) 1 rfl rfl, f_of y hG (n 2 rfl rfl) (by decide) 2 rfl rfl, f_of y hG (n 3 rfl rfl) (by decide) 3 rfl rfl, f_of y hG (n 4 rfl rfl) (by decide) 4 rfl rfl, f_of y hG (n 5 rfl rfl) (by decide) 5 rfl rfl, f_of y hG (n 6 rfl rfl) (by decide) 6 rfl rfl, f_of y hG (n 7 rfl rfl) (by decide) 7 rfl rfl, f_of y hG (n 8 rfl rfl) (by decide) 8 rfl rfl, f_of y hG (n 9 rfl rfl) (by decide) 9 rfl rfl, f_of y hG (n 10 rfl rfl) (by decide) 10 rfl rfl, f_of y hG (n 11 rfl rfl) (by decide) 11 rfl rfl, f_of y hG (n 12 rfl rfl) (by decide) 12 rfl rfl, f_of y hG (n 13 rfl rfl) (by decide) 13 rfl rfl, d_of y hG 0 (by decide) rfl, d_of y hG 1 (by decide) rfl, d_of y hG 2 (by decide) rfl, d_of y hG 3 (by decide) rfl⟩
theorem cd_of (y : looks s₀ = looked w) {h : Heap} (keeps : ∀ b o, s₀.heap.get? b = some o → h.get? b = some o) : PySem.W.CodeHd h 84 80 := cdLook_of (congrArg (fun x : Looks => x.2.2.2.2.2.1) y) (by decide) keeps
theorem addFn_of (y : looks s₀ = looked w) (keeps : ∀ b o, s₀.heap.get? b = some o → s₁.heap.get? b = some o) (hg : s₁.heap.Ns mainGlobals mg) (hG : G.base = baseOf s₀.heap 80) (ht : G.tabs = [tabL]) : AddFn G mg := by
  obtain ⟨o, fd, oc, vs, t, h1, h2, h3, h4, h5, h6⟩ := fnLook_of (at_of (congrArg (fun x : Looks => x.2.2.2.2.2.2.2.2) y) 8 (x := (85, 84)) rfl rfl)
  have hm : s₀.heap.get? 4 = some { cls := .type "module", dict := some 0 } := congrArg (fun x : Looks => x.2.2.2.1) y
  have cdh : ∀ h : Heap, (∀ a o, G.base a = some o → h.get? a = some o) → PySem.W.CodeHd h 84 80 := fun h hh => by
    obtain ⟨o', vs', file, tf, flags, tg, inF, text, tt, c1, r⟩ := cd_of y (h := s₀.heap) fun _ _ e => e
    exact ⟨o', vs', file, tf, flags, tg, inF, text, tt, hh _ _ (base_at hG c1 (by decide)), r⟩
  exact ⟨o, fd, tabL, base_at hG h1 (by decide), h2, ⟨⟨84, congrArg (fun x : FnLook => x.2.2.2.2.2.2.2.2.1) h3, cdh⟩, trivial, rfl, rfl, rfl, fun h hh => ⟨4, _, nm_of y keeps hg 14 rfl rfl, by decide, by decide, by decide, hh _ _ (base_at hG hm (by decide)), rfl, rfl, rfl⟩, by decide, ht, by rw [show fd.qualname = "add_callers" from congrArg (fun x : FnLook => x.2.2.2.2.2.2.2.2.2) h3]; rfl⟩⟩
end
end Mine
open PySem PySem.W PySem.W.X PyProof.Rows
set_option maxRecDepth 100000 in
set_option maxHeartbeats 0 in
theorem PySem.Challenge.cw_xh0025_01_holds : PySem.Challenge.rw_xh0025_01.Holds := by
  refine holds_law Mine.said_ok fun said => ?_
  refine holds_openX (q := Mine.qv) (loose := ["insort_right", "bisect_right", "insort_left", "bisect_left"]) (Xt := fun s => xlAt Mine.qv [] s && recOk (RowW.records (OpenRow.toRowW PySem.Challenge.rw_xh0025_01.row)) s) (XP := XL Mine.qv []) (Yf := Mine.looks) (Ya := Mine.looked) (N := 1134) Mine.hl_ok (fun s e => xl_of s (Bool.and_eq_true_iff.mp e).1) XL.keeps (by rfl) (by rfl) (by rfl) (fun s e => recFacts_of (Bool.and_eq_true_iff.mp e).2) rfl (by first | assumption | decide +kernel) (by decide +kernel) ⟨rfl, rfl, rfl, rfl, rfl, by decide +kernel⟩ ?hw ?hc
  (case hw => w_witness2)
  intro w s₀ s₁ mg mb G y fa o pm cd doc dV kV ho hd hcd hD hmg hg args vals as L hpre hlay hrd hwl hlo
  refine Ground.open G ?_
  intro T B D TE TW
  wrow_args hpre hlay hrd hwl hlo
  obtain ⟨hat, hsz⟩ := script_at L
  have hs0 : s₀.heap.objs.size = 113 := congrArg (fun x : Mine.Looks => x.1) y
  rw [hs0] at hat
  subst hat
  have hfa := hmg.symm.trans (Mine.nm_of y L.keeps T.g 13 rfl rfl)
  cases hfa
  all_lens
  obtain ⟨mc, hlim, hlim2⟩ := T.nolimit
  obtain ⟨o1, ho1⟩ := Option.isSome_iff_exists.mp (Mine.some_of y).1.1.2
  have hb1 : ∃ o, Mine.baseOf s₀.heap Mine.tabL.P sysModules = some o := ⟨o1, (if_neg (by decide)).trans ho1⟩
  refine wpAny_mono (Mine.finish (T := Mine.tabL) (hs := hb1) L.keeps (Mine.tab_of y) rfl hs0 (Mine.cd_of y L.keeps) hg (by assumption) (by assumption) (Mine.call_law (n := 0) (mg := mg) (mb := mb) ⟨rfl, by decide, by decide⟩ rfl (Mine.mod_of y L.keeps T.g T.b ⟨_, hlim, hlim2⟩ T.builtins rfl) (Mine.addFn_of y L.keeps T.g rfl rfl) (by omega))) (fun v s' h => ?zzg) (fun _ _ h => h.elim)
  obtain ⟨rfl, h2, h3, h4⟩ := h
  refine ⟨.inl ⟨_, .bool true, [], rfl, fun _ => rfl, .bool true, ?_, fun _ => ⟨.nil, fun _ h => nomatch h⟩⟩, h2, h3, h4⟩
  refine postW_of (X := true) rfl ?_ rfl
  show WTm.value _ (.eq .res (.lit (.bool true))) _ = _
  simp [WTm.value, PySem.W.same]
end
