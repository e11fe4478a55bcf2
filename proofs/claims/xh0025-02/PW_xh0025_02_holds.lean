import PyProof.Rows.All
import Wide.All
import OpenK.AllK
import Wide.FinOn
import Lean
import PySem.Challenge.RW_xh0025_02
set_option Elab.async false
set_option maxRecDepth 100000
set_option linter.all false
set_option compiler.extract_closed false
set_option genSizeOf false
set_option tactic.hygienic false
section
namespace Mine
open PySem PySem.Calls PyProof.Rows
inductive Ky where
  | i (k : Int)
  | s (x : Str)
  deriving DecidableEq
inductive D where
  | none
  | bool (b : Bool)
  | int (i : Int)
  | str (x : Str)
  | tuple (ds : List D)
  | list (ds : List D)
  | dict (ks : List Ky) (vs : List D)
  | range (a b : Int)
  | items (ks : List Ky) (vs : List D)
  | values (ks : List Ky) (vs : List D)
  | raw (v : Value)
  | at (v : Value) (d : D)
noncomputable def Ky.is : Ky → Value → Bool
  | .i k, v => Value.isInt k v
  | .s x, v => Value.isStrOf x v
noncomputable def Ky.hash (w : World) : Ky → Int
  | .i k => hashInt k
  | .s x => hashStr w x
section
variable {prog : Program} {w : World} {A : Around} {E : Value → Shared → Prop} {s : Shared}
theorem eqBool_int_str {a : Int} {b : Str} {t u : Tok} {Q : Bool → Shared → Prop} (h : Q false s) : wpAny (model prog w) A (eqBool (.int a t) (.str b u)) Q E s := by
  unfold eqBool
  refine wpAny_holding (wpAny_ite ?_)
  rw [if_neg (by intro h; have := eq_of_beq h; exact nomatch this)]
  exact wpAny_bind (EqMixed.eq_int_str (wpAny_truthy_bool h))
theorem eqBool_str_int {a : Int} {b : Str} {t u : Tok} {Q : Bool → Shared → Prop} (h : Q false s) : wpAny (model prog w) A (eqBool (.str b u) (.int a t)) Q E s := by
  unfold eqBool
  refine wpAny_holding (wpAny_ite ?_)
  rw [if_neg (by intro h; have := eq_of_beq h; exact nomatch this)]
  exact wpAny_bind (EqMixed.eq_str_int (wpAny_truthy_bool h))
end
set_option tactic.hygienic true in
noncomputable def kyKind (prog : Program) (w : World) : KeyKind prog w Ky where
  is := Ky.is
  hash := Ky.hash w
  inj := fun v a b ha hb => by
    cases a <;> cases b <;> simp only [Ky.is] at ha hb
    · rw [Value.isInt_inj v _ _ ha hb]
    · obtain ⟨t, rfl⟩ := Value.isInt_shape ha; obtain ⟨u, h⟩ := Value.isStrOf_shape hb; exact nomatch h
    · obtain ⟨t, rfl⟩ := Value.isStrOf_shape ha; obtain ⟨u, h⟩ := Value.isInt_shape hb; exact nomatch h
    · rw [Value.isStrOf_inj v _ _ ha hb]
  byValue := fun k v h => by
    cases k <;> simp only [Ky.is] at h
    · obtain ⟨t, rfl⟩ := Value.isInt_shape h; rfl
    · obtain ⟨t, rfl⟩ := Value.isStrOf_shape h; rfl
  pyHash := fun {A E s k v Q} hv h => by
    cases k <;> simp only [Ky.is] at hv
    · obtain ⟨t, rfl⟩ := Value.isInt_shape hv; exact wpAny_pyHash_int h
    · obtain ⟨t, rfl⟩ := Value.isStrOf_shape hv; exact wpAny_pyHash_str h
  eqBool := fun {A E s a b u v Q} hu hv h => by
    cases a <;> cases b <;> simp only [Ky.is] at hu hv
    · obtain ⟨t, rfl⟩ := Value.isInt_shape hu
      obtain ⟨t', rfl⟩ := Value.isInt_shape hv
      refine wpAny_eqBool_int ?_
      rename_i x y
      have : (x == y) = decide (Ky.i x = Ky.i y) := by
        by_cases e : x = y
        · subst e; simp
        · simp [e]
      rw [this]; exact h
    · obtain ⟨t, rfl⟩ := Value.isInt_shape hu
      obtain ⟨t', rfl⟩ := Value.isStrOf_shape hv
      exact eqBool_int_str (by simpa using h)
    · obtain ⟨t, rfl⟩ := Value.isStrOf_shape hu
      obtain ⟨t', rfl⟩ := Value.isInt_shape hv
      exact eqBool_str_int (by simpa using h)
    · obtain ⟨t, rfl⟩ := Value.isStrOf_shape hu
      obtain ⟨t', rfl⟩ := Value.isStrOf_shape hv
      refine wpAny_eqBool_str ?_
      rename_i x y
      have : decide (x = y) = decide (Ky.s x = Ky.s y) := by
        by_cases e : x = y
        · subst e; simp
        · simp [e]
      rw [this]; exact h
  «strs» := fun k x t v h => by
    cases k <;> simp only [Ky.is] at h
    · simp [Value.isInt] at h
    · obtain ⟨u, hu⟩ := Value.isStrOf_shape h
      injection hu with hx
      subst hx
      cases v <;> rfl
structure Tab where
  P : Addr
  ps₀ : Array Value
  line : Int
  col : Int
  good : Obj → Prop
  isCode : ∀ o, good o → ∃ vs, o.data = .fields vs
noncomputable abbrev Fz := Addr → Option Obj
structure Gl where
  prog : Program
  w : World
  base : Fz
  os₀ : OsState
  tabs : List Tab
  sm : ∃ o, base sysModules = some o
noncomputable abbrev Gl.knd (G : Gl) : KeyKind G.prog G.w Ky := kyKind G.prog G.w
noncomputable abbrev Gl.M (G : Gl) : Model := model G.prog G.w
mutual
inductive Is (G : Gl) (S : Fz) : Value → D → Prop
  | none : Is G S .none .none
  | bool (b : Bool) : Is G S (.bool b) (.bool b)
  | int (i : Int) (t : Tok) : Is G S (.int i t) (.int i)
  | str (x : Str) (t : Tok) : Is G S (.str x t) (.str x)
  | tuple {a : Addr} {o : Obj} {n : Nat} {vs : List Value} {ds : List D} : S a = some o → o.cls = .type "tuple" → o.data = .seq vs.toArray n → Alls G S vs ds → Is G S (.ref a) (.tuple ds)
  | list {a : Addr} {o : Obj} {n : Nat} {vs : List Value} {ds : List D} : S a = some o → o.cls = .type "list" → o.data = .seq vs.toArray n → Alls G S vs ds → Is G S (.ref a) (.list ds)
  | dict {a : Addr} {es : Array DictEntry} {ep : Nat} {kvs : List (Ky × Value)} {ks : List Ky} {ds : List D} : S a = some { cls := .type "dict", data := .dict es ep } → KeysOf G.knd es → Pairs G.knd es.toList kvs →
      ks = kvs.map (·.1) → ks.Nodup → Alls G S (kvs.map (·.2)) ds → (a == sysModules) = false → Is G S (.ref a) (.dict ks ds)
  | range {a : Addr} {x y : Int} {t u v : Tok} : S a = some { cls := .type "range", data := .fields #[.int x t, .int y u, .int 1 v] } → Is G S (.ref a) (.range x y)
  | items {v d : Addr} {ks : List Ky} {ds : List D} : S v = some { cls := .type "dict_items", data := .fields #[.ref d] } → Is G S (.ref d) (.dict ks ds) → Is G S (.ref v) (.items ks ds)
  | values {v d : Addr} {ks : List Ky} {ds : List D} : S v = some { cls := .type "dict_values", data := .fields #[.ref d] } → Is G S (.ref d) (.dict ks ds) → Is G S (.ref v) (.values ks ds)
  | raw (v : Value) : Is G S v (.raw v)
  | at {v : Value} {d : D} : Is G S v d → Is G S v (.at v d)
inductive Alls (G : Gl) (S : Fz) : List Value → List D → Prop
  | nil : Alls G S [] []
  | cons {v : Value} {vs : List Value} {d : D} {ds : List D} : Is G S v d → Alls G S vs ds → Alls G S (v :: vs) (d :: ds)
end
noncomputable def Sub (S S' : Fz) : Prop := ∀ a o, S a = some o → S' a = some o
theorem Sub.refl (S : Fz) : Sub S S := fun _ _ e => e
theorem Sub.trans {S S' S'' : Fz} (h : Sub S S') (h' : Sub S' S'') : Sub S S'' := fun a o e => h' a o (h a o e)
theorem Is.mono {G : Gl} {S S' : Fz} (hs : Sub S S') {v : Value} {d : D} (h : Is G S v d) : Is G S' v d :=
  Is.rec (motive_1 := fun v d _ => Is G S' v d) (motive_2 := fun vs ds _ => Alls G S' vs ds) .none .bool .int .str (fun h h1 h2 _ r => .tuple (hs _ _ h) h1 h2 r) (fun h h1 h2 _ r => .list (hs _ _ h) h1 h2 r)
    (fun h h1 h2 h3 h4 _ h5 r => .dict (hs _ _ h) h1 h2 h3 h4 r h5) (fun h => .range (hs _ _ h)) (fun h _ r => .items (hs _ _ h) r) (fun h _ r => .values (hs _ _ h) r) .raw (fun _ r => .at r) .nil (fun _ _ h r => .cons h r) h
theorem Alls.mono {G : Gl} {S S' : Fz} (hs : Sub S S') {vs : List Value} {ds : List D} (h : Alls G S vs ds) : Alls G S' vs ds :=
  Alls.rec (motive_1 := fun v d _ => Is G S' v d) (motive_2 := fun vs ds _ => Alls G S' vs ds) .none .bool .int .str (fun h h1 h2 _ r => .tuple (hs _ _ h) h1 h2 r) (fun h h1 h2 _ r => .list (hs _ _ h) h1 h2 r)
    (fun h h1 h2 h3 h4 _ h5 r => .dict (hs _ _ h) h1 h2 h3 h4 r h5) (fun h => .range (hs _ _ h)) (fun h _ r => .items (hs _ _ h) r) (fun h _ r => .values (hs _ _ h) r) .raw (fun _ r => .at r) .nil (fun _ _ h r => .cons h r) h
noncomputable def SeqI (G : Gl) (S : Fz) (t : String) (v : Value) (ds : List D) : Prop := ∃ a o n vs, v = .ref a ∧ S a = some o ∧ o.cls = .type t ∧ o.data = .seq vs.toArray n ∧ Alls G S vs ds
noncomputable def DictI (G : Gl) (S : Fz) (v : Value) (ks : List Ky) (ds : List D) : Prop := ∃ a es ep kvs, v = .ref a ∧ S a = some { cls := .type "dict", data := .dict es ep } ∧ KeysOf G.knd es ∧ Pairs G.knd es.toList kvs ∧
      ks = kvs.map (·.1) ∧ ks.Nodup ∧ Alls G S (kvs.map (·.2)) ds ∧ (a == sysModules) = false
noncomputable def RangeI (S : Fz) (v : Value) (x y : Int) : Prop := ∃ a t u w, v = .ref a ∧ S a = some { cls := .type "range", data := .fields #[.int x t, .int y u, .int 1 w] }
noncomputable def ViewI (G : Gl) (S : Fz) (t : String) (v : Value) (ks : List Ky) (ds : List D) : Prop := ∃ a d, v = .ref a ∧ S a = some { cls := .type t, data := .fields #[.ref d] } ∧ Is G S (.ref d) (.dict ks ds)
noncomputable def IsI (G : Gl) (S : Fz) (v : Value) : D → Prop
  | .none => v = .none
  | .bool b => v = .bool b
  | .int i => ∃ t, v = .int i t
  | .str x => ∃ t, v = .str x t
  | .tuple ds => SeqI G S "tuple" v ds
  | .list ds => SeqI G S "list" v ds
  | .dict ks ds => DictI G S v ks ds
  | .range x y => RangeI S v x y
  | .items ks ds => ViewI G S "dict_items" v ks ds
  | .values ks ds => ViewI G S "dict_values" v ks ds
  | .raw u => v = u
  | .at u d => v = u ∧ Is G S u d
noncomputable def AllsJ (G : Gl) (S : Fz) (ds : List D) : List Value → Prop
  | [] => ds = []
  | v :: vs => ∃ d r, ds = d :: r ∧ Is G S v d ∧ Alls G S vs r
noncomputable def AllsI (G : Gl) (S : Fz) (vs : List Value) : List D → Prop
  | [] => vs = []
  | d :: ds => ∃ v r, vs = v :: r ∧ Is G S v d ∧ Alls G S r ds
section
variable {G : Gl} {S : Fz} {v : Value} {d : D} {vs : List Value} {ds : List D} {ks : List Ky}
theorem Is.inv (h : Is G S v d) : IsI G S v d := by
  cases h with
  | none => exact rfl
  | bool => exact rfl
  | int i t => exact ⟨t, rfl⟩
  | str x t => exact ⟨t, rfl⟩
  | tuple h h1 h2 r => exact ⟨_, _, _, _, rfl, h, h1, h2, r⟩
  | list h h1 h2 r => exact ⟨_, _, _, _, rfl, h, h1, h2, r⟩
  | dict h h1 h2 h3 h4 r h5 => exact ⟨_, _, _, _, rfl, h, h1, h2, h3, h4, r, h5⟩
  | range h => exact ⟨_, _, _, _, rfl, h⟩
  | items h r => exact ⟨_, _, rfl, h, r⟩
  | values h r => exact ⟨_, _, rfl, h, r⟩
  | raw => exact rfl
  | «at» h => exact ⟨rfl, h⟩
theorem Alls.inv (h : Alls G S vs ds) : AllsI G S vs ds := by
  cases h with
  | nil => exact rfl
  | cons h r => exact ⟨_, _, rfl, h, r⟩
theorem Alls.invV (h : Alls G S vs ds) : AllsJ G S ds vs := by
  cases h with
  | nil => exact rfl
  | cons h r => exact ⟨_, _, rfl, h, r⟩
theorem Alls.nilV (h : Alls G S [] ds) : ds = [] := h.invV
theorem Alls.consV (h : Alls G S (v :: vs) ds) : ∃ d r, ds = d :: r ∧ Is G S v d ∧ Alls G S vs r := h.invV
theorem Is.noneI (h : Is G S v .none) : v = .none := h.inv
theorem Is.boolI {b : Bool} (h : Is G S v (.bool b)) : v = .bool b := h.inv
theorem Is.intI {i : Int} (h : Is G S v (.int i)) : ∃ t, v = .int i t := h.inv
theorem Is.strI {x : Str} (h : Is G S v (.str x)) : ∃ t, v = .str x t := h.inv
theorem Is.tupleI (h : Is G S v (.tuple ds)) : SeqI G S "tuple" v ds := h.inv
theorem Is.listI (h : Is G S v (.list ds)) : SeqI G S "list" v ds := h.inv
theorem Is.dictI (h : Is G S v (.dict ks ds)) : DictI G S v ks ds := h.inv
theorem Is.rangeI {x y : Int} (h : Is G S v (.range x y)) : RangeI S v x y := h.inv
theorem Is.itemsI (h : Is G S v (.items ks ds)) : ViewI G S "dict_items" v ks ds := h.inv
theorem Is.valuesI (h : Is G S v (.values ks ds)) : ViewI G S "dict_values" v ks ds := h.inv
theorem Is.rawI {u : Value} (h : Is G S v (.raw u)) : v = u := h.inv
theorem Is.atI {u : Value} (h : Is G S v (.at u d)) : v = u ∧ Is G S u d := h.inv
theorem Alls.nilI (h : Alls G S vs []) : vs = [] := h.inv
theorem Alls.consI (h : Alls G S vs (d :: ds)) : ∃ v r, vs = v :: r ∧ Is G S v d ∧ Alls G S r ds := h.inv
end
theorem cps {b : Prop} (h : ∀ P : Prop, (b → P) → P) : b := h b id
theorem len0 {α : Type} : ∀ {l : List α}, l.length = 0 → l = []
  | [], _ => rfl
theorem lenS {α : Type} {n : Nat} : ∀ {l : List α}, l.length = n + 1 → ∃ a r, l = a :: r ∧ r.length = n
  | a :: r, h => ⟨a, r, rfl, Nat.succ.inj h⟩
theorem len1 {α : Type} {l : List α} (h : l.length = 1) : ∃ a, l = [a] := let ⟨a, r, e, h⟩ := lenS h; ⟨a, by rw [e, len0 h]⟩
theorem len2 {α : Type} {l : List α} (h : l.length = 2) : ∃ a b, l = [a, b] := let ⟨a, r, e, h⟩ := lenS h; let ⟨b, e'⟩ := len1 h; ⟨a, b, by rw [e, e']⟩
theorem len3 {α : Type} {l : List α} (h : l.length = 3) : ∃ a b c, l = [a, b, c] := let ⟨a, r, e, h⟩ := lenS h; let ⟨b, c, e'⟩ := len2 h; ⟨a, b, c, by rw [e, e']⟩
theorem len4 {α : Type} {l : List α} (h : l.length = 4) : ∃ a b c d, l = [a, b, c, d] := let ⟨a, r, e, h⟩ := lenS h; let ⟨b, c, d, e'⟩ := len3 h; ⟨a, b, c, d, by rw [e, e']⟩
section
variable {G : Gl} {S : Fz} {v : Value} {d : D} {vs ws : List Value} {ds es : List D}
theorem Alls.ind {M : List Value → List D → Prop} (h0 : M [] []) (h1 : ∀ v vs d ds, Is G S v d → Alls G S vs ds → M vs ds → M (v :: vs) (d :: ds)) (h : Alls G S vs ds) : M vs ds :=
  Alls.rec (motive_1 := fun _ _ _ => True) (motive_2 := fun vs ds _ => M vs ds) trivial (fun _ => trivial) (fun _ _ => trivial) (fun _ _ => trivial) (fun _ _ _ _ _ => trivial) (fun _ _ _ _ _ => trivial)
    (fun _ _ _ _ _ _ _ _ => trivial) (fun _ => trivial) (fun _ _ _ => trivial) (fun _ _ _ => trivial) (fun _ => trivial) (fun _ _ => trivial) h0 (fun a b _ c => h1 _ _ _ _ a b c) h
theorem Alls.length (h : Alls G S vs ds) : vs.length = ds.length :=
  Alls.ind (M := fun vs ds => vs.length = ds.length) rfl (fun _ _ _ _ _ _ e => congrArg Nat.succ e) h
theorem Alls.append (h : Alls G S vs ds) (k : Alls G S ws es) : Alls G S (vs ++ ws) (ds ++ es) :=
  Alls.ind (M := fun vs ds => Alls G S (vs ++ ws) (ds ++ es)) k (fun _ _ _ _ h _ r => .cons h r) h
theorem Alls.get' (h : Alls G S vs ds) : ∀ {k : Nat} {v : Value}, vs[k]? = some v → ∃ d, ds[k]? = some d ∧ Is G S v d :=
  Alls.ind (M := fun vs ds => ∀ {k : Nat} {v : Value}, vs[k]? = some v → ∃ d, ds[k]? = some d ∧ Is G S v d) (fun e => nomatch e) (fun v vs d ds h _ r {k x} e => match k, e with | 0, e => ⟨d, rfl, Option.some.inj e ▸ h⟩ | k + 1, e => r (k := k) e) h
theorem Alls.take (h : Alls G S vs ds) : ∀ (n : Nat), Alls G S (vs.take n) (ds.take n) :=
  Alls.ind (M := fun vs ds => ∀ (n : Nat), Alls G S (vs.take n) (ds.take n)) (fun n => by rw [List.take_nil, List.take_nil]; exact .nil) (fun v vs d ds h _ r n => match n with | 0 => .nil | n + 1 => .cons h (r n)) h
theorem Alls.drop (h : Alls G S vs ds) : ∀ (n : Nat), Alls G S (vs.drop n) (ds.drop n) :=
  Alls.ind (M := fun vs ds => ∀ (n : Nat), Alls G S (vs.drop n) (ds.drop n)) (fun n => by rw [List.drop_nil, List.drop_nil]; exact .nil) (fun v vs d ds h k r n => match n with | 0 => .cons h k | n + 1 => r n) h
theorem Alls.ints : ∀ {ns : List Int} {vs : List Value}, Alls G S vs (ns.map D.int) → IntsAre vs ns
  | [], _, h => h.nilI ▸ .nil
  | n :: ns, _, h => by
    obtain ⟨v, r, rfl, i, h2⟩ := h.consI
    obtain ⟨t, rfl⟩ := i.intI
    exact .cons _ _ (Alls.ints h2)
end
noncomputable def Ky.d : Ky → D
  | .i k => .int k
  | .s x => .str x
theorem Is.ky {G : Gl} {S : Fz} {v : Value} {k : Ky} (h : Is G S v k.d) : G.knd.is k v = true := by
  cases k with
  | i => obtain ⟨t, rfl⟩ := h.intI; simp [kyKind, Ky.is, Value.isInt]
  | s => obtain ⟨t, rfl⟩ := h.strI; simp [kyKind, Ky.is, Value.isStrOf]
theorem Is.of_ky {G : Gl} {S : Fz} {v : Value} {k : Ky} (h : G.knd.is k v = true) : Is G S v k.d := by
  cases k
  · obtain ⟨t, rfl⟩ := Value.isInt_shape h; exact .int ..
  · obtain ⟨t, rfl⟩ := Value.isStrOf_shape h; exact .str ..
end Mine
end

section
namespace Mine
open PySem PySem.Calls PyProof.Rows
noncomputable abbrev tabObj (vs : Array Value) : Obj := { cls := .none, data := .fields vs }
noncomputable def TabOk (G : Gl) (S : Fz) (h : Heap) : Prop := ∀ t ∈ G.tabs, ∃ ps, h.get? t.P = some (tabObj ps) ∧
  (ps = t.ps₀ ∨ ∃ c' o, ps = t.ps₀ ++ #[rawInt t.line, rawInt t.col, .ref c'] ∧ S c' = some o ∧ t.good o)
structure Inv (G : Gl) (S : Fz) (s : Shared) : Prop where
  sub : ∀ a o, S a = some o → s.heap.get? a = some o
  base : Sub G.base S
  tab : TabOk G S s.heap
  tabS : ∀ t ∈ G.tabs, S t.P = none
  bare : AllBare s.gens
  os : s.os = G.os₀
noncomputable def NoTab (G : Gl) (b : Addr) : Prop := ∀ t ∈ G.tabs, t.P ≠ b
structure Stp (G : Gl) (S : Fz) (s : Shared) (S' : Fz) (s' : Shared) : Prop where
  inv : Inv G S' s'
  sub : Sub S S'
  new : ∀ a o, S' a = some o → S a = some o ∨ s.heap.get? a = none
  keep : ∀ b o, NoTab G b → s.heap.get? b = some o → s'.heap.get? b = some o
  gens : ∀ (g : Nat) (x : GenState), s.gens[g]? = some x → s'.gens[g]? = some x
section
variable {G : Gl} {S S' S'' : Fz} {s s' s'' : Shared}
theorem Inv.noTab (I : Inv G S s) {b : Addr} {o : Obj} (h : s.heap.get? b = some o) (hc : o.cls ≠ .none) : NoTab G b := fun t ht e => by
  obtain ⟨ps, hp, _⟩ := I.tab t ht
  rw [e, h] at hp
  obtain rfl := Option.some.inj hp
  exact hc rfl
theorem Inv.noTabS (I : Inv G S s) {b : Addr} {o : Obj} (h : S b = some o) : NoTab G b := fun t ht e => by
  have := I.tabS t ht
  rw [e, h] at this
  exact nomatch this
theorem Inv.noTabFresh (I : Inv G S s) {b : Addr} (h : s.heap.get? b = none) : NoTab G b := fun t ht e => by
  obtain ⟨ps, hp, _⟩ := I.tab t ht
  rw [e, h] at hp
  exact nomatch hp
theorem Stp.refl (I : Inv G S s) : Stp G S s S s := ⟨I, Sub.refl _, fun _ _ e => .inl e, fun _ _ _ e => e, fun _ _ e => e⟩
theorem Stp.trans (h : Stp G S s S' s') (h' : Stp G S' s' S'' s'') : Stp G S s S'' s'' where
  inv := h'.inv
  sub := h.sub.trans h'.sub
  new := fun a o e => by
    rcases h'.new a o e with x | x
    · exact h.new a o x
    · refine .inr ?_
      cases q : s.heap.get? a with
      | none => rfl
      | some o' =>
        exfalso
        have nt : NoTab G a := h'.inv.noTabS e
        rw [h.keep a o' nt q] at x
        exact nomatch x
  keep := fun b o nt e => h'.keep b o nt (h.keep b o nt e)
  gens := fun g x e => h'.gens g x (h.gens g x e)
theorem Inv.fresh {s : Shared} : s.heap.get? s.heap.objs.size = none := by
  cases q : s.heap.get? s.heap.objs.size with
  | none => rfl
  | some o => exact absurd (Heap.lt_size q) (Nat.lt_irrefl _)
theorem TabOk.keeps {h h' : Heap} (T : TabOk G S h) (hs : Sub S S') (hk : ∀ b o, h.get? b = some o → o.cls = .none → h'.get? b = some o) : TabOk G S' h' := fun t ht => by
  obtain ⟨ps, hp, x⟩ := T t ht
  refine ⟨ps, hk _ _ hp rfl, x.imp id ?_⟩
  rintro ⟨c', o, e, q, g⟩
  exact ⟨c', o, e, hs _ _ q, g⟩
theorem Inv.keeps (I : Inv G S s) {h' : Heap} {t : Nat} (hk : ∀ b o, s.heap.get? b = some o → h'.get? b = some o) : Stp G S s S { s with heap := h', toks := t } where
  inv := ⟨fun a o e => hk _ _ (I.sub a o e), I.base, I.tab.keeps (Sub.refl _) fun b o e _ => hk b o e, I.tabS, I.bare, I.os⟩
  sub := Sub.refl _
  new := fun _ _ e => .inl e
  keep := fun b o _ e => hk b o e
  gens := fun _ _ e => e
theorem Inv.toks (I : Inv G S s) (t : Nat) : Stp G S s S { s with toks := t } := I.keeps fun _ _ e => e
noncomputable def Fz.put (S : Fz) (a : Addr) (o : Obj) : Fz := fun b => if b = a then some o else S b
theorem Fz.put_self (S : Fz) (a : Addr) (o : Obj) : S.put a o a = some o := by simp [Fz.put]
theorem Fz.put_ne (S : Fz) {a b : Addr} (o : Obj) (h : b ≠ a) : S.put a o b = S b := by simp [Fz.put, h]
theorem Fz.sub_put {S : Fz} {a : Addr} {o : Obj} (h : S a = none) : Sub S (S.put a o) := fun b o' e => by
  by_cases q : b = a
  · subst q; rw [h] at e; exact nomatch e
  · rw [Fz.put_ne _ _ q]; exact e
theorem Inv.freeze (I : Inv G S s) {a : Addr} {o : Obj} (ho : s.heap.get? a = some o) (hc : o.cls ≠ .none) (hS : S a = none) : Inv G (S.put a o) s where
  sub := fun b o' e => by
    by_cases q : b = a
    · subst q; rw [Fz.put_self] at e; obtain rfl := Option.some.inj e; exact ho
    · rw [Fz.put_ne _ _ q] at e; exact I.sub _ _ e
  base := I.base.trans (Fz.sub_put hS)
  tab := I.tab.keeps (Fz.sub_put hS) fun _ _ e _ => e
  tabS := fun t ht => by rw [Fz.put_ne _ _ (I.noTab ho hc t ht)]; exact I.tabS t ht
  bare := I.bare
  os := I.os
theorem Inv.push (I : Inv G S s) (o : Obj) (hf : o.isFreed = false) (hc : o.cls ≠ .none) {t : Nat} : Stp G S s (S.put s.heap.objs.size o) { s with heap := s.heap.push o, toks := t } := by
  have hS : S s.heap.objs.size = none := by
    cases q : S s.heap.objs.size with
    | none => rfl
    | some o' => have := I.sub _ _ q; rw [Inv.fresh] at this; exact nomatch this
  have st := I.keeps (h' := s.heap.push o) (t := t) fun b o' e => Heap.get?_push_of_some _ e
  refine ⟨st.inv.freeze (Heap.get?_push_size _ hf) hc hS, Fz.sub_put hS, fun a o' e => ?_, st.keep, st.gens⟩
  by_cases q : a = s.heap.objs.size
  · subst q; exact .inr Inv.fresh
  · rw [Fz.put_ne _ _ q] at e; exact .inl e
theorem Inv.but (I : Inv G S s) {h' : Heap} {t : Nat} {wr : List Addr} (hw : ∀ a ∈ wr, S a = none ∧ NoTab G a)
    (hk : ∀ b o, b ∉ wr → s.heap.get? b = some o → h'.get? b = some o) : Inv G S { s with heap := h', toks := t } where
  sub := fun a o e => hk _ _ (fun q => by have := (hw a q).1; rw [e] at this; exact nomatch this) (I.sub a o e)
  base := I.base
  tab := fun t ht => by
    obtain ⟨ps, hp, x⟩ := I.tab t ht
    exact ⟨ps, hk _ _ (fun q => (hw _ q).2 t ht rfl) hp, x⟩
  tabS := I.tabS
  bare := I.bare
  os := I.os
end
noncomputable def Post {α : Type} (G : Gl) (S : Fz) (s : Shared) (P : Fz → α → Prop) : α → Shared → Prop := fun a s' => ∃ S', Stp G S s S' s' ∧ P S' a
noncomputable def No : Value → Shared → Prop := fun _ _ => False
section
variable {G : Gl} {A : Around} {S S' : Fz} {s s' : Shared} {α β : Type}
theorem Post.mono {P P' : Fz → α → Prop} {a : α} (h : Post G S s P a s') (hp : ∀ S', Sub S S' → P S' a → P' S' a) : Post G S s P' a s' :=
  let ⟨S', st, p⟩ := h; ⟨S', st, hp S' st.sub p⟩
theorem Post.pre {P : Fz → α → Prop} {a : α} {s'' : Shared} (st : Stp G S s S' s') (h : Post G S' s' P a s'') : Post G S s P a s'' :=
  let ⟨S'', st', p⟩ := h; ⟨S'', st.trans st', p⟩
theorem wp_post {m : Sem α} {P P' : Fz → α → Prop} {E : Value → Shared → Prop} (h : wpAny G.M A m (Post G S s P) E s) (hp : ∀ S' a, Sub S S' → P S' a → P' S' a) : wpAny G.M A m (Post G S s P') E s :=
  wpAny_mono h (fun _ _ q => q.mono fun S' hs => hp S' _ hs) fun _ _ e => e
theorem wp_pre {m : Sem α} {P : Fz → α → Prop} {E : Value → Shared → Prop} (st : Stp G S s S' s') (h : wpAny G.M A m (Post G S' s' P) E s') : wpAny G.M A m (Post G S s P) E s' :=
  wpAny_mono h (fun _ _ q => q.pre st) fun _ _ e => e
theorem wp_seq {m : Sem α} {P : Fz → α → Prop} {Q : α → Shared → Prop} {E : Value → Shared → Prop} (h : wpAny G.M A m (Post G S s P) E s)
    (hf : ∀ S' a s', Stp G S s S' s' → P S' a → Q a s') : wpAny G.M A m Q E s :=
  wpAny_mono h (fun a s' ⟨S', st, p⟩ => hf S' a s' st p) fun _ _ e => e
end
structure Room (n : Nat) (A : Around) : Prop where
  handled : A.handled = none
  depth : A.depth + n ≤ 900
  units : A.units + 50 * n ≤ 9000
section
variable {n : Nat} {A : Around}
theorem Room.in1 (h : Room (n + 1) A) : Room n A.in1 := ⟨h.handled, by have := h.depth; show A.depth + n ≤ 900; lia, by have := h.units; show A.units + 1 + 50 * n ≤ 9000; lia⟩
theorem Room.deeper (h : Room (n + 1) A) (env : Env) : Room n (A.deeper env) := ⟨h.handled, by have := h.depth; show A.depth + 1 + n ≤ 900; lia, by have := h.units; show A.units + 3 + 50 * n ≤ 9000; lia⟩
theorem Room.less (h : Room n A) {m : Nat} (hm : m ≤ n) : Room m A := ⟨h.handled, by have := h.depth; lia, by have := h.units; lia⟩
theorem Room.lt (h : Room n A) : A.depth < recursionLimit := by have := h.depth; show A.depth < 1000; lia
theorem Room.cl (h : Room n A) : A.units < cLine := by have := h.units; show A.units < 9900; lia
end
end Mine
end

section
namespace Mine
open PySem PySem.Calls PyProof.Rows
structure Act (sc : Scope) (mc : List Str) where
  env : Env
  hsc : env.scope = sc
  mt : List Addr
variable {sc : Scope} {mc : List Str}
theorem Act.kindOf (act : Act sc mc) (x : Str) : act.env.kindOf x = sc.names.lookup x := by unfold Env.kindOf; rw [act.hsc]
structure Kept where
  objs : Fz
  gens : Nat → Option GenState
inductive Loc where
  | val (d : D)
  | own (d : D)
noncomputable abbrev LEnv := List (Str × Loc)
inductive Own (G : Gl) (S : Fz) : Obj → D → Prop
  | list {n : Nat} {vs : List Value} {ds : List D} : Alls G S vs ds → Own G S { cls := .type "list", data := .seq vs.toArray n } (.list ds)
  | dict {es : Array DictEntry} {ep : Nat} {kvs : List (Ky × Value)} {ks : List Ky} {ds : List D} : KeysOf G.knd es → Pairs G.knd es.toList kvs →
      ks = kvs.map (·.1) → ks.Nodup → Alls G S (kvs.map (·.2)) ds → Own G S { cls := .type "dict", data := .dict es ep } (.dict ks ds)
theorem Own.mono {G : Gl} {S S' : Fz} {o : Obj} {d : D} (h : Own G S o d) (hs : Sub S S') : Own G S' o d := by
  cases h with
  | list r => exact .list (r.mono hs)
  | dict a b c d r => exact .dict a b c d (r.mono hs)
theorem Own.cls {G : Gl} {S : Fz} {o : Obj} {d : D} (h : Own G S o d) : o.cls ≠ .none := by cases h <;> exact fun e => nomatch e
theorem Own.is {G : Gl} {S : Fz} {a : Addr} {o : Obj} {d : D} (h : Own G S o d) (hS : S a = none) (hb : Sub G.base S) : Is G (S.put a o) (.ref a) d := by
  cases h with
  | list r => exact .list (Fz.put_self ..) rfl rfl (r.mono (Fz.sub_put hS))
  | dict h1 h2 h3 h4 r =>
    refine .dict (Fz.put_self ..) h1 h2 h3 h4 (r.mono (Fz.sub_put hS)) (beq_eq_false_iff_ne.mpr fun e => ?_)
    obtain ⟨o, ho⟩ := G.sm
    rw [e, hb _ _ ho] at hS
    exact nomatch hS
noncomputable def Reads (env : Env) (h : Heap) (x : Str) (v : Value) : Prop :=
  (env.kindOf x = some .local ∧ ∃ m, h.Ns env.locals m ∧ m x = some v) ∨
  ((env.kindOf x = some .cell ∨ env.kindOf x = some .free) ∧ ∃ c, env.cells.lookup x = some c ∧ h.IsCell c (some v))
noncomputable def VarOk (G : Gl) (act : Act sc mc) (kp : Kept) (adr : Str → Addr) (S : Fz) (s : Shared) (x : Str) : Loc → Prop
  | .val d => ∃ v, Reads act.env s.heap x v ∧ Is G S v d
  | .own d => Reads act.env s.heap x (.ref (adr x)) ∧ (∃ o, s.heap.get? (adr x) = some o ∧ Own G S o d) ∧ S (adr x) = none ∧ kp.objs (adr x) = none ∧ adr x ∉ act.mt
structure OK (G : Gl) (act : Act sc mc) (kp : Kept) (adr : Str → Addr) (ρ : LEnv) (S : Fz) (s : Shared) : Prop where
  inv : Inv G S s
  kept : ∀ a o, kp.objs a = some o → s.heap.get? a = some o
  knt : ∀ a o, kp.objs a = some o → NoTab G a
  kgens : ∀ (g : Nat) (x : GenState), kp.gens g = some x → s.gens[g]? = some x
  fn : sc.kind = .function
  glob : act.env.globals = mainGlobals
  blt : act.env.builtins = builtinsNs
  ns : ∃ m, s.heap.Ns act.env.locals m
  mtL : act.env.locals ∈ act.mt
  mt : ∀ b ∈ act.mt, S b = none ∧ kp.objs b = none ∧ NoTab G b ∧ ∃ o, s.heap.get? b = some o
  mtc : ∀ x ∈ mc, ∃ c, act.env.cells.lookup x = some c ∧ c ∈ act.mt
  apart : act.env.cells.Pairwise (fun x y => x.2 ≠ y.2)
  clo : ∀ x, (sc.names.lookup x = some .cell ∨ sc.names.lookup x = some .free) → ∃ c, act.env.cells.lookup x = some c
  cells : ∀ p ∈ act.env.cells, NoTab G p.2 ∧ ∃ v, s.heap.IsCell p.2 v
  vars : ∀ x l, ρ.lookup x = some l → VarOk G act kp adr S s x l
  inj : ∀ x y dx dy, ρ.lookup x = some (.own dx) → ρ.lookup y = some (.own dy) → adr x = adr y → x = y
theorem cell_in {env : Env} {x : Str} {c : Addr} (h : env.cells.lookup x = some c) : (x, c) ∈ env.cells := mem_of_lookup h
section
variable {G : Gl} {A : Around} {act : Act sc mc} {kp : Kept} {adr : Str → Addr} {ρ : LEnv} {S S' : Fz} {s s' : Shared}
theorem Reads.of {env : Env} {h h' : Heap} {x : Str} {v : Value} (r : Reads env h x v) (hl : ∀ o, h.get? env.locals = some o → h'.get? env.locals = some o)
    (hc : ∀ c, env.cells.lookup x = some c → ∀ o, h.get? c = some o → h'.get? c = some o) : Reads env h' x v := by
  rcases r with ⟨k, m, hm, e⟩ | ⟨k, c, hx, o, ho, hd⟩
  · exact .inl ⟨k, m, hm.at' hl, e⟩
  · exact .inr ⟨k, c, hx, o, hc c hx o ho, hd⟩
theorem OK.fn' (O : OK G act kp adr ρ S s) : act.env.scope.kind = .function := by rw [act.hsc]; exact O.fn
theorem OK.ntL (O : OK G act kp adr ρ S s) : NoTab G act.env.locals := (O.mt _ O.mtL).2.2.1
theorem OK.step (O : OK G act kp adr ρ S s) (st : Stp G S s S' s') : OK G act kp adr ρ S' s' where
  inv := st.inv
  kept := fun a o e => st.keep a o (O.knt a o e) (O.kept a o e)
  knt := O.knt
  kgens := fun g x e => st.gens g x (O.kgens g x e)
  fn := O.fn
  glob := O.glob
  blt := O.blt
  ns := let ⟨m, hm⟩ := O.ns; ⟨m, hm.at' fun o e => st.keep _ _ O.ntL e⟩
  mtL := O.mtL
  mt := fun b hb => by
    obtain ⟨h1, h2, h3, o, ho⟩ := O.mt b hb
    refine ⟨?_, h2, h3, o, st.keep _ _ h3 ho⟩
    cases q : S' b with
    | none => rfl
    | some o' =>
      rcases st.new b o' q with e | e
      · rw [h1] at e; exact nomatch e
      · rw [ho] at e; exact nomatch e
  mtc := O.mtc
  apart := O.apart
  clo := O.clo
  cells := fun p hp => by
    obtain ⟨nt, v, o, ho, hd⟩ := O.cells p hp
    exact ⟨nt, v, o, st.keep _ _ nt ho, hd⟩
  vars := fun x l e => by
    have rd : ∀ v, Reads act.env s.heap x v → Reads act.env s'.heap x v := fun v r =>
      r.of (fun o ho => st.keep _ _ O.ntL ho) fun c hc o ho => st.keep _ _ (O.cells _ (cell_in hc)).1 ho
    have q := O.vars x l e
    cases l with
    | val d => obtain ⟨v, r, i⟩ := q; exact ⟨v, rd v r, i.mono st.sub⟩
    | own d =>
      obtain ⟨r, ⟨o, ho, w⟩, h1, h2, h3⟩ := q
      refine ⟨rd _ r, ⟨o, st.keep _ _ (O.inv.noTab ho w.cls) ho, w.mono st.sub⟩, ?_, h2, h3⟩
      cases q : S' (adr x) with
      | none => rfl
      | some o' =>
        rcases st.new _ o' q with e | e
        · rw [h1] at e; exact nomatch e
        · rw [ho] at e; exact nomatch e
  inj := O.inj
theorem OK.weaken (O : OK G act kp adr ρ S s) {ρ' : LEnv} (h : ∀ x l, ρ'.lookup x = some l → ρ.lookup x = some l) : OK G act kp adr ρ' S s :=
  { O with
    vars := fun x l e => O.vars x l (h x l e)
    inj := fun x y dx dy ex ey => O.inj x y dx dy (h _ _ ex) (h _ _ ey) }
structure Gro (kp : Kept) (S S' : Fz) : Prop where
  sub : Sub S S'
  new : ∀ a o, S' a = some o → S a = some o ∨ kp.objs a = none
theorem Gro.refl (kp : Kept) (S : Fz) : Gro kp S S := ⟨Sub.refl _, fun _ _ e => .inl e⟩
theorem Gro.trans {S'' : Fz} (h : Gro kp S S') (h' : Gro kp S' S'') : Gro kp S S'' := ⟨h.sub.trans h'.sub, fun a o e => (h'.new a o e).elim (h.new a o) .inr⟩
theorem OK.gro (O : OK G act kp adr ρ S s) (st : Stp G S s S' s') : Gro kp S S' := ⟨st.sub, fun a o e => (st.new a o e).imp id fun q => by
  cases h : kp.objs a with
  | none => rfl
  | some o' => rw [O.kept a o' h] at q; exact nomatch q⟩
theorem OK.freezeI (O : OK G act kp adr ρ S s) {x : Str} {d : D} (hx : ρ.lookup x = some (.own d)) :
    ∃ S', Gro kp S S' ∧ Is G S' (.ref (adr x)) d ∧ OK G act kp adr ((x, .val d) :: ρ) S' s := by
  obtain ⟨r, ⟨o, ho, w⟩, h1, h2, h3⟩ := O.vars x _ hx
  have hs := Fz.sub_put (o := o) h1
  refine ⟨S.put (adr x) o, ⟨hs, fun a o' e => ?_⟩, w.is h1 O.inv.base, { O with inv := O.inv.freeze ho w.cls h1, mt := fun b hb => ?_, vars := fun y l e => ?_, inj := fun y z dy dz ey ez => ?_ }⟩
  · by_cases q : a = adr x
    · subst q; exact .inr h2
    · rw [Fz.put_ne _ _ q] at e; exact .inl e
  · obtain ⟨a1, a2⟩ := O.mt b hb
    exact ⟨by rw [Fz.put_ne S o (a := adr x) (b := b) (fun q => h3 (by rw [← q]; exact hb))]; exact a1, a2⟩
  · by_cases q : y = x
    · subst q
      simp only [List.lookup_cons_self] at e
      obtain rfl := Option.some.inj e
      exact ⟨_, r, w.is h1 O.inv.base⟩
    · rw [List.lookup_cons, beq_eq_false_iff_ne.mpr q] at e
      have z := O.vars y l e
      cases l with
      | val dy => obtain ⟨v, r, i⟩ := z; exact ⟨v, r, i.mono hs⟩
      | own dy =>
        obtain ⟨r', ⟨o', ho', w'⟩, g1, g2, g3⟩ := z
        exact ⟨r', ⟨o', ho', w'.mono hs⟩, by rw [Fz.put_ne _ _ (fun h => q (O.inj y x dy d e hx h))]; exact g1, g2, g3⟩
  · by_cases qy : y = x
    · subst qy; simp at ey
    · by_cases qz : z = x
      · subst qz; simp at ez
      · rw [List.lookup_cons, beq_eq_false_iff_ne.mpr qy] at ey
        rw [List.lookup_cons, beq_eq_false_iff_ne.mpr qz] at ez
        exact O.inj y z dy dz ey ez
theorem OK.freeze (O : OK G act kp adr ρ S s) {x : Str} {d : D} (hx : ρ.lookup x = some (.own d)) :
    ∃ S', Gro kp S S' ∧ OK G act kp adr ((x, .val d) :: ρ) S' s :=
  let ⟨S', g, _, O'⟩ := O.freezeI hx; ⟨S', g, O'⟩
theorem OK.name (O : OK G act kp adr ρ S s) {x : Str} {d : D} {pos : Pos} {Q : Value → Shared → Prop} {E : Value → Shared → Prop} (hx : ρ.lookup x = some (.val d))
    (h : ∀ v, Is G S v d → Q v s) (hd : (x == ("__debug__" : Str)) = false := by decide) (hn : (x == ("__classdict__" : Str)) = false := by decide) : wpAny G.M A (eval (.Name x pos) act.env) Q E s := by
  obtain ⟨v, r, i⟩ := O.vars x _ hx
  refine wpAny_Name ?_ hd
  rcases r with ⟨k, m, hm, e⟩ | ⟨k | k, c, hc, hv⟩
  · exact wpAny_loadName_local O.fn' k hm e (h v i)
  · exact wpAny_loadName_cell O.fn' k hc hv (h v i)
  · exact wpAny_loadName_free O.fn' k hc hv (h v i) hn
abbrev Stores (sc : Scope) (mc : List Str) (x : Str) : Prop := sc.names.lookup x = some .local ∨ (sc.names.lookup x = some .cell ∧ x ∈ mc)
theorem lookup_cons_ne {x y : Str} {l : Loc} {ρ : LEnv} (h : y ≠ x) : List.lookup y ((x, l) :: ρ) = ρ.lookup y := by
  rw [List.lookup_cons, beq_eq_false_iff_ne.mpr h]
structure Stored (act : Act sc mc) (x : Str) (v : Value) (h h' : Heap) : Prop where
  reads : Reads act.env h' x v
  others : ∀ y u, y ≠ x → Reads act.env h y u → Reads act.env h' y u
  keep : ∀ b o, b ∉ act.mt → h.get? b = some o → h'.get? b = some o
  live : ∀ b o, h.get? b = some o → ∃ o', h'.get? b = some o'
  ns : ∃ m, h'.Ns act.env.locals m
  cells : ∀ p ∈ act.env.cells, (∃ v, h.IsCell p.2 v) → ∃ v, h'.IsCell p.2 v
  size : sc.names.lookup x = some .local → h'.objs.size = h.objs.size
theorem OK.store (O : OK G act kp adr ρ S s) {x : Str} {v : Value} {Q : Unit → Shared → Prop} {E : Value → Shared → Prop} (hx : Stores sc mc x)
    (h : ∀ h' t, Stored act x v s.heap h' → Q () { s with heap := h', toks := t }) : wpAny G.M A (storeName act.env x v) Q E s := by
  rcases hx with k | ⟨k, hm⟩ <;> rw [← act.kindOf] at k
  · obtain ⟨m, hm⟩ := O.ns
    refine wpAny_storeName_local k hm (fun h' hn hs => h h' _ ?_) (by rw [O.fn']; rfl)
    have cne : ∀ c w, s.heap.IsCell c w → c ≠ act.env.locals := fun c w hc e => by
      obtain ⟨o, es, ep, ho, hd, _⟩ := hm
      obtain ⟨o', ho', hd'⟩ := hc
      rw [e, ho] at ho'
      obtain rfl := Option.some.inj ho'
      rw [hd] at hd'
      exact nomatch hd'
    refine ⟨.inl ⟨k, _, hn, by simp⟩, fun y u hy r => ?_, fun b o hb e => hs.extBut b o (fun q => hb (q ▸ O.mtL)) e, fun b o e => ?_, ⟨_, hn⟩, fun p hp ⟨w, hw⟩ => ⟨w, hw.sameBut hs (cne _ _ hw)⟩, fun _ => hs.1⟩
    · rcases r with ⟨ky, m', hm', e⟩ | ⟨ky, c, hc, hv⟩
      · refine .inl ⟨ky, _, hn, ?_⟩
        have : m y = m' y := by
          obtain ⟨o, es, ep, ho, hd, _, h1⟩ := hm
          obtain ⟨o', es', ep', ho', hd', _, h1'⟩ := hm'
          rw [ho] at ho'
          obtain rfl := Option.some.inj ho'
          rw [hd] at hd'
          obtain ⟨rfl, rfl⟩ := PySem.Data.dict.inj hd'
          rw [← h1, ← h1']
        simp [hy, this, e]
      · exact .inr ⟨ky, c, hc, hv.sameBut hs (cne _ _ hv)⟩
    · by_cases q : b = act.env.locals
      · subst q; obtain ⟨o', _, _, ho', _⟩ := hn; exact ⟨o', ho'⟩
      · exact ⟨o, hs.extBut b o q e⟩
  · obtain ⟨c, hc, hcm⟩ := O.mtc x hm
    obtain ⟨_, v₀, hv₀⟩ := O.cells _ (cell_in hc)
    refine wpAny_storeName_cell O.fn' k hc hv₀ fun h' hv hs => h h' _ ?_
    have cL : act.env.locals ≠ c := fun e => by
      obtain ⟨m, o, es, ep, ho, hd, _⟩ := O.ns
      obtain ⟨o', ho', hd'⟩ := hv₀
      rw [e] at ho
      have ho' : s.heap.get? c = some o' := ho'
      rw [ho] at ho'
      obtain rfl := Option.some.inj ho'
      rw [hd] at hd'
      exact nomatch hd'
    refine ⟨.inr ⟨.inl k, c, hc, hv⟩, fun y u hy r => ?_, fun b o hb e => hs.extBut b o (fun q => hb (q ▸ hcm)) e, fun b o e => ?_, ?_, fun p hp ⟨w, hw⟩ => ?_, fun k' => nomatch (k.symm.trans ((act.kindOf x).trans k') : some NameKind.cell = some .local)⟩
    · rcases r with ⟨ky, m', hm', e⟩ | ⟨ky, c', hc', hv'⟩
      · exact .inl ⟨ky, m', hm'.sameBut hs cL, e⟩
      · refine .inr ⟨ky, c', hc', hv'.sameBut hs fun e => hy ?_⟩
        subst e
        exact name_of_addr O.apart (cell_in hc') (cell_in hc)
    · by_cases q : b = c
      · subst q; obtain ⟨o', ho', _⟩ := hv; exact ⟨o', ho'⟩
      · exact ⟨o, hs.extBut b o q e⟩
    · obtain ⟨m, hm⟩ := O.ns; exact ⟨m, hm.sameBut hs cL⟩
    · by_cases q : p.2 = c
      · rw [q]; exact ⟨_, hv⟩
      · exact ⟨w, hw.sameBut hs q⟩
theorem OK.after (O : OK G act kp adr ρ S s) {x : Str} {v : Value} {h' : Heap} {t : Nat} (st : Stored act x v s.heap h') {ρ' : LEnv} (hρ : ∀ y l, y ≠ x → ρ'.lookup y = some l → ρ.lookup y = some l) {adr' : Str → Addr}
    (ha : ∀ y, y ≠ x → adr' y = adr y) (hv : ∀ l, ρ'.lookup x = some l → VarOk G act kp adr' S { s with heap := h', toks := t } x l)
    (hi : ∀ y dx dy, y ≠ x → ρ'.lookup x = some (.own dx) → ρ'.lookup y = some (.own dy) → adr' x ≠ adr y) : OK G act kp adr' ρ' S { s with heap := h', toks := t } where
  inv := O.inv.but (wr := act.mt) (fun a ha => ⟨(O.mt a ha).1, (O.mt a ha).2.2.1⟩) st.keep
  kept := fun a o e => st.keep _ _ (fun hm => by rw [(O.mt a hm).2.1] at e; exact nomatch e) (O.kept a o e)
  knt := O.knt
  kgens := O.kgens
  fn := O.fn
  glob := O.glob
  blt := O.blt
  ns := st.ns
  mtL := O.mtL
  mt := fun b hb => by
    (refine cps fun ZP zk => ?_; obtain ⟨h1, h2, h3, o, ho⟩ := O.mt b hb; refine zk ?_)
    exact ⟨h1, h2, h3, st.live _ _ ho⟩
  mtc := O.mtc
  apart := O.apart
  clo := O.clo
  cells := fun p hp => ⟨(O.cells p hp).1, st.cells p hp (O.cells p hp).2⟩
  vars := fun y l e => by
    by_cases q : y = x
    · subst q; exact hv l e
    · have z := O.vars y l (hρ y l q e)
      cases l with
      | val dy => obtain ⟨u, r, i⟩ := z; exact ⟨u, st.others y u q r, i⟩
      | own dy =>
        (refine cps fun ZP zk => ?_; obtain ⟨r, ⟨o, ho, w⟩, g1, g2, g3⟩ := z; refine zk ?_)
        unfold VarOk
        rw [ha y q]
        exact ⟨st.others y _ q r, ⟨o, st.keep _ _ g3 ho, w⟩, g1, g2, g3⟩
  inj := fun y z dy dz ey ez e => by
    by_cases qy : y = x <;> by_cases qz : z = x
    · rw [qy, qz]
    · subst qy
      rw [ha z qz] at e
      exact absurd e (hi z dy dz qz ey ez)
    · subst qz
      rw [ha y qy] at e
      exact absurd e.symm (hi y dz dy qy ez ey)
    · rw [ha y qy, ha z qz] at e
      exact O.inj y z dy dz (hρ _ _ qy ey) (hρ _ _ qz ez) e
theorem OK.storeValSz (O : OK G act kp adr ρ S s) {x : Str} {v : Value} {d : D} {Q : Unit → Shared → Prop} {E : Value → Shared → Prop} (hx : Stores sc mc x) (hv : Is G S v d)
    (h : ∀ h' t, OK G act kp adr ((x, .val d) :: ρ) S { s with heap := h', toks := t } → (sc.names.lookup x = some .local → h'.objs.size = s.heap.objs.size) → Q () { s with heap := h', toks := t }) : wpAny G.M A (storeName act.env x v) Q E s :=
  O.store hx fun h' t st => h h' t (O.after st (fun y l hy e => by rwa [lookup_cons_ne hy] at e) (fun _ _ => rfl)
    (fun l e => by simp only [List.lookup_cons_self] at e; obtain rfl := Option.some.inj e; exact ⟨v, st.reads, hv⟩) fun y dx dy _ e _ => by simp at e) st.size
theorem OK.storeVal (O : OK G act kp adr ρ S s) {x : Str} {v : Value} {d : D} {Q : Unit → Shared → Prop} {E : Value → Shared → Prop} (hx : Stores sc mc x) (hv : Is G S v d)
    (h : ∀ h' t, OK G act kp adr ((x, .val d) :: ρ) S { s with heap := h', toks := t } → Q () { s with heap := h', toks := t }) : wpAny G.M A (storeName act.env x v) Q E s :=
  O.storeValSz hx hv fun h' t o _ => h h' t o
structure Fresh (G : Gl) (act : Act sc mc) (kp : Kept) (adr : Str → Addr) (ρ : LEnv) (S : Fz) (s : Shared) (a : Addr) (d : D) : Prop where
  obj : ∃ o, s.heap.get? a = some o ∧ Own G S o d
  S : S a = none
  kp : kp.objs a = none
  mt : a ∉ act.mt
  ne : ∀ y d, ρ.lookup y = some (.own d) → adr y ≠ a
theorem OK.storeOwn (O : OK G act kp adr ρ S s) {x : Str} {a : Addr} {d : D} {Q : Unit → Shared → Prop} {E : Value → Shared → Prop} (hx : Stores sc mc x) (hv : Fresh G act kp adr ρ S s a d)
    (h : ∀ h' t, OK G act kp (fun y => if y = x then a else adr y) ((x, .own d) :: ρ) S { s with heap := h', toks := t } → Q () { s with heap := h', toks := t }) : wpAny G.M A (storeName act.env x (.ref a)) Q E s :=
  O.store hx fun h' t st => h h' t (O.after st (fun y l hy e => by rwa [lookup_cons_ne hy] at e) (fun y hy => by simp [hy])
    (fun l e => by
      simp only [List.lookup_cons_self] at e
      obtain rfl := Option.some.inj e
      (refine cps fun ZP zk => ?_; obtain ⟨⟨o, ho, w⟩, h1, h2, h3, _⟩ := hv; refine zk ?_)
      show Reads _ _ _ (.ref (if x = x then a else adr x)) ∧ _
      simp only [if_true]
      exact ⟨st.reads, ⟨o, st.keep _ _ h3 ho, w⟩, h1, h2, h3⟩)
    fun y dx dy hy _ e => by
      rw [lookup_cons_ne hy] at e
      simp only [if_true]
      exact (hv.ne y dy e).symm)
end

/-! judgements -/
noncomputable def Ev (G : Gl) (A : Around) (act : Act sc mc) (ρ : LEnv) (e : Expr) (d : D) : Prop := ∀ kp adr S s, OK G act kp adr ρ S s → wpAny G.M A (eval e act.env) (Post G S s fun S' v => Is G S' v d) No s
noncomputable def Te (G : Gl) (A : Around) (act : Act sc mc) (ρ : LEnv) (e : Expr) (b : Bool) : Prop := ∀ kp adr S s, OK G act kp adr ρ S s → wpAny G.M A (isTrue e act.env (eval e act.env)) (Post G S s fun _ b' => b' = b) No s
noncomputable def EvO (G : Gl) (A : Around) (act : Act sc mc) (ρ : LEnv) (e : Expr) (d : D) : Prop := ∀ kp adr S s, OK G act kp adr ρ S s → wpAny G.M A (eval e act.env)
  (fun v s' => ∃ S' a o, Stp G S s S' s' ∧ v = .ref a ∧ s'.heap.get? a = some o ∧ Own G S' o d ∧ S' a = none ∧ s.heap.get? a = none) No s
theorem EvO.ev {G : Gl} {A : Around} {act : Act sc mc} {ρ : LEnv} {e : Expr} {d : D} (h : EvO G A act ρ e d) : Ev G A act ρ e d := fun kp adr S s O =>
  wpAny_mono (h kp adr S s O) (fun v s' ⟨S', a, o, st, hv, ho, w, hS, hn⟩ => by
    subst hv
    refine ⟨S'.put a o, ?_, w.is hS st.inv.base⟩
    exact ⟨st.inv.freeze ho w.cls hS, st.sub.trans (Fz.sub_put hS), fun b o' e => by
      by_cases q : b = a
      · subst q; exact .inr hn
      · rw [Fz.put_ne _ _ q] at e; exact st.new b o' e, st.keep, st.gens⟩) fun _ _ e => e
end Mine
end

section
namespace Mine
variable {sc : Scope} {mc : List Str}
open PySem PySem.Calls PyProof.Rows
noncomputable def Op2 (G : Gl) (A : Around) (m : Value → Value → Sem Value) (a b c : D) : Prop := ∀ S s va vb, Inv G S s → Is G S va a → Is G S vb b → wpAny G.M A (m va vb) (Post G S s fun S' v => Is G S' v c) No s
noncomputable def Cmp (G : Gl) (A : Around) (op : CmpOp) (a b : D) (r : Bool) : Prop := ∀ S s va vb, Inv G S s → Is G S va a → Is G S vb b → wpAny G.M A (compareOp op va vb) (Post G S s fun _ v => v = .bool r) No s
noncomputable def Tru (G : Gl) (A : Around) (a : D) (r : Bool) : Prop := ∀ S s va, Inv G S s → Is G S va a → wpAny G.M A (truthy va) (Post G S s fun _ v => v = r) No s
section
variable {G : Gl} {A : Around} {act : Act sc mc} {ρ : LEnv} {l r e t x y : Expr} {a b c d : D} {pos : Pos} {p q : Bool}
theorem Ev.eq {d d' : D} (h : Ev G A act ρ e d) (he : d = d') : Ev G A act ρ e d' := he ▸ h
theorem Ev.int (i : Int) {k : Nat} : Ev G A act ρ (.Constant (.int i) k pos) (.int i) := fun _ _ _ s O => wpAny_Constant_int ⟨_, O.inv.toks _, .int ..⟩
theorem Ev.str (x : Str) {k : Nat} : Ev G A act ρ (.Constant (.str x) k pos) (.str x) := fun _ _ _ s O => wpAny_Constant_str ⟨_, O.inv.toks _, .str ..⟩
theorem Ev.bool (b : Bool) {k : Nat} : Ev G A act ρ (.Constant (.bool b) k pos) (.bool b) := fun _ _ _ s O => wpAny_Constant_bool ⟨_, .refl O.inv, .bool ..⟩
theorem Ev.none {k : Nat} : Ev G A act ρ (.Constant .none k pos) .none := fun _ _ _ s O => wpAny_Constant_none ⟨_, .refl O.inv, .none⟩
theorem Ev.name {n : Str} (hx : ρ.lookup n = some (.val d)) (hd : (n == ("__debug__" : Str)) = false := by decide) (hn : (n == ("__classdict__" : Str)) = false := by decide) : Ev G A act ρ (.Name n pos) d :=
  fun _ _ _ _ O => O.name hx (fun _ i => ⟨_, .refl O.inv, i⟩) hd hn
theorem Ev.bin {op : Operator} (hl : Ev G A act ρ l a) (hr : Ev G A act ρ r b) (ho : Op2 G A (binaryOp op) a b c) : Ev G A act ρ (.BinOp l op r pos) c := fun kp adr S s O =>
  wpAny_BinOp (wp_seq (hl kp adr S s O) fun S₁ va s₁ st₁ ia => wp_seq (hr kp adr S₁ s₁ (O.step st₁)) fun S₂ vb s₂ st₂ ib =>
    wp_pre (st₁.trans st₂) (ho S₂ s₂ va vb st₂.inv (ia.mono st₂.sub) ib))
theorem Ev.cmp {op : CmpOp} (hl : Ev G A act ρ l a) (hr : Ev G A act ρ r b) (ho : Cmp G A op a b p) (hm : behindInMarks op r = false := by with_unfolding_all rfl) : Ev G A act ρ (.Compare l [op] [r] pos) (.bool p) := fun kp adr S s O =>
  wpAny_Compare1 (wp_seq (hl kp adr S s O) fun S₁ va s₁ st₁ ia => wp_seq (hr kp adr S₁ s₁ (O.step st₁)) fun S₂ vb s₂ st₂ ib =>
    wp_pre (st₁.trans st₂) (wp_post (ho S₂ s₂ va vb st₂.inv (ia.mono st₂.sub) ib) fun _ _ _ e => e ▸ .bool p)) hm
theorem Te.cmp {op : CmpOp} (hl : Ev G A act ρ l a) (hr : Ev G A act ρ r b) (ho : Cmp G A op a b p) (hm : behindInMarks op r = false := by with_unfolding_all rfl) : Te G A act ρ (.Compare l [op] [r] pos) p := fun kp adr S s O =>
  wpAny_isTrue_Compare1 (wp_seq (hl kp adr S s O) fun S₁ va s₁ st₁ ia => wp_seq (hr kp adr S₁ s₁ (O.step st₁)) fun S₂ vb s₂ st₂ ib =>
    wp_seq (ho S₂ s₂ va vb st₂.inv (ia.mono st₂.sub) ib) fun S₃ v s₃ st₃ e => e ▸ wpAny_truthy_bool ⟨S₃, (st₁.trans st₂).trans st₃, rfl⟩) hm
theorem Te.and_nil : Te G A act ρ (.BoolOp .And [] pos) true := fun _ _ _ _ O => isTrue_and_nil ⟨_, .refl O.inv, rfl⟩
theorem Te.or_nil : Te G A act ρ (.BoolOp .Or [] pos) false := fun _ _ _ _ O => isTrue_or_nil ⟨_, .refl O.inv, rfl⟩
theorem Te.and {rest : List Expr} (h : Te G A act ρ x p) (h' : p = true → Te G A act ρ (.BoolOp .And rest pos) q) : Te G A act ρ (.BoolOp .And (x :: rest) pos) (p && q) := fun kp adr S s O =>
  isTrue_and (wp_seq (h kp adr S s O) fun S₁ b s₁ st₁ e => by
    subst e
    cases b with
    | true => exact wp_pre st₁ (h' rfl kp adr S₁ s₁ (O.step st₁))
    | false => exact ⟨S₁, st₁, rfl⟩)
theorem Te.or {rest : List Expr} (h : Te G A act ρ x p) (h' : p = false → Te G A act ρ (.BoolOp .Or rest pos) q) : Te G A act ρ (.BoolOp .Or (x :: rest) pos) (p || q) := fun kp adr S s O =>
  isTrue_or (wp_seq (h kp adr S s O) fun S₁ b s₁ st₁ e => by
    subst e
    cases b with
    | true => exact ⟨S₁, st₁, rfl⟩
    | false => exact wp_pre st₁ (h' rfl kp adr S₁ s₁ (O.step st₁)))
theorem Te.eq (h : Te G A act ρ x p) (e : p = q) : Te G A act ρ x q := e ▸ h
theorem Te.of (h : Ev G A act ρ x d) (ht : Tru G A d p) (he : ∀ env whole, isTrue x env whole = (do let v ← whole; standAt x.pos; holding [v] (truthy v)) := by intro _ _; rfl) : Te G A act ρ x p := fun kp adr S s O =>
  isTrue_plain (wp_seq (h kp adr S s O) fun S₁ v s₁ st₁ i => wp_pre st₁ (ht S₁ s₁ v st₁.inv i)) (he _ _)
theorem Ev.ite (ht : Te G A act ρ t p) (hx : p = true → Ev G A act ρ x d) (hy : p = false → Ev G A act ρ y d) : Ev G A act ρ (.IfExp t x y pos) d := fun kp adr S s O =>
  IfExp_ (wp_seq (ht kp adr S s O) fun S₁ b s₁ st₁ e => by
    subst e
    cases b with
    | true => exact wp_pre st₁ (hx rfl kp adr S₁ s₁ (O.step st₁))
    | false => exact wp_pre st₁ (hy rfl kp adr S₁ s₁ (O.step st₁)))
theorem Ev.neg {i : Int} (h : Ev G A act ρ x (.int i)) : Ev G A act ρ (.UnaryOp .USub x pos) (.int (-i)) := fun kp adr S s O =>
  UnaryOp_ (wp_seq (h kp adr S s O) fun S₁ v s₁ st₁ i => by obtain ⟨t, rfl⟩ := i.intI; exact neg_int ⟨S₁, st₁.trans (st₁.inv.toks _), .int ..⟩)
inductive Evs (G : Gl) (A : Around) (act : Act sc mc) (ρ : LEnv) : List Expr → List D → Prop
  | nil : Evs G A act ρ [] []
  | cons {e : Expr} {es : List Expr} {d : D} {ds : List D} : Ev G A act ρ e d → Evs G A act ρ es ds → (∀ env, starEach (e :: es) env = (false, eval e env) :: starEach es env) → Evs G A act ρ (e :: es) (d :: ds)
theorem Evs.more {es : List Expr} {ds : List D} (h : Ev G A act ρ e d) (hs : Evs G A act ρ es ds) (he : ∀ env, starEach (e :: es) env = (false, eval e env) :: starEach es env := by intro _; rfl) : Evs G A act ρ (e :: es) (d :: ds) := .cons h hs he
theorem Evs.spliced {es : List Expr} {ds : List D} (h : Evs G A act ρ es ds) : ∀ kp adr S s, OK G act kp adr ρ S s → wpAny G.M A (spliced (backTo pos (starEach es act.env))) (Post G S s fun S' vs => Alls G S' vs ds) No s := by
  induction h with
  | nil => exact fun _ _ _ _ O => spliced_none ⟨_, .refl O.inv, .nil⟩
  | cons h _ he ih =>
    intro kp adr S s O
    refine spliced_more (wp_seq (h kp adr S s O) fun S₁ v s₁ st₁ i => wp_seq (ih kp adr S₁ s₁ (O.step st₁)) fun S₂ vs s₂ st₂ is => ⟨S₂, st₁.trans st₂, .cons (i.mono st₂.sub) is⟩) (he _)
end
section
variable {G : Gl} {A : Around} {S : Fz} {s : Shared} {E : Value → Shared → Prop}
theorem new_tuple (I : Inv G S s) {vs : List Value} {ds : List D} (h : Alls G S vs ds) (hl : ds.length ≤ sizeLine) : wpAny G.M A (newTuple vs) (Post G S s fun S' v => Is G S' v (.tuple ds)) E s := by
  refine wpAny_newObj_type (T := "tuple") (data := .seq vs.toArray) ?_ (by show vs.toArray.size ≤ sizeLine; rw [List.size_toArray, h.length]; exact hl)
  exact ⟨_, I.push { cls := .type "tuple", data := .seq vs.toArray } rfl (fun e => nomatch e) (t := s.toks), .tuple (Fz.put_self ..) rfl rfl (h.mono (I.push { cls := .type "tuple", data := .seq vs.toArray } rfl (fun e => nomatch e) (t := s.toks)).sub)⟩
theorem Inv.pushO (I : Inv G S s) {o : Obj} {d : D} (w : Own G S o d) (hf : o.isFreed = false) {t : Nat} : ∃ S' a o', Stp G S s S' { s with heap := s.heap.push o, toks := t } ∧ Value.ref s.heap.objs.size = .ref a ∧ (s.heap.push o).get? a = some o' ∧ Own G S' o' d ∧ S' a = none ∧ s.heap.get? a = none := by
  refine ⟨S, s.heap.objs.size, o, I.keeps fun b o' e => Heap.get?_push_of_some _ e, rfl, Heap.get?_push_size _ hf, w, ?_, Inv.fresh⟩
  cases q : S s.heap.objs.size with
  | none => rfl
  | some o' => have := I.sub _ _ q; rw [Inv.fresh] at this; exact nomatch this
end
section
variable {G : Gl} {A : Around} {act : Act sc mc} {ρ : LEnv} {es : List Expr} {ds : List D} {pos : Pos} {k : Nat}
theorem Ev.tuple (h : Evs G A act ρ es ds) (hl : ds.length ≤ sizeLine := by first | decide | exact Nat.le_of_ble_eq_true rfl) : Ev G A act ρ (.Tuple es k pos) (.tuple ds) := fun kp adr S s O =>
  Tuple_ (wp_seq (h.spliced kp adr S s O) fun S₁ vs s₁ st₁ is => wp_pre st₁ (new_tuple st₁.inv is hl))
theorem EvO.list (h : Evs G A act ρ es ds) (hl : ds.length ≤ sizeLine := by first | decide | exact Nat.le_of_ble_eq_true rfl) : EvO G A act ρ (.List es pos) (.list ds) := fun kp adr S s O =>
  List_ (wp_seq (h.spliced kp adr S s O) fun S₁ vs s₁ st₁ is => by
    refine wpAny_newObj_type (T := "list") (data := .seq vs.toArray) ?_ (by show vs.toArray.size ≤ sizeLine; rw [List.size_toArray, is.length]; exact hl)
    (refine cps fun ZP zk => ?_; obtain ⟨S', a, o', st, e, ho, w, hS, hn⟩ := st₁.inv.pushO (o := { cls := .type "list", data := .seq vs.toArray }) (.list is) rfl (t := s₁.toks); refine zk ?_)
    refine ⟨S', a, o', st₁.trans st, e, ho, w, hS, ?_⟩
    cases q : s.heap.get? a with
    | none => rfl
    | some o => rw [st₁.keep _ _ (st₁.inv.noTabFresh hn) q] at hn; exact nomatch hn)
end
end Mine
end

section
namespace Mine
open PySem PySem.Calls PyProof.Rows PySem.SeqAt
noncomputable def deqs (f : D → D → Option Bool) : List D → List D → Option Bool
  | [], [] => some true
  | a :: as, b :: bs => match f a b, deqs f as bs with
    | some x, some y => some (x && y)
    | _, _ => none
  | _, _ => none
noncomputable def dfind (k : Ky) : List Ky → List D → Option D
  | k' :: ks, v :: vs => if k' = k then some v else dfind k ks vs
  | _, _ => none
noncomputable def deqd (f : D → D → Option Bool) (ks' : List Ky) (vs' : List D) : List Ky → List D → Option Bool
  | [], [] => some true
  | k :: ks, v :: vs => match dfind k ks' vs' with
    | none => some false
    | some v' => match f v v', deqd f ks' vs' ks vs with
      | some x, some y => some (x && y)
      | _, _ => none
  | _, _ => none
noncomputable def deqStep (o : Option (D → D → Option Bool)) (d e : D) : Option Bool := match d with
  | .none => (match e with | .none => some true | _ => none)
  | .bool a => (match e with | .bool b => some (a == b) | _ => none)
  | .int a => (match e with | .int b => some (a == b) | _ => none)
  | .str a => (match e with | .str b => some (a == b) | _ => none)
  | .tuple as => (match e with | .tuple bs => (match o with | some f => if as.length = bs.length then deqs f as bs else none | none => none) | _ => none)
  | .list as => (match e with | .list bs => (match o with | some f => if as.length = bs.length then deqs f as bs else some false | none => none) | _ => none)
  | _ => none
noncomputable def deq : Nat → D → D → Option Bool
  | 0 => deqStep none
  | n + 1 => deqStep (some (deq n))
inductive DeqV (o : Option (D → D → Option Bool)) : D → D → Bool → Prop
  | none : DeqV o .none .none true
  | bool (a b : Bool) : DeqV o (.bool a) (.bool b) (a == b)
  | int (a b : Int) : DeqV o (.int a) (.int b) (a == b)
  | str (a b : Str) : DeqV o (.str a) (.str b) (a == b)
  | tuple {f : D → D → Option Bool} {as bs : List D} {r : Bool} : o = some f → as.length = bs.length → deqs f as bs = some r → DeqV o (.tuple as) (.tuple bs) r
  | list {f : D → D → Option Bool} {as bs : List D} {r : Bool} : o = some f → as.length = bs.length → deqs f as bs = some r → DeqV o (.list as) (.list bs) r
  | listNe {f : D → D → Option Bool} {as bs : List D} : o = some f → as.length ≠ bs.length → DeqV o (.list as) (.list bs) false
set_option tactic.hygienic true in
theorem deq_view {o : Option (D → D → Option Bool)} {d e : D} {r : Bool} (h : deqStep o d e = some r) : DeqV o d e r := by
  cases d with
  | none => cases e with
    | none => cases h; exact .none
    | _ => exact nomatch h
  | bool a => cases e with
    | bool b => cases h; exact .bool a b
    | _ => exact nomatch h
  | int a => cases e with
    | int b => cases h; exact .int a b
    | _ => exact nomatch h
  | str a => cases e with
    | str b => cases h; exact .str a b
    | _ => exact nomatch h
  | tuple as => cases e with
    | tuple bs =>
      cases o with
      | none => exact nomatch h
      | some f =>
        have h : (if as.length = bs.length then deqs f as bs else none) = some r := h
        split at h
        · rename_i hl; exact .tuple rfl hl h
        · exact nomatch h
    | _ => exact nomatch h
  | list as => cases e with
    | list bs =>
      cases o with
      | none => exact nomatch h
      | some f =>
        have h : (if as.length = bs.length then deqs f as bs else some false) = some r := h
        split at h
        · rename_i hl; exact .list rfl hl h
        · rename_i hl; obtain rfl := Option.some.inj h; exact .listNe rfl hl
    | _ => exact nomatch h
  | _ => exact nomatch h
noncomputable def deqO : Nat → Option (D → D → Option Bool)
  | 0 => none
  | n + 1 => some (deq n)
theorem deq_step (n : Nat) : deq n = deqStep (deqO n) := by cases n <;> rfl
theorem deqs_cons {f : D → D → Option Bool} {a b : D} {as bs : List D} {r : Bool} (h : deqs f (a :: as) (b :: bs) = some r) : ∃ x y, f a b = some x ∧ deqs f as bs = some y ∧ r = (x && y) := by
  have h : (match f a b, deqs f as bs with | some x, some y => some (x && y) | _, _ => none) = some r := h
  generalize f a b = p at h ⊢
  generalize deqs f as bs = q at h ⊢
  cases p with
  | none => exact nomatch h
  | some x => cases q with
    | none => exact nomatch h
    | some y => exact ⟨x, y, rfl, rfl, (Option.some.inj h).symm⟩
theorem seq_inj {o o' : Obj} {vs ws : List Value} {n m : Nat} (h : some o = some o') (h1 : o.data = .seq vs.toArray n) (h2 : o'.data = .seq ws.toArray m) : vs = ws := by
  injection h with h
  rw [h, h2] at h1
  injection h1 with h' _
  simpa using (congrArg Array.toList h').symm
theorem SeqI.inj {G : Gl} {S : Fz} {t : String} {v : Value} {ds es : List D} (h : SeqI G S t v ds) (h' : SeqI G S t v es) : ∃ vs, Alls G S vs ds ∧ Alls G S vs es := by
  obtain ⟨a, o, m, vs, rfl, h1, _, h1d, t⟩ := h
  obtain ⟨b, o', m', ws, e, h1', _, h1d', t'⟩ := h'
  obtain rfl := PySem.Value.ref.inj e
  exact ⟨vs, t, seq_inj (h1.symm.trans h1') h1d h1d' ▸ t'⟩
theorem alls_det {G : Gl} {S : Fz} {f : D → D → Option Bool} (ih : ∀ (v : Value) (d e : D) (r : Bool), Is G S v d → Is G S v e → f d e = some r → d = e) : ∀ (vs : List Value) (ds es : List D) (r : Bool), Alls G S vs ds → Alls G S vs es → deqs f ds es = some r → ds = es
  | [], _, _, _, h, h', _ => h.nilV.trans h'.nilV.symm
  | v :: vs, _, _, r, h, h', hd => by
    obtain ⟨d, ds, rfl, h, t⟩ := h.consV
    obtain ⟨e, es, rfl, h', t'⟩ := h'.consV
    obtain ⟨x, y, hx, hy, _⟩ := deqs_cons hd
    rw [ih _ _ _ x h h' hx, alls_det ih vs ds es y t t' hy]
theorem det_step {G : Gl} {S : Fz} {o : Option (D → D → Option Bool)} (ih : ∀ f, o = some f → ∀ (v : Value) (d e : D) (r : Bool), Is G S v d → Is G S v e → f d e = some r → d = e) {v : Value} {d e : D} {r : Bool} (h : Is G S v d) (h' : Is G S v e) (hd : deqStep o d e = some r) : d = e := by
  cases deq_view hd with
  | none => rfl
  | bool a b => rw [PySem.Value.bool.inj (h.boolI.symm.trans h'.boolI)]
  | int a b => obtain ⟨t, e⟩ := h.intI; obtain ⟨u, e'⟩ := h'.intI; rw [(PySem.Value.int.inj (e.symm.trans e')).1]
  | str a b => obtain ⟨t, e⟩ := h.strI; obtain ⟨u, e'⟩ := h'.strI; rw [(PySem.Value.str.inj (e.symm.trans e')).1]
  | tuple q hl hd => obtain ⟨vs, t, t'⟩ := h.tupleI.inj h'.tupleI; rw [alls_det (ih _ q) _ _ _ r t t' hd]
  | list q hl hd => obtain ⟨vs, t, t'⟩ := h.listI.inj h'.listI; rw [alls_det (ih _ q) _ _ _ r t t' hd]
  | listNe q hl => obtain ⟨vs, t, t'⟩ := h.listI.inj h'.listI; exact absurd (t.length.symm.trans t'.length) hl
theorem Is.det {G : Gl} {S : Fz} : ∀ (n : Nat) (v : Value) (d e : D) (r : Bool), Is G S v d → Is G S v e → deq n d e = some r → d = e
  | 0, v, d, e, r, h, h', hd => det_step (o := Option.none) (fun f q => nomatch q) h h' hd
  | n + 1, v, d, e, r, h, h', hd => det_step (o := some (deq n)) (fun f q => Option.some.inj q ▸ Is.det n) h h' hd
theorem deqs_refl {f : D → D → Option Bool} (ih : ∀ (d : D) (r : Bool), f d d = some r → r = true) : ∀ (ds : List D) (r : Bool), deqs f ds ds = some r → r = true
  | [], r, h => by cases h; rfl
  | d :: ds, r, h => by
    obtain ⟨x, y, hx, hy, e⟩ := deqs_cons h
    rw [e, ih d x hx, deqs_refl ih ds y hy]; rfl
theorem refl_step {o : Option (D → D → Option Bool)} (ih : ∀ f, o = some f → ∀ (d : D) (r : Bool), f d d = some r → r = true) {d : D} {r : Bool} (h : deqStep o d d = some r) : r = true := by
  cases d with
  | none => exact (Option.some.inj h).symm
  | bool a => exact (Option.some.inj h).symm.trans (beq_self_eq_true a)
  | int a => exact (Option.some.inj h).symm.trans (beq_self_eq_true a)
  | str a => exact (Option.some.inj h).symm.trans (beq_self_eq_true a)
  | tuple as => cases o with
    | none => exact nomatch h
    | some f => exact deqs_refl (ih f rfl) as r ((if_pos rfl).symm.trans h)
  | list as => cases o with
    | none => exact nomatch h
    | some f => exact deqs_refl (ih f rfl) as r ((if_pos rfl).symm.trans h)
  | _ => exact nomatch h
theorem deq_refl' : ∀ (n : Nat) (d : D) (r : Bool), deq n d d = some r → r = true
  | 0, d, r, h => refl_step (o := none) (fun f q => nomatch q) h
  | n + 1, d, r, h => refl_step (o := some (deq n)) (fun f q => Option.some.inj q ▸ deq_refl' n) h
theorem isList_of {G : Gl} {S : Fz} {s : Shared} (I : Inv G S s) {a : Addr} {vs : List Value} {n : Nat} {o : Obj} (h : S a = some o) (hc : o.cls = .type "list") (hd : o.data = .seq vs.toArray n) : s.heap.IsList a vs.toArray := ⟨_, I.sub _ _ h, hc, n, hd⟩
theorem isTuple_of {G : Gl} {S : Fz} {s : Shared} (I : Inv G S s) {a : Addr} {vs : List Value} {n : Nat} {o : Obj} (h : S a = some o) (hc : o.cls = .type "tuple") (hd : o.data = .seq vs.toArray n) : s.heap.IsTuple a vs.toArray := ⟨_, I.sub _ _ h, hc, n, hd⟩
theorem dictOf_of {G : Gl} {S : Fz} {s : Shared} (I : Inv G S s) {a : Addr} {es : Array DictEntry} {ep : Nat} {kvs : List (Ky × Value)} (h : S a = some { cls := .type "dict", data := .dict es ep }) (h2 : KeysOf G.knd es) (h3 : Pairs G.knd es.toList kvs)
    (h5 : (kvs.map (·.1)).Nodup) : s.heap.DictOf G.knd a kvs := ⟨_, es, ep, I.sub _ _ h, ⟨rfl, rfl, rfl⟩, rfl, h2, h3, h5⟩
theorem deqs_get {f : D → D → Option Bool} : ∀ {as bs : List D} {r : Bool}, deqs f as bs = some r → as.length = bs.length ∧ ∃ e : Nat → Bool, (∀ (j : Nat) (a b : D), as[j]? = some a → bs[j]? = some b → f a b = some (e j)) ∧ r = (List.range as.length).all e
  | [], [], r, h => ⟨rfl, fun _ => true, fun j a b h => (nomatch h), (Option.some.inj h).symm⟩
  | a :: as, b :: bs, r, h => by
    obtain ⟨x, y, hx, hy, h⟩ := deqs_cons h
    obtain ⟨hl, e, he, hr⟩ := deqs_get hy
    refine ⟨by simp [hl], fun j => match j with | 0 => x | j + 1 => e j, fun j a' b' ha hb => ?_, ?_⟩
    · cases j with
      | zero => simp at ha hb; subst ha hb; exact hx
      | succ j => simp at ha hb; exact he j a' b' ha hb
    · simp only [List.length_cons, List.range_succ_eq_map, List.all_cons, List.all_map, Function.comp_def]
      rw [h]
      rw [hr]
  | [], _ :: _, r, h => nomatch (show (none : Option Bool) = some r from h)
  | _ :: _, [], r, h => nomatch (show (none : Option Bool) = some r from h)
theorem dfind_valueAt {G : Gl} {S : Fz} {k : Ky} : ∀ {kvs : List (Ky × Value)} {ds : List D}, Alls G S (kvs.map (·.2)) ds →
    (dfind k (kvs.map (·.1)) ds = none ∧ valueAt kvs k = none) ∨ ∃ d v, dfind k (kvs.map (·.1)) ds = some d ∧ valueAt kvs k = some v ∧ Is G S v d
  | [], _, h => by rw [h.nilV]; exact .inl ⟨rfl, rfl⟩
  | (k', v) :: kvs, _, h => by
    obtain ⟨d0, r0, rfl, h, t⟩ := h.consV
    by_cases q : k' = k
    · subst q
      refine .inr ⟨_, v, ?_, ?_, h⟩
      · exact if_pos rfl
      · simp [valueAt]
    · have e : dfind k (((k', v) :: kvs).map (·.1)) (d0 :: r0) = dfind k (kvs.map (·.1)) r0 := if_neg q
      have e' : valueAt ((k', v) :: kvs) k = valueAt kvs k := by simp [valueAt, q]
      rw [e, e']
      exact dfind_valueAt t
inductive VView (A : Around) (s : Shared) : Value → Value → Bool → Prop
  | none : VView A s .none .none true
  | bool (a b : Bool) : VView A s (.bool a) (.bool b) (a == b)
  | int (a b : Int) (t u : Tok) : VView A s (.int a t) (.int b u) (a == b)
  | str (a b : Str) (t u : Tok) : VView A s (.str a t) (.str b u) (a == b)
  | tuples {a b : Addr} {va vb : Array Value} {e : Nat → Bool} : s.heap.IsTuple a va → s.heap.IsTuple b vb → (∀ (j : Nat) (h1 : j < va.size) (h2 : j < vb.size), EqAt A.in1 s va[j] vb[j] (e j)) → VView A s (.ref a) (.ref b) ((List.range (min va.size vb.size)).all e && va.size == vb.size)
  | lists {a b : Addr} {va vb : Array Value} {e : Nat → Bool} : s.heap.IsList a va → s.heap.IsList b vb → va.size = vb.size → (∀ (j : Nat) (h1 : j < va.size) (h2 : j < vb.size), EqAt A.in1 s va[j] vb[j] (e j)) → VView A s (.ref a) (.ref b) ((List.range va.size).all e)
  | listsNe {a b : Addr} {va vb : Array Value} : s.heap.IsList a va → s.heap.IsList b vb → (va.size != vb.size) = true → VView A s (.ref a) (.ref b) false
theorem vview {G : Gl} {S : Fz} {s : Shared} {A : Around} (I : Inv G S s) {o : Option (D → D → Option Bool)} (hf : ∀ f, o = some f → ∀ (v w : Value) (d e : D) (r : Bool), Is G S v d → Is G S w e → f d e = some r → EqAt A.in1 s v w r) {v w : Value} {d e : D} {r : Bool} (h : Is G S v d) (h' : Is G S w e) (hd : deqStep o d e = some r) : VView A s v w r := by
  have elems : ∀ {f : D → D → Option Bool} {vs ws : List Value} {ds es : List D} {r : Bool}, o = some f → Alls G S vs ds → Alls G S ws es → deqs f ds es = some r → ∃ g : Nat → Bool, (∀ (j : Nat) (h1 : j < vs.toArray.size) (h2 : j < ws.toArray.size), EqAt A.in1 s vs.toArray[j] ws.toArray[j] (g j)) ∧ r = (List.range ds.length).all g := fun {f vs ws ds es r} ho t t' hd => by
    obtain ⟨_, g, hg, hr⟩ := deqs_get hd
    refine ⟨g, fun j h1 h2 => ?_, hr⟩
    obtain ⟨d, q1, q2⟩ := t.get' (k := j) (v := vs[j]'(by simpa using h1)) (by simp)
    obtain ⟨d', q1', q2'⟩ := t'.get' (k := j) (v := ws[j]'(by simpa using h2)) (by simp)
    simpa using hf f ho _ _ d d' (g j) q2 q2' (hg j d d' q1 q1')
  cases deq_view hd with
  | none => cases h.noneI; cases h'.noneI; exact .none
  | bool a b => cases h.boolI; cases h'.boolI; exact .bool a b
  | int a b => obtain ⟨t, rfl⟩ := h.intI; obtain ⟨u, rfl⟩ := h'.intI; exact .int a b t u
  | str a b => obtain ⟨t, rfl⟩ := h.strI; obtain ⟨u, rfl⟩ := h'.strI; exact .str a b t u
  | tuple q hl hd =>
    obtain ⟨a, _, _, vs, rfl, h1, h1c, h1d, t⟩ := h.tupleI
    obtain ⟨b, _, _, ws, rfl, h1', h1c', h1d', t'⟩ := h'.tupleI
    obtain ⟨g, hg, hr⟩ := elems q t t' hd
    have := VView.tuples (isTuple_of I h1 h1c h1d) (isTuple_of I h1' h1c' h1d') hg
    have l1 := t.length
    have l2 := t'.length
    have e1 : ((List.range (min vs.toArray.size ws.toArray.size)).all g && vs.toArray.size == ws.toArray.size) = r := by
      simp only [List.size_toArray, l1, l2, hl, Nat.min_self, beq_self_eq_true, Bool.and_true]
      rw [hr, hl]
    rw [e1] at this
    exact this
  | list q hl hd =>
    obtain ⟨a, _, _, vs, rfl, h1, h1c, h1d, t⟩ := h.listI
    obtain ⟨b, _, _, ws, rfl, h1', h1c', h1d', t'⟩ := h'.listI
    obtain ⟨g, hg, hr⟩ := elems q t t' hd
    have l1 := t.length
    have l2 := t'.length
    have := VView.lists (isList_of I h1 h1c h1d) (isList_of I h1' h1c' h1d') (by simp only [List.size_toArray, l1, l2, hl]) hg
    rw [show (List.range vs.toArray.size).all g = r by simp only [List.size_toArray, l1]; rw [hr]] at this
    exact this
  | listNe q hl =>
    obtain ⟨a, _, _, vs, rfl, h1, h1c, h1d, t⟩ := h.listI
    obtain ⟨b, _, _, ws, rfl, h1', h1c', h1d', t'⟩ := h'.listI
    have l1 := t.length
    have l2 := t'.length
    exact .listsNe (isList_of I h1 h1c h1d) (isList_of I h1' h1c' h1d') (by simp only [List.size_toArray, l1, l2]; simpa using hl)
theorem VView.rc {A : Around} {s : Shared} {v w : Value} {r : Bool} (hu : A.units < cLine) : VView A s v w r → RcAt A s v w r
  | .none => .none_none
  | .bool _ _ => .bool_bool _ _
  | .int _ _ _ _ => .int_int _ _ _ _
  | .str _ _ _ _ => .str_str _ _ _ _
  | .tuples a b c => RcAt.tuples a b hu c
  | .lists a b c d => RcAt.lists a b c hu d
  | .listsNe a b c => RcAt.lists_lengths a b c hu
theorem VView.rcNe {A : Around} {s : Shared} {v w : Value} {r : Bool} (hu : A.units < cLine) : VView A s v w r → RcNeAt A s v w (!r)
  | .none => .none_none
  | .bool _ _ => .bool_bool _ _
  | .int _ _ _ _ => .int_int _ _ _ _
  | .str _ _ _ _ => .str_str _ _ _ _
  | .tuples a b c => RcNeAt.tuples a b hu c
  | .lists a b c d => RcNeAt.lists a b c hu d
  | .listsNe a b c => RcNeAt.lists_lengths a b c hu
theorem VView.eq {A : Around} {s : Shared} {v w : Value} {r : Bool} (hu : A.units < cLine) (hvw : v ≠ w) (V : VView A s v w r) : EqAt A s v w r := by
  cases V with
  | none => exact absurd rfl hvw
  | bool => exact .bool_bool _ _
  | int => exact .int_int _ _ _ _
  | str => exact .str_str _ _ _ _
  | tuples a b c => exact .of_refs (fun q => hvw (by rw [q])) (RcAt.tuples a b hu c)
  | lists a b c d => exact .of_refs (fun q => hvw (by rw [q])) (RcAt.lists a b c hu d)
  | listsNe a b c => exact .of_refs (fun q => hvw (by rw [q])) (RcAt.lists_lengths a b c hu)
theorem eqAt_step {G : Gl} {S : Fz} {s : Shared} (I : Inv G S s) {n : Nat} (hf : ∀ f, deqO n = some f → ∀ (A : Around) (v w : Value) (d e : D) (r : Bool), A.units + n < cLine + 1 → Is G S v d → Is G S w e → f d e = some r → EqAt A s v w r) {A : Around} {v w : Value} {d e : D} {r : Bool} (hu : A.units + n < cLine)
    (h : Is G S v d) (h' : Is G S w e) (hd : deq n d e = some r) : EqAt A s v w r := by
  by_cases hvw : v = w
  · subst hvw
    obtain rfl := Is.det _ _ _ _ _ h h' hd
    rw [deq_refl' _ _ _ hd]
    exact .same _
  · rw [deq_step] at hd
    exact (vview I (fun f e v w d e' r => hf f e A.in1 v w d e' r (by show A.units + 1 + n < cLine + 1; lia)) h h' hd).eq (Nat.lt_of_le_of_lt (Nat.le_add_right ..) hu) hvw
theorem eqAt {G : Gl} {S : Fz} {s : Shared} (I : Inv G S s) : ∀ (n : Nat) (A : Around) (v w : Value) (d e : D) (r : Bool), A.units + n < cLine → Is G S v d → Is G S w e → deq n d e = some r → EqAt A s v w r
  | 0, A, v, w, d, e, r, hu, h, h', hd => eqAt_step I (n := 0) (fun f (q : Option.none = some f) => nomatch q) hu h h' hd
  | n + 1, A, v, w, d, e, r, hu, h, h', hd => eqAt_step I (n := n + 1) (fun f (q : some (deq n) = some f) => Option.some.inj q ▸ fun A v w d e r hu => eqAt I n A v w d e r (Nat.lt_of_succ_lt_succ hu)) hu h h' hd
section
variable {G : Gl} {A : Around} {S : Fz} {s : Shared} {n : Nat} {v w : Value} {d e : D} {r : Bool}
theorem deq_vview (I : Inv G S s) (hu : A.units + n < cLine) (h : Is G S v d) (h' : Is G S w e) (hd : deq n d e = some r) : VView A s v w r := by
  rw [deq_step] at hd
  refine vview I (fun f e => ?_) h h' hd
  cases n with
  | zero => exact nomatch e
  | succ n => exact Option.some.inj e ▸ fun v w d e r h h' hd => eqAt I n A.in1 v w d e r (by show A.units + 1 + n < cLine; lia) h h' hd
theorem rcEq (I : Inv G S s) (hu : A.units + n < cLine) (h : Is G S v d) (h' : Is G S w e) (hd : deq n d e = some r) : RcAt A s v w r := (deq_vview I hu h h' hd).rc (by lia)
theorem rcNe (I : Inv G S s) (hu : A.units + n < cLine) (h : Is G S v d) (h' : Is G S w e) (hd : deq n d e = some r) : RcNeAt A s v w (!r) := (deq_vview I hu h h' hd).rcNe (by lia)
end
theorem Room.u8 {n : Nat} {A : Around} (h : Room n A) : A.units + 8 < cLine := by have := h.units; show A.units + 8 < 9900; lia
theorem Room.u8' {n : Nat} {A : Around} (h : Room n A) : A.in1.units + 8 < cLine := by have := h.units; show A.units + 1 + 8 < 9900; lia
section
variable {G : Gl} {A : Around} {n : Nat} {d e : D} {r : Bool} {ks ks' : List Ky} {vs vs' : List D}
theorem Cmp.eq (hA : Room n A) (h : deq 8 d e = some r) : Cmp G A .Eq d e r := fun S s va vb I ha hb => rcEq I hA.u8 ha hb h _ _ _ _ ⟨S, .refl I, rfl⟩
theorem Cmp.ne (hA : Room n A) (h : deq 8 d e = some r) : Cmp G A .NotEq d e (!r) := fun S s va vb I ha hb => rcNe I hA.u8 ha hb h _ _ _ _ ⟨S, .refl I, rfl⟩
theorem deqd_none {f : D → D → Option Bool} {ks ks' : List Ky} {vs vs' : List D} {k : Ky} {v : D} (h : dfind k ks' vs' = none) : deqd f ks' vs' (k :: ks) (v :: vs) = some false := by
  show (match dfind k ks' vs' with | none => some false | some v' => match f v v', deqd f ks' vs' ks vs with | some x, some y => some (x && y) | _, _ => none) = some false
  rw [h]
theorem deqd_some {f : D → D → Option Bool} {ks ks' : List Ky} {vs vs' : List D} {k : Ky} {v v' : D} {r : Bool} (h : dfind k ks' vs' = some v') (e : deqd f ks' vs' (k :: ks) (v :: vs) = some r) : ∃ x y, f v v' = some x ∧ deqd f ks' vs' ks vs = some y ∧ r = (x && y) := by
  have e : (match dfind k ks' vs' with | none => some false | some v' => match f v v', deqd f ks' vs' ks vs with | some x, some y => some (x && y) | _, _ => none) = some r := e
  rw [h] at e
  have e : (match f v v', deqd f ks' vs' ks vs with | some x, some y => some (x && y) | _, _ => none) = some r := e
  generalize f v v' = p at e ⊢
  generalize deqd f ks' vs' ks vs = q at e ⊢
  cases p with
  | none => exact nomatch e
  | some x => cases q with
    | none => exact nomatch e
    | some y => exact ⟨x, y, rfl, rfl, (Option.some.inj e).symm⟩
theorem dict_hits {S : Fz} {s : Shared} (I : Inv G S s) (hu : A.units + 8 < cLine) {kb : List (Ky × Value)} {ds' : List D} (t' : Alls G S (kb.map (·.2)) ds') :
    ∀ (kvs : List (Ky × Value)) (ds : List D) (r : Bool), Alls G S (kvs.map (·.2)) ds → deqd (deq 8) (kb.map (·.1)) ds' (kvs.map (·.1)) ds = some r → PySem.W.KeqHits A s kb kvs r
  | [], _, r, i, hq => by obtain rfl := i.nilV; obtain rfl := Option.some.inj hq; exact .nil
  | (k, v) :: kvs, _, r, i, hq => by
    obtain ⟨d0, r0, rfl, i, t2⟩ := i.consV
    rcases dfind_valueAt (k := k) t' with ⟨a, b⟩ | ⟨d', u, a, b, c⟩
    · obtain rfl := Option.some.inj ((deqd_none a).symm.trans hq)
      exact .miss b
    · obtain ⟨x, y, hx, hy, rfl⟩ := deqd_some a hq
      exact .hit b (eqAt I 8 A _ _ _ _ x hu i c hx) (dict_hits I hu t' kvs _ y t2 hy)
noncomputable def deqD (ks : List Ky) (vs : List D) (ks' : List Ky) (vs' : List D) : Option Bool := if ks.length = ks'.length then deqd (deq 8) ks' vs' ks vs else some false
set_option tactic.hygienic true in
theorem Cmp.neD (hA : Room n A) (h : deqD ks vs ks' vs' = some r) : Cmp G A .NotEq (.dict ks vs) (.dict ks' vs') (!r) := fun S s va vb I ha hb => by
  (refine cps fun ZP zk => ?_; obtain ⟨a, es, ep, ka, rfl, h1, h2, h3, h4, h5, t, h6⟩ := ha.dictI; refine zk ?_)
  (refine cps fun ZP zk => ?_; obtain ⟨b, es', ep', kb, rfl, h1', h2', h3', h4', h5', t', h6'⟩ := hb.dictI; refine zk ?_)
  subst h4 h4'
  unfold deqD at h
  split at h
  · rename_i hl
    refine PySem.W.keq_ne (r := r) h6 h6' (dictOf_of I h1 h2 h3 h5) (dictOf_of I h1' h2' h3' h5') hA.cl (fun _ => dict_hits I hA.u8' t' _ _ _ t h) ⟨S, .refl I, ?_⟩
    have : (ka.length == kb.length) = true := by simpa using hl
    rw [this]; rfl
  · rename_i hl
    obtain rfl := Option.some.inj h
    have : (ka.length == kb.length) = false := by simpa using hl
    refine PySem.W.keq_ne (r := true) h6 h6' (dictOf_of I h1 h2 h3 h5) (dictOf_of I h1' h2' h3' h5') hA.cl (fun q => by rw [q] at this; simp at this) ⟨S, .refl I, ?_⟩
    rw [this]; rfl
end
end Mine
end

section
namespace Mine
variable {sc : Scope} {mc : List Str}
open PySem PySem.Calls PyProof.Rows
noncomputable def Loc.frozen : Loc → Loc
  | .val d => .val d
  | .own d => .val d
noncomputable def LEnv.frozen : LEnv → LEnv
  | [] => []
  | (x, l) :: r => (x, l.frozen) :: LEnv.frozen r
theorem lookup_frozen {x : Str} : ∀ {ρ : LEnv}, ρ.frozen.lookup x = (ρ.lookup x).map Loc.frozen
  | [] => rfl
  | (y, l) :: r => by
    simp only [LEnv.frozen, List.lookup_cons]
    cases x == y with
    | true => rfl
    | false => exact lookup_frozen
theorem Own.is' {G : Gl} {S S' : Fz} {a : Addr} {o : Obj} {d : D} (h : Own G S o d) (hS : S a = none) (hb : Sub G.base S) (hs : Sub S S') (ha : S' a = some o) : Is G S' (.ref a) d := by
  cases h with
  | list r => exact .list ha rfl rfl (r.mono hs)
  | dict h1 h2 h3 h4 r =>
    refine .dict ha h1 h2 h3 h4 (r.mono hs) (beq_eq_false_iff_ne.mpr fun e => ?_)
    obtain ⟨o, ho⟩ := G.sm
    rw [e, hb _ _ ho] at hS
    exact nomatch hS
section
open Classical
variable {G : Gl} {act : Act sc mc} {kp : Kept} {adr : Str → Addr} {ρ : LEnv} {S S₁ S' : Fz} {s s' : Shared}
noncomputable def lent (ρ : LEnv) (adr : Str → Addr) (S : Fz) (h : Heap) : Fz := fun a => if ∃ x d, ρ.lookup x = some (.own d) ∧ adr x = a then h.get? a else S a
set_option tactic.hygienic true in
theorem OK.lend (O : OK G act kp adr ρ S s) : OK G act kp adr ρ.frozen (lent ρ adr S s.heap) s ∧ Sub S (lent ρ adr S s.heap) ∧
    (∀ a o, lent ρ adr S s.heap a = some o → S a = none → (∀ vs, o.data ≠ .fields vs) ∧ o.cls ≠ .none) := by
  have sub : Sub S (lent ρ adr S s.heap) := fun a o e => by
    unfold lent
    split
    · exact O.inv.sub _ _ e
    · exact e
  have new : ∀ a o, lent ρ adr S s.heap a = some o → S a = none → (∀ vs, o.data ≠ .fields vs) ∧ o.cls ≠ .none := fun a o e hn => by
    unfold lent at e
    split at e
    · rename_i h
      obtain ⟨x, d, hx, rfl⟩ := h
      obtain ⟨_, ⟨o', ho, w⟩, _⟩ := O.vars x _ hx
      rw [ho] at e
      obtain rfl := Option.some.inj e
      cases w <;> exact ⟨fun vs => by simp, by simp⟩
    · rw [hn] at e; exact nomatch e
  have hsub : ∀ a o, lent ρ adr S s.heap a = some o → s.heap.get? a = some o := fun a o e => by
    unfold lent at e
    split at e
    · exact e
    · exact O.inv.sub _ _ e
  refine ⟨{ O with
    inv := ⟨hsub, O.inv.base.trans sub, O.inv.tab.keeps sub fun _ _ e _ => e, fun t ht => ?_, O.inv.bare, O.inv.os⟩
    mt := fun b hb => ?_
    vars := fun x l e => ?_
    inj := fun x y dx dy ex ey => ?_ }, sub, new⟩
  · cases q : lent ρ adr S s.heap t.P with
    | none => rfl
    | some o =>
      exact absurd rfl (O.inv.noTab (hsub _ _ q) (new _ _ q (O.inv.tabS t ht)).2 t ht)
  · obtain ⟨h1, h2⟩ := O.mt b hb
    refine ⟨?_, h2⟩
    unfold lent
    split
    · rename_i h
      obtain ⟨x, d, hx, rfl⟩ := h
      exact absurd hb (O.vars x _ hx).2.2.2.2
    · exact h1
  · rw [lookup_frozen] at e
    cases hx : ρ.lookup x with
    | none => rw [hx] at e; cases e
    | some l' =>
      rw [hx] at e
      have q := O.vars x l' hx
      cases l' with
      | val d =>
        cases e
        obtain ⟨v, r, i⟩ := q
        exact ⟨v, r, i.mono sub⟩
      | own d =>
        cases e
        obtain ⟨r, ⟨o, ho, w⟩, h1, _⟩ := q
        refine ⟨_, r, w.is' h1 O.inv.base sub ?_⟩
        unfold lent
        rw [if_pos ⟨x, d, hx, rfl⟩]
        exact ho
  · rw [lookup_frozen] at ex
    cases hx : ρ.lookup x with
    | none => rw [hx] at ex; cases ex
    | some l' => rw [hx] at ex; cases l' <;> cases ex
set_option tactic.hygienic true in
theorem Stp.back (I : Inv G S s) (sub : Sub S S₁) (new : ∀ a o, S₁ a = some o → S a = none → (∀ vs, o.data ≠ .fields vs) ∧ o.cls ≠ .none) (st : Stp G S₁ s S' s') : ∃ S'', Stp G S s S'' s' ∧ Sub S'' S' := by
  let S'' : Fz := fun a => if S a = none ∧ S₁ a ≠ none then none else S' a
  have s1 : Sub S S'' := fun a o e => by
    show (if S a = none ∧ S₁ a ≠ none then none else S' a) = some o
    rw [if_neg (by rw [e]; exact fun h => nomatch h.1)]
    exact st.sub _ _ (sub _ _ e)
  have s2 : Sub S'' S' := fun a o e => by
    have e : (if S a = none ∧ S₁ a ≠ none then none else S' a) = some o := e
    split at e
    · exact nomatch e
    · exact e
  refine ⟨S'', ⟨⟨fun a o e => st.inv.sub _ _ (s2 _ _ e), I.base.trans s1, fun t ht => ?_, fun t ht => ?_, st.inv.bare, st.inv.os⟩, s1, fun a o e => ?_, st.keep, st.gens⟩, s2⟩
  · obtain ⟨ps, hp, x⟩ := st.inv.tab t ht
    refine ⟨ps, hp, x.imp id ?_⟩
    rintro ⟨c', o, e, q, g⟩
    refine ⟨c', o, e, ?_, g⟩
    show (if S c' = none ∧ S₁ c' ≠ none then none else S' c') = some o
    rw [if_neg ?_]
    · exact q
    · rintro ⟨h1, h2⟩
      cases q1 : S₁ c' with
      | none => exact h2 q1
      | some o' =>
        have := st.sub _ _ q1
        rw [q] at this
        obtain rfl := Option.some.inj this
        obtain ⟨vs, e⟩ := t.isCode _ g; exact (new _ _ q1 h1).1 vs e
  · have := st.inv.tabS t ht
    show (if S t.P = none ∧ S₁ t.P ≠ none then none else S' t.P) = none
    split
    · rfl
    · exact this
  · have e' : (if S a = none ∧ S₁ a ≠ none then none else S' a) = some o := e
    split at e'
    · exact nomatch e'
    · rename_i h
      rcases st.new a o e' with q | q
      · cases hS : S a with
        | none => exact absurd ⟨hS, by rw [q]; simp⟩ h
        | some o' =>
          have := sub _ _ hS
          rw [q] at this
          obtain rfl := Option.some.inj this
          exact .inl rfl
      · exact .inr q
end
noncomputable def D.atom : D → Bool
  | .none => true
  | .bool _ => true
  | .int _ => true
  | .str _ => true
  | _ => false
theorem Is.atom {G : Gl} {S S' : Fz} {v : Value} {d : D} (h : Is G S v d) (ha : d.atom = true) : Is G S' v d := by
  cases d with
  | none => rw [h.noneI]; exact .none
  | bool => rw [h.boolI]; exact .bool _
  | int => obtain ⟨t, rfl⟩ := h.intI; exact .int _ _
  | str => obtain ⟨t, rfl⟩ := h.strI; exact .str _ _
  | _ => exact nomatch ha
section
variable {G : Gl} {A : Around} {act : Act sc mc} {ρ : LEnv} {e : Expr} {d : D} {b : Bool}
theorem Ev.lend (h : Ev G A act ρ.frozen e d) (ha : d.atom = true) : Ev G A act ρ e d := fun kp adr S s O => by
  obtain ⟨O', sub, new⟩ := O.lend
  refine wpAny_mono (h kp adr _ s O') (fun b' s' ⟨S', st, p⟩ => ?_) fun _ _ e => e
  obtain ⟨S'', st', _⟩ := st.back O.inv sub new
  exact ⟨S'', st', p.atom ha⟩
end

/-! statements -/
inductive FD where
  | next
  | brk
  | cont
  | ret (d : D)
noncomputable def FlowIs (G : Gl) (S : Fz) : Flow → FD → Prop
  | .next, .next => True
  | .brk, .brk => True
  | .cont, .cont => True
  | .ret v, .ret d => Is G S v d
  | _, _ => False
noncomputable def RunPost (G : Gl) (act : Act sc mc) (kp : Kept) (S : Fz) (Q : FD → LEnv → Prop) : Flow → Shared → Prop := fun f s' => ∃ S' adr' ρ' fd, Gro kp S S' ∧ OK G act kp adr' ρ' S' s' ∧ FlowIs G S' f fd ∧ Q fd ρ'
noncomputable def Run (G : Gl) (A : Around) (act : Act sc mc) (m : Sem Flow) (ρ : LEnv) (Q : FD → LEnv → Prop) : Prop := ∀ kp adr S s, OK G act kp adr ρ S s → wpAny G.M A m (RunPost G act kp S Q) No s
section
variable {G : Gl} {A : Around} {act : Act sc mc} {ρ ρ' : LEnv} {Q Q' : FD → LEnv → Prop} {m : Sem Flow} {d : D} {x : Str} {e t : Expr} {pos npos : Pos} {b : Bool} {kp : Kept} {S S' : Fz} {f : Flow} {s' : Shared}
theorem RunPost.pre (g : Gro kp S S') (h : RunPost G act kp S' Q f s') : RunPost G act kp S Q f s' := let ⟨S'', a, r, fd, g', x⟩ := h; ⟨S'', a, r, fd, g.trans g', x⟩
theorem RunPost.mono (h : RunPost G act kp S Q f s') (hq : ∀ fd ρ, Q fd ρ → Q' fd ρ) : RunPost G act kp S Q' f s' := let ⟨S'', a, r, fd, g', o, i, q⟩ := h; ⟨S'', a, r, fd, g', o, i, hq _ _ q⟩
theorem Run.mono (h : Run G A act m ρ Q) (hq : ∀ fd ρ, Q fd ρ → Q' fd ρ) : Run G A act m ρ Q' := fun kp adr S s O => wpAny_mono (h kp adr S s O) (fun _ _ h => h.mono hq) fun _ _ e => e
theorem Run.weaken (h : Run G A act m ρ' Q) (hw : ∀ x l, ρ'.lookup x = some l → ρ.lookup x = some l) : Run G A act m ρ Q := fun kp adr S s O => h kp adr S s (O.weaken hw)
theorem Run.freeze (x : Str) (d : D) (hx : ρ.lookup x = some (.own d)) (h : Run G A act m ((x, .val d) :: ρ) Q) : Run G A act m ρ Q := fun kp adr S s O => by
  obtain ⟨S', g, O'⟩ := O.freeze hx
  exact wpAny_mono (h kp adr S' s O') (fun _ _ h => h.pre g) fun _ _ e => e
theorem Run.nil (h : Q .next ρ) : Run G A act (execs [] act.env) ρ Q := fun kp adr S s O => wpAny_execs_nil ⟨S, adr, ρ, .next, .refl .., O, trivial, h⟩
noncomputable def Then (G : Gl) (A : Around) (act : Act sc mc) (rest : List Stmt) (Q : FD → LEnv → Prop) : FD → LEnv → Prop
  | .next, ρ => Run G A act (execs rest act.env) ρ Q
  | fd, ρ => Q fd ρ
theorem Run.cons {st : Stmt} {rest : List Stmt} (h : Run G A act (exec st act.env) ρ (Then G A act rest Q)) : Run G A act (execs (st :: rest) act.env) ρ Q := fun kp adr S s O =>
  wpAny_execs_cons (wpAny_mono (h kp adr S s O) (fun f s' ⟨S', adr', ρ', fd, g, O', i, q⟩ => by
    cases f <;> cases fd <;> try exact i.elim
    · exact wpAny_mono (q kp adr' S' s' O') (fun _ _ h => h.pre g) fun _ _ e => e
    · exact ⟨S', adr', ρ', _, g, O', i, q⟩
    · exact ⟨S', adr', ρ', _, g, O', i, q⟩
    · exact ⟨S', adr', ρ', _, g, O', i, q⟩) fun _ _ e => e)
theorem Run.brk (h : Q .brk ρ) : Run G A act (exec (.Break pos) act.env) ρ Q := fun kp adr S s O => wpAny_bind (wpAny_standAt (wpAny_pure ⟨S, adr, ρ, .brk, .refl .., O, trivial, h⟩))
theorem Run.assign (he : Ev G A act ρ e d) (hx : Stores sc mc x) (h : Q .next ((x, .val d) :: ρ)) (hs : swapsWith e (some (.Name x npos)) pos.line act.env = pure false := by rfl) :
    Run G A act (exec (.Assign [.Name x npos] e pos) act.env) ρ Q := fun kp adr S s O =>
  wpAny_Assign_Name (wp_seq (he kp adr S s O) fun S₁ v s₁ st i => (O.step st).storeVal hx i fun h' t O' => ⟨S₁, adr, _, .next, O.gro st, O', trivial, h⟩) hs
theorem OK.fresh {adr : Str → Addr} {s : Shared} (O : OK G act kp adr ρ S s) (st : Stp G S s S' s') {a : Addr} {o : Obj} (ho : s'.heap.get? a = some o) (w : Own G S' o d) (hS : S' a = none) (hn : s.heap.get? a = none) : Fresh G act kp adr ρ S' s' a d where
  obj := ⟨o, ho, w⟩
  S := hS
  kp := by
    cases q : kp.objs a with
    | none => rfl
    | some o' => rw [O.kept _ _ q] at hn; exact nomatch hn
  mt := fun h => by obtain ⟨_, _, _, o', ho'⟩ := O.mt a h; rw [ho'] at hn; exact nomatch hn
  ne := fun y dy hy q => by
    obtain ⟨_, ⟨o', ho', _⟩, _⟩ := O.vars y _ hy
    rw [q, hn] at ho'; exact nomatch ho'
theorem Run.assignOwn (he : EvO G A act ρ e d) (hx : Stores sc mc x) (h : Q .next ((x, .own d) :: ρ)) (hs : swapsWith e (some (.Name x npos)) pos.line act.env = pure false := by rfl) :
    Run G A act (exec (.Assign [.Name x npos] e pos) act.env) ρ Q := fun kp adr S s O =>
  wpAny_Assign_Name (wpAny_mono (he kp adr S s O) (fun v s₁ ⟨S₁, a, o, st, hv, ho, w, hS, hn⟩ => by
    subst hv
    exact (O.step st).storeOwn hx (O.fresh st ho w hS hn) fun h' t O' => ⟨S₁, _, _, .next, O.gro st, O', trivial, h⟩) fun _ _ e => e) hs
theorem Run.ret (he : Ev G A act ρ e d) (h : Q (.ret d) ρ) : Run G A act (exec (.Return (some e) pos) act.env) ρ Q := fun kp adr S s O =>
  wpAny_Return_some (wp_seq (he kp adr S s O) fun S₁ v s₁ st i => ⟨S₁, adr, ρ, .ret d, O.gro st, O.step st, i, h⟩)
theorem Run.ite {body orelse : List Stmt} (ht : Te G A act ρ t b) (h1 : b = true → Run G A act (execs body act.env) ρ Q) (h2 : b = false → Run G A act (execs orelse act.env) ρ Q) :
    Run G A act (exec (.If t body orelse pos) act.env) ρ Q := fun kp adr S s O =>
  wpAny_If (wp_seq (ht kp adr S s O) fun S₁ b' s₁ st e => by
    subst e
    cases b' with
    | true => exact wpAny_mono (h1 rfl kp adr S₁ s₁ (O.step st)) (fun _ _ h => h.pre (O.gro st)) fun _ _ e => e
    | false => exact wpAny_mono (h2 rfl kp adr S₁ s₁ (O.step st)) (fun _ _ h => h.pre (O.gro st)) fun _ _ e => e)
theorem Run.aug {op : Operator} {d₀ d₁ : D} (hx : ρ.lookup x = some (.val d₀)) (he : Ev G A act ρ e d₁) (ho : Op2 G A (inplaceOp op) d₀ d₁ d) (hst : Stores sc mc x) (h : Q .next ((x, .val d) :: ρ))
    (hd : (x == ("__debug__" : Str)) = false := by decide) (hn : (x == ("__classdict__" : Str)) = false := by decide) : Run G A act (exec (.AugAssign (.Name x npos) op e pos) act.env) ρ Q := fun kp adr S s O =>
  wpAny_AugAssign_Name (by
    have nm : wpAny G.M A (loadName act.env x) (fun v s' => s' = s ∧ Is G S v d₀) No s := by
      obtain ⟨v, r, i⟩ := O.vars x _ hx
      rcases r with ⟨k, m, hm, e⟩ | ⟨k | k, c, hc, hv⟩
      · exact wpAny_loadName_local O.fn' k hm e ⟨rfl, i⟩
      · exact wpAny_loadName_cell O.fn' k hc hv ⟨rfl, i⟩
      · exact wpAny_loadName_free O.fn' k hc hv ⟨rfl, i⟩ hn
    refine wpAny_mono nm (fun v s' hv => ?_) fun _ _ e => e
    obtain ⟨rfl, i⟩ := hv
    exact wp_seq (he kp adr S s' O) fun S₁ v₁ s₁ st i₁ => wp_seq (ho S₁ s₁ v v₁ st.inv (i.mono st.sub) i₁) fun S₂ v₂ s₂ st₂ i₂ =>
      (O.step (st.trans st₂)).storeVal hst i₂ fun h' t O' => ⟨S₂, adr, _, .next, O.gro (st.trans st₂), O', trivial, h⟩)
theorem Run.while {body : List Stmt} (I : Nat → LEnv → Prop) (n : Nat) (h0 : I n ρ)
    (turn : ∀ n ρ, I n ρ → ∃ b, Te G A act ρ t b ∧ (b = true → Run G A act (execs body act.env) ρ (fun fd ρ' => match fd with
      | .next => ∃ m, m < n ∧ I m ρ'
      | .cont => ∃ m, m < n ∧ I m ρ'
      | .brk => Q .next ρ'
      | .ret d => Q (.ret d) ρ')) ∧ (b = false → Q .next ρ)) :
    Run G A act (exec (.While t body [] pos) act.env) ρ Q := fun kp adr S s O => by
  refine wpAny_While (codeAny_whileLoop (fun n s' => ∃ S' adr' ρ', Gro kp S S' ∧ OK G act kp adr' ρ' S' s' ∧ I n ρ') ?_ n ⟨S, adr, ρ, .refl .., O, h0⟩)
  rintro n s' ⟨S', adr', ρ', g, O', hI⟩
  (refine cps fun ZP zk => ?_; obtain ⟨b, ht, hb, hf⟩ := turn n ρ' hI; refine zk ?_)
  refine wpAny_mono (ht kp adr' S' s' O') (fun b' s₁ ⟨S₁, st, e⟩ => ?_) fun _ _ e => e.elim
  subst e
  cases b' with
  | true =>
    refine wpAny_mono (hb rfl kp adr' S₁ s₁ (O'.step st)) (fun f s₂ ⟨S₂, adr₂, ρ₂, fd, g₂, O₂, i₂, q₂⟩ => ?_) fun _ _ e => e.elim
    have gg := (g.trans (O'.gro st)).trans g₂
    cases f <;> cases fd <;> try exact i₂.elim
    · obtain ⟨m, hm, hI⟩ := q₂; exact ⟨m, hm, S₂, adr₂, ρ₂, gg, O₂, hI⟩
    · exact ⟨S₂, adr₂, ρ₂, .next, gg, O₂, trivial, q₂⟩
    · obtain ⟨m, hm, hI⟩ := q₂; exact ⟨m, hm, S₂, adr₂, ρ₂, gg, O₂, hI⟩
    · exact ⟨S₂, adr₂, ρ₂, .ret _, gg, O₂, i₂, q₂⟩
  | false => exact wpAny_execs_nil ⟨S₁, adr', ρ', .next, g.trans (O'.gro st), O'.step st, trivial, hf rfl⟩
end
end Mine
end

section
namespace Mine
variable {sc : Scope} {mc : List Str}
open PySem PySem.Calls PyProof.Rows
structure Foot where
  adr : List Addr
  gen : List Nat
structure SameAt (ft : Foot) (s s' : Shared) : Prop where
  adr : ∀ a ∈ ft.adr, ∀ o, s.heap.get? a = some o → s'.heap.get? a = some o
  gen : ∀ g ∈ ft.gen, ∀ x : GenState, s.gens[g]? = some x → s'.gens[g]? = some x
theorem SameAt.refl (ft : Foot) (s : Shared) : SameAt ft s s := ⟨fun _ _ _ e => e, fun _ _ _ e => e⟩
theorem SameAt.trans {ft : Foot} {s s' s'' : Shared} (h : SameAt ft s s') (h' : SameAt ft s' s'') : SameAt ft s s'' :=
  ⟨fun a ha o e => h'.adr a ha o (h.adr a ha o e), fun g hg x e => h'.gen g hg x (h.gen g hg x e)⟩
structure Good (G : Gl) (ft : Foot) (S : Fz) (s : Shared) : Prop where
  adr : ∀ a ∈ ft.adr, S a = none ∧ NoTab G a ∧ ∃ o, s.heap.get? a = some o
  gen : ∀ g ∈ ft.gen, g < s.gens.size
structure After (G : Gl) (ft : Foot) (S : Fz) (s : Shared) (S' : Fz) (s' : Shared) : Prop where
  inv : Inv G S' s'
  sub : Sub S S'
  same : SameAt ft s s'
  off : ∀ a ∈ ft.adr, S' a = none
structure Nx (G : Gl) (ft : Foot) (S : Fz) (s : Shared) (S' : Fz) (s' : Shared) (ft' : Foot) : Prop where
  inv : Inv G S' s'
  sub : Sub S S'
  new : ∀ a o, S' a = some o → S a = some o ∨ s.heap.get? a = none
  keep : ∀ b o, b ∉ ft.adr → NoTab G b → s.heap.get? b = some o → s'.heap.get? b = some o
  gens : ∀ g (x : GenState), g ∉ ft.gen → s.gens[g]? = some x → s'.gens[g]? = some x
  adr : ∀ a ∈ ft'.adr, a ∈ ft.adr ∨ s.heap.get? a = none
  gen : ∀ g ∈ ft'.gen, g ∈ ft.gen ∨ s.gens.size ≤ g
noncomputable def Drawn (G : Gl) (A : Around) (tgt : Expr) (it : Value) (Q : Option Value → Shared → Prop) (s : Shared) : Prop :=
  wpAny G.M A (pyNext it) (fun r s₁ => match r with | none => Q none s₁ | some v => wpAny G.M A (letOwnedTupleGo tgt it v) (fun _ s₂ => Q (some v) s₂) No s₁) No s
noncomputable def Yields (G : Gl) (A : Around) (tgt : Expr) (it : Value) : List D → Foot → Fz → Shared → Prop
  | [], ft, S, s => Good G ft S s ∧ ∀ S' s', After G ft S s S' s' → Drawn G A tgt it (fun r s'' => r = none ∧ ∃ S'' ft', Nx G ft S' s' S'' s'' ft') s'
  | x :: xs, ft, S, s => Good G ft S s ∧ ∀ S' s', After G ft S s S' s' → Drawn G A tgt it (fun r s'' => ∃ v S'' ft', r = some v ∧ Nx G ft S' s' S'' s'' ft' ∧ Is G S'' v x ∧ Yields G A tgt it xs ft' S'' s'') s'
section
variable {G : Gl} {A : Around} {tgt : Expr} {it : Value} {xs : List D} {ft : Foot} {S S' : Fz} {s s' : Shared}
theorem Yields.good (h : Yields G A tgt it xs ft S s) : Good G ft S s := by cases xs <;> exact h.1
theorem After.good (g : Good G ft S s) (a : After G ft S s S' s') : Good G ft S' s' where
  adr := fun b hb => by
    obtain ⟨_, h2, o, ho⟩ := g.adr b hb
    exact ⟨a.off b hb, h2, o, a.same.adr b hb o ho⟩
  gen := fun n hn => by
    have q := a.same.gen n hn (s.gens[n]'(g.gen n hn)) (by simp [g.gen n hn])
    exact (Array.getElem?_eq_some_iff.mp q).1
theorem Yields.later (h : Yields G A tgt it xs ft S s) (a : After G ft S s S' s') : Yields G A tgt it xs ft S' s' := by
  have tr : ∀ {S'' s''}, After G ft S' s' S'' s'' → After G ft S s S'' s'' := fun b => ⟨b.inv, a.sub.trans b.sub, a.same.trans b.same, b.off⟩
  cases xs with
  | nil => exact ⟨a.good h.1, fun S'' s'' b => h.2 S'' s'' (tr b)⟩
  | cons x xs => exact ⟨a.good h.1, fun S'' s'' b => h.2 S'' s'' (tr b)⟩
theorem After.refl (I : Inv G S s) (g : Good G ft S s) : After G ft S s S s := ⟨I, Sub.refl _, .refl .., fun a ha => (g.adr a ha).1⟩
theorem Stp.after (st : Stp G S s S' s') (g : Good G ft S s) : After G ft S s S' s' := ⟨st.inv, st.sub, ⟨fun a ha o e => st.keep a o (g.adr a ha).2.1 e, fun n _ x e => st.gens n x e⟩, fun a ha => by
  obtain ⟨h1, _, o, ho⟩ := g.adr a ha
  cases q : S' a with
  | none => rfl
  | some o' =>
    rcases st.new a o' q with e | e
    · rw [h1] at e; exact nomatch e
    · rw [ho] at e; exact nomatch e⟩
noncomputable def Selfy (G : Gl) (A : Around) (it : Value) (ft : Foot) (S : Fz) (s : Shared) : Prop := ∀ S' s', After G ft S s S' s' → ∀ Q E, Q it s' → wpAny G.M A (pyIter it) Q E s'
noncomputable def SrcAt (G : Gl) (A : Around) (tgt : Expr) (xs : List D) (S : Fz) (s : Shared) : Value → Shared → Prop := fun it s₂ =>
  ∃ S₂ ft, Stp G S s S₂ s₂ ∧ (∀ a ∈ ft.adr, s.heap.get? a = none) ∧ (∀ g ∈ ft.gen, s.gens.size ≤ g) ∧ Yields G A tgt it xs ft S₂ s₂ ∧ Selfy G A it ft S₂ s₂
noncomputable def Src (G : Gl) (A : Around) (act : Act sc mc) (ρ : LEnv) (tgt e : Expr) (xs : List D) : Prop := ∀ kp adr S s, OK G act kp adr ρ S s →
  wpAny G.M A (eval e act.env) (fun v s₁ => wpAny G.M A (pyIter v) (SrcAt G A tgt xs S s) No s₁) No s
end
noncomputable def Kept.with (kp : Kept) (ft : Foot) (s : Shared) : Kept := ⟨fun a => if a ∈ ft.adr then s.heap.get? a else kp.objs a, fun g => if g ∈ ft.gen then s.gens[g]? else kp.gens g⟩
section
variable {G : Gl} {A : Around} {act : Act sc mc} {kp : Kept} {adr : Str → Addr} {ρ ρ' : LEnv} {ft ft' : Foot} {S S' : Fz} {s s' : Shared} {tgt e : Expr} {it : Value} {xs : List D} {Q : FD → LEnv → Prop} {pos : Pos} {body : List Stmt}
structure Aside (act : Act sc mc) (kp : Kept) (adr : Str → Addr) (ρ : LEnv) (ft : Foot) : Prop where
  mt : ∀ a ∈ ft.adr, a ∉ act.mt
  cells : ∀ a ∈ ft.adr, ∀ p ∈ act.env.cells, p.2 ≠ a
  own : ∀ a ∈ ft.adr, ∀ x d, ρ.lookup x = some (.own d) → adr x ≠ a
  ko : ∀ a ∈ ft.adr, kp.objs a = none
  kgn : ∀ g ∈ ft.gen, kp.gens g = none
theorem OK.apart' (O : OK G act kp adr ρ S s) (h : ∀ a ∈ ft.adr, s.heap.get? a = none) (hg : ∀ g ∈ ft.gen, s.gens.size ≤ g) : Aside act kp adr ρ ft where
  mt := fun a ha q => by obtain ⟨_, _, _, o, ho⟩ := O.mt a q; rw [h a ha] at ho; exact nomatch ho
  cells := fun a ha p hp q => by obtain ⟨_, v, o, ho, _⟩ := O.cells p hp; rw [q, h a ha] at ho; exact nomatch ho
  own := fun a ha x d hx q => by obtain ⟨_, ⟨o, ho, _⟩, _⟩ := O.vars x _ hx; rw [q, h a ha] at ho; exact nomatch ho
  ko := fun a ha => by
    cases q : kp.objs a with
    | none => rfl
    | some o => have := O.kept a o q; rw [h a ha] at this; exact nomatch this
  kgn := fun g hg' => by
    cases q : kp.gens g with
    | none => rfl
    | some x => have := (Array.getElem?_eq_some_iff.mp (O.kgens g x q)).1; exact absurd (hg g hg') (Nat.not_le.mpr this)
set_option tactic.hygienic true in
theorem OK.with (O : OK G act kp adr ρ S s) (g : Good G ft S s) (ap : Aside act kp adr ρ ft) : OK G act (kp.with ft s) adr ρ S s :=
  { O with
    kept := fun a o e => by
      unfold Kept.with at e
      simp only at e
      split at e
      · exact e
      · exact O.kept a o e
    knt := fun a o e => by
      unfold Kept.with at e
      simp only at e
      split at e
      · rename_i h; exact (g.adr a h).2.1
      · exact O.knt a o e
    kgens := fun n x e => by
      unfold Kept.with at e
      simp only at e
      split at e
      · exact e
      · exact O.kgens n x e
    mt := fun b hb => by
      obtain ⟨h1, h2, h3⟩ := O.mt b hb
      refine ⟨h1, ?_, h3⟩
      unfold Kept.with
      simp only
      rw [if_neg fun h => ap.mt b h hb]
      exact h2
    vars := fun x l e => by
      have q := O.vars x l e
      cases l with
      | val d => exact q
      | own d =>
        obtain ⟨r, w, h1, h2, h3⟩ := q
        refine ⟨r, w, h1, ?_, h3⟩
        unfold Kept.with
        simp only
        rw [if_neg fun h => ap.own _ h x d e rfl]
        exact h2 }
set_option tactic.hygienic true in
theorem OK.without (O : OK G act (kp.with ft s) adr ρ S' s') (hkp : ∀ a ∈ ft.adr, kp.objs a = none) (hkg : ∀ g ∈ ft.gen, kp.gens g = none) : OK G act kp adr ρ S' s' :=
  { O with
    kept := fun a o e => O.kept a o (by
      unfold Kept.with; simp only
      rw [if_neg fun h => by rw [hkp a h] at e; exact nomatch e]; exact e)
    knt := fun a o e => O.knt a o (by
      unfold Kept.with; simp only
      rw [if_neg fun h => by rw [hkp a h] at e; exact nomatch e]; exact e)
    kgens := fun n x e => O.kgens n x (by
      unfold Kept.with; simp only
      rw [if_neg fun h => by rw [hkg n h] at e; exact nomatch e]; exact e)
    mt := fun b hb => by
      obtain ⟨h1, h2, h3⟩ := O.mt b hb
      refine ⟨h1, ?_, h3⟩
      unfold Kept.with at h2
      simp only at h2
      split at h2
      · rename_i h; exact hkp b h
      · exact h2
    vars := fun x l e => by
      have q := O.vars x l e
      cases l with
      | val d => exact q
      | own d =>
        obtain ⟨r, w, h1, h2, h3⟩ := q
        refine ⟨r, w, h1, ?_, h3⟩
        unfold Kept.with at h2
        simp only at h2
        split at h2
        · rename_i h; exact hkp _ h
        · exact h2 }
set_option tactic.hygienic true in
theorem Gro.without (g : Gro (kp.with ft s) S S') (hl : ∀ a ∈ ft.adr, ∃ o, s.heap.get? a = some o) (hk : ∀ a ∈ ft.adr, kp.objs a = none) : Gro kp S S' := ⟨g.sub, fun a o e => (g.new a o e).imp id fun h => by
  unfold Kept.with at h
  simp only at h
  split at h
  · rename_i hm; exact hk a hm
  · exact h⟩
theorem OK.afterTurn (O : OK G act (kp.with ft s) adr ρ S' s') (g : Good G ft S s) (gr : Gro (kp.with ft s) S S') : After G ft S s S' s' where
  inv := O.inv
  sub := gr.sub
  same := ⟨fun a ha o e => O.kept a o (by unfold Kept.with; simp only; rw [if_pos ha]; exact e), fun n hn x e => O.kgens n x (by unfold Kept.with; simp only; rw [if_pos hn]; exact e)⟩
  off := fun a ha => by
    obtain ⟨h1, _, o, ho⟩ := g.adr a ha
    cases q : S' a with
    | none => rfl
    | some o' =>
      rcases gr.new a o' q with e | e
      · rw [h1] at e; exact nomatch e
      · unfold Kept.with at e
        simp only at e
        rw [if_pos ha, ho] at e
        exact nomatch e
theorem OK.nx (O : OK G act kp adr ρ S s) (ap : Aside act kp adr ρ ft) (n : Nx G ft S s S' s' ft') : OK G act kp adr ρ S' s' where
  inv := n.inv
  kept := fun a o e => n.keep a o (fun h => by rw [ap.ko a h] at e; exact nomatch e) (O.knt a o e) (O.kept a o e)
  knt := O.knt
  kgens := fun g x e => n.gens g x (fun h => by rw [ap.kgn g h] at e; exact nomatch e) (O.kgens g x e)
  fn := O.fn
  glob := O.glob
  blt := O.blt
  ns := let ⟨m, hm⟩ := O.ns; ⟨m, hm.at' fun o e => n.keep _ _ (fun h => ap.mt _ h O.mtL) O.ntL e⟩
  mtL := O.mtL
  mt := fun b hb => by
    obtain ⟨h1, h2, h3, o, ho⟩ := O.mt b hb
    refine ⟨?_, h2, h3, o, n.keep _ _ (fun h => ap.mt b h hb) h3 ho⟩
    cases q : S' b with
    | none => rfl
    | some o' =>
      rcases n.new b o' q with e | e
      · rw [h1] at e; exact nomatch e
      · rw [ho] at e; exact nomatch e
  mtc := O.mtc
  apart := O.apart
  clo := O.clo
  cells := fun p hp => by
    obtain ⟨nt, v, o, ho, hd⟩ := O.cells p hp
    exact ⟨nt, v, o, n.keep _ _ (fun h => ap.cells _ h p hp rfl) nt ho, hd⟩
  vars := fun x l e => by
    have rd : ∀ v, Reads act.env s.heap x v → Reads act.env s'.heap x v := fun v r =>
      r.of (fun o ho => n.keep _ _ (fun h => ap.mt _ h O.mtL) O.ntL ho) fun c hc o ho => n.keep _ _ (fun h => ap.cells _ h _ (cell_in hc) rfl) (O.cells _ (cell_in hc)).1 ho
    have q := O.vars x l e
    cases l with
    | val d => obtain ⟨v, r, i⟩ := q; exact ⟨v, rd v r, i.mono n.sub⟩
    | own d =>
      obtain ⟨r, ⟨o, ho, w⟩, h1, h2, h3⟩ := q
      refine ⟨rd _ r, ⟨o, n.keep _ _ (fun h => ap.own _ h x d e rfl) (O.inv.noTab ho w.cls) ho, w.mono n.sub⟩, ?_, h2, h3⟩
      cases q : S' (adr x) with
      | none => rfl
      | some o' =>
        rcases n.new _ o' q with e | e
        · rw [h1] at e; exact nomatch e
        · rw [ho] at e; exact nomatch e
  inj := O.inj
theorem OK.nxGro (O : OK G act kp adr ρ S s) (n : Nx G ft S s S' s' ft') : Gro kp S S' := ⟨n.sub, fun a o e => (n.new a o e).imp id fun q => by
  cases h : kp.objs a with
  | none => rfl
  | some o' => rw [O.kept a o' h] at q; exact nomatch q⟩
theorem Aside.nx (O : OK G act kp adr ρ S s) (ap : Aside act kp adr ρ ft) (n : Nx G ft S s S' s' ft') : Aside act kp adr ρ ft' := by
  have key : ∀ a ∈ ft'.adr, a ∈ ft.adr ∨ s.heap.get? a = none := n.adr
  exact {
    mt := fun a ha q => (key a ha).elim (fun h => ap.mt a h q) fun h => by obtain ⟨_, _, _, o, ho⟩ := O.mt a q; rw [h] at ho; exact nomatch ho
    cells := fun a ha p hp q => (key a ha).elim (fun h => ap.cells a h p hp q) fun h => by obtain ⟨_, v, o, ho, _⟩ := O.cells p hp; rw [q, h] at ho; exact nomatch ho
    own := fun a ha x d hx q => (key a ha).elim (fun h => ap.own a h x d hx q) fun h => by obtain ⟨_, ⟨o, ho, _⟩, _⟩ := O.vars x _ hx; rw [q, h] at ho; exact nomatch ho
    ko := fun a ha => (key a ha).elim (ap.ko a) fun h => by
      cases q : kp.objs a with
      | none => rfl
      | some o => have := O.kept a o q; rw [h] at this; exact nomatch this
    kgn := fun g hg => (n.gen g hg).elim (ap.kgn g) fun h => by
      cases q : kp.gens g with
      | none => rfl
      | some x => have := (Array.getElem?_eq_some_iff.mp (O.kgens g x q)).1; exact absurd h (Nat.not_le.mpr this) }
end
noncomputable def Takes (G : Gl) (A : Around) (act : Act sc mc) (tgt : Expr) (d : D) (ρ ρ' : LEnv) : Prop := ∀ kp adr S s v, OK G act kp adr ρ S s → Is G S v d →
  wpAny G.M A (assign tgt act.env v) (fun _ s' => ∃ S' adr', Gro kp S S' ∧ OK G act kp adr' ρ' S' s' ∧ (∀ x d, ρ'.lookup x = some (.own d) → ∃ d₀, ρ.lookup x = some (.own d₀) ∧ adr' x = adr x)) No s
section
variable {G : Gl} {A : Around} {act : Act sc mc} {ρ ρ' : LEnv} {tgt e : Expr} {xs : List D} {Q : FD → LEnv → Prop} {pos : Pos} {body : List Stmt}
theorem Run.for (hsrc : Src G A act ρ tgt e xs) (I : List D → LEnv → Prop) (h0 : I xs ρ)
    (turn : ∀ x xs ρ, I (x :: xs) ρ → ∃ ρ₁, Takes G A act tgt x ρ ρ₁ ∧ Run G A act (execs body act.env) ρ₁ (fun fd ρ' => match fd with
      | .next => I xs ρ'
      | .cont => I xs ρ'
      | .brk => Q .next ρ'
      | .ret d => Q (.ret d) ρ'))
    (done : ∀ ρ, I [] ρ → Q .next ρ) (hs : ∀ x, foldedSetIterable e act.env x = pure x := by intro _; rfl) :
    Run G A act (exec (.For tgt e body [] pos) act.env) ρ Q := fun kp adr S s O => by
  refine wpAny_For (wpAny_mono (hsrc kp adr S s O) (fun v s₁ h₁ => wpAny_mono h₁ (fun it s₂ ⟨S₂, ft, st, hf, hg, hy, _⟩ => ?_) fun _ _ e => e) fun _ _ e => e) hs
  have O₂ := O.step st
  have ap := O.apart' hf hg
  refine codeAny_forLoop_any (fun n s' => ∃ xs S' adr' ρ' ft, n = xs.length + 1 ∧ Gro kp S S' ∧ OK G act kp adr' ρ' S' s' ∧ Aside act kp adr' ρ' ft ∧ Yields G A tgt it xs ft S' s' ∧ I xs ρ') ?_ (xs.length + 1)
    ⟨xs, S₂, adr, ρ, ft, rfl, O.gro st, O₂, ap, hy, h0⟩
  rintro n s' ⟨xs, S', adr', ρ', ft, rfl, g, O', ap, hy, hI⟩
  have gd := hy.good
  cases xs with
  | nil =>
    refine wpAny_mono (hy.2 S' s' (.refl O'.inv gd)) (fun r s₃ h => ?_) fun _ _ e => e.elim
    cases r with
    | none =>
      (refine cps fun ZP zk => ?_; obtain ⟨_, S₃, ft₃, nx⟩ := h; refine zk ?_)
      exact wpAny_execs_nil ⟨S₃, adr', ρ', .next, g.trans (O'.nxGro nx), O'.nx ap nx, trivial, done _ hI⟩
    | some v =>
      refine wpAny_mono h (fun _ s₄ h => ?_) fun _ _ e => e.elim
      cases h.1
  | cons x xs =>
    refine wpAny_mono (hy.2 S' s' (.refl O'.inv gd)) (fun r s₃ h => ?_) fun _ _ e => e.elim
    cases r with
    | none => (refine cps fun ZP zk => ?_; obtain ⟨_, _, _, h, _⟩ := h; refine zk ?_); exact nomatch h
    | some v =>
      refine wpAny_mono h (fun _ s₄ h => ?_) fun _ _ e => e.elim
      (refine cps fun ZP zk => ?_; obtain ⟨v', S₄, ft₄, hv, nx, i, hy₄⟩ := h; refine zk ?_)
      obtain rfl := Option.some.inj hv
      have O₄ := O'.nx ap nx
      have ap₄ := ap.nx O' nx
      (refine cps fun ZP zk => ?_; obtain ⟨ρ₁, tk, run⟩ := turn x xs ρ' hI; refine zk ?_)
      have gd₄ := hy₄.good
      have W := O₄.with gd₄ ap₄
      refine wpAny_mono (tk _ adr' S₄ s₄ v W i) (fun _ s₅ ⟨S₅, adr₅, g₅, O₅, own₅⟩ => ?_) fun _ _ e => e.elim
      refine wpAny_mono (run _ adr₅ S₅ s₅ O₅) (fun f s₆ ⟨S₆, adr₆, ρ₆, fd, g₆, O₆, i₆, q₆⟩ => ?_) fun _ _ e => e.elim
      have gg := g₅.trans g₆
      have live : ∀ a ∈ ft₄.adr, ∃ o, s₄.heap.get? a = some o := fun a ha => (gd₄.adr a ha).2.2
      have O₆' := O₆.without ap₄.ko ap₄.kgn
      have g₆' := (g.trans (O'.nxGro nx)).trans (gg.without live ap₄.ko)
      have af := O₆.afterTurn gd₄ gg
      have own : ∀ a ∈ ft₄.adr, ∀ x d, ρ₆.lookup x = some (.own d) → adr₆ x ≠ a := fun a ha x d hx q => by
        obtain ⟨_, _, _, h4, _⟩ := O₆.vars x _ hx
        unfold Kept.with at h4
        simp only at h4
        obtain ⟨o, ho⟩ := live a ha
        rw [q, if_pos ha, ho] at h4
        exact nomatch h4
      have ap₆ : Aside act kp adr₆ ρ₆ ft₄ := ⟨ap₄.mt, ap₄.cells, own, ap₄.ko, ap₄.kgn⟩
      cases f <;> cases fd <;> try exact i₆.elim
      · exact ⟨xs.length + 1, by simp, xs, S₆, adr₆, ρ₆, ft₄, rfl, g₆', O₆', ap₆, hy₄.later af, q₆⟩
      · exact ⟨S₆, adr₆, ρ₆, .next, g₆', O₆', trivial, q₆⟩
      · exact ⟨xs.length + 1, by simp, xs, S₆, adr₆, ρ₆, ft₄, rfl, g₆', O₆', ap₆, hy₄.later af, q₆⟩
      · exact ⟨S₆, adr₆, ρ₆, .ret _, g₆', O₆', i₆, q₆⟩
theorem Takes.name {x : Str} {d : D} {npos : Pos} (hx : Stores sc mc x) : Takes G A act (.Name x npos) d ρ ((x, .val d) :: ρ) := fun kp adr S s v O i =>
  wpAny_assign_Name (O.storeVal hx i fun h' t O' => ⟨S, adr, .refl .., O', fun y dy hy => by
    by_cases q : y = x
    · subst q; simp at hy
    · rw [lookup_cons_ne q] at hy; exact ⟨dy, hy, rfl⟩⟩)
end
end Mine
end

section
namespace Mine
variable {sc : Scope} {mc : List Str}
open PySem PySem.Calls PyProof.Rows
noncomputable def ownedTypes : List String := ["enumerate", "zip", "dict_itemiterator", "dict_reverseitemiterator", "odict_iterator", "itertools.zip_longest", "itertools.pairwise"]
section
variable {M : Model} {A : Around} {E : Value → Shared → Prop} {s : Shared}
set_option tactic.hygienic true in
theorem quietGo {tgt : Expr} {I : Addr} {v : Value} {o : Obj} {n : String} {Q : Unit → Shared → Prop} (ho : s.heap.get? I = some o) (hc : o.cls = .type n) (hn : ownedTypes.contains n = false) (h : Q () s) :
    wpAny M A (letOwnedTupleGo tgt (.ref I) v) Q E s := by
  have key : wpAny M A (do
      let (.ref r, .ref a) := ((.ref I : Value), v) | pure ()
      let o ← load r
      match o.cls, o.data with
      | .type n, .fields vs =>
        if ownedTypes.contains n && vs[0]? == some (rawInt a) then
          rule "for.unpacks-the-owned-tuple"
          updateField r 0 .none
      | _, _ => pure ()) Q E s := by
    cases v <;> try exact wpAny_pure h
    rename_i a
    refine wpAny_bind (wpAny_load ho ?_)
    rw [hc]
    generalize o.data = dt
    cases dt with
    | fields vs =>
      show wpAny M A (if (ownedTypes.contains n && vs[0]? == some (rawInt a)) = true then _ else _) Q E s
      rw [hn]
      exact wpAny_pure h
    | _ => exact wpAny_pure h
  cases tgt <;> first | exact wpAny_pure h | exact key
end
section
variable {G : Gl} {A : Around} {tgt : Expr}
theorem Yields.walks {I : Addr} {fp wr : List Addr} {n : Nat} {P : Nat → Value → Prop} {St : Nat → Heap → Prop} (W : Walks G.prog G.w A I fp wr n P St) {S₀ : Fz} {xs : List D}
    (hgo : ∀ i h, St i h → ∃ o T, h.get? I = some o ∧ o.cls = .type T ∧ ownedTypes.contains T = false) (hn : xs.length = n) (hfp : ∀ b ∈ fp, b ∈ wr ∨ ∃ o, S₀ b = some o)
    (hlive : ∀ i h, St i h → ∀ b ∈ wr, ∃ o, h.get? b = some o) (hP : ∀ i v, i < n → P i v → ∃ x, xs[i]? = some x ∧ Is G S₀ v x) :
    ∀ k i S s, k = n - i → i ≤ n → Sub S₀ S → Inv G S s → St i s.heap → (∀ b ∈ wr, S b = none ∧ NoTab G b) → Yields G A tgt (.ref I) (xs.drop i) ⟨wr, []⟩ S s := by
  intro k
  induction k with
  | zero =>
    intro i S s hk hi hs I' hst hw
    have hin : i = n := by lia
    subst hin
    rw [List.drop_of_length_le (by lia)]
    refine ⟨⟨fun a ha => ⟨(hw a ha).1, (hw a ha).2, hlive _ _ hst a ha⟩, fun _ h => nomatch h⟩, fun S' s' af => ?_⟩
    have hst' : St i s'.heap := W.frame _ _ _ hst fun b hb o e => by
      rcases hfp b hb with h | ⟨o', h⟩
      · exact af.same.adr b h o e
      · have h2 := hs _ _ h
        have h3 := I'.sub _ _ h2
        rw [e] at h3
        obtain rfl := Option.some.inj h3
        exact af.inv.sub _ _ (af.sub _ _ h2)
    refine W.done s' _ _ hst' fun h' tk hkeep => ?_
    refine ⟨rfl, S', ⟨wr, []⟩, ?_⟩
    exact ⟨af.inv.but (wr := wr) (fun a ha => ⟨af.off a ha, (hw a ha).2⟩) hkeep, Sub.refl _, fun _ _ e => .inl e, fun b o hb _ e => hkeep b o hb e, fun _ _ _ e => e, fun a ha => .inl ha, fun g hg => nomatch hg⟩
  | succ k ih =>
    intro i S s hk hi hs I' hst hw
    have hlt : i < n := by lia
    have hx : i < xs.length := by lia
    rw [List.drop_eq_getElem_cons hx]
    refine ⟨⟨fun a ha => ⟨(hw a ha).1, (hw a ha).2, hlive _ _ hst a ha⟩, fun _ h => nomatch h⟩, fun S' s' af => ?_⟩
    have hst' : St i s'.heap := W.frame _ _ _ hst fun b hb o e => by
      rcases hfp b hb with h | ⟨o', h⟩
      · exact af.same.adr b h o e
      · have h2 := hs _ _ h
        have h3 := I'.sub _ _ h2
        rw [e] at h3
        obtain rfl := Option.some.inj h3
        exact af.inv.sub _ _ (af.sub _ _ h2)
    refine W.item i s' _ _ hlt hst' fun v h' tk hPv hst₁ hkeep => ?_
    (refine cps fun ZP zk => ?_; obtain ⟨o, T, ho, hc, hT⟩ := hgo _ _ hst₁; refine zk ?_)
    refine quietGo ho hc hT ?_
    have I₁ := af.inv.but (h' := h') (t := tk) (wr := wr) (fun a ha => ⟨af.off a ha, (hw a ha).2⟩) hkeep
    obtain ⟨x, hx1, hx2⟩ := hP i v hlt hPv
    have hxx : x = xs[i] := by rw [List.getElem?_eq_getElem hx] at hx1; exact (Option.some.inj hx1).symm
    subst hxx
    exact ⟨v, S', ⟨wr, []⟩, rfl, ⟨I₁, Sub.refl _, fun _ _ e => .inl e, fun b o hb _ e => hkeep b o hb e, fun _ _ _ e => e, fun a ha => .inl ha, fun g hg => nomatch hg⟩,
      hx2.mono (hs.trans af.sub), ih (i + 1) S' _ (by lia) (by lia) (hs.trans af.sub) I₁ hst₁ fun b hb => ⟨af.off b hb, (hw b hb).2⟩⟩
theorem Selfy.walks {I : Addr} {fp wr : List Addr} {n : Nat} {P : Nat → Value → Prop} {St : Nat → Heap → Prop} (W : Walks G.prog G.w A I fp wr n P St) {S : Fz} {s : Shared} (hfp : ∀ b ∈ fp, b ∈ wr ∨ ∃ o, S b = some o)
    (I' : Inv G S s) (hst : St 0 s.heap) : Selfy G A (.ref I) ⟨wr, []⟩ S s := fun S' s' af Q E hQ =>
  W.self 0 s' Q E (W.frame _ _ _ hst fun b hb o e => by
    rcases hfp b hb with h | ⟨o', h⟩
    · exact af.same.adr b h o e
    · have h3 := I'.sub _ _ h
      rw [e] at h3
      obtain rfl := Option.some.inj h3
      exact af.inv.sub _ _ (af.sub _ _ h)) hQ
theorem Both.walks {I : Addr} {fp wr : List Addr} {n : Nat} {P : Nat → Value → Prop} {St : Nat → Heap → Prop} (W : Walks G.prog G.w A I fp wr n P St) {S : Fz} {s : Shared} {xs : List D}
    (hgo : ∀ i h, St i h → ∃ o T, h.get? I = some o ∧ o.cls = .type T ∧ ownedTypes.contains T = false) (hn : xs.length = n) (hfp : ∀ b ∈ fp, b ∈ wr ∨ ∃ o, S b = some o)
    (hlive : ∀ i h, St i h → ∀ b ∈ wr, ∃ o, h.get? b = some o) (hP : ∀ i v, i < n → P i v → ∃ x, xs[i]? = some x ∧ Is G S v x) (I' : Inv G S s) (hst : St 0 s.heap) (hw : ∀ b ∈ wr, S b = none ∧ NoTab G b) :
    Yields G A tgt (.ref I) xs ⟨wr, []⟩ S s ∧ Selfy G A (.ref I) ⟨wr, []⟩ S s :=
  ⟨by have := Yields.walks (tgt := tgt) W hgo hn hfp hlive hP _ 0 S s rfl (Nat.zero_le _) (Sub.refl _) I' hst hw; simpa using this, Selfy.walks W hfp I' hst⟩
theorem Yields.walksT {elts : List Expr} {kk : Nat} {tp : Pos} {I : Addr} {fp wr : List Addr} {n : Nat} {Pt : Nat → Array Value → Prop} {St : Nat → Heap → Prop} {Mid : Nat → Addr → Heap → Prop} (W : WalksT G.prog G.w A I fp wr n Pt St Mid) {S₀ : Fz} {xs : List D}
    (hn : xs.length = n) (hfp : ∀ b ∈ fp, b ∈ wr ∨ ∃ o, S₀ b = some o)
    (hlive : ∀ i h, St i h → ∀ b ∈ wr, ∃ o, h.get? b = some o) (hP : ∀ i vals, i < n → Pt i vals → ∃ ds, xs[i]? = some (.tuple ds) ∧ Alls G S₀ vals.toList ds) :
    ∀ k i S s, k = n - i → i ≤ n → Sub S₀ S → Inv G S s → St i s.heap → (∀ b ∈ wr, S b = none ∧ NoTab G b) → Yields G A (.Tuple elts kk tp) (.ref I) (xs.drop i) ⟨wr, []⟩ S s := by
  intro k
  induction k with
  | zero =>
    intro i S s hk hi hs I' hst hw
    have hin : i = n := by lia
    subst hin
    rw [List.drop_of_length_le (by lia)]
    refine ⟨⟨fun a ha => ⟨(hw a ha).1, (hw a ha).2, hlive _ _ hst a ha⟩, fun _ h => nomatch h⟩, fun S' s' af => ?_⟩
    have hst' : St i s'.heap := W.frame _ _ _ hst fun b hb o e => by
      rcases hfp b hb with h | ⟨o', h⟩
      · exact af.same.adr b h o e
      · have h2 := hs _ _ h
        have h3 := I'.sub _ _ h2
        rw [e] at h3
        obtain rfl := Option.some.inj h3
        exact af.inv.sub _ _ (af.sub _ _ h2)
    refine W.done s' _ _ hst' fun h' tk hkeep => ?_
    refine ⟨rfl, S', ⟨wr, []⟩, ?_⟩
    exact ⟨af.inv.but (wr := wr) (fun a ha => ⟨af.off a ha, (hw a ha).2⟩) hkeep, Sub.refl _, fun _ _ e => .inl e, fun b o hb _ e => hkeep b o hb e, fun _ _ _ e => e, fun a ha => .inl ha, fun g hg => nomatch hg⟩
  | succ k ih =>
    intro i S s hk hi hs I' hst hw
    have hlt : i < n := by lia
    have hx : i < xs.length := by lia
    rw [List.drop_eq_getElem_cons hx]
    refine ⟨⟨fun a ha => ⟨(hw a ha).1, (hw a ha).2, hlive _ _ hst a ha⟩, fun _ h => nomatch h⟩, fun S' s' af => ?_⟩
    have hst' : St i s'.heap := W.frame _ _ _ hst fun b hb o e => by
      rcases hfp b hb with h | ⟨o', h⟩
      · exact af.same.adr b h o e
      · have h2 := hs _ _ h
        have h3 := I'.sub _ _ h2
        rw [e] at h3
        obtain rfl := Option.some.inj h3
        exact af.inv.sub _ _ (af.sub _ _ h2)
    refine W.item i s' _ _ hlt hst' fun T vals h' tk hPv hsz hT hmid hkeep => ?_
    refine W.go elts kk tp i T _ _ _ hmid fun h'' hst₁ hkeep₂ => ?_
    have kk2 : ∀ b o, b ∉ wr → s'.heap.get? b = some o → h''.get? b = some o := fun b o hb e => hkeep₂ b o hb (hkeep b o hb e)
    have I₁ := af.inv.but (h' := h'') (t := tk) (wr := wr) (fun a ha => ⟨af.off a ha, (hw a ha).2⟩) kk2
    obtain ⟨ds, hx1, hx2⟩ := hP i vals hlt hPv
    have hxx : xs[i] = .tuple ds := by rw [List.getElem?_eq_getElem hx] at hx1; exact Option.some.inj hx1
    obtain ⟨o, ho, hc, nn, hd⟩ := hT
    have hTw := W.apart _ _ _ hmid
    have ho'' : h''.get? T = some o := hkeep₂ _ _ hTw ho
    have hTn : s'.heap.get? T = none := by
      cases q : s'.heap.get? T with
      | none => rfl
      | some o' => exact absurd (Heap.lt_size q) (Nat.not_lt.mpr hsz)
    have hTS : S' T = none := by
      cases q : S' T with
      | none => rfl
      | some o' => have := af.inv.sub _ _ q; rw [hTn] at this; exact nomatch this
    have hcn : o.cls ≠ .none := by rw [hc]; exact fun e => nomatch e
    have I₂ := I₁.freeze ho'' hcn hTS
    have hs2 : Sub S' (S'.put T o) := Fz.sub_put hTS
    refine ⟨.ref T, S'.put T o, ⟨wr, []⟩, rfl, ⟨I₂, hs2, fun a o' e => ?_, fun b o hb _ e => kk2 b o hb e, fun _ _ _ e => e, fun a ha => .inl ha, fun g hg => nomatch hg⟩, ?_, ?_⟩
    · by_cases q : a = T
      · subst q; exact .inr hTn
      · rw [Fz.put_ne _ _ q] at e; exact .inl e
    · rw [hxx]
      exact .tuple (Fz.put_self ..) hc (by rw [hd]) (hx2.mono ((hs.trans af.sub).trans hs2))
    · refine ih (i + 1) _ _ (by lia) (by lia) ((hs.trans af.sub).trans hs2) I₂ hst₁ fun b hb => ⟨?_, (hw b hb).2⟩
      rw [Fz.put_ne S' o (a := T) (b := b) fun q => hTw (by rw [← q]; exact hb)]
      exact af.off b hb
end
noncomputable def ri (x y : Int) : List Int := (List.range (y - x).toNat).map fun (i : Nat) => x + (i : Int)
noncomputable def chars (x : Str) : List D := x.cps.toList.map fun c => D.str ⟨#[c]⟩
noncomputable def pairD (k : Ky) (d : D) : D := .tuple [k.d, d]
inductive Iter : D → List D → Prop
  | list (ds : List D) : Iter (.list ds) ds
  | tuple (ds : List D) : Iter (.tuple ds) ds
  | range {x y : Int} (hx : -(2 ^ 62) ≤ x) (hx' : x < 2 ^ 62) (hy : -(2 ^ 62) ≤ y) (hy' : y < 2 ^ 62) : Iter (.range x y) ((ri x y).map D.int)
  | dict (ks : List Ky) (ds : List D) : Iter (.dict ks ds) (ks.map Ky.d)
  | values (ks : List Ky) (ds : List D) : Iter (.values ks ds) ds
  | str (x : Str) : Iter (.str x) (chars x)
section
variable {G : Gl} {A : Around} {tgt : Expr} {S : Fz} {s : Shared} {n : Nat}
theorem Inv.sizeS (I : Inv G S s) : S s.heap.objs.size = none := by
  cases q : S s.heap.objs.size with
  | none => rfl
  | some o' => have := I.sub _ _ q; rw [Inv.fresh] at this; exact nomatch this
theorem SrcAt.push (I : Inv G S s) {o : Obj} (hf : o.isFreed = false) {it : Value} {xs : List D} (h : ∀ (I' : Inv G S { s with heap := s.heap.push o }), Yields G A tgt it xs ⟨[s.heap.objs.size], []⟩ S { s with heap := s.heap.push o } ∧ Selfy G A it ⟨[s.heap.objs.size], []⟩ S { s with heap := s.heap.push o }) :
    SrcAt G A tgt xs S s it { s with heap := s.heap.push o } := by
  have st := I.keeps (h' := s.heap.push o) (t := s.toks) fun b o' e => Heap.get?_push_of_some _ e
  exact ⟨S, ⟨[s.heap.objs.size], []⟩, st, fun a ha => by rw [List.mem_singleton.mp ha]; exact Inv.fresh, fun g hg => (nomatch hg), h st.inv⟩
theorem Iter.src (hA : Room n A) {d : D} {xs : List D} (hi : Iter d xs) (I : Inv G S s) {v : Value} (h : Is G S v d) : wpAny G.M A (pyIter v) (SrcAt G A tgt xs S s) No s := by
  have fr : ∀ {a : Addr} {o : Obj}, S a = some o → a ≠ s.heap.objs.size := fun h q => by rw [q, I.sizeS] at h; exact nomatch h
  have wr : ∀ b ∈ [s.heap.objs.size], S b = none ∧ NoTab G b := fun b hb => by rw [List.mem_singleton.mp hb]; exact ⟨I.sizeS, I.noTabFresh Inv.fresh⟩
  cases hi with
  | list ds =>
    (refine cps fun ZP zk => ?_; obtain ⟨a, o, m, vs, rfl, h1, hc, hd, t⟩ := h.listI; refine zk ?_)
    have hl := isList_of I h1 hc hd
    refine wpAny_pyIter_list hl (SrcAt.push I rfl fun I' => ?_)
    exact Both.walks (Walks.list hA.handled s.heap.objs.size a (fr h1) vs.toArray) (fun i h hst => let ⟨o, ho, hc, _⟩ := hst.1; ⟨o, _, ho, hc, by decide⟩) (by simp [t.length])
      (fun b hb => by simp at hb; rcases hb with rfl | rfl; · simp
                      · exact .inr ⟨_, h1⟩) (fun i h hst b hb => by rw [List.mem_singleton.mp hb]; obtain ⟨o, ho, _⟩ := hst.1; exact ⟨o, ho⟩)
      (fun i v _ hv => by obtain ⟨x, q1, q2⟩ := t.get' (k := i) (v := v) (by simpa using hv); exact ⟨x, q1, q2⟩) I' ⟨⟨_, Heap.get?_push_size _ rfl, rfl, rfl⟩, ⟨_, Heap.get?_push_of_some _ (I.sub _ _ h1), hc, _, hd⟩⟩ wr
  | tuple ds =>
    (refine cps fun ZP zk => ?_; obtain ⟨a, o, m, vs, rfl, h1, hc, hd, t⟩ := h.tupleI; refine zk ?_)
    have hl := isTuple_of I h1 hc hd
    refine wpAny_pyIter_tuple hl (SrcAt.push I rfl fun I' => ?_)
    exact Both.walks (Walks.tuple hA.handled s.heap.objs.size a (fr h1) vs.toArray) (fun i h hst => let ⟨o, ho, hc, _⟩ := hst.1; ⟨o, _, ho, hc, by decide⟩) (by simp [t.length])
      (fun b hb => by simp at hb; rcases hb with rfl | rfl; · simp
                      · exact .inr ⟨_, h1⟩) (fun i h hst b hb => by rw [List.mem_singleton.mp hb]; obtain ⟨o, ho, _⟩ := hst.1; exact ⟨o, ho⟩)
      (fun i v _ hv => by obtain ⟨x, q1, q2⟩ := t.get' (k := i) (v := v) (by simpa using hv); exact ⟨x, q1, q2⟩) I' ⟨⟨_, Heap.get?_push_size _ rfl, rfl, rfl⟩, ⟨_, Heap.get?_push_of_some _ (I.sub _ _ h1), hc, _, hd⟩⟩ wr
  | @range x y hx hx' hy hy' =>
    (refine cps fun ZP zk => ?_; obtain ⟨a, t, u, v', rfl, h1⟩ := h.rangeI; refine zk ?_)
    have hs := small_one hx hx' hy hy'
    refine wpAny_pyIter_range (I.sub _ _ h1) hs (SrcAt.push I rfl fun I' => ?_)
    refine Both.walks (Walks.range hA.handled s.heap.objs.size x 1 (y - x).toNat) (fun i h hst => ⟨_, _, hst, rfl, by decide⟩) (by simp [ri])
      (fun b hb => .inl hb) (fun i h hst b hb => by rw [List.mem_singleton.mp hb]; exact ⟨_, hst⟩)
      (fun i v hin hv => by obtain ⟨tk, rfl⟩ := hv; exact ⟨.int (x + i * 1), by simp [ri, hin], .int ..⟩) I' ?_ wr
    rw [rangeSize_nat]
    show IsRangeIter _ _ _ _ _
    have e : x + ((0 : Nat) : Int) * 1 = x := by simp
    have e2 : (((y - x).toNat : Int) - ((0 : Nat) : Int)) = ((y - x).toNat : Int) := by simp
    rw [e, e2]
    exact Heap.get?_push_size _ rfl
  | dict ks ds =>
    (refine cps fun ZP zk => ?_; obtain ⟨a, es, ep, kvs, rfl, h1, h2, h3, h4, h5, t, h6⟩ := h.dictI; refine zk ?_)
    subst h4
    have hm : s.heap.DictAt G.knd a kvs ep := ⟨_, es, I.sub _ _ h1, ⟨rfl, rfl, rfl⟩, rfl, h2, h3, h5⟩
    refine wpAny_pyIter_dict h6 hm (SrcAt.push I rfl fun I' => ?_)
    exact Both.walks (Walks.dictKeys hA.handled s.heap.objs.size a (fr h1) kvs ep) (fun i h hst => let ⟨o, ho, hc, _⟩ := hst.1; ⟨o, _, ho, hc, by decide⟩) (by simp)
      (fun b hb => by simp at hb; rcases hb with rfl | rfl; · simp
                      · exact .inr ⟨_, h1⟩) (fun i h hst b hb => by rw [List.mem_singleton.mp hb]; obtain ⟨o, ho, _⟩ := hst.1; exact ⟨o, ho⟩)
      (fun i v _ hv => by obtain ⟨k, x, q1, q2⟩ := hv; exact ⟨k.d, by simp [q1], .of_ky q2⟩) I' ⟨⟨_, Heap.get?_push_size _ rfl, rfl, rfl⟩, ⟨_, es, Heap.get?_push_of_some _ (I.sub _ _ h1), ⟨rfl, rfl, rfl⟩, rfl, h2, h3, h5⟩⟩ wr
  | values ks ds =>
    obtain ⟨v, a, rfl, h0, hd⟩ := h.valuesI
    (refine cps fun ZP zk => ?_; obtain ⟨_, es, ep, kvs, q0, h1, h2, h3, h4, h5, t, h6⟩ := hd.dictI; refine zk ?_)
    obtain rfl := PySem.Value.ref.inj q0
    have h5' : (kvs.map (·.1)).Nodup := h4 ▸ h5
    have hm : s.heap.DictAt G.knd a kvs ep := ⟨_, es, I.sub _ _ h1, ⟨rfl, rfl, rfl⟩, rfl, h2, h3, h5'⟩
    refine wpAny_pyIter_values ⟨_, I.sub _ _ h0, rfl, rfl⟩ hm (SrcAt.push I rfl fun I' => ?_)
    exact Both.walks (Walks.dictValues hA.handled s.heap.objs.size a (fr h1) kvs ep) (fun i h hst => let ⟨o, ho, hc, _⟩ := hst.1; ⟨o, _, ho, hc, by decide⟩) (by have := t.length; simpa using this.symm)
      (fun b hb => by simp at hb; rcases hb with rfl | rfl; · simp
                      · exact .inr ⟨_, h1⟩) (fun i h hst b hb => by rw [List.mem_singleton.mp hb]; obtain ⟨o, ho, _⟩ := hst.1; exact ⟨o, ho⟩)
      (fun i v _ hv => by obtain ⟨k, q1⟩ := hv; obtain ⟨x, q2, q3⟩ := t.get' (k := i) (v := v) (by simp [q1]); exact ⟨x, q2, q3⟩) I' ⟨⟨_, Heap.get?_push_size _ rfl, rfl, rfl⟩, ⟨_, es, Heap.get?_push_of_some _ (I.sub _ _ h1), ⟨rfl, rfl, rfl⟩, rfl, h2, h3, h5'⟩⟩ wr
  | str x =>
    obtain ⟨t, rfl⟩ := h.strI
    · 
      have hP : ∀ i v, i < x.cps.size → SignAt x i v → ∃ d, (chars x)[i]? = some d ∧ Is G S v d := fun i v hi hv => by
        obtain ⟨c, u, q1, rfl⟩ := hv
        refine ⟨.str ⟨#[c]⟩, ?_, .str ..⟩
        simp [chars, q1]
      cases ha : x.cps.all (· < 128)
      · refine wpAny_pyIter_wide ha (SrcAt.push I rfl fun I' => ?_)
        exact Both.walks (Walks.strWide hA.handled s.heap.objs.size x t) (fun i h hst => let ⟨o, ho, hc, _⟩ := hst; ⟨o, _, ho, hc, by decide⟩) (by simp [chars])
          (fun b hb => .inl hb) (fun i h hst b hb => by rw [List.mem_singleton.mp hb]; obtain ⟨o, ho, _⟩ := hst; exact ⟨o, ho⟩) hP I' ⟨_, Heap.get?_push_size _ rfl, rfl, rfl⟩ wr
      · refine wpAny_pyIter_ascii ha (SrcAt.push I rfl fun I' => ?_)
        exact Both.walks (Walks.strAscii hA.handled s.heap.objs.size x t) (fun i h hst => let ⟨o, ho, hc, _⟩ := hst; ⟨o, _, ho, hc, by decide⟩) (by simp [chars])
          (fun b hb => .inl hb) (fun i h hst b hb => by rw [List.mem_singleton.mp hb]; obtain ⟨o, ho, _⟩ := hst; exact ⟨o, ho⟩) hP I' ⟨_, Heap.get?_push_size _ rfl, rfl, rfl⟩ wr
theorem SrcAt.pre {xs : List D} {S' : Fz} {s' : Shared} {it : Value} {s₂ : Shared} (st : Stp G S s S' s') (h : SrcAt G A tgt xs S' s' it s₂) : SrcAt G A tgt xs S s it s₂ := by
  obtain ⟨S₂, ft, st₂, h1, h2, h3, h4⟩ := h
  refine ⟨S₂, ft, st.trans st₂, fun a ha => ?_, fun g hg => ?_, h3, h4⟩
  · cases q : s.heap.get? a with
    | none => rfl
    | some o =>
      have nt := st.inv.noTabFresh (h1 a ha)
      have := st.keep a o nt q
      rw [h1 a ha] at this
      exact nomatch this
  · have := h2 g hg
    rcases Nat.lt_or_ge g s.gens.size with q | q
    · have := st.gens g (s.gens[g]'q) (by simp [q])
      have := (Array.getElem?_eq_some_iff.mp this).1
      lia
    · exact q
theorem Src.of {act : Act sc mc} {ρ : LEnv} {e : Expr} {d : D} {xs : List D} (hA : Room n A) (he : Ev G A act ρ e d) (hi : Iter d xs) : Src G A act ρ tgt e xs := fun kp adr S s O =>
  wp_seq (he kp adr S s O) fun S₁ v s₁ st i => wpAny_mono (hi.src hA st.inv i) (fun it s₂ h => SrcAt.pre st h) fun _ _ e => e
end
end Mine
end

section
namespace Mine
variable {sc : Scope} {mc : List Str}
open PySem PySem.Calls PyProof.Rows
noncomputable def relS (scope sc : Scope) : Scope := { scope with names := scope.names.map fun (n, k) => if (k == .free && sc.kind == .function && sc.names.lookup n == some .cell) then (n, .cell) else (n, k) }
noncomputable def cellNames : List (Str × NameKind) → List Str
  | [] => []
  | (n, k) :: r => if k == .cell then n :: cellNames r else cellNames r
noncomputable def closeList (cells : List (Str × Addr)) : List (Str × NameKind) → List (Str × Addr) → List (Str × Addr)
  | [], acc => acc
  | (n, k) :: r, acc => if k == .free then closeList cells r ((n, (cells.lookup n).getD 0) :: acc) else closeList cells r acc
theorem closureFor_eq (scope : Scope) (env : Env) (h : ∀ x ∈ scope.names, x.2 = .free → ∃ c, env.cells.lookup x.1 = some c) : closureFor scope env = pure (closeList env.cells scope.names []) := by
  have key : ∀ (l : List (Str × NameKind)) (acc : List (Str × Addr)), (∀ x ∈ l, x.2 = .free → ∃ c, env.cells.lookup x.1 = some c) →
      forIn l acc (fun (x : Str × NameKind) (r : List (Str × Addr)) => (if (x.2 == NameKind.free) = true then do
        let a ← cellOf env x.1
        pure (ForInStep.yield ((x.1, a) :: r)) else pure (ForInStep.yield r) : Sem (ForInStep (List (Str × Addr))))) = (pure (closeList env.cells l acc) : Sem _) := by
    intro l
    induction l with
    | nil => intro acc _; rfl
    | cons x l ih =>
      intro acc hx
      obtain ⟨n, k⟩ := x
      rw [List.forIn_cons]
      by_cases hk : (k == NameKind.free) = true
      · obtain ⟨c, hc⟩ := hx (n, k) (.head _) (by simpa using hk)
        have hc : env.cells.lookup n = some c := hc
        simp only [hk, if_true, closeList]
        have e : cellOf env n = pure c := by unfold cellOf; rw [hc]
        rw [e, hc]
        show (forIn l ((n, c) :: acc) _ : Sem _) = _
        exact ih _ fun y hy => hx y (.tail _ hy)
      · simp only [hk, Bool.false_eq_true, if_false, closeList]
        show (forIn l acc _ : Sem _) = _
        exact ih _ fun y hy => hx y (.tail _ hy)
  have := key scope.names [] h
  show (forIn scope.names [] _ >>= fun cs => pure cs) = _
  rw [show (forIn scope.names ([] : List (Str × Addr)) (fun (x : Str × NameKind) (r : List (Str × Addr)) => (match x with
      | (name, kind) => if (kind == NameKind.free) = true then do
        let a ← cellOf env name
        pure (ForInStep.yield ((name, a) :: r)) else pure (ForInStep.yield r) : Sem (ForInStep (List (Str × Addr))))) : Sem _) = pure (closeList env.cells scope.names []) from this]
  rfl
set_option tactic.hygienic true in
theorem closeList_mem {cells : List (Str × Addr)} : ∀ {l : List (Str × NameKind)} {acc : List (Str × Addr)} {p : Str × Addr}, p ∈ closeList cells l acc → p ∈ acc ∨ ((p.1, NameKind.free) ∈ l ∧ p.2 = (cells.lookup p.1).getD 0)
  | [], acc, p, h => .inl h
  | (n, k) :: r, acc, p, h => by
    rw [closeList] at h
    split at h
    · rename_i hk
      have hk : k = .free := by simpa using hk
      subst hk
      rcases closeList_mem h with q | ⟨q, e⟩
      · rcases List.mem_cons.mp q with rfl | q
        · exact .inr ⟨.head _, rfl⟩
        · exact .inl q
      · exact .inr ⟨.tail _ q, e⟩
    · rcases closeList_mem h with q | ⟨q, e⟩
      · exact .inl q
      · exact .inr ⟨.tail _ q, e⟩
set_option tactic.hygienic true in
theorem closeList_has {cells : List (Str × Addr)} : ∀ {l : List (Str × NameKind)} {acc : List (Str × Addr)} {x : Str}, ((x, NameKind.free) ∈ l ∨ x ∈ acc.map (·.1)) → x ∈ (closeList cells l acc).map (·.1)
  | [], acc, x, h => h.elim (fun h => nomatch h) id
  | (n, k) :: r, acc, x, h => by
    rw [closeList]
    split
    · refine closeList_has ?_
      rcases h with h | h
      · rcases List.mem_cons.mp h with e | h
        · obtain ⟨rfl, rfl⟩ := Prod.mk.inj e; exact .inr (.head _)
        · exact .inl h
      · exact .inr (.tail _ h)
    · rename_i hk
      refine closeList_has ?_
      rcases h with h | h
      · rcases List.mem_cons.mp h with e | h
        · obtain ⟨rfl, rfl⟩ := Prod.mk.inj e; simp at hk
        · exact .inl h
      · exact .inr h
theorem cellsFrom_mem : ∀ {l : List (Str × NameKind)} {n : Nat} {acc : List (Str × Addr)} {p : Str × Addr}, p ∈ cellsFrom n l acc → p ∈ acc ∨ (p.1 ∈ cellNames l ∧ n ≤ p.2)
  | [], n, acc, p, h => .inl h
  | (x, k) :: r, n, acc, p, h => by
    rw [cellsFrom] at h
    by_cases hk : (k == NameKind.cell) = true
    · rw [if_pos hk] at h
      simp only [cellNames, hk, if_true]
      rcases cellsFrom_mem h with q | ⟨q, e⟩
      · rcases List.mem_cons.mp q with rfl | q
        · exact .inr ⟨.head _, Nat.le_refl _⟩
        · exact .inl q
      · exact .inr ⟨.tail _ q, by lia⟩
    · rw [if_neg hk] at h
      simp only [cellNames, hk]
      exact cellsFrom_mem h
theorem cellsFrom_has : ∀ {l : List (Str × NameKind)} {n : Nat} {acc : List (Str × Addr)} {x : Str}, (x ∈ cellNames l ∨ x ∈ acc.map (·.1)) → x ∈ (cellsFrom n l acc).map (·.1)
  | [], n, acc, x, h => h.elim (fun h => nomatch h) id
  | (y, k) :: r, n, acc, x, h => by
    rw [cellsFrom]
    by_cases hk : (k == NameKind.cell) = true
    · rw [if_pos hk]
      simp only [cellNames, hk, if_true] at h
      refine cellsFrom_has ?_
      rcases h with h | h
      · rcases List.mem_cons.mp h with e | h
        · subst e; exact .inr (.head _)
        · exact .inl h
      · exact .inr (.tail _ h)
    · rw [if_neg hk]
      simp only [cellNames, hk] at h
      exact cellsFrom_has h
theorem cellsFrom_new : ∀ (l : List (Str × NameKind)) (h : Heap) (acc : List (Str × Addr)), (acc.Pairwise fun x y => x.2 ≠ y.2) → (∀ p ∈ acc, p.2 < h.objs.size) →
    ((cellsFrom h.objs.size l acc).Pairwise fun x y => x.2 ≠ y.2) ∧ (∀ p ∈ cellsFrom h.objs.size l acc, p ∈ acc ∨ (pushCells h l).IsCell p.2 none)
  | [], h, acc, hp, hl => ⟨hp, fun p hm => .inl hm⟩
  | (x, k) :: r, h, acc, hp, hl => by
    rw [cellsFrom, pushCells]
    by_cases hk : (k == NameKind.cell) = true
    · rw [if_pos hk, if_pos hk]
      have := cellsFrom_new r (h.push { cls := .type "cell", data := .cell none }) ((x, h.objs.size) :: acc) (List.pairwise_cons.mpr ⟨fun y hy e => by
        have h1 := hl y hy
        have e : h.objs.size = y.2 := e
        rw [e] at h1
        exact Nat.lt_irrefl _ h1, hp⟩) (fun p hm => by
          rw [Heap.size_push]
          rcases List.mem_cons.mp hm with rfl | hm
          · exact Nat.lt_succ_self _
          · exact Nat.lt_succ_of_lt (hl p hm))
      rw [Heap.size_push] at this
      refine ⟨this.1, fun p hm => ?_⟩
      rcases this.2 p hm with q | q
      · rcases List.mem_cons.mp q with rfl | q
        · exact .inr ⟨_, pushCells_keeps _ _ _ _ (Heap.get?_push_size _ rfl), rfl⟩
        · exact .inl q
      · exact .inr q
    · rw [if_neg hk, if_neg hk]
      exact cellsFrom_new r h acc hp hl
end Mine
end

section
namespace Mine
variable {sc : Scope} {mc : List Str}
open PySem PySem.Calls PyProof.Rows
noncomputable def LEnv.vals : LEnv → LEnv
  | [] => []
  | (x, .val d) :: r => (x, .val d) :: LEnv.vals r
  | (x, .own d) :: r => (LEnv.vals r).filter fun p => !(p.1 == x)
theorem lookup_filter {p : Str → Bool} {x : Str} {l : Loc} : ∀ {ρ : LEnv}, (ρ.filter fun q => p q.1).lookup x = some l → ρ.lookup x = some l ∧ p x = true
  | [], h => by simp at h
  | (y, l') :: r, h => by
    rw [List.filter_cons] at h
    by_cases hp : p y = true
    · simp only [hp, if_true] at h
      rw [List.lookup_cons] at h ⊢
      by_cases q : x = y
      · subst q; simp at h ⊢; exact ⟨h, hp⟩
      · rw [beq_eq_false_iff_ne.mpr q] at h ⊢; exact lookup_filter h
    · simp only [hp, Bool.false_eq_true, if_false] at h
      obtain ⟨h1, h2⟩ := lookup_filter h
      have : x ≠ y := fun q => by subst q; exact hp h2
      rw [List.lookup_cons, beq_eq_false_iff_ne.mpr this]
      exact ⟨h1, h2⟩
theorem lookup_vals {x : Str} {l : Loc} : ∀ {ρ : LEnv}, ρ.vals.lookup x = some l → ρ.lookup x = some l ∧ ∃ d, l = .val d
  | [], h => by simp [LEnv.vals] at h
  | (y, .val d) :: r, h => by
    rw [LEnv.vals, List.lookup_cons] at h
    rw [List.lookup_cons]
    by_cases q : x = y
    · subst q; simp at h ⊢; exact ⟨h, d, h.symm⟩
    · rw [beq_eq_false_iff_ne.mpr q] at h ⊢; exact lookup_vals h
  | (y, .own d) :: r, h => by
    rw [LEnv.vals] at h
    obtain ⟨h1, h2⟩ := lookup_filter (p := fun z => !(z == y)) h
    have q : x ≠ y := by simpa using h2
    rw [List.lookup_cons, beq_eq_false_iff_ne.mpr q]
    exact lookup_vals h1
noncomputable def LEnv.inner (scope : Scope) (ρ : LEnv) : LEnv := ρ.vals.filter fun p => scope.names.lookup p.1 == some .free
theorem lookup_inner {scope : Scope} {x : Str} {l : Loc} {ρ : LEnv} (h : (ρ.inner scope).lookup x = some l) : ρ.lookup x = some l ∧ scope.names.lookup x = some .free ∧ ∃ d, l = .val d := by
  obtain ⟨h1, h2⟩ := lookup_filter (p := fun z => scope.names.lookup z == some .free) h
  obtain ⟨h3, h4⟩ := lookup_vals h1
  exact ⟨h3, by simpa using h2, h4⟩
noncomputable def compFit (scope sc : Scope) : Bool := scope.kind == .function && decide ((scope.names.map (·.1)).Nodup) && scope.names.all fun x => x.2 != .free || sc.names.lookup x.1 == some .cell || sc.names.lookup x.1 == some .free
theorem lookup_of_mem {α : Type} : ∀ {l : List (Str × α)} {n : Str} {c : α}, (l.map (·.1)).Nodup → (n, c) ∈ l → l.lookup n = some c
  | (k, v) :: r, n, c, hn, h => by
    simp only [List.map_cons, List.nodup_cons] at hn
    rcases List.mem_cons.mp h with e | h
    · obtain ⟨rfl, rfl⟩ := Prod.mk.inj e; simp
    · have : n ≠ k := fun q => hn.1 (by rw [← q]; exact List.mem_map_of_mem h)
      rw [List.lookup_cons, beq_eq_false_iff_ne.mpr this]
      exact lookup_of_mem hn.2 h
theorem lookup_some_of_mem {α : Type} : ∀ {l : List (Str × α)} {n : Str}, n ∈ l.map (·.1) → ∃ c, l.lookup n = some c
  | (k, v) :: r, n, h => by
    by_cases q : n = k
    · subst q; exact ⟨v, by simp⟩
    · rw [List.lookup_cons, beq_eq_false_iff_ne.mpr q]
      simp only [List.map_cons, List.mem_cons] at h
      exact lookup_some_of_mem (h.resolve_left q)
theorem mem_cellNames {x : Str} : ∀ {l : List (Str × NameKind)}, x ∈ cellNames l ↔ (x, NameKind.cell) ∈ l
  | [] => by simp [cellNames]
  | (y, k) :: r => by
    by_cases hk : (k == NameKind.cell) = true
    · have : k = .cell := by simpa using hk
      subst this
      simp [cellNames, mem_cellNames]
    · simp only [cellNames, hk, Bool.false_eq_true, if_false, mem_cellNames, List.mem_cons, Prod.mk.injEq]
      constructor
      · exact .inr
      · rintro (⟨_, e⟩ | h)
        · subst e; simp at hk
        · exact h
theorem relS_lookup {scope sc : Scope} {x : Str} {k : NameKind} (h : scope.names.lookup x = some k) : ∃ k', (relS scope sc).names.lookup x = some k' ∧ (k = .free → k' = .cell ∨ k' = .free) ∧ (k ≠ .free → k' = k) := by
  unfold relS
  simp only
  generalize hl : scope.names = l at h
  clear hl
  induction l with
  | nil => simp at h
  | cons p r ih =>
    obtain ⟨y, ky⟩ := p
    rw [List.lookup_cons] at h
    rw [List.map_cons]
    by_cases q : x = y
    · subst q
      simp at h
      subst h
      by_cases hc : (ky == NameKind.free && sc.kind == ScopeKind.function && List.lookup x sc.names == some NameKind.cell) = true
      · have : ky = .free := by simp at hc; exact hc.1.1
        exact ⟨.cell, by simp [hc], fun _ => .inl rfl, fun h => absurd this h⟩
      · exact ⟨ky, by simp [hc], fun h => .inr h, fun _ => rfl⟩
    · rw [beq_eq_false_iff_ne.mpr q] at h
      obtain ⟨k', h1, h2⟩ := ih h
      refine ⟨k', ?_, h2⟩
      split <;> (rw [List.lookup_cons, beq_eq_false_iff_ne.mpr q]; exact h1)
theorem relS_lookup_inv {scope sc : Scope} {x : Str} {k' : NameKind} (h : (relS scope sc).names.lookup x = some k') : ∃ k, scope.names.lookup x = some k ∧ (k = .free → k' = .cell ∨ k' = .free) ∧ (k ≠ .free → k' = k) := by
  have : x ∈ scope.names.map (·.1) := by
    have h1 := List.mem_map_of_mem (f := (·.1)) (mem_of_lookup h)
    unfold relS at h1
    simp only [List.map_map] at h1
    have e : (scope.names.map ((·.1) ∘ fun (x : Str × NameKind) => if (x.2 == NameKind.free && sc.kind == ScopeKind.function && List.lookup x.1 sc.names == some NameKind.cell) = true then (x.1, NameKind.cell) else (x.1, x.2))) = scope.names.map (·.1) := by
      refine List.map_congr_left fun p _ => ?_
      simp only [Function.comp]
      split <;> rfl
    have h2 : x ∈ scope.names.map ((·.1) ∘ fun (x : Str × NameKind) => if (x.2 == NameKind.free && sc.kind == ScopeKind.function && List.lookup x.1 sc.names == some NameKind.cell) = true then (x.1, NameKind.cell) else (x.1, x.2)) := h1
    rw [e] at h2
    exact h2
  obtain ⟨k, hk⟩ := lookup_some_of_mem this
  obtain ⟨k'', h1, h2⟩ := relS_lookup (sc := sc) hk
  rw [h] at h1
  obtain rfl := Option.some.inj h1
  exact ⟨k, hk, h2⟩
set_option tactic.hygienic true in
theorem closeList_eq {cells : List (Str × Addr)} : ∀ {l : List (Str × NameKind)} {acc : List (Str × Addr)}, closeList cells l acc = ((l.filter fun x => x.2 == .free).map fun x => (x.1, (cells.lookup x.1).getD 0)).reverse ++ acc
  | [], acc => rfl
  | (n, k) :: r, acc => by
    rw [closeList, List.filter_cons]
    split
    · rename_i hk
      rw [closeList_eq]
      simp
    · exact closeList_eq
open Classical in
noncomputable def kpAll (G : Gl) (s : Shared) : Kept := ⟨fun b => if NoTab G b then s.heap.get? b else none, fun g => s.gens[g]?⟩
section
variable {G : Gl} {A : Around} {act : Act sc mc} {kp : Kept} {adr : Str → Addr} {ρ : LEnv} {S S₃ : Fz} {s s₃ : Shared} {scope : Scope}
noncomputable def compAct (act : Act sc mc) (scope : Scope) (C : Addr) : Act (relS scope sc) (cellNames scope.names) where
  env := { scope := relS scope sc, locals := C, globals := act.env.globals, cells := cellsFrom (C + 1) scope.names (closeList act.env.cells scope.names []), qual := act.env.qual, func := none, code := act.env.code, frame := act.env.frame, builtins := act.env.builtins }
  hsc := rfl
  mt := C :: ((cellsFrom (C + 1) scope.names (closeList act.env.cells scope.names [])).filter fun p => (cellNames scope.names).contains p.1).map (·.2)
theorem compFit.spec (h : compFit scope sc = true) : scope.kind = .function ∧ (scope.names.map (·.1)).Nodup ∧ ∀ x ∈ scope.names, x.2 = .free → sc.names.lookup x.1 = some .cell ∨ sc.names.lookup x.1 = some .free := by
  simp only [compFit, Bool.and_eq_true, decide_eq_true_eq, List.all_eq_true, Bool.or_eq_true, beq_iff_eq, bne_iff_ne, ne_eq] at h
  obtain ⟨⟨h1, h2⟩, h3⟩ := h
  refine ⟨h1, h2, fun x hx hf => ?_⟩
  rcases h3 x hx with (q | q) | q
  · exact absurd hf q
  · exact .inl q
  · exact .inr q
set_option tactic.hygienic true in
theorem OK.inner (O : OK G act kp adr ρ S s) (hfit : compFit scope sc = true) (st : Stp G S s S₃ s₃) :
    OK G (compAct act scope s₃.heap.objs.size) (kpAll G s) adr (ρ.inner scope) S₃ { s₃ with heap := pushCells (s₃.heap.push { cls := .type "dict", data := .dict #[] }) scope.names } := by
  obtain ⟨hk, hn, hf⟩ := compFit.spec hfit
  have O₃ := O.step st
  generalize hC : s₃.heap.objs.size = C
  have grow : ∀ b o, s₃.heap.get? b = some o → (pushCells (s₃.heap.push { cls := .type "dict", data := .dict #[] }) scope.names).get? b = some o := fun b o e => pushCells_keeps _ _ _ _ (Heap.get?_push_of_some _ e)
  have hcl : ∀ p ∈ closeList act.env.cells scope.names [], p ∈ act.env.cells ∧ (p.1, NameKind.free) ∈ scope.names := fun p hp => by
    rcases closeList_mem hp with q | ⟨q, e⟩
    · exact nomatch q
    · obtain ⟨c, hc⟩ := O.clo p.1 (hf _ q rfl)
      rw [hc] at e
      obtain ⟨x, y⟩ := p
      simp only [Option.getD_some] at e
      subst e
      exact ⟨cell_in hc, q⟩
  have hcl2 : (closeList act.env.cells scope.names []).Pairwise fun x y => x.2 ≠ y.2 := by
    rw [closeList_eq, List.append_nil, List.pairwise_reverse, List.pairwise_map]
    have nd : (scope.names.filter fun x => x.2 == .free).Pairwise fun x y => x.1 ≠ y.1 := (List.pairwise_map.mp hn).filter _
    refine nd.imp_of_mem fun {x y} hx hy hne e => ?_
    obtain ⟨hx1, hx2⟩ := List.mem_filter.mp hx
    obtain ⟨hy1, hy2⟩ := List.mem_filter.mp hy
    obtain ⟨c, hc⟩ := O.clo x.1 (hf _ hx1 (by simpa using hx2))
    obtain ⟨c', hc'⟩ := O.clo y.1 (hf _ hy1 (by simpa using hy2))
    rw [hc, hc'] at e
    simp only [Option.getD_some] at e
    subst e
    exact hne (name_of_addr O.apart (cell_in hc) (cell_in hc'))
  have szC : (s₃.heap.push { cls := .type "dict", data := .dict #[] }).objs.size = C + 1 := by rw [Heap.size_push, hC]
  have hlt : ∀ p ∈ closeList act.env.cells scope.names [], p.2 < (s₃.heap.push { cls := .type "dict", data := .dict #[] }).objs.size := fun p hp => by
    obtain ⟨_, v, o, ho, _⟩ := O₃.cells p (hcl p hp).1
    rw [Heap.size_push]
    exact Nat.lt_succ_of_lt (Heap.lt_size ho)
  obtain ⟨new1, new2⟩ := cellsFrom_new scope.names (s₃.heap.push { cls := .type "dict", data := .dict #[] }) (closeList act.env.cells scope.names []) hcl2 hlt
  rw [szC] at new1 new2
  have ownCell : ∀ p ∈ cellsFrom (C + 1) scope.names (closeList act.env.cells scope.names []), p.1 ∈ cellNames scope.names → C + 1 ≤ p.2 := fun p hp hx => by
    rcases cellsFrom_mem hp with q | ⟨_, q⟩
    · have h1 := (hcl p q).2
      have h2 := mem_cellNames.mp hx
      have e1 := lookup_of_mem hn h1
      have e2 := lookup_of_mem hn h2
      rw [e1] at e2
      cases e2
    · exact q
  have st₄ := st.inv.keeps (h' := pushCells (s₃.heap.push { cls := .type "dict", data := .dict #[] }) scope.names) (t := s₃.toks) grow
  have fresh : ∀ b, C ≤ b → s₃.heap.get? b = none := fun b hb => by
    cases q : s₃.heap.get? b with
    | none => rfl
    | some o => exact absurd (Heap.lt_size q) (by rw [hC]; exact Nat.not_lt.mpr hb)
  have freshS : ∀ b, C ≤ b → S₃ b = none := fun b hb => by
    cases q : S₃ b with
    | none => rfl
    | some o => have := st.inv.sub _ _ q; rw [fresh b hb] at this; exact nomatch this
  have freshK : ∀ b, C ≤ b → (kpAll G s).objs b = none := fun b hb => by
    unfold kpAll
    simp only
    split
    · rename_i nt
      cases q : s.heap.get? b with
      | none => rfl
      | some o => have := st.keep b o nt q; rw [fresh b hb] at this; exact nomatch this
    · rfl
  have nsC : (pushCells (s₃.heap.push { cls := .type "dict", data := .dict #[] }) scope.names).Ns C fun _ => none := by
    rw [← hC]; exact (Heap.Ns.new s₃.heap (.type "dict")).keeps (pushCells_keeps _ _)
  exact {
    inv := st₄.inv
    kept := fun a o e => by
      unfold kpAll at e
      simp only at e
      split at e
      · rename_i nt; exact grow _ _ (st.keep a o nt e)
      · exact nomatch e
    knt := fun a o e => by
      unfold kpAll at e
      simp only at e
      split at e
      · assumption
      · exact nomatch e
    kgens := fun g x e => st.gens g x e
    fn := hk
    glob := O.glob
    blt := O.blt
    ns := ⟨_, nsC⟩
    mtL := .head _
    mt := fun b hb => by
      have hCb : C ≤ b ∧ ∃ o, (pushCells (s₃.heap.push { cls := .type "dict", data := .dict #[] }) scope.names).get? b = some o := by
        rcases List.mem_cons.mp hb with rfl | hb
        · obtain ⟨o, _, _, ho, _⟩ := nsC; exact ⟨Nat.le_refl _, o, ho⟩
        · obtain ⟨p, hp, rfl⟩ := List.mem_map.mp hb
          obtain ⟨hp1, hp2⟩ := List.mem_filter.mp hp
          have hx : p.1 ∈ cellNames scope.names := by simpa using hp2
          have hge := ownCell p hp1 hx
          refine ⟨by lia, ?_⟩
          rcases new2 p hp1 with q | ⟨o, ho, _⟩
          · have := hlt p q
            rw [szC] at this
            exact absurd this (Nat.not_lt.mpr hge)
          · exact ⟨o, ho⟩
      exact ⟨freshS b hCb.1, freshK b hCb.1, st.inv.noTabFresh (fresh b hCb.1), hCb.2⟩
    mtc := fun x hx => by
      obtain ⟨c, hc⟩ := lookup_some_of_mem (cellsFrom_has (n := C + 1) (acc := closeList act.env.cells scope.names []) (.inl hx))
      refine ⟨c, hc, .tail _ (List.mem_map.mpr ⟨(x, c), List.mem_filter.mpr ⟨mem_of_lookup hc, by simpa using hx⟩, rfl⟩)⟩
    apart := new1
    clo := fun x hx => by
      have : x ∈ cellNames scope.names ∨ x ∈ (closeList act.env.cells scope.names []).map (·.1) := by
        have hx' : ∃ k', (relS scope sc).names.lookup x = some k' ∧ (k' = .cell ∨ k' = .free) := hx.elim (fun h => ⟨_, h, .inl rfl⟩) fun h => ⟨_, h, .inr rfl⟩
        obtain ⟨k', h1, h2⟩ := hx'
        obtain ⟨k, h3, h4, h5⟩ := relS_lookup_inv h1
        by_cases q : k = .free
        · subst q; exact .inr (closeList_has (.inl (mem_of_lookup h3)))
        · have := h5 q
          subst this
          rcases h2 with rfl | rfl
          · exact .inl (mem_cellNames.mpr (mem_of_lookup h3))
          · exact absurd rfl q
      exact lookup_some_of_mem (cellsFrom_has this)
    cells := fun p hp => by
      rcases new2 p hp with q | ⟨o, ho, hd⟩
      · obtain ⟨nt, v, o, ho, hd⟩ := O₃.cells p (hcl p q).1
        exact ⟨nt, v, o, grow _ _ ho, hd⟩
      · rcases cellsFrom_mem hp with q | ⟨_, q⟩
        · obtain ⟨nt, v, o, ho, hd⟩ := O₃.cells p (hcl p q).1
          exact ⟨nt, v, o, grow _ _ ho, hd⟩
        · exact ⟨st.inv.noTabFresh (fresh p.2 (by lia)), .none, o, ho, hd⟩
    vars := fun x l e => by
      obtain ⟨h1, h2, d, rfl⟩ := lookup_inner e
      obtain ⟨v, r, i⟩ := O₃.vars x _ h1
      refine ⟨v, ?_, i⟩
      have hkd := hf _ (mem_of_lookup h2) rfl
      obtain ⟨k', h3, h4, _⟩ := relS_lookup (sc := sc) h2
      have kk : (compAct act scope C).env.kindOf x = some .cell ∨ (compAct act scope C).env.kindOf x = some .free := by
        rw [Act.kindOf, h3]
        rcases h4 rfl with rfl | rfl
        · exact .inl rfl
        · exact .inr rfl
      rcases r with ⟨k, _⟩ | ⟨_, c, hc, hv⟩
      · rw [act.kindOf] at k
        have k : sc.names.lookup x = some .local := k
        rcases hkd with q | q <;> (have q : sc.names.lookup x = _ := q; rw [k] at q; cases q)
      · refine .inr ⟨kk, c, ?_, let ⟨o, ho, hd⟩ := hv; ⟨o, grow _ _ ho, hd⟩⟩
        have hmem : x ∈ (closeList act.env.cells scope.names []).map (·.1) := closeList_has (.inl (mem_of_lookup h2))
        obtain ⟨c', hc'⟩ := lookup_some_of_mem (cellsFrom_has (n := C + 1) (l := scope.names) (.inr hmem))
        have hm := mem_of_lookup hc'
        rcases cellsFrom_mem hm with q | ⟨q, _⟩
        · have := (hcl _ q).1
          rcases closeList_mem q with q' | ⟨_, e'⟩
          · exact nomatch q'
          · simp only at e'
            rw [hc] at e'
            simp only [Option.getD_some] at e'
            rw [e'] at hc'
            exact hc'
        · have h2' := mem_cellNames.mp q
          have e1 := lookup_of_mem hn h2'
          rw [h2] at e1
          cases e1
    inj := fun x y dx dy ex ey => by
      obtain ⟨_, _, d, q⟩ := lookup_inner ex
      exact nomatch q }
end
end Mine
end

section
namespace Mine
variable {sc : Scope} {mc : List Str}
open PySem PySem.Calls PyProof.Rows
structure AccO (G : Gl) (act : Act sc mc) (kp : Kept) (S : Fz) (s : Shared) (Dd : Addr) (d : D) : Prop where
  obj : ∃ o, s.heap.get? Dd = some o ∧ Own G S o d
  S : S Dd = none
  ko : kp.objs Dd = none
  mt : Dd ∉ act.mt
  cells : ∀ p ∈ act.env.cells, p.2 ≠ Dd
noncomputable def App (G : Gl) (A : Around) (act : Act sc mc) (ρ : LEnv) (tail : Value → Sem Unit) (d d' : D) : Prop := ∀ kp adr S s Dd, OK G act kp adr ρ S s → AccO G act kp S s Dd d →
  (∀ x d, ρ.lookup x = some (.own d) → False) →
  wpAny G.M A (tail (.ref Dd)) (fun _ s' => ∃ S', Gro kp S S' ∧ OK G act kp adr ρ S' s' ∧ AccO G act kp S' s' Dd d') No s
noncomputable def testsTree (ifs : List Expr) (env : Env) : Sem Bool := forIn ifs true fun c r => if r = true then do let ok ← isTrue c env (eval c env); pure (ForInStep.yield ok) else pure (ForInStep.yield r)
noncomputable def turnTree (p : Pos) (tgt : Expr) (ifs : List Expr) (it : Value) (env : Env) (tail : Sem Unit) (c : Code) : Sem Fin := standAt p >>= fun _ => pyNext it >>= fun r => match r with
  | none => pure (.done .next)
  | some v => letOwnedTupleGo tgt it v >>= fun _ => assign tgt env v >>= fun _ => testsTree ifs env >>= fun ok => if ok = true then (tail >>= fun _ => again c) else again c
noncomputable def Tests (G : Gl) (A : Around) (act : Act sc mc) (ρ : LEnv) : List Expr → Bool → Prop
  | [], b => b = true
  | c :: cs, b => ∃ b1 b2, Te G A act ρ c b1 ∧ (b1 = true → Tests G A act ρ cs b2) ∧ b = (b1 && b2)
section
variable {G : Gl} {A : Around} {act : Act sc mc} {kp : Kept} {adr : Str → Addr} {ρ ρ₁ : LEnv} {S S' : Fz} {s s' : Shared} {d d' : D} {Dd : Addr} {tgt : Expr} {ifs : List Expr} {b : Bool}
theorem testsFalse (env : Env) : ∀ ifs : List Expr, (forIn ifs false (fun c r => if r = true then do let ok ← isTrue c env (eval c env); pure (ForInStep.yield ok) else pure (ForInStep.yield r)) : Sem Bool) = pure false
  | [] => rfl
  | c :: cs => by
    rw [List.forIn_cons]
    show (forIn cs false _ : Sem Bool) = _
    exact testsFalse env cs
theorem Tests.wp : ∀ {ifs : List Expr} {b : Bool} {S : Fz} {s : Shared}, Tests G A act ρ ifs b → OK G act kp adr ρ S s → wpAny G.M A (testsTree ifs act.env) (Post G S s fun _ r => r = b) No s
  | [], b, S, s, h, O => wpAny_pure ⟨S, .refl O.inv, (show b = true from h).symm⟩
  | c :: cs, b, S, s, ⟨b1, b2, h1, h2, e⟩, O => by
    unfold testsTree
    rw [List.forIn_cons]
    show wpAny G.M A ((do let ok ← isTrue c act.env (eval c act.env); pure (ForInStep.yield ok)) >>= _) _ _ _
    refine wpAny_bind (wpAny_bind (wpAny_mono (h1 kp adr S s O) (fun r s₁ ⟨S₁, st, er⟩ => wpAny_pure ?_) fun _ _ e => e))
    subst er
    cases r with
    | true =>
      refine wpAny_mono (Tests.wp (h2 rfl) (O.step st)) (fun r s₂ ⟨S₂, st₂, er⟩ => ⟨S₂, st.trans st₂, ?_⟩) fun _ _ e => e
      rw [er, e]; rfl
    | false =>
      show wpAny G.M A (forIn cs false _) _ _ _
      rw [testsFalse]
      exact wpAny_pure ⟨S₁, st, by rw [e]; rfl⟩
theorem AccO.nx {ft ft' : Foot} (a : AccO G act kp S s Dd d) (I : Inv G S s) (n : Nx G ft S s S' s' ft') (hf : Dd ∉ ft.adr) : AccO G act kp S' s' Dd d := by
  obtain ⟨o, ho, w⟩ := a.obj
  have hS : S' Dd = none := by
    cases q : S' Dd with
    | none => rfl
    | some o' =>
      rcases n.new _ o' q with e | e
      · rw [a.S] at e; exact nomatch e
      · rw [ho] at e; exact nomatch e
  exact ⟨⟨o, n.keep _ _ hf (I.noTab ho w.cls) ho, w.mono n.sub⟩, hS, a.ko, a.mt, a.cells⟩
theorem AccO.step (a : AccO G act kp S s Dd d) (I : Inv G S s) (st : Stp G S s S' s') : AccO G act kp S' s' Dd d := by
  obtain ⟨o, ho, w⟩ := a.obj
  have hS : S' Dd = none := by
    cases q : S' Dd with
    | none => rfl
    | some o' =>
      rcases st.new _ o' q with e | e
      · rw [a.S] at e; exact nomatch e
      · rw [ho] at e; exact nomatch e
  exact ⟨⟨o, st.keep _ _ (I.noTab ho w.cls) ho, w.mono st.sub⟩, hS, a.ko, a.mt, a.cells⟩
theorem comp_loop {c : Code} {it : Value} {p : Pos} {tail : Value → Sem Unit} (hq : c.quiet = true)
    (hden : ∀ (Q : PySem.Fin → Shared → Prop) (E : Value → Shared → Prop) (s : Shared), wpAny G.M A (turnTree p tgt ifs it act.env (tail (.ref Dd)) c) Q No s → wpAny G.M (A.under c) (G.M.den c) Q E s)
    (hown : ∀ x d, ρ.lookup x = some (.own d) → False)
    (J : List D → D → Prop)
    (turn : ∀ x xs d, J (x :: xs) d → ∃ ρ₁ b d', Takes G A act tgt x ρ ρ₁ ∧ (∀ y l, ρ.lookup y = some l → ρ₁.lookup y = some l) ∧ Tests G A act ρ₁ ifs b ∧ (b = true → App G A act ρ₁ tail d d') ∧ (b = false → d' = d) ∧ J xs d')
    {R : Result → Shared → Prop} (hR : ∀ S' s' d', J [] d' → Gro kp S S' → OK G act kp adr ρ S' s' → AccO G act kp S' s' Dd d' → R (.ok .next) s')
    {xs : List D} {ft : Foot} (h0 : J xs d) (O : OK G act kp adr ρ S s) (acc : AccO G act kp S s Dd d) (ap : Aside act kp adr ρ ft) (hf : Dd ∉ ft.adr) (hy : Yields G A tgt it xs ft S s) :
    codeAny G.M A c R s := by
  refine codeAny_loop hq (fun n s' => ∃ xs d S' ft, n = xs.length + 1 ∧ Gro kp S S' ∧ OK G act kp adr ρ S' s' ∧ AccO G act kp S' s' Dd d ∧ Aside act kp adr ρ ft ∧ Dd ∉ ft.adr ∧ Yields G A tgt it xs ft S' s' ∧ J xs d) ?_ (xs.length + 1)
    ⟨xs, d, S, ft, rfl, .refl .., O, acc, ap, hf, hy, h0⟩
  rintro n s' ⟨xs, d, S', ft, rfl, g, O', acc, ap, hf, hy, hJ⟩
  refine hden _ _ _ ?_
  have gd := hy.good
  unfold turnTree
  refine wpAny_bind (wpAny_standAt (wpAny_bind ?_))
  cases xs with
  | nil =>
    refine wpAny_mono (hy.2 S' s' (.refl O'.inv gd)) (fun r s₃ h => ?_) fun _ _ e => e.elim
    cases r with
    | none =>
      (refine cps fun ZP zk => ?_; obtain ⟨_, S₃, ft₃, nx⟩ := h; refine zk ?_)
      exact wpAny_pure (hR _ _ _ hJ (g.trans (O'.nxGro nx)) (O'.nx ap nx) (acc.nx O'.inv nx hf))
    | some v => exact wpAny_bind (wpAny_mono h (fun _ s₄ h => nomatch h.1) fun _ _ e => e)
  | cons x xs =>
    refine wpAny_mono (hy.2 S' s' (.refl O'.inv gd)) (fun r s₃ h => ?_) fun _ _ e => e.elim
    cases r with
    | none => (refine cps fun ZP zk => ?_; obtain ⟨_, _, _, h, _⟩ := h; refine zk ?_); exact nomatch h
    | some v =>
      refine wpAny_bind (wpAny_mono h (fun _ s₄ h => ?_) fun _ _ e => e.elim)
      (refine cps fun ZP zk => ?_; obtain ⟨v', S₄, ft₄, hv, nx, i, hy₄⟩ := h; refine zk ?_)
      obtain rfl := Option.some.inj hv
      have O₄ := O'.nx ap nx
      have ap₄ := ap.nx O' nx
      have acc₄ := acc.nx O'.inv nx hf
      have hf₄ : Dd ∉ ft₄.adr := fun h => by
        rcases nx.adr _ h with q | q
        · exact hf q
        · obtain ⟨o, ho, _⟩ := acc.obj; rw [ho] at q; exact nomatch q
      (refine cps fun ZP zk => ?_; obtain ⟨ρ₁, b, d', tk, hρ, ht, ha, hb, hJ'⟩ := turn x xs d hJ; refine zk ?_)
      have gd₄ := hy₄.good
      have live : ∀ a ∈ ft₄.adr, ∃ o, s₄.heap.get? a = some o := fun a ha => (gd₄.adr a ha).2.2
      have W := O₄.with gd₄ ap₄
      -- the filled one kept too
      have gdD : Good G ⟨[Dd], []⟩ S₄ s₄ := ⟨fun a ha => by
        rw [List.mem_singleton.mp ha]
        obtain ⟨o, ho, w⟩ := acc₄.obj
        exact ⟨acc₄.S, O₄.inv.noTab ho w.cls, o, ho⟩, fun _ h => nomatch h⟩
      have apD : Aside act (kp.with ft₄ s₄) adr ρ ⟨[Dd], []⟩ := ⟨fun a ha => by rw [List.mem_singleton.mp ha]; exact acc₄.mt, fun a ha => by rw [List.mem_singleton.mp ha]; exact acc₄.cells,
        fun a _ x d hx => (hown x d hx).elim, fun a ha => by
          rw [List.mem_singleton.mp ha]
          unfold Kept.with; simp only
          rw [if_neg hf₄]; exact acc₄.ko, fun _ h => nomatch h⟩
      have W₂ := W.with gdD apD
      refine wpAny_bind (wpAny_mono (tk _ adr S₄ s₄ v W₂ i) (fun _ s₅ ⟨S₅, adr₅, g₅, O₅, own₅⟩ => ?_) fun _ _ e => e.elim)
      have hown₁ : ∀ x d, ρ₁.lookup x = some (.own d) → False := fun x d hx => by obtain ⟨d₀, h, _⟩ := own₅ x d hx; exact hown x d₀ h
      refine wpAny_bind (wpAny_mono (ht.wp O₅) (fun ok s₆ ⟨S₆, st₆, e₆⟩ => ?_) fun _ _ e => e.elim)
      subst e₆
      have O₆ := O₅.step st₆
      have g₆ := g₅.trans (O₅.gro st₆)
      have afD := O₆.afterTurn gdD g₆
      have O₆' := O₆.without apD.ko apD.kgn
      have g₆' : Gro (kp.with ft₄ s₄) S₄ S₆ := g₆.without (fun a ha => (gdD.adr a ha).2.2) apD.ko
      have acc₆ : AccO G act (kp.with ft₄ s₄) S₆ s₆ Dd d := by
        obtain ⟨o, ho, w⟩ := acc₄.obj
        exact ⟨⟨o, afD.same.adr Dd (.head _) o ho, w.mono g₆'.sub⟩, afD.off Dd (.head _), apD.ko Dd (.head _), acc₄.mt, acc₄.cells⟩
      have fin : ∀ S₇ s₇ d', Gro (kp.with ft₄ s₄) S₄ S₇ → OK G act (kp.with ft₄ s₄) adr₅ ρ₁ S₇ s₇ → AccO G act (kp.with ft₄ s₄) S₇ s₇ Dd d' → J xs d' →
          ∃ m, m < (x :: xs).length + 1 ∧ ∃ xs d S' ft, m = xs.length + 1 ∧ Gro kp S S' ∧ OK G act kp adr ρ S' s₇ ∧ AccO G act kp S' s₇ Dd d ∧ Aside act kp adr ρ ft ∧ Dd ∉ ft.adr ∧ Yields G A tgt it xs ft S' s₇ ∧ J xs d := by
        intro S₇ s₇ d' g₇ O₇ acc₇ hJ₇
        have af := O₇.afterTurn gd₄ g₇
        have O₈ := O₇.without ap₄.ko ap₄.kgn
        have O₉ : OK G act kp adr ρ S₇ s₇ := { O₈ with
          vars := fun y l e => by
            have q := O₈.vars y l (hρ y l e)
            cases l with
            | val d => exact q
            | own d => exact (hown _ _ e).elim
          inj := fun y z dy dz ey ez => (hown _ _ ey).elim }
        have acc₉ : AccO G act kp S₇ s₇ Dd d' := ⟨acc₇.obj, acc₇.S, acc.ko, acc₇.mt, acc₇.cells⟩
        exact ⟨xs.length + 1, by simp, xs, d', S₇, ft₄, rfl, (g.trans (O'.nxGro nx)).trans (g₇.without live ap₄.ko), O₉, acc₉, ap₄, hf₄, hy₄.later af, hJ₇⟩
      cases ok with
      | true =>
        simp only [if_true]
        refine wpAny_bind (wpAny_mono (ha rfl _ adr₅ S₆ s₆ Dd O₆' acc₆ hown₁) (fun _ s₇ ⟨S₇, g₇, O₇, acc₇⟩ => ?_) fun _ _ e => e.elim)
        exact wpAny_pure ⟨rfl, fin S₇ s₇ d' (g₆'.trans g₇) O₇ acc₇ hJ'⟩
      | false =>
        simp only [Bool.false_eq_true, if_false]
        have := hb rfl
        subst this
        exact wpAny_pure ⟨rfl, fin S₆ s₆ d' g₆' O₆' acc₆ hJ'⟩
end
end Mine
end

section
namespace Mine
variable {sc : Scope} {mc : List Str}
open PySem PySem.Calls PyProof.Rows
theorem newCompEnv {G : Gl} {A : Around} {E : Value → Shared → Prop} {s : Shared} {scope : Scope} {cl : List (Str × Addr)} {env : Env} {Q : Env → Shared → Prop}
    (h : Q { scope := scope, locals := s.heap.objs.size, globals := env.globals, cells := cellsFrom (s.heap.objs.size + 1) scope.names cl, qual := env.qual, func := none, code := env.code, frame := env.frame, builtins := env.builtins }
      { s with heap := pushCells (s.heap.push { cls := .type "dict", data := .dict #[] }) scope.names }) :
    wpAny G.M A (newFunctionEnv scope env.globals cl [] env.qual none .none (some env)) Q E s := by
  simp only [newFunctionEnv, Option.isSome_some, if_true]
  refine wpAny_bind (wpAny_alloc ?_)
  refine wpAny_bind (wpAny_layCells _ (fun name kind cells => by cases hkc : kind == NameKind.cell <;> simp [hkc]) _ _ _ _ ?_)
  rw [show ({ s with heap := s.heap.push { cls := .type "dict", data := .dict #[] } } : Shared).heap.objs.size = s.heap.objs.size + 1 from Heap.size_push ..]
  exact wpAny_bind (wpAny_pure (wpAny_pure h))
theorem relabel_eq (act : Act sc mc) (scope : Scope) : relabel scope act.env = relS scope sc := by
  unfold relabel relS
  simp only [Act.kindOf, act.hsc]
section
variable {G : Gl} {A : Around} {act : Act sc mc} {kp : Kept} {adr : Str → Addr} {ρ : LEnv} {S S' : Fz} {s s' : Shared} {d : D} {tgt iter e : Expr} {ifs : List Expr} {scope : Scope} {C Dd : Addr}
theorem inner_out (O : OK G act kp adr ρ S s) {ρ' : LEnv} {sc' : Scope} {mc' : List Str} {act' : Act sc' mc'} {S₄ : Fz} (st : Sub S S₄) (new : ∀ a o, S₄ a = some o → S a = some o ∨ s.heap.get? a = none) (g : Gro (kpAll G s) S₄ S') (O' : OK G act' (kpAll G s) adr ρ' S' s')
    (acc : AccO G act' (kpAll G s) S' s' Dd d) : Stp G S s S' s' ∧ s.heap.get? Dd = none ∧ ∃ o, s'.heap.get? Dd = some o ∧ Own G S' o d ∧ S' Dd = none := by
  have key : ∀ b, (kpAll G s).objs b = none → NoTab G b → s.heap.get? b = none := fun b h nt => by
    unfold kpAll at h
    simp only at h
    rw [if_pos nt] at h
    exact h
  refine ⟨⟨O'.inv, st.trans g.sub, fun a o e => ?_, fun b o nt e => ?_, fun n x e => O'.kgens n x e⟩, ?_, ?_⟩
  · rcases g.new a o e with h | h
    · exact new a o h
    · exact .inr (key a h (O'.inv.noTabS e))
  · refine O'.kept b o ?_
    unfold kpAll; simp only
    rw [if_pos nt]; exact e
  · obtain ⟨o, ho, w⟩ := acc.obj
    exact key Dd acc.ko (O'.inv.noTab ho w.cls)
  · obtain ⟨o, ho, w⟩ := acc.obj
    exact ⟨o, ho, w, acc.S⟩
theorem comp_core {gs : List Comprehension} {pos : Pos} {p : Pos} {newAcc : Sem Value} {tail : Env → Value → Sem Unit} {o₀ : Obj} {d₀ : D} {use : Option (Value → Sem Unit)} {Q : Value → Shared → Prop} {xs : List D} (hfit : compFit scope sc = true)
    (hcl : clausesOf e = ⟨tgt, iter, ifs, 0⟩ :: gs) (hs : ∀ x, foldedSetIterable iter act.env x = pure x)
    (hnew : ∀ (s : Shared) (Q : Value → Shared → Prop), Q (.ref s.heap.objs.size) { s with heap := s.heap.push o₀ } → wpAny G.M A newAcc Q No s) (hown : ∀ S, Own G S o₀ d₀) (hfree : o₀.isFreed = false)
    (hstart : ∀ (it acc : Value) (env : Env) (R : Result → Shared → Prop) (s : Shared), codeAny G.M A (.compLoop e 0 it acc env) R s →
      wpAny G.M A (pyIter it) (fun it' s' => codeAny G.M A (.compLoop e 0 it' acc env) R s') (notedBy G.M A env fun x s' => R (.error x) s') s → codeAny G.M A (.compStart e 0 it acc env) R s)
    (hq : ∀ it acc env, (Code.compLoop e 0 it acc env).quiet = true)
    (hden : ∀ (it : Value) (Dd : Addr) (env : Env) (Q : PySem.Fin → Shared → Prop) (E : Value → Shared → Prop) (s : Shared), wpAny G.M A (turnTree p tgt ifs it env (tail env (.ref Dd)) (.compLoop e 0 it (.ref Dd) env)) Q No s →
      wpAny G.M (A.under (.compLoop e 0 it (.ref Dd) env)) (G.M.den (.compLoop e 0 it (.ref Dd) env)) Q E s)
    (hsrc : Src G A act ρ tgt iter xs) (J : List D → D → Prop) (h0 : J xs d₀)
    (turn : ∀ (act' : Act (relS scope sc) (cellNames scope.names)) x xs d, J (x :: xs) d → ∃ ρ₁ b d', Takes G A act' tgt x (ρ.inner scope) ρ₁ ∧ (∀ y l, (ρ.inner scope).lookup y = some l → ρ₁.lookup y = some l) ∧ Tests G A act' ρ₁ ifs b ∧
      (b = true → App G A act' ρ₁ (tail act'.env) d d') ∧ (b = false → d' = d) ∧ J xs d')
    (O : OK G act kp adr ρ S s)
    (hQ : ∀ S' s' C Dd d', J [] d' → Stp G S s S' s' → s.heap.get? Dd = none → (∃ o, s'.heap.get? Dd = some o ∧ Own G S' o d') → S' Dd = none → (∃ m, s'.heap.Ns C m) → s.heap.get? C = none → S' C = none → NoTab G C → C ≠ Dd →
      compPost G.M A No use Q (.ref Dd) C (.ok .next) s') :
    wpAny G.M A (comprehension e scope act.env pos newAcc false (eval iter act.env) use) Q No s := by
  obtain ⟨hk, hn, hf⟩ := compFit.spec hfit
  have hclos : closureFor scope act.env = pure (closeList act.env.cells scope.names []) := closureFor_eq scope act.env fun x hx hxf => O.clo _ (hf x hx hxf)
  refine wpAny_comprehension_free (g := ⟨tgt, iter, ifs, 0⟩) (gs := gs) hcl hs hclos hk (fun x hx hl => lookup_of_mem hn (by obtain ⟨a, b⟩ := x; cases hl; exact hx)) ?_
  refine wpAny_mono (hsrc kp adr S s O) (fun v s₁ h₁ => wpAny_mono h₁ (fun it s₂ ⟨S₂, ft, st₂, hft, hgt, hy, hself⟩ => ?_) fun _ _ e => e) fun _ _ e => e
  refine hnew s₂ _ ?_
  have st₃ := st₂.inv.keeps (h' := s₂.heap.push o₀) (t := s₂.toks) fun b o e => Heap.get?_push_of_some _ e
  have stt := st₂.trans st₃
  refine newCompEnv (G := G) (env := act.env) ?_
  rw [relabel_eq]
  -- the inner block
  have O₄ := O.inner (scope := scope) hfit stt
  generalize hs₄ : ({ s₂ with heap := pushCells ((s₂.heap.push o₀).push { cls := .type "dict", data := .dict #[] }) scope.names } : Shared) = s₄
  have O₄ : OK G (compAct act scope (s₂.heap.push o₀).objs.size) (kpAll G s) adr (ρ.inner scope) S₂ s₄ := by rw [← hs₄]; exact O₄
  have grow : ∀ b o, s₂.heap.get? b = some o → s₄.heap.get? b = some o := fun b o e => by
    rw [← hs₄]; exact pushCells_keeps _ _ _ _ (Heap.get?_push_of_some _ (Heap.get?_push_of_some _ e))
  have st₄ : Stp G S₂ s₂ S₂ s₄ := by
    rw [← hs₄]; exact st₂.inv.keeps (t := s₂.toks) fun b o e => pushCells_keeps _ _ _ _ (Heap.get?_push_of_some _ (Heap.get?_push_of_some _ e))
  have hDn : s₂.heap.get? s₂.heap.objs.size = none := Inv.fresh
  have hDs : s.heap.get? s₂.heap.objs.size = none := by
    cases q : s.heap.get? s₂.heap.objs.size with
    | none => rfl
    | some o => have := st₂.keep _ o (st₂.inv.noTabFresh hDn) q; rw [hDn] at this; exact nomatch this
  have acc : AccO G (compAct act scope (s₂.heap.push o₀).objs.size) (kpAll G s) S₂ s₄ s₂.heap.objs.size d₀ := by
    refine ⟨⟨o₀, ?_, hown _⟩, st₂.inv.sizeS, ?_, ?_, ?_⟩
    · rw [← hs₄]; exact pushCells_keeps _ _ _ _ (Heap.get?_push_of_some _ (Heap.get?_push_size _ hfree))
    · unfold kpAll; simp only
      split
      · exact hDs
      · rfl
    · intro hm
      rcases List.mem_cons.mp hm with h | h
      · have := Heap.size_push s₂.heap o₀
        rw [← h] at this
        exact absurd this (Nat.ne_of_lt (Nat.lt_succ_self _))
      · obtain ⟨q, hq, h⟩ := List.mem_map.mp h
        obtain ⟨hq1, hq2⟩ := List.mem_filter.mp hq
        obtain ⟨_, v, o, ho, hd⟩ := O₄.cells q hq1
        rw [h, ← hs₄] at ho
        have : (pushCells ((s₂.heap.push o₀).push { cls := .type "dict", data := .dict #[] }) scope.names).get? s₂.heap.objs.size = some o₀ := pushCells_keeps _ _ _ _ (Heap.get?_push_of_some _ (Heap.get?_push_size _ hfree))
        rw [this] at ho
        obtain rfl := Option.some.inj ho
        have := hown S₂
        cases this <;> exact nomatch hd
    · intro q hq h
      obtain ⟨_, v, o, ho, hd⟩ := O₄.cells q hq
      rw [h, ← hs₄] at ho
      have : (pushCells ((s₂.heap.push o₀).push { cls := .type "dict", data := .dict #[] }) scope.names).get? s₂.heap.objs.size = some o₀ := pushCells_keeps _ _ _ _ (Heap.get?_push_of_some _ (Heap.get?_push_size _ hfree))
      rw [this] at ho
      obtain rfl := Option.some.inj ho
      have := hown S₂
      cases this <;> exact nomatch hd
  have gd := hy.good
  have af := st₄.after gd
  have hy₄ := hy.later af
  have hDft : s₂.heap.objs.size ∉ ft.adr := fun h => by obtain ⟨_, _, o, ho⟩ := gd.adr _ h; rw [hDn] at ho; exact nomatch ho
  have ap : Aside (compAct act scope (s₂.heap.push o₀).objs.size) (kpAll G s) adr (ρ.inner scope) ft := {
    mt := fun a ha hm => by
      obtain ⟨_, _, o, ho⟩ := gd.adr a ha
      have hlt := Heap.lt_size ho
      rcases List.mem_cons.mp hm with h | h
      · rw [h, Heap.size_push] at hlt; exact absurd hlt (Nat.not_lt.mpr (Nat.le_succ _))
      · obtain ⟨q, hq, h⟩ := List.mem_map.mp h
        obtain ⟨hq1, hq2⟩ := List.mem_filter.mp hq
        rcases cellsFrom_mem hq1 with hc | ⟨_, hc⟩
        · rcases closeList_mem hc with z | ⟨z, _⟩
          · exact nomatch z
          · have h2 : q.1 ∈ cellNames scope.names := by simpa using hq2
            have e1 := lookup_of_mem hn z
            have e2 := lookup_of_mem hn (mem_cellNames.mp h2)
            rw [e1] at e2; cases e2
        · rw [h, Heap.size_push] at hc; exact absurd (Nat.lt_of_lt_of_le hlt (Nat.le_trans (Nat.le_succ _) (Nat.le_trans (Nat.le_succ _) hc))) (Nat.lt_irrefl _)
    cells := fun a ha q hq h => by
      obtain ⟨_, _, o, ho⟩ := gd.adr a ha
      have hlt := Heap.lt_size ho
      rcases cellsFrom_mem hq with hc | ⟨_, hc⟩
      · rcases closeList_mem hc with z | ⟨z, e'⟩
        · exact nomatch z
        · obtain ⟨c, hc'⟩ := O.clo _ (hf _ z rfl)
          rw [hc'] at e'
          simp only [Option.getD_some] at e'
          obtain ⟨_, v, o', ho', _⟩ := O.cells _ (cell_in hc')
          have := hft a ha
          rw [← h, e'] at this
          have ho' : s.heap.get? c = some o' := ho'
          rw [this] at ho'; exact nomatch ho'
      · rw [h, Heap.size_push] at hc; exact absurd (Nat.lt_of_lt_of_le hlt (Nat.le_trans (Nat.le_succ _) (Nat.le_trans (Nat.le_succ _) hc))) (Nat.lt_irrefl _)
    own := fun a ha x d hx => by obtain ⟨_, _, d', q⟩ := lookup_inner hx; exact nomatch q
    ko := fun a ha => by
      unfold kpAll; simp only
      split
      · exact hft a ha
      · rfl
    kgn := fun n hn' => by
      have := hgt n hn'
      unfold kpAll; simp only
      exact Array.getElem?_eq_none this }
  have loop : codeAny G.M A (.compLoop e 0 it (.ref s₂.heap.objs.size) (compAct act scope (s₂.heap.push o₀).objs.size).env) (compPost G.M A No use Q (.ref s₂.heap.objs.size) (s₂.heap.push o₀).objs.size) s₄ := by
    refine comp_loop (act := compAct act scope (s₂.heap.push o₀).objs.size) (tail := tail (compAct act scope (s₂.heap.push o₀).objs.size).env) (hq _ _ _) (fun Q E s h => hden _ _ _ Q E s h) (fun x d hx => by obtain ⟨_, _, d', q⟩ := lookup_inner hx; exact nomatch q) J
      (fun x xs d hJ => turn _ x xs d hJ) (fun S' s' d' hJ g O' acc' => ?_) h0 O₄ acc ap hDft hy₄
    have new : ∀ a o, S₂ a = some o → S a = some o ∨ s.heap.get? a = none := st₂.new
    obtain ⟨st', hDs', o, ho, w, hS⟩ := inner_out O st₂.sub new g O' acc'
    obtain ⟨hC1, hC2, hC3, hC4⟩ := O'.mt (s₂.heap.push o₀).objs.size (.head _)
    refine hQ S' s' _ _ d' hJ st' hDs' ⟨o, ho, w⟩ hS O'.ns ?_ hC1 hC3 fun h => acc'.mt (h ▸ .head _)
    unfold kpAll at hC2
    simp only at hC2
    rw [if_pos hC3] at hC2
    exact hC2
  show codeAny G.M A (.compStart e 0 it (.ref s₂.heap.objs.size) (compAct act scope (s₂.heap.push o₀).objs.size).env) (compPost G.M A No use Q (.ref s₂.heap.objs.size) (s₂.heap.push o₀).objs.size) s₄
  exact hstart _ _ _ _ _ loop (hself S₂ s₄ af _ _ loop)
end
end Mine
end

section
namespace Mine
variable {sc : Scope} {mc : List Str}
open PySem PySem.Calls PyProof.Rows
section
variable {G : Gl} {A : Around} {act : Act sc mc} {kp : Kept} {adr : Str → Addr} {ρ ρ' : LEnv} {S S' : Fz} {s s' : Shared} {a : Addr} {o : Obj} {d : D}
theorem Own.noCell {G : Gl} {S : Fz} {o : Obj} {d : D} (h : Own G S o d) {v} : o.data ≠ .cell v := by cases h <;> exact fun e => nomatch e
theorem OK.ownCell (O : OK G act kp adr ρ S s) (ho : s.heap.get? a = some o) (w : Own G S o d) : ∀ p ∈ act.env.cells, p.2 ≠ a := fun p hp e => by
  obtain ⟨_, v, o', ho', hd⟩ := O.cells p hp
  rw [e, ho] at ho'
  obtain rfl := Option.some.inj ho'
  exact w.noCell hd
theorem OK.touch (O : OK G act kp adr ρ S s) {h' : Heap} {t : Nat} (hs : Heap.SameBut a s.heap h') (hS : S a = none) (hk : kp.objs a = none) (hm : a ∉ act.mt) (hc : ∀ p ∈ act.env.cells, p.2 ≠ a) (nt : NoTab G a)
    (hρ : ∀ y l, ρ'.lookup y = some l → (ρ.lookup y = some l ∧ ∀ d, l = .own d → adr y ≠ a) ∨ (∃ d d' o, l = .own d' ∧ ρ.lookup y = some (.own d) ∧ adr y = a ∧ h'.get? a = some o ∧ Own G S o d')) :
    OK G act kp adr ρ' S { s with heap := h', toks := t } := by
  have keep : ∀ b o, b ≠ a → s.heap.get? b = some o → h'.get? b = some o := fun b o hb e => by rw [hs.2 b hb]; exact e
  have rd : ∀ x v, Reads act.env s.heap x v → Reads act.env h' x v := fun x v r => r.of (fun o e => keep _ o (fun q => hm (q ▸ O.mtL)) e) fun c hcx o e => keep _ o (hc _ (cell_in hcx)) e
  exact { O with
    inv := O.inv.but (wr := [a]) (fun b hb => by rw [List.mem_singleton.mp hb]; exact ⟨hS, nt⟩) fun b o hb e => keep b o (fun q => hb (q ▸ .head _)) e
    kept := fun b o e => keep b o (fun q => by rw [q, hk] at e; exact nomatch e) (O.kept b o e)
    ns := let ⟨m, h⟩ := O.ns; ⟨m, h.at' fun o e => keep _ o (fun q => hm (q ▸ O.mtL)) e⟩
    mt := fun b hb => by
      (refine cps fun ZP zk => ?_; obtain ⟨h1, h2, h3, o, ho⟩ := O.mt b hb; refine zk ?_)
      exact ⟨h1, h2, h3, o, keep _ o (fun q => hm (q ▸ hb)) ho⟩
    cells := fun p hp => by
      obtain ⟨nt', v, o, ho, hd⟩ := O.cells p hp
      exact ⟨nt', v, o, keep _ o (hc p hp) ho, hd⟩
    vars := fun x l e => by
      rcases hρ x l e with ⟨h, hn⟩ | ⟨d, d', o, hl, h, ha, ho, w⟩
      · have q := O.vars x l h
        cases l with
        | val d => obtain ⟨v, r, i⟩ := q; exact ⟨v, rd x v r, i⟩
        | own d =>
          (refine cps fun ZP zk => ?_; obtain ⟨r, ⟨o, ho, w⟩, h1, h2, h3⟩ := q; refine zk ?_)
          exact ⟨rd _ _ r, ⟨o, keep _ o (hn d rfl) ho, w⟩, h1, h2, h3⟩
      · subst hl
        obtain ⟨r, _, h1, h2, h3⟩ := O.vars x _ h
        exact ⟨rd _ _ r, ⟨o, by rw [ha]; exact ho, w⟩, h1, h2, h3⟩
    inj := fun x y dx dy ex ey e => by
      have own : ∀ x dx, ρ'.lookup x = some (.own dx) → ∃ d, ρ.lookup x = some (.own d) := fun x dx ex => by
        rcases hρ x _ ex with ⟨h, _⟩ | ⟨d, _, _, _, h, _⟩
        · exact ⟨_, h⟩
        · exact ⟨_, h⟩
      obtain ⟨d1, h1⟩ := own _ _ ex
      obtain ⟨d2, h2⟩ := own _ _ ey
      exact O.inj x y d1 d2 h1 h2 e }
theorem OK.turnOwn (O : OK G act kp adr ρ S s) {x : Str} {d' : D} {h' : Heap} {t : Nat} (hx : ρ.lookup x = some (.own d)) (hs : Heap.SameBut (adr x) s.heap h') (ho : ∃ o, h'.get? (adr x) = some o ∧ Own G S o d') :
    OK G act kp adr ((x, .own d') :: ρ) S { s with heap := h', toks := t } := by
  (refine cps fun ZP zk => ?_; obtain ⟨r, ⟨o, ho₀, w⟩, h1, h2, h3⟩ := O.vars x _ hx; refine zk ?_)
  obtain ⟨o', ho', w'⟩ := ho
  refine O.touch hs h1 h2 h3 (O.ownCell ho₀ w) (O.inv.noTab ho₀ w.cls) fun y l e => ?_
  by_cases q : y = x
  · subst q
    simp only [List.lookup, BEq.rfl] at e
    obtain rfl := Option.some.inj e
    exact .inr ⟨d, d', o', rfl, hx, rfl, ho', w'⟩
  · rw [lookup_cons_ne q] at e
    exact .inl ⟨e, fun d₂ hl q' => q (O.inj y x _ _ (hl ▸ e) hx q')⟩
theorem AccO.touch (O : OK G act kp adr ρ S s) (ac : AccO G act kp S s a d) {d' : D} {h' : Heap} {t : Nat} (hs : Heap.SameBut a s.heap h') (ho : ∃ o, h'.get? a = some o ∧ Own G S o d')
    (hown : ∀ x d, ρ.lookup x = some (.own d) → False) : OK G act kp adr ρ S { s with heap := h', toks := t } ∧ AccO G act kp S { s with heap := h', toks := t } a d' := by
  obtain ⟨o, ho₀, w⟩ := ac.obj
  exact ⟨O.touch hs ac.S ac.ko ac.mt ac.cells (O.inv.noTab ho₀ w.cls) fun y l e => .inl ⟨e, fun d₂ hl => (hown y d₂ (hl ▸ e)).elim⟩, ho, ac.S, ac.ko, ac.mt, ac.cells⟩
theorem Own.plain {S : Fz} {h : Heap} {ds : List D} (ho : h.get? a = some o) (w : Own G S o (.list ds)) : ∃ vs, h.PlainList a vs.toArray ∧ Alls G S vs ds := by
  cases w with
  | list r => exact ⟨_, ⟨_, ho⟩, r⟩
theorem Own.ofPlain {S : Fz} {h : Heap} {ds : List D} {vs : List Value} {items : Array Value} (hl : h.PlainList a items) (e : items = vs.toArray) (r : Alls G S vs ds) : ∃ o, h.get? a = some o ∧ Own G S o (.list ds) := by
  subst e
  obtain ⟨n, e⟩ := hl
  exact ⟨_, e, .list r⟩
theorem Own.dictOf {S : Fz} {h : Heap} {ks : List Ky} {ds : List D} (ho : h.get? a = some o) (w : Own G S o (.dict ks ds)) : ∃ kvs : List (Ky × Value), h.DictOf G.knd a kvs ∧ ks = kvs.map (·.1) ∧ Alls G S (kvs.map (·.2)) ds := by
  cases w with
  | dict h1 h2 h3 h4 r => exact ⟨_, ⟨_, _, _, ho, ⟨rfl, rfl, rfl⟩, rfl, h1, h2, h3 ▸ h4⟩, h3, r⟩
theorem Own.ofDictOf {S : Fz} {h : Heap} {ks : List Ky} {ds : List D} {kvs : List (Ky × Value)} (hd : h.DictOf G.knd a kvs) (e : ks = kvs.map (·.1)) (r : Alls G S (kvs.map (·.2)) ds) : ∃ o, h.get? a = some o ∧ Own G S o (.dict ks ds) := by
  (refine cps fun ZP zk => ?_; obtain ⟨o, es, ep, ho, ⟨x1, x2, x3⟩, hd, h1, h2, h3⟩ := hd; refine zk ?_)
  refine ⟨o, ho, ?_⟩
  cases o
  subst x1 x2 x3 hd
  exact .dict h1 h2 e (e ▸ h3) r
noncomputable def listTail (elt : Expr) (env : Env) (acc : Value) : Sem Unit := eval elt env >>= fun x => call (.builtin "list.append") [acc, x] >>= fun _ => pure ()
theorem App.list {elt : Expr} {ds : List D} (h : Ev G A act ρ elt d) (hn : ds.length ≤ sizeLine) : App G A act ρ (listTail elt act.env) (.list ds) (.list (ds ++ [d])) := fun kp adr S s Dd O ac hown => by
  refine wpAny_bind (wp_seq (h kp adr S s O) fun S₁ v s₁ st i => ?_)
  have O₁ := O.step st
  have ac₁ := ac.step O.inv st
  obtain ⟨o, ho, w⟩ := ac₁.obj
  obtain ⟨vs, hp, r⟩ := Own.plain ho w
  refine wpAny_bind (wpAny_list_append_plain hp (fun h' hp' hs => wpAny_pure ?_) (by rw [List.size_toArray, r.length]; exact hn))
  obtain ⟨O₂, ac₂⟩ := AccO.touch (t := s₁.toks) O₁ ac₁ hs (Own.ofPlain (vs := vs ++ [v]) hp' (by simp) (r.append (.cons i .nil))) hown
  exact ⟨S₁, O.gro st, O₂, ac₂⟩
theorem list_den {elt tgt iter : Expr} {ifs : List Expr} {scope : Scope} {pos : Pos} {it : Value} {Dd : Addr} {env : Env} (Q : PySem.Fin → Shared → Prop) (E : Value → Shared → Prop) (s : Shared)
    (h : wpAny G.M A (turnTree iter.pos tgt ifs it env (listTail elt env (.ref Dd)) (.compLoop (.ListComp elt [⟨tgt, iter, ifs, 0⟩] scope pos) 0 it (.ref Dd) env)) Q No s) :
    wpAny G.M (A.under (.compLoop (.ListComp elt [⟨tgt, iter, ifs, 0⟩] scope pos) 0 it (.ref Dd) env)) (G.M.den (.compLoop (.ListComp elt [⟨tgt, iter, ifs, 0⟩] scope pos) 0 it (.ref Dd) env)) Q E s := by
  show wpAny _ _ ((compTurn (.ListComp elt [⟨tgt, iter, ifs, 0⟩] scope pos) 0 it (.ref Dd) env).onRaise (fun x => do noteFrame x env; theTreesLotGoes x)) _ _ s
  refine wpAny_noted (wpAny_mono ?_ (fun _ _ q => q) (fun _ _ e => False.elim e))
  rw [compTurn_list]
  exact h
end
end Mine
end

section
namespace Mine
variable {sc : Scope} {mc : List Str}
open PySem PySem.Calls PyProof.Rows
noncomputable def LocOk (G : Gl) (act : Act sc mc) (kp : Kept) (adr : Str → Addr) (ρ : LEnv) (S : Fz) (s : Shared) (v : Value) : Loc → Prop
  | .val d => Is G S v d
  | .own d => ∃ a, v = .ref a ∧ Fresh G act kp adr ρ S s a d
noncomputable def isOwn : Loc → Bool
  | .own _ => true
  | .val _ => false
inductive LocsOk (G : Gl) (act : Act sc mc) (kp : Kept) (adr : Str → Addr) (ρ : LEnv) (S : Fz) (s : Shared) : List Value → List Loc → Prop
  | nil : LocsOk G act kp adr ρ S s [] []
  | cons {v : Value} {l : Loc} {vs : List Value} {ls : List Loc} : LocOk G act kp adr ρ S s v l → LocsOk G act kp adr ρ S s vs ls → (isOwn l = true → v ∉ vs) → LocsOk G act kp adr ρ S s (v :: vs) (l :: ls)
inductive Storers (G : Gl) (A : Around) (act : Act sc mc) : List (Value → Sem Unit) → List Str → Prop
  | nil : Storers G A act [] []
  | cons {t : Value → Sem Unit} {ts : List (Value → Sem Unit)} {x : Str} {xs : List Str} : (∀ v Q E s, wpAny G.M A (storeName act.env x v) Q E s → wpAny G.M A (t v) Q E s) → Stores sc mc x → Storers G A act ts xs → Storers G A act (t :: ts) (x :: xs)
noncomputable def bindLs : List Str → List Loc → LEnv → LEnv
  | x :: xs, l :: ls, ρ => bindLs xs ls ((x, l) :: ρ)
  | _, _, ρ => ρ
section
variable {G : Gl} {A : Around} {act : Act sc mc} {kp : Kept} {adr : Str → Addr} {ρ ρ' : LEnv} {S S' : Fz} {s s' : Shared} {a : Addr} {o : Obj} {d : D}
theorem OK.storeLoc (O : OK G act kp adr ρ S s) {x : Str} {v : Value} {l : Loc} {Q : Unit → Shared → Prop} (hx : Stores sc mc x) (hv : LocOk G act kp adr ρ S s v l)
    (h : ∀ h' t adr', OK G act kp adr' ((x, l) :: ρ) S { s with heap := h', toks := t } → (∀ b o, b ∉ act.mt → s.heap.get? b = some o → h'.get? b = some o) →
      (∀ y, y ≠ x → adr' y = adr y) → (isOwn l = true → v = .ref (adr' x)) → (isOwn l = false → adr' = adr) → Q () { s with heap := h', toks := t }) : wpAny G.M A (storeName act.env x v) Q No s := by
  cases l with
  | val d =>
    exact O.store hx fun h' t st => h h' t adr (O.after st (fun y l hy e => by rwa [lookup_cons_ne hy] at e) (fun _ _ => rfl)
      (fun l e => by simp only [List.lookup_cons_self] at e; obtain rfl := Option.some.inj e; exact ⟨v, st.reads, hv⟩) fun y dx dy _ e _ => by simp at e) st.keep (fun _ _ => rfl) (fun e => nomatch e) fun _ => rfl
  | own d =>
    obtain ⟨a, rfl, hv⟩ := hv
    exact O.store hx fun h' t st => h h' t (fun y => if y = x then a else adr y) (O.after st (fun y l hy e => by rwa [lookup_cons_ne hy] at e) (fun y hy => by simp [hy])
      (fun l e => by
        simp only [List.lookup_cons_self] at e
        obtain rfl := Option.some.inj e
        (refine cps fun ZP zk => ?_; obtain ⟨⟨o, ho, w⟩, h1, h2, h3, _⟩ := hv; refine zk ?_)
        show Reads _ _ _ (.ref (if x = x then a else adr x)) ∧ _
        simp only [if_true]
        exact ⟨st.reads, ⟨o, st.keep _ _ h3 ho, w⟩, h1, h2, h3⟩)
      fun y dx dy hy _ e => by
        rw [lookup_cons_ne hy] at e
        simp only [if_true]
        exact (hv.ne y dy e).symm) st.keep (fun y hy => by simp [hy]) (fun _ => by simp) fun e => nomatch e
theorem LocsOk.later {vs : List Value} {ls : List Loc} (h : LocsOk G act kp adr ρ S s vs ls) {x : Str} {v : Value} {l : Loc} {h' : Heap} {t : Nat} {adr' : Str → Addr} (hk : ∀ b o, b ∉ act.mt → s.heap.get? b = some o → h'.get? b = some o)
    (ha : ∀ y, y ≠ x → adr' y = adr y) (hv : isOwn l = true → v = .ref (adr' x) ∧ v ∉ vs) : LocsOk G act kp adr' ((x, l) :: ρ) S { s with heap := h', toks := t } vs ls := by
  induction h with
  | nil => exact .nil
  | @cons u l' vs ls hl _ hn ih =>
    refine .cons ?_ (ih fun h => ⟨(hv h).1, fun m => (hv h).2 (.tail _ m)⟩) hn
    cases l' with
    | val d => exact hl
    | own d =>
      obtain ⟨a, rfl, ⟨⟨o, ho, w⟩, h1, h2, h3, h4⟩⟩ := hl
      refine ⟨a, rfl, ⟨o, hk _ _ h3 ho, w⟩, h1, h2, h3, fun y dy e => ?_⟩
      by_cases q : y = x
      · subst q
        simp only [List.lookup, BEq.rfl] at e
        obtain rfl := Option.some.inj e
        intro e
        have := hv rfl
        rw [this.1, e] at this
        exact this.2 (.head _)
      · rw [lookup_cons_ne q] at e
        rw [ha y q]
        exact h4 y dy e
theorem Storers.run {ts : List (Value → Sem Unit)} {xs : List Str} (h : Storers G A act ts xs) : ∀ {adr : Str → Addr} {ρ : LEnv} {s : Shared} {vs : List Value} {ls : List Loc} {Q : Unit → Shared → Prop}, OK G act kp adr ρ S s →
    LocsOk G act kp adr ρ S s vs ls → vs.length = ts.length →
    (∀ s' adr', OK G act kp adr' (bindLs xs ls ρ) S s' → (ls.all (fun l => !isOwn l) = true → adr' = adr) → Q () s') → wpAny G.M A (assignInOrder ts vs) Q No s := by
  induction h with
  | nil =>
    intro adr ρ s vs ls Q O hl hn hQ
    cases hl with
    | nil => exact assignInOrder_nil (hQ _ _ O fun _ => rfl)
    | cons => simp at hn
  | @cons t ts x xs ht hx _ ih =>
    intro adr ρ s vs ls Q O hl hn hQ
    cases hl with
    | nil => simp at hn
    | @cons v l vs ls hv hl hne =>
      refine assignInOrder_cons (ht v _ _ _ (O.storeLoc hx hv fun h' t adr' O' hk ha hv' hv'' => ?_))
      refine ih O' (hl.later hk ha fun h => ⟨hv' h, hne h⟩) (by simpa using hn) fun s' adr'' O'' h'' => hQ s' adr'' O'' fun h => ?_
      rw [List.all_cons, Bool.and_eq_true] at h
      rw [h'' h.2, hv'' (by simpa using h.1)]
inductive Elts (sc : Scope) (mc : List Str) : List Expr → List Str → Prop
  | nil : Elts sc mc [] []
  | cons {x : Str} {p : Pos} {es : List Expr} {xs : List Str} : Stores sc mc x → Elts sc mc es xs → Elts sc mc (.Name x p :: es) (x :: xs)
theorem Elts.stores {es : List Expr} {xs : List Str} (h : Elts sc mc es xs) : Storers G A act ((assignEach es act.env).map (·.2)) xs ∧ (assignEach es act.env).length = xs.length ∧ (assignEach es act.env).findIdx? (·.1) = none := by
  induction h with
  | nil => exact ⟨.nil, rfl, rfl⟩
  | @cons x p es xs hx _ ih =>
    show Storers G A act ((((false, assign (.Name x p) act.env)) :: assignEach es act.env).map (·.2)) _ ∧ (((false, assign (.Name x p) act.env)) :: assignEach es act.env).length = _ ∧ (((false, assign (.Name x p) act.env)) :: assignEach es act.env).findIdx? (·.1) = none
    exact ⟨.cons (fun v Q E s h => assign_Name h) hx ih.1, by simp [ih.2.1], by rw [List.findIdx?_cons]; simp [ih.2.2]⟩
theorem Is.tup {v : Value} {ds : List D} (I : Inv G S s) (h : Is G S v (.tuple ds)) : ∃ a vs, v = .ref a ∧ s.heap.IsTuple a vs.toArray ∧ Alls G S vs ds := by
  exact let ⟨a, o, n, vs, e, h1, h2, h3, r⟩ := h.tupleI; ⟨a, vs, e, ⟨o, I.sub _ _ h1, h2, n, h3⟩, r⟩
theorem Alls.locs {vs : List Value} {ds : List D} (h : Alls G S vs ds) : LocsOk G act kp adr ρ S s vs (ds.map .val) := match h with
  | .nil => .nil
  | .cons i r => .cons i r.locs fun e => nomatch e
theorem Inv.ext (I : Inv G S s) {h' : Heap} {t : Nat} (he : Heap.ExtBut s.heap.objs.size s.heap h') : Stp G S s S { s with heap := h', toks := t } :=
  I.keeps fun b o e => he b o (fun q => by rw [q, Inv.fresh] at e; exact nomatch e) e
theorem Takes.tuple {n : Nat} (hA : Room n A) {es : List Expr} {xs : List Str} {ds : List D} {k : Nat} {pos : Pos} (he : Elts sc mc es xs) (hl : xs.length = ds.length) : Takes G A act (.Tuple es k pos) (.tuple ds) ρ (bindLs xs (ds.map .val) ρ) := fun kp adr S s v O i => by
  obtain ⟨a, vs, rfl, ht, r⟩ := i.tup O.inv
  obtain ⟨h1, h2, h3⟩ := he.stores (G := G) (A := A) (act := act)
  refine wpAny_assign_Tuple hA.handled ht (by rw [h2, List.size_toArray, r.length, hl]) h3 fun h' hx => ?_
  have st := O.inv.ext (t := s.toks) hx
  refine h1.run (vs := vs) (O.step st) r.locs (by rw [List.length_map, h2, r.length, hl]) fun s' adr' O' hadr => ?_
  have hadr := hadr (by simp [isOwn, List.all_map])
  subst hadr
  refine ⟨S, adr', .refl .., O', fun y dy hy => ⟨dy, ?_, rfl⟩⟩
  clear O' h1 h2 h3 r ht i st
  have key : ∀ (xs : List Str) (ds : List D) (ρ : LEnv), (bindLs xs (ds.map Loc.val) ρ).lookup y = some (.own dy) → ρ.lookup y = some (.own dy) := by
    intro xs
    induction xs with
    | nil => intro ds ρ h; exact h
    | cons x xs ih =>
      intro ds ρ h
      cases ds with
      | nil => exact h
      | cons d ds =>
        have := ih ds _ h
        by_cases q : y = x
        · subst q; simp at this
        · rwa [lookup_cons_ne q] at this
  exact key _ _ _ hy
theorem Run.unpack {n : Nat} (hA : Room n A) {es : List Expr} {xs : List Str} {ds : List D} {k : Nat} {pos tpos : Pos} {e : Expr} {Q : FD → LEnv → Prop} (hv : Ev G A act ρ e (.tuple ds)) (he : Elts sc mc es xs) (hl : xs.length = ds.length) (h : Q .next (bindLs xs (ds.map .val) ρ))
    (hs : swapsWithSole [.Tuple es k tpos] e pos.line act.env = pure false := by rfl)
    (hw : swappedStores [.Tuple es k tpos] e act.env = pure none := by rfl) : Run G A act (exec (.Assign [.Tuple es k tpos] e pos) act.env) ρ Q := fun kp adr S s O =>
  Assign_Tuple (wp_seq (hv kp adr S s O) fun S₁ v s₁ st i => wpAny_mono (Takes.tuple hA he hl kp adr S₁ s₁ v (O.step st) i) (fun _ s₂ ⟨S₂, adr₂, g, O₂, _⟩ =>
    ⟨S₂, adr₂, _, .next, (O.gro st).trans g, O₂, trivial, h⟩) fun _ _ e => e) hs hw
end
end Mine
end

section
namespace Mine
variable {sc : Scope} {mc : List Str}
open PySem PySem.Calls PyProof.Rows
noncomputable def dput (ks : List Ky) (ds : List D) (k : Ky) (d : D) : List Ky × List D :=
  if k ∈ ks then (ks, List.zipWith (fun k' d' => if k' = k then d else d') ks ds) else (ks ++ [k], ds ++ [d])
noncomputable def dmk (l : List (Ky × D)) : List Ky × List D := l.foldl (fun q kd => dput q.1 q.2 kd.1 kd.2) ([], [])
section
variable {G : Gl} {A : Around} {act : Act sc mc} {kp : Kept} {adr : Str → Addr} {ρ ρ' : LEnv} {S S' : Fz} {s s' : Shared} {a : Addr} {o : Obj} {d : D}
theorem stored_keys {kvs : List (Ky × Value)} {k : Ky} {v : Value} {ds : List D} (r : Alls G S (kvs.map (·.2)) ds) (i : Is G S v d) :
    (stored kvs k v).map (·.1) = (dput (kvs.map (·.1)) ds k d).1 ∧ Alls G S ((stored kvs k v).map (·.2)) (dput (kvs.map (·.1)) ds k d).2 := by
  unfold stored dput
  have e : (kvs.any fun kv => decide (kv.1 = k)) = decide (k ∈ kvs.map (·.1)) := by
    rw [Bool.eq_iff_iff]; simp
  rw [e]
  by_cases hk : k ∈ kvs.map (·.1)
  · simp only [hk, decide_true, if_true]
    clear hk e
    constructor
    · clear r
      induction kvs with
      | nil => rfl
      | cons q kvs ih => simp only [List.map_cons, List.map_map] at ih ⊢; rw [ih]; split <;> rfl
    · generalize hv : kvs.map (·.2) = vs at r
      induction kvs generalizing vs ds with
      | nil => subst hv; cases r; exact .nil
      | cons q kvs ih =>
        subst hv
        cases r with
        | cons j r =>
          simp only [List.map_cons, List.zipWith]
          refine .cons ?_ (ih _ rfl r)
          split <;> assumption
  · simp only [hk, decide_false, Bool.false_eq_true, if_false, List.map_append, List.map_cons, List.map_nil]
    exact ⟨trivial, r.append (.cons i .nil)⟩
noncomputable def dictTail (kx vx : Expr) (env : Env) : Value → Sem Unit
  | .ref D => eval kx env >>= fun kv => holding [kv] (eval vx env) >>= fun vv => standAt { kx.pos with endLine := vx.pos.endLine, endCol := vx.pos.endCol } >>= fun _ => holding [kv, vv] (dictSet D kv vv)
  | _ => unsupported "internal:dictcomp"
theorem Ky.kindIs {k : Ky} {v : Value} {S : Fz} (h : Is G S v k.d) : G.knd.is k v = true := by
  exact Is.ky h
theorem App.dict {kx vx : Expr} {ks : List Ky} {ds : List D} {k : Ky} (hk : Ev G A act ρ kx k.d) (hv : Ev G A act ρ vx d) (hn : ks.length ≤ sizeLine) : App G A act ρ (dictTail kx vx act.env) (.dict ks ds) (.dict (dput ks ds k d).1 (dput ks ds k d).2) := fun kp adr S s Dd O ac hown => by
  unfold dictTail
  refine wpAny_bind (wp_seq (hk kp adr S s O) fun S₁ kv s₁ st ik => wpAny_bind (wpAny_holding (wp_seq (hv kp adr S₁ s₁ (O.step st)) fun S₂ vv s₂ st₂ iv => wpAny_bind (wpAny_standAt (wpAny_holding ?_)))))
  have st' := st.trans st₂
  have O₁ := O.step st'
  have ac₁ := ac.step O.inv st'
  obtain ⟨o, ho, w⟩ := ac₁.obj
  (refine cps fun ZP zk => ?_; obtain ⟨kvs, hd, e, r⟩ := Own.dictOf ho w; refine zk ?_)
  have hl : kvs.length ≤ sizeLine := by rw [e, List.length_map] at hn; exact hn
  refine wpAny_dictSet_pairs (Ky.kindIs (ik.mono st₂.sub)) hd (fun h' hd' hs => ?_) hl
  obtain ⟨q1, q2⟩ := stored_keys (k := k) r iv
  obtain ⟨O₂, ac₂⟩ := AccO.touch (t := s₂.toks + 1) O₁ ac₁ hs (Own.ofDictOf (ks := (dput ks ds k d).1) (ds := (dput ks ds k d).2) hd' (by rw [q1, e]) (by rw [e]; exact q2)) hown
  exact ⟨S₂, O.gro st', O₂, ac₂⟩
theorem dict_den {kx vx tgt iter : Expr} {ifs : List Expr} {scope : Scope} {pos : Pos} {it : Value} {Dd : Addr} {env : Env} (Q : PySem.Fin → Shared → Prop) (E : Value → Shared → Prop) (s : Shared)
    (h : wpAny G.M A (turnTree iter.pos tgt ifs it env (dictTail kx vx env (.ref Dd)) (.compLoop (.DictComp kx vx [⟨tgt, iter, ifs, 0⟩] scope pos) 0 it (.ref Dd) env)) Q No s) :
    wpAny G.M (A.under (.compLoop (.DictComp kx vx [⟨tgt, iter, ifs, 0⟩] scope pos) 0 it (.ref Dd) env)) (G.M.den (.compLoop (.DictComp kx vx [⟨tgt, iter, ifs, 0⟩] scope pos) 0 it (.ref Dd) env)) Q E s := by
  show wpAny _ _ ((compTurn (.DictComp kx vx [⟨tgt, iter, ifs, 0⟩] scope pos) 0 it (.ref Dd) env).onRaise (fun x => do noteFrame x env; theTreesLotGoes x)) _ _ s
  refine wpAny_noted (wpAny_mono ?_ (fun _ _ q => q) (fun _ _ e => False.elim e))
  rw [compTurn_dict]
  exact h
noncomputable def CompRuns (G : Gl) (A : Around) (act : Act sc mc) (ρ : LEnv) (m : Option (Value → Sem Unit) → Sem Value) (d : D) : Prop := ∀ kp adr S s use Q, OK G act kp adr ρ S s →
  (∀ S' s' C Dd, Stp G S s S' s' → s.heap.get? Dd = none → (∃ o, s'.heap.get? Dd = some o ∧ Own G S' o d) → S' Dd = none → (∃ m, s'.heap.Ns C m) → s.heap.get? C = none → S' C = none → NoTab G C → C ≠ Dd →
    compPost G.M A No use Q (.ref Dd) C (.ok .next) s') → wpAny G.M A (m use) Q No s
theorem Stp.butNew (st : Stp G S s S' s') {C : Addr} {h' : Heap} {t : Nat} (hs : Heap.SameBut C s'.heap h') (hC : s.heap.get? C = none) (hS : S' C = none) (nt : NoTab G C) : Stp G S s S' { s' with heap := h', toks := t } where
  inv := st.inv.but (wr := [C]) (fun b hb => by rw [List.mem_singleton.mp hb]; exact ⟨hS, nt⟩) fun b o hb e => by rw [hs.2 b fun q => hb (q ▸ .head _)]; exact e
  sub := st.sub
  new := st.new
  keep := fun b o nb e => by rw [hs.2 b fun q => by rw [q, hC] at e; exact nomatch e]; exact st.keep b o nb e
  gens := st.gens
theorem CompRuns.evO {e : Expr} {m : Option (Value → Sem Unit) → Sem Value} (h : CompRuns G A act ρ m d) (he : eval e act.env = m none) : EvO G A act ρ e d := fun kp adr S s O => by
  rw [he]
  refine h kp adr S s none _ O fun S' s' C Dd st hD ⟨o, ho, w⟩ hSD ⟨mm, hm⟩ hC hSC nt hne => ⟨mm, hm, fun h' hs => ?_⟩
  exact ⟨S', Dd, o, st.butNew (t := s'.toks) hs hC hSC nt, rfl, by show h'.get? Dd = some o; rw [hs.2 Dd hne.symm]; exact ho, w, hSD, hD⟩
noncomputable def swapB (scope sc : Scope) (t : Str) (l l' : Int) : Bool := (if sc.kind.isAnnotationScope then ScopeKind.function else sc.kind) == .function && sc.names.lookup t == some .local && l == l' && !(scope.names.any fun (n, k) => n == t && (k == .local || k == .cell))
theorem Run.assignComp {e : Expr} {m : Option (Value → Sem Unit) → Sem Value} {x : Str} {npos pos : Pos} {Q : FD → LEnv → Prop} (h : CompRuns G A act ρ m d) (he : eval e act.env = m none) (hu : ∀ use, evalThenUse e act.env use = m (some use) >>= fun _ => pure ())
    (hx : Stores sc mc x) (hq : Q .next ((x, .own d) :: ρ)) (b : Bool) (hb : swapsWith e (some (.Name x npos)) pos.line act.env = pure b) : Run G A act (exec (.Assign [.Name x npos] e pos) act.env) ρ Q := fun kp adr S s O => by
  rw [exec_Assign]
  refine wpAny_bind (wpAny_standAt ?_)
  rw [show swapsWithSole [.Name x npos] e pos.line act.env = pure b from hb]
  refine wpAny_bind (wpAny_pure ?_)
  cases b with
  | false =>
    simp only [Bool.false_eq_true, if_false]
    refine wpAny_bind (wpAny_mono ((h.evO he) kp adr S s O) (fun v s₁ ⟨S₁, a, o, st, hv, ho, w, hS, hn⟩ => ?_) fun _ _ e => e)
    subst hv
    refine wpAny_bind (show wpAny G.M A (pure none) _ _ _ from wpAny_pure (show wpAny G.M A (PySem.assign (Expr.Name x npos) act.env (Value.ref a) >>= fun _ => pure Flow.next) _ _ _ from wpAny_bind (wpAny_mono (Q := fun _ s' => RunPost G act kp S Q .next s') ?_ (fun _ _ h => wpAny_pure h) fun _ _ e => e)))
    exact wpAny_assign_Name ((O.step st).storeOwn hx (O.fresh st ho w hS hn) fun h' t O' => ⟨S₁, _, _, .next, O.gro st, O', trivial, hq⟩)
  | true =>
    simp only [if_true]
    rw [hu]
    refine wpAny_bind (wpAny_bind (h kp adr S s _ _ O fun S' s' C Dd st hD ⟨o, ho, w⟩ hSD ⟨mm, hm⟩ hC hSC nt hne => ?_))
    have O₁ := O.step st
    have hCm : C ∉ act.mt := fun hm => by obtain ⟨_, _, _, o, ho⟩ := O.mt C hm; rw [hC] at ho; exact nomatch ho
    have hCk : kp.objs C = none := by
      cases q : kp.objs C with
      | none => rfl
      | some o => have := O.kept _ _ q; rw [hC] at this; exact nomatch this
    refine wpAny_assign_Name (OK.storeLoc (l := .own d) O₁ hx ⟨Dd, rfl, O.fresh st ho w hSD hD⟩ fun h' t adr' O' hk ha hv _ => ?_)
    have hv := hv rfl
    refine ⟨mm, hm.at' (fun o e => hk _ _ hCm e), fun h'' hs => wpAny_pure (wpAny_pure ?_)⟩
    refine ⟨S', adr', (x, .own d) :: ρ, .next, O.gro st, O'.touch (t := t) hs hSC hCk hCm (fun p hp q => ?_) nt fun y l e => .inl ⟨e, fun d' hl q => ?_⟩, trivial, hq⟩
    · obtain ⟨_, v, o, ho, _⟩ := O.cells p hp
      rw [q, hC] at ho; exact nomatch ho
    · subst hl
      by_cases qy : y = x
      · subst qy
        rw [q] at hv
        injection hv with hv
        exact hne hv.symm
      · rw [lookup_cons_ne qy] at e
        rw [ha y qy] at q
        obtain ⟨_, ⟨o, ho, _⟩, _⟩ := O.vars y _ e
        rw [q, hC] at ho; exact nomatch ho
theorem inner_not {scope : Scope} {x y : Str} {l : Loc} (hx : scope.names.lookup x ≠ some .free) (h : (ρ.inner scope).lookup y = some l) : y ≠ x := fun e => by
  obtain ⟨_, h, _⟩ := lookup_inner h
  exact hx (e ▸ h)
theorem CompRuns.list {α : Type} {scope : Scope} {elt tgt iter : Expr} {ifs : List Expr} {pos : Pos} (as : List α) (φ : α → D) (ρ' : α → LEnv) (p : α → Bool) (f : α → D)
    (hsrc : Src G A act ρ tgt iter (as.map φ)) (hlen : as.length ≤ sizeLine)
    (turn : ∀ (act' : Act (relS scope sc) (cellNames scope.names)) a, a ∈ as → Takes G A act' tgt (φ a) (ρ.inner scope) (ρ' a) ∧ (∀ y l, (ρ.inner scope).lookup y = some l → (ρ' a).lookup y = some l) ∧
      Tests G A act' (ρ' a) ifs (p a) ∧ (p a = true → Ev G A act' (ρ' a) elt (f a)))
    (hfit : compFit scope sc = true) (hs : ∀ x, foldedSetIterable iter act.env x = pure x) :
    CompRuns G A act ρ (fun use => comprehension (.ListComp elt [⟨tgt, iter, ifs, 0⟩] scope pos) scope act.env iter.pos (newList []) false (eval iter act.env) use) (.list ((as.filter p).map f)) := fun kp adr S s use Q O hQ => by
  refine comp_core (o₀ := { cls := .type "list", data := .seq #[] }) (d₀ := .list []) (tail := fun env acc => listTail elt env acc) (p := iter.pos) (gs := []) hfit rfl hs (fun s Q h => wpAny_newList h) (fun S => .list (vs := []) .nil) rfl
    (fun it acc env R s h0 h => codeAny_compStart_list h0 h) (fun _ _ _ => rfl) (fun it Dd env Q E s h => list_den Q E s h) hsrc
    (fun xs d => ∃ done rest, as = done ++ rest ∧ xs = rest.map φ ∧ d = .list ((done.filter p).map f)) ⟨[], as, rfl, rfl, rfl⟩ ?_ O ?_
  · rintro act' x xs d ⟨done, rest, e, hx, rfl⟩
    cases rest with
    | nil => simp at hx
    | cons a rest =>
      simp only [List.map_cons, List.cons.injEq] at hx
      obtain ⟨rfl, rfl⟩ := hx
      (refine cps fun ZP zk => ?_; obtain ⟨t1, t2, t3, t4⟩ := turn act' a (by rw [e]; simp); refine zk ?_)
      have hle : ((done.filter p).map f).length ≤ sizeLine := by
        rw [List.length_map]
        refine Nat.le_trans (List.length_filter_le _ _) (Nat.le_trans ?_ hlen)
        rw [e, List.length_append]; exact Nat.le_add_right _ _
      cases hp : p a with
      | true =>
        rw [hp] at t3
        refine ⟨ρ' a, true, _, t1, t2, t3, fun _ => App.list (t4 hp) hle, (fun e => nomatch e), done ++ [a], rest, by rw [e]; simp, rfl, by simp [List.filter_append, hp]⟩
      | false =>
        rw [hp] at t3
        exact ⟨ρ' a, false, _, t1, t2, t3, (fun e => nomatch e), fun _ => rfl, done ++ [a], rest, by rw [e]; simp, rfl, by simp [List.filter_append, hp]⟩
  · rintro S' s' C Dd d' ⟨done, rest, e, hx, rfl⟩ st hD ho hS hm hC hSC nt hne
    have : rest = [] := by simpa using hx.symm
    subst this
    rw [List.append_nil] at e
    subst e
    exact hQ S' s' C Dd st hD ho hS hm hC hSC nt hne
theorem dmk_snoc (l : List (Ky × D)) (k : Ky) (d : D) : dmk (l ++ [(k, d)]) = dput (dmk l).1 (dmk l).2 k d := by
  unfold dmk; rw [List.foldl_append]; rfl
theorem dmk_len (l : List (Ky × D)) : (dmk l).1.length ≤ l.length := by
  have : ∀ (l : List (Ky × D)) q, (l.foldl (fun q kd => dput q.1 q.2 kd.1 kd.2) q).1.length ≤ q.1.length + l.length := by
    intro l
    induction l with
    | nil => intro q; exact Nat.le_refl _
    | cons x l ih =>
      intro q
      refine Nat.le_trans (ih _) ?_
      have : (dput q.1 q.2 x.1 x.2).1.length ≤ q.1.length + 1 := by
        unfold dput; split
        · exact Nat.le_succ _
        · simp
      simp only [List.length_cons]; lia
  simpa [dmk] using this l ([], [])
theorem CompRuns.dict {α : Type} {scope : Scope} {kx vx tgt iter : Expr} {ifs : List Expr} {pos : Pos} (as : List α) (φ : α → D) (ρ' : α → LEnv) (p : α → Bool) (kf : α → Ky) (f : α → D)
    (hsrc : Src G A act ρ tgt iter (as.map φ)) (hlen : as.length ≤ sizeLine)
    (turn : ∀ (act' : Act (relS scope sc) (cellNames scope.names)) a, a ∈ as → Takes G A act' tgt (φ a) (ρ.inner scope) (ρ' a) ∧ (∀ y l, (ρ.inner scope).lookup y = some l → (ρ' a).lookup y = some l) ∧
      Tests G A act' (ρ' a) ifs (p a) ∧ (p a = true → Ev G A act' (ρ' a) kx (kf a).d ∧ Ev G A act' (ρ' a) vx (f a)))
    (hfit : compFit scope sc = true) (hs : ∀ x, foldedSetIterable iter act.env x = pure x) :
    CompRuns G A act ρ (fun use => comprehension (.DictComp kx vx [⟨tgt, iter, ifs, 0⟩] scope pos) scope act.env iter.pos newDict false (eval iter act.env) use)
      (.dict (dmk ((as.filter p).map fun a => (kf a, f a))).1 (dmk ((as.filter p).map fun a => (kf a, f a))).2) := fun kp adr S s use Q O hQ => by
  refine comp_core (o₀ := { cls := .type "dict", data := .dict #[] }) (d₀ := .dict [] []) (tail := fun env acc => dictTail kx vx env acc) (p := iter.pos) (gs := []) hfit rfl hs (fun s Q h => wpAny_newObj_type (T := "dict") (data := .dict #[]) h (Nat.zero_le _)) (fun S => .dict (kvs := []) (by intro e he; simp at he) .nil rfl .nil .nil) rfl
    (fun it acc env R s h0 h => codeAny_compStart_dict h0 h) (fun _ _ _ => rfl) (fun it Dd env Q E s h => dict_den Q E s h) hsrc
    (fun xs d => ∃ done rest, as = done ++ rest ∧ xs = rest.map φ ∧ d = .dict (dmk ((done.filter p).map fun a => (kf a, f a))).1 (dmk ((done.filter p).map fun a => (kf a, f a))).2) ⟨[], as, rfl, rfl, rfl⟩ ?_ O ?_
  · rintro act' x xs d ⟨done, rest, e, hx, rfl⟩
    cases rest with
    | nil => simp at hx
    | cons a rest =>
      simp only [List.map_cons, List.cons.injEq] at hx
      obtain ⟨rfl, rfl⟩ := hx
      (refine cps fun ZP zk => ?_; obtain ⟨t1, t2, t3, t4⟩ := turn act' a (by rw [e]; simp); refine zk ?_)
      have hle : (dmk ((done.filter p).map fun a => (kf a, f a))).1.length ≤ sizeLine := by
        refine Nat.le_trans (dmk_len _) ?_
        rw [List.length_map]
        refine Nat.le_trans (List.length_filter_le _ _) (Nat.le_trans ?_ hlen)
        rw [e, List.length_append]; exact Nat.le_add_right _ _
      cases hp : p a with
      | true =>
        rw [hp] at t3
        refine ⟨ρ' a, true, _, t1, t2, t3, fun _ => App.dict (t4 hp).1 (t4 hp).2 hle, (fun e => nomatch e), done ++ [a], rest, by rw [e]; simp, rfl, ?_⟩
        rw [List.filter_append, List.map_append, show ([a].filter p) = [a] by simp [hp]]
        show _ = D.dict (dmk (_ ++ [(kf a, f a)])).1 (dmk (_ ++ [(kf a, f a)])).2
        rw [dmk_snoc]
      | false =>
        rw [hp] at t3
        exact ⟨ρ' a, false, _, t1, t2, t3, (fun e => nomatch e), fun _ => rfl, done ++ [a], rest, by rw [e]; simp, rfl, by simp [List.filter_append, hp]⟩
  · rintro S' s' C Dd d' ⟨done, rest, e, hx, rfl⟩ st hD ho hS hm hC hSC nt hne
    have : rest = [] := by simpa using hx.symm
    subst this
    rw [List.append_nil] at e
    subst e
    exact hQ S' s' C Dd st hD ho hS hm hC hSC nt hne
end
end Mine
end

section
namespace Mine
variable {sc : Scope} {mc : List Str}
open PySem PySem.Calls PyProof.Rows
section
variable {G : Gl} {A : Around} {S S' : Fz} {s s' : Shared} {a b : Int} {x y : Str} {n : Nat} {d e : D}
theorem Is.int' {v : Value} {i : Int} (h : Is G S v (.int i)) : ∃ t, v = .int i t := h.intI
theorem Is.str' {v : Value} {x : Str} (h : Is G S v (.str x)) : ∃ t, v = .str x t := h.strI
theorem Inv.sk (I : Inv G S s) {P : Fz → Value → Prop} {v : Value} {t : Nat} (h : P S v) : Post G S s P v { s with toks := t } := ⟨S, I.toks t, h⟩
theorem Op2.add : Op2 G A (binaryOp .Add) (.int a) (.int b) (.int (a + b)) := fun S s va vb I ha hb => by
  obtain ⟨ta, rfl⟩ := ha.intI; obtain ⟨tb, rfl⟩ := hb.intI; exact add_int (I.sk (.int ..))
theorem Op2.sub : Op2 G A (binaryOp .Sub) (.int a) (.int b) (.int (a - b)) := fun S s va vb I ha hb => by
  obtain ⟨ta, rfl⟩ := ha.intI; obtain ⟨tb, rfl⟩ := hb.intI; exact PyProof.Rows.sub_int (I.sk (.int ..))
theorem Op2.mul (hm : IntMulOk a b) : Op2 G A (binaryOp .Mult) (.int a) (.int b) (.int (a * b)) := fun S s va vb I ha hb => by
  obtain ⟨ta, rfl⟩ := ha.intI; obtain ⟨tb, rfl⟩ := hb.intI; exact PyProof.Rows.mul_int (I.sk (.int ..)) hm
theorem Op2.fdiv (h0 : 0 < b) (hb : b < 1073741824) : Op2 G A (binaryOp .FloorDiv) (.int a) (.int b) (.int (a / b)) := fun S s va vb I ha hb' => by
  obtain ⟨ta, rfl⟩ := ha.intI; obtain ⟨tb, rfl⟩ := hb'.intI
  rw [← Int.fdiv_eq_ediv_of_nonneg a (Int.le_of_lt h0)]
  exact PyProof.Rows.floordiv_int (fun e => by rw [e] at h0; exact absurd h0 (by decide)) (I.sk (.int ..)) (.inl (PyProof.noPylong_small (by omega)))
theorem Op2.mod (h0 : 0 < b) : Op2 G A (binaryOp .Mod) (.int a) (.int b) (.int (a % b)) := fun S s va vb I ha hb' => by
  obtain ⟨ta, rfl⟩ := ha.intI; obtain ⟨tb, rfl⟩ := hb'.intI
  rw [← Int.fmod_eq_emod_of_nonneg a (Int.le_of_lt h0)]
  exact PyProof.Rows.mod_int' (fun e => by rw [e] at h0; exact absurd h0 (by decide)) (I.sk (.int ..))
theorem Op2.iadd : Op2 G A (inplaceOp .Add) (.int a) (.int b) (.int (a + b)) := fun S s va vb I ha hb => by
  obtain ⟨ta, rfl⟩ := ha.intI; obtain ⟨tb, rfl⟩ := hb.intI; exact iadd_int (I.sk (.int ..))
theorem Op2.isub : Op2 G A (inplaceOp .Sub) (.int a) (.int b) (.int (a - b)) := fun S s va vb I ha hb => by
  obtain ⟨ta, rfl⟩ := ha.intI; obtain ⟨tb, rfl⟩ := hb.intI; exact isub_int (I.sk (.int ..))
theorem mulOk_left (h1 : -18446744073709551616 < a) (h2 : a < 18446744073709551616) : IntMulOk a b := IntMulOk.of_left (intBits_le_64 h1 h2)
theorem mulOk_right (h1 : -18446744073709551616 < b) (h2 : b < 18446744073709551616) : IntMulOk a b := IntMulOk.of_right (intBits_le_64 h1 h2)
theorem Cmp.lt : Cmp G A .Lt (.int a) (.int b) (decide (a < b)) := fun S s va vb I ha hb => by
  obtain ⟨ta, rfl⟩ := ha.intI; obtain ⟨tb, rfl⟩ := hb.intI; exact lt_int ⟨S, .refl I, rfl⟩
theorem Cmp.gt : Cmp G A .Gt (.int a) (.int b) (decide (b < a)) := fun S s va vb I ha hb => by
  obtain ⟨ta, rfl⟩ := ha.intI; obtain ⟨tb, rfl⟩ := hb.intI; exact gt_int ⟨S, .refl I, rfl⟩
theorem Cmp.le : Cmp G A .LtE (.int a) (.int b) (decide (a ≤ b)) := fun S s va vb I ha hb => by
  obtain ⟨ta, rfl⟩ := ha.intI; obtain ⟨tb, rfl⟩ := hb.intI; exact le_int ⟨S, .refl I, rfl⟩
theorem Cmp.ge : Cmp G A .GtE (.int a) (.int b) (decide (b ≤ a)) := fun S s va vb I ha hb => by
  obtain ⟨ta, rfl⟩ := ha.intI; obtain ⟨tb, rfl⟩ := hb.intI; exact ge_int ⟨S, .refl I, rfl⟩
theorem Cmp.eqI : Cmp G A .Eq (.int a) (.int b) (a == b) := fun S s va vb I ha hb => by
  obtain ⟨ta, rfl⟩ := ha.intI; obtain ⟨tb, rfl⟩ := hb.intI; exact eq_int ⟨S, .refl I, rfl⟩
theorem Cmp.neI : Cmp G A .NotEq (.int a) (.int b) (a != b) := fun S s va vb I ha hb => by
  obtain ⟨ta, rfl⟩ := ha.intI; obtain ⟨tb, rfl⟩ := hb.intI; exact ne_int ⟨S, .refl I, rfl⟩
theorem Cmp.ltS : Cmp G A .Lt (.str x) (.str y) (decide (x.cps.toList < y.cps.toList)) := fun S s va vb I ha hb => by
  obtain ⟨ta, rfl⟩ := ha.strI; obtain ⟨tb, rfl⟩ := hb.strI; exact PyProof.Rows.lt_str ⟨S, .refl I, rfl⟩
theorem Cmp.eqS (hA : Room n A) : Cmp G A .Eq (.str x) (.str y) (x == y) := Cmp.eq hA rfl
theorem Cmp.notInS : Cmp G A .NotIn (.str y) (.str x) (!Txt.contains x y) := fun S s va vb I ha hb => by
  obtain ⟨ta, rfl⟩ := ha.strI; obtain ⟨tb, rfl⟩ := hb.strI; exact SB.notContains ⟨S, .refl I, rfl⟩
noncomputable def D.isNone : D → Bool
  | .none => true
  | .raw v => v == .none
  | .at v _ => v == .none
  | _ => false
theorem Is.noneEq {v : Value} (h : Is G S v d) : (v == .none) = d.isNone := by
  cases d with
  | none => rw [h.noneI]; rfl
  | bool => rw [h.boolI]; rfl
  | int => obtain ⟨t, rfl⟩ := h.intI; rfl
  | str => obtain ⟨t, rfl⟩ := h.strI; rfl
  | raw u => rw [h.rawI]; rfl
  | «at» u d => rw [h.atI.1]; rfl
  | range => obtain ⟨_, _, _, _, rfl, _⟩ := h.rangeI; rfl
  | tuple => obtain ⟨_, _, _, _, rfl, _⟩ := h.tupleI; rfl
  | list => obtain ⟨_, _, _, _, rfl, _⟩ := h.listI; rfl
  | dict => obtain ⟨_, _, _, _, rfl, _⟩ := h.dictI; rfl
  | items => obtain ⟨_, _, rfl, _⟩ := h.itemsI; rfl
  | values => obtain ⟨_, _, rfl, _⟩ := h.valuesI; rfl
theorem Cmp.isNone : Cmp G A .Is d .none d.isNone := fun S s va vb I ha hb => by
  rw [hb.noneI]; exact is_none_gen ⟨S, .refl I, by rw [ha.noneEq]⟩
theorem Cmp.isBool {p q : Bool} : Cmp G A .Is (.bool p) (.bool q) (p == q) := fun S s va vb I ha hb => by
  rw [ha.boolI, hb.boolI]; cases p <;> cases q <;> exact wpAny_pure ⟨S, .refl I, rfl⟩
theorem Cmp.isNotBool {p q : Bool} : Cmp G A .IsNot (.bool p) (.bool q) (p != q) := fun S s va vb I ha hb => by
  rw [ha.boolI, hb.boolI]; cases p <;> cases q <;> exact wpAny_pure ⟨S, .refl I, rfl⟩
theorem Tru.bool {p : Bool} : Tru G A (.bool p) p := fun S s va I ha => by rw [ha.boolI]; exact wpAny_truthy_bool ⟨S, .refl I, rfl⟩
theorem Op2.addS (h : x.length + y.length ≤ sizeLine) : Op2 G A (binaryOp .Add) (.str x) (.str y) (.str (x ++ y)) := fun S s va vb I ha hb => by
  obtain ⟨ta, rfl⟩ := ha.strI; obtain ⟨tb, rfl⟩ := hb.strI; exact SB.add (fun t' k => I.sk (.str ..)) h
theorem Is.lst {v : Value} {ds : List D} (I : Inv G S s) (h : Is G S v (.list ds)) : ∃ a vs, v = .ref a ∧ s.heap.IsList a vs.toArray ∧ Alls G S vs ds := by
  exact let ⟨a, o, n, vs, e, h1, h2, h3, r⟩ := h.listI; ⟨a, vs, e, ⟨o, I.sub _ _ h1, h2, n, h3⟩, r⟩
noncomputable def PostO (G : Gl) (S : Fz) (s : Shared) (d : D) : Value → Shared → Prop := fun v s' => ∃ S' a o, Stp G S s S' s' ∧ v = .ref a ∧ s'.heap.get? a = some o ∧ Own G S' o d ∧ S' a = none ∧ s.heap.get? a = none
theorem PostO.pre {v : Value} (st : Stp G S s S' s') (h : PostO G S' s' d v s'') : PostO G S s d v s'' := by
  obtain ⟨S'', a, o, st', hv, ho, w, hS, hn⟩ := h
  refine ⟨S'', a, o, st.trans st', hv, ho, w, hS, ?_⟩
  cases q : s.heap.get? a with
  | none => rfl
  | some o' => rw [st.keep _ _ (st.inv.noTabFresh hn) q] at hn; exact nomatch hn
theorem PostO.push (I : Inv G S s) {o : Obj} {d : D} (w : Own G S o d) (hf : o.isFreed = false) {t : Nat} : PostO G S s d (.ref s.heap.objs.size) { s with heap := s.heap.push o, toks := t } := by
  (refine cps fun ZP zk => ?_; obtain ⟨S', a, o', st, e, ho, w', hS, hn⟩ := I.pushO w hf (t := t); refine zk ?_)
  exact ⟨S', a, o', st, e, ho, w', hS, hn⟩
noncomputable def Op2O (G : Gl) (A : Around) (m : Value → Value → Sem Value) (a b c : D) : Prop := ∀ S s va vb, Inv G S s → Is G S va a → Is G S vb b → wpAny G.M A (m va vb) (PostO G S s c) No s
theorem EvO.bin {act : Act sc mc} {ρ : LEnv} {l r : Expr} {pos : Pos} {d₁ d₂ : D} {op : Operator} (hl : Ev G A act ρ l d₁) (hr : Ev G A act ρ r d₂) (ho : Op2O G A (binaryOp op) d₁ d₂ d) : EvO G A act ρ (.BinOp l op r pos) d := fun kp adr S s O =>
  wpAny_BinOp (wp_seq (hl kp adr S s O) fun S₁ va s₁ st₁ ia => wp_seq (hr kp adr S₁ s₁ (O.step st₁)) fun S₂ vb s₂ st₂ ib =>
    wpAny_mono (ho S₂ s₂ va vb st₂.inv (ia.mono st₂.sub) ib) (fun _ _ h => h.pre (st₁.trans st₂)) fun _ _ e => e)
theorem Op2O.addL {ds es : List D} (h : ds.length + es.length ≤ sizeLine) : Op2O G A (binaryOp .Add) (.list ds) (.list es) (.list (ds ++ es)) := fun S s va vb I ha hb => by
  obtain ⟨l, vs, rfl, hl, r⟩ := ha.lst I
  obtain ⟨b, ws, rfl, hb, r'⟩ := hb.lst I
  (refine cps fun ZP zk => ?_; obtain ⟨⟨cls, dd, data, sl⟩, ho, hc, n, hd⟩ := id hl; refine zk ?_)
  (refine cps fun ZP zk => ?_; obtain ⟨⟨cls2, dd2, data2, sl2⟩, ho2, hc2, n2, hd2⟩ := id hb; refine zk ?_)
  simp only at hc hd hc2 hd2
  subst hc hd hc2 hd2
  have e : vs.toArray ++ ws.toArray = (vs ++ ws).toArray := by simp
  refine concat_meets ⟨_, ho, rfl⟩ ⟨_, ho2, rfl⟩ noFill_list_add seq_list_add PySem.F.slot_list_add PySem.F.entry_list_add (PySem.F.args_list_add_2 _ _)
    (PyProof.Rows.list_addW l b vs.toArray ws.toArray n n2 dd dd2 sl sl2 (by rw [List.size_toArray, List.size_toArray, r.length, r'.length]; exact h)) ⟨ho, ho2, ?_⟩
  rw [e]
  exact PostO.push I (.list (vs := vs ++ ws) (r.append r')) rfl
end
end Mine
end

section
namespace Mine
variable {sc : Scope} {mc : List Str}
open PySem PySem.Calls PyProof.Rows PySem.SeqAt
noncomputable def lslice {α : Type} (xs : List α) (lo hi st : Option Int) : List α := (sliceRange (sliceBounds lo hi st xs.length).1 (sliceBounds lo hi st xs.length).2.1 (sliceBounds lo hi st xs.length).2.2).filterMap (xs[·]?)
section
variable {G : Gl} {A : Around} {act : Act sc mc} {ρ : LEnv} {S S' : Fz} {s s' : Shared} {x y : Str} {n : Nat} {d e : D} {ds : List D}
theorem Alls.at : ∀ {vs : List Value} {ds : List D}, Alls G S vs ds → ∀ i : Nat, (vs[i]? = none ∧ ds[i]? = none) ∨ ∃ v d, vs[i]? = some v ∧ ds[i]? = some d ∧ Is G S v d
  | _, _, .nil, i => .inl ⟨rfl, rfl⟩
  | _, _, .cons h _, 0 => .inr ⟨_, _, rfl, rfl, h⟩
  | _, _, .cons _ r, i + 1 => by simpa using r.at i
theorem Alls.pick {vs : List Value} {ds : List D} (h : Alls G S vs ds) : ∀ is : List Nat, Alls G S (is.filterMap (vs[·]?)) (is.filterMap (ds[·]?))
  | [] => .nil
  | i :: is => by
    rcases h.at i with ⟨h1, h2⟩ | ⟨v, d, h1, h2, hi⟩
    · simp only [List.filterMap_cons, h1, h2]; exact h.pick is
    · simp only [List.filterMap_cons, h1, h2]; exact .cons hi (h.pick is)
theorem slicePick_l {vs : List Value} {lo hi st : Option Int} : slicePick vs.toArray lo hi st = (lslice vs lo hi st).toArray := by
  unfold slicePick lslice
  simp
theorem Alls.slice {vs : List Value} {ds : List D} {lo hi st : Option Int} (h : Alls G S vs ds) : Alls G S (lslice vs lo hi st) (lslice ds lo hi st) := by
  unfold lslice
  rw [h.length]
  exact h.pick _

/-! membership -/
theorem any_by : ∀ {vs : List Value} {ds : List D}, Alls G S vs ds → ∀ {e : Value → Bool} {f : D → Bool}, (∀ v d, v ∈ vs → d ∈ ds → Is G S v d → e v = f d) → vs.any e = ds.any f
  | _, _, .nil, _, _, _ => rfl
  | _, _, .cons i r, _, _, he => by
    rw [List.any_cons, List.any_cons, he _ _ (.head _) (.head _) i, any_by r fun v d hv hd => he v d (.tail _ hv) (.tail _ hd)]
theorem Alls.mem_of : ∀ {vs : List Value} {ds : List D}, Alls G S vs ds → ∀ {v : Value}, v ∈ vs → ∃ d ∈ ds, Is G S v d
  | _, _, .nil, _, hv => nomatch hv
  | _, _, .cons i r, _, hv => by
    rcases List.mem_cons.mp hv with rfl | hv
    · exact ⟨_, .head _, i⟩
    · obtain ⟨d, hd, i⟩ := r.mem_of hv; exact ⟨d, .tail _ hd, i⟩
open Classical in
theorem inAt (I : Inv G S s) (hu : A.units + 8 < cLine) {vs : List Value} {va : Value} {f : D → Bool} (r : Alls G S vs ds) (ha : Is G S va d) (hdef : ∀ a ∈ ds, ∀ b ∈ ds, ∃ r, deq 8 a b = some r) (hf : ∀ b ∈ ds, deq 8 b d = some (f b)) :
    ∃ e : Value → Bool, (∀ y ∈ vs, EqAt A s y va (e y)) ∧ vs.any e = ds.any f := by
  have key : ∀ v d', v ∈ vs → d' ∈ ds → Is G S v d' → decide (∃ b ∈ ds, Is G S v b ∧ f b = true) = f d' := fun v d' hv hd hi => by
    rw [Bool.eq_iff_iff, decide_eq_true_eq]
    constructor
    · rintro ⟨b, hb, ib, fb⟩
      obtain ⟨r, hr⟩ := hdef b hb d' hd
      rw [← Is.det 8 v b d' r ib hi hr]; exact fb
    · intro h; exact ⟨d', hd, hi, h⟩
  refine ⟨fun v => decide (∃ b ∈ ds, Is G S v b ∧ f b = true), fun y hy => ?_, any_by r key⟩
  obtain ⟨b, hb, ib⟩ := r.mem_of hy
  show EqAt A s y va (decide _)
  rw [key y b hy hb ib]
  exact eqAt I 8 A y va b d (f b) hu ib ha (hf b hb)
theorem Cmp.inL (hA : Room n A) {f : D → Bool} (hdef : ∀ a ∈ ds, ∀ b ∈ ds, ∃ r, deq 8 a b = some r) (hf : ∀ b ∈ ds, deq 8 b d = some (f b)) : Cmp G A .In d (.list ds) (ds.any f) := fun S s va vb I ha hb => by
  obtain ⟨l, vs, rfl, hl, r⟩ := hb.lst I
  obtain ⟨e, he, hany⟩ := inAt I hA.u8' r ha hdef hf
  exact in_listAt e hl (fun y hy => he y (by simpa using hy)) ⟨S, .refl I, by rw [← Array.any_toList, show vs.toArray.toList = vs from rfl, hany]⟩
theorem Cmp.notInL (hA : Room n A) {f : D → Bool} (hdef : ∀ a ∈ ds, ∀ b ∈ ds, ∃ r, deq 8 a b = some r) (hf : ∀ b ∈ ds, deq 8 b d = some (f b)) : Cmp G A .NotIn d (.list ds) (!ds.any f) := fun S s va vb I ha hb => by
  obtain ⟨l, vs, rfl, hl, r⟩ := hb.lst I
  obtain ⟨e, he, hany⟩ := inAt I hA.u8' r ha hdef hf
  exact notIn_listAt e hl (fun y hy => he y (by simpa using hy)) ⟨S, .refl I, by rw [← Array.any_toList, show vs.toArray.toList = vs from rfl, hany]⟩
theorem any_str (k : Str) (ns : List Str) : (ns.map D.str).any (fun b => match b with | .str i => i == k | _ => false) = decide (k ∈ ns) := by
  induction ns with
  | nil => rfl
  | cons m ns ih =>
    simp only [List.map_cons, List.any_cons, ih, List.mem_cons, Bool.decide_or]
    congr 1
    by_cases h : m = k
    · subst h; simp
    · rw [beq_eq_false_iff_ne.mpr h, decide_eq_false (Ne.symm h)]
theorem Cmp.inStrs (hA : Room n A) {k : Str} {ns : List Str} : Cmp G A .In (.str k) (.list (ns.map .str)) (decide (k ∈ ns)) := by
  rw [← any_str]
  refine Cmp.inL hA (fun a ha b hb => ?_) fun b hb => ?_
  · obtain ⟨i, _, rfl⟩ := List.mem_map.mp ha; obtain ⟨j, _, rfl⟩ := List.mem_map.mp hb; exact ⟨_, rfl⟩
  · obtain ⟨i, _, rfl⟩ := List.mem_map.mp hb; rfl
theorem Cmp.notInStrs (hA : Room n A) {k : Str} {ns : List Str} : Cmp G A .NotIn (.str k) (.list (ns.map .str)) (!decide (k ∈ ns)) := by
  rw [← any_str]
  refine Cmp.notInL hA (fun a ha b hb => ?_) fun b hb => ?_
  · obtain ⟨i, _, rfl⟩ := List.mem_map.mp ha; obtain ⟨j, _, rfl⟩ := List.mem_map.mp hb; exact ⟨_, rfl⟩
  · obtain ⟨i, _, rfl⟩ := List.mem_map.mp hb; rfl
theorem dict_of {ks : List Ky} {v : Value} (I : Inv G S s) (h : Is G S v (.dict ks ds)) : ∃ a kvs, v = .ref a ∧ s.heap.DictOf G.knd a kvs ∧ ks = kvs.map (·.1) ∧ Alls G S (kvs.map (·.2)) ds ∧ (a == sysModules) = false := by
  exact let ⟨a, es, ep, kvs, e, h1, h2, h3, h4, h5, r, h6⟩ := h.dictI; ⟨a, kvs, e, dictOf_of I h1 h2 h3 (h4 ▸ h5), h4, r, h6⟩
theorem valueAt_mem {kvs : List (Ky × Value)} {k : Ky} : (valueAt kvs k).isSome = decide (k ∈ kvs.map (·.1)) := by
  unfold valueAt
  rw [Bool.eq_iff_iff]
  simp [List.find?_isSome]
end
end Mine
end

section
namespace Mine
variable {sc : Scope} {mc : List Str}
open PySem PySem.Calls PyProof.Rows PySem.SeqAt
theorem subscripted_ops (slice : Expr) (o i : Value) : ∃ ops, subscripted slice false o i = operate ops (getItem o i) := by
  cases slice with
  | Slice a b c d => cases c <;> exact ⟨_, rfl⟩
  | _ => exact ⟨_, rfl⟩
section
variable {G : Gl} {A : Around} {act : Act sc mc} {kp : Kept} {adr : Str → Addr} {ρ : LEnv} {S S' : Fz} {s s' : Shared} {x y : Str} {n : Nat} {d e : D} {ds : List D} {value slice : Expr} {pos : Pos}
theorem sub_tail {o i : Value} {T id : String} {Q : Value → Shared → Prop} {E : Value → Shared → Prop} (hT : s.TypeIs o T) (hl : typeLookup (.type T) "__getitem__" = pure (some (.builtin id))) (h : wpAny G.M A (getItem o i) Q E s) :
    wpAny G.M A (subscriptTail value slice o i) Q E s := by
  unfold subscriptTail
  refine wpAny_bind ?_
  rw [getitemInPython_of_ne hT.not_modules]
  refine wpAny_bind (wpAny_specialOf hT hl ?_)
  have fin : wpAny G.M A (subscripted slice false o i) (fun r s₃ => wpAny G.M A (letTemporaryGo value o r >>= fun _ => pure r) Q E s₃) E s := by
    obtain ⟨ops, hs⟩ := subscripted_ops slice o i
    rw [hs]
    exact wpAny_operating (wpAny_mono h (fun r s₃ h₃ => wpAny_bind (wpAny_letTemporaryGo (wpAny_pure h₃))) fun _ _ x => x)
  first
    | exact wpAny_pure (wpAny_bind fin)
    | exact wpAny_bind (wpAny_pure (wpAny_bind fin))
    | exact wpAny_bind fin
noncomputable def SubD (G : Gl) (A : Around) (a i c : D) : Prop := ∀ S s va vi, Inv G S s → Is G S va a → Is G S vi i → ∃ T id, s.TypeIs va T ∧ typeLookup (.type T) "__getitem__" = pure (some (.builtin id)) ∧ wpAny G.M A (getItem va vi) (Post G S s fun S' v => Is G S' v c) No s
theorem Ev.sub {a i : D} (hv : Ev G A act ρ value a) (hi : Ev G A act ρ slice i) (h : SubD G A a i d) : Ev G A act ρ (.Subscript value slice pos) d := fun kp adr S s O =>
  Subscript_ (wp_seq (hv kp adr S s O) fun S₁ va s₁ st₁ ia => wp_seq (hi kp adr S₁ s₁ (O.step st₁)) fun S₂ vi s₂ st₂ ii => by
    obtain ⟨T, id, hT, hl, hg⟩ := h S₂ s₂ va vi st₂.inv (ia.mono st₂.sub) ii
    exact sub_tail hT hl (wp_pre (st₁.trans st₂) hg))
theorem Alls.got {vs : List Value} (h : Alls G S vs ds) {i : Nat} (hd : ds[i]? = some d) : ∃ v, vs[i]? = some v ∧ Is G S v d := by
  rcases h.at i with ⟨_, h2⟩ | ⟨v, d', h1, h2, hi⟩
  · rw [h2] at hd; exact nomatch hd
  · rw [h2] at hd; obtain rfl := Option.some.inj hd; exact ⟨v, h1, hi⟩
theorem seqIdx {k : Int} {len : Nat} (h0 : 0 ≤ k) (h : k.toNat < len) : seqIndex? k len = some k.toNat := by
  unfold seqIndex?
  have h1 : ¬ (k < 0) := by lia
  have h2 : k < (len : Int) := by lia
  simp [h1, h2, h0]
theorem SubD.list {k : Int} (h0 : 0 ≤ k) (hf : k < 2 ^ 63) (hd : ds[k.toNat]? = some d) : SubD G A (.list ds) (.int k) d := fun S s va vi I ha hi => by
  obtain ⟨l, vs, rfl, hl, r⟩ := ha.lst I
  obtain ⟨ti, rfl⟩ := hi.intI
  obtain ⟨v, hv, i⟩ := r.got hd
  exact ⟨"list", _, hl.typeIs, slot_list_getitem.lookup, wpAny_getItem_list hl h0 hf (by simpa using hv) ⟨S, .refl I, i⟩⟩
theorem SubD.listN {k : Int} (h0 : k < 0) (hf : -(2 ^ 63) ≤ k) (h1 : -(ds.length : Int) ≤ k) (hd : ds[(k + ds.length).toNat]? = some d) : SubD G A (.list ds) (.int k) d := fun S s va vi I ha hi => by
  obtain ⟨l, vs, rfl, hl, r⟩ := ha.lst I
  obtain ⟨ti, rfl⟩ := hi.intI
  obtain ⟨v, hv, i⟩ := r.got hd
  have hle := r.length
  exact ⟨"list", _, hl.typeIs, slot_list_getitem.lookup, wpAny_getItem_list_neg hl h0 (by rw [List.size_toArray, hle]; exact h1) hf (by rw [List.size_toArray, hle]; simpa using hv) ⟨S, .refl I, i⟩⟩
theorem SubD.tuple {k : Int} (h0 : 0 ≤ k) (h1 : k < 1000) (hd : ds[k.toNat]? = some d) : SubD G A (.tuple ds) (.int k) d := fun S s va vi I ha hi => by
  (refine cps fun ZP zk => ?_; obtain ⟨a, o, m, vs, rfl, hS, hc, hda, r⟩ := ha.tupleI; refine zk ?_)
  obtain ⟨ti, rfl⟩ := hi.intI
  obtain ⟨v, hv, i⟩ := r.got hd
  have hlt : k.toNat < vs.length := by
    rw [List.getElem?_eq_some_iff] at hv; exact hv.1
  refine ⟨"tuple", _, ⟨o, I.sub _ _ hS, hc⟩, PySem.F.slot_tuple_getitem.lookup, ?_⟩
  exact PyProof.Rows.getItem_tuple (items := vs.toArray) (j := k.toNat) ⟨o, I.sub _ _ hS, hc, m, hda⟩ (by lia) (by lia) (by rw [List.size_toArray]; exact seqIdx h0 hlt) (by simpa using hv) ⟨S, .refl I, i⟩
theorem dfind_is {kvs : List (Ky × Value)} {ks : List Ky} {k : Ky} (e : ks = kvs.map (·.1)) (r : Alls G S (kvs.map (·.2)) ds) (hd : dfind k ks ds = some d) : ∃ v, valueAt kvs k = some v ∧ Is G S v d := by
  subst e
  rcases dfind_valueAt (k := k) r with ⟨h1, _⟩ | ⟨d', v, h1, h2, i⟩
  · rw [h1] at hd; exact nomatch hd
  · rw [h1] at hd; obtain rfl := Option.some.inj hd; exact ⟨v, h2, i⟩
theorem SubD.dict {ks : List Ky} {k : Ky} (hd : dfind k ks ds = some d) : SubD G A (.dict ks ds) k.d d := fun S s va vi I ha hi => by
  (refine cps fun ZP zk => ?_; obtain ⟨a, kvs, rfl, hm, e, r, hs⟩ := dict_of I ha; refine zk ?_)
  obtain ⟨v, hv, i⟩ := dfind_is e r hd
  exact ⟨"dict", _, hm.typeIs, slot_dict_getitem.lookup, wpAny_getItem_of (Ky.kindIs hi) hm.mapOf hv ⟨S, I.toks _, i⟩⟩
theorem SubD.str {k : Int} {c : Nat} (h0 : 0 ≤ k) (h1 : k < 2 ^ 63) (hc : x.cps[k.toNat]? = some c) : SubD G A (.str x) (.int k) (.str ⟨#[c]⟩) := fun S s va vi I ha hi => by
  obtain ⟨ta, rfl⟩ := ha.strI; obtain ⟨ti, rfl⟩ := hi.intI
  have hlt : k.toNat < x.length := by
    rw [Array.getElem?_eq_some_iff] at hc; exact hc.1
  refine ⟨"str", _, typeIs_str _ _ _, PySem.F.slot_str_getitem.lookup, ?_⟩
  refine PyProof.Rows.getItem_str (by simp; lia) ?_ ⟨S, I.toks _, .str ..⟩
  rw [seqIdx h0 hlt]; exact hc
theorem OK.nameOwn (O : OK G act kp adr ρ S s) {x : Str} {d : D} {pos : Pos} {Q : Value → Shared → Prop} {E : Value → Shared → Prop} (hx : ρ.lookup x = some (.own d))
    (h : Q (.ref (adr x)) s) (hd : (x == ("__debug__" : Str)) = false := by decide) (hn : (x == ("__classdict__" : Str)) = false := by decide) : wpAny G.M A (eval (.Name x pos) act.env) Q E s := by
  obtain ⟨r, _⟩ := O.vars x _ hx
  refine wpAny_Name ?_ hd
  rcases r with ⟨k, m, hm, e⟩ | ⟨k | k, c, hc, hv⟩
  · exact wpAny_loadName_local O.fn' k hm e h
  · exact wpAny_loadName_cell O.fn' k hc hv h
  · exact wpAny_loadName_free O.fn' k hc hv h hn
theorem OK.ownAt (O : OK G act kp adr ρ S s) {x : Str} {d : D} (hx : ρ.lookup x = some (.own d)) : ∃ o, s.heap.get? (adr x) = some o ∧ Own G S o d := (O.vars x _ hx).2.1
theorem OK.ownSys (O : OK G act kp adr ρ S s) {x : Str} {d : D} (hx : ρ.lookup x = some (.own d)) : (adr x == sysModules) = false := beq_eq_false_iff_ne.mpr fun e => by
  obtain ⟨_, _, hS, _⟩ := O.vars x _ hx
  obtain ⟨o, ho⟩ := G.sm
  rw [e, O.inv.base _ _ ho] at hS
  exact nomatch hS
theorem Ev.subOwn {ks : List Ky} {k : Ky} {nm : Str} {npos : Pos} (hx : ρ.lookup nm = some (.own (.dict ks ds))) (hi : Ev G A act ρ slice k.d) (hd : dfind k ks ds = some d)
    (h1 : (nm == ("__debug__" : Str)) = false := by decide) (h2 : (nm == ("__classdict__" : Str)) = false := by decide) : Ev G A act ρ (.Subscript (.Name nm npos) slice pos) d := fun kp adr S s O => by
  refine Subscript_ (O.nameOwn hx (wp_seq (hi kp adr S s O) fun S₂ vi s₂ st ii => ?_) h1 h2)
  have O₂ := O.step st
  obtain ⟨o, ho, w⟩ := O₂.ownAt hx
  obtain ⟨kvs, hm, e, r⟩ := Own.dictOf ho w
  obtain ⟨v, hv, i⟩ := dfind_is e r hd
  exact sub_tail hm.typeIs slot_dict_getitem.lookup (wpAny_getItem_of (Ky.kindIs ii) hm.mapOf hv ⟨S₂, st.trans (st.inv.toks _), i⟩)
theorem Te.inOwn {ks : List Ky} {k : Ky} {nm : Str} {npos : Pos} {l : Expr} (hx : ρ.lookup nm = some (.own (.dict ks ds))) (hi : Ev G A act ρ l k.d)
    (h1 : (nm == ("__debug__" : Str)) = false := by decide) (h2 : (nm == ("__classdict__" : Str)) = false := by decide) : Te G A act ρ (.Compare l [.In] [.Name nm npos] pos) (decide (k ∈ ks)) := fun kp adr S s O => by
  refine wpAny_isTrue_Compare1 (wp_seq (hi kp adr S s O) fun S₁ va s₁ st₁ ia => ?_) (by with_unfolding_all rfl)
  have O₁ := O.step st₁
  refine O₁.nameOwn hx ?_ h1 h2
  obtain ⟨o, ho, w⟩ := O₁.ownAt hx
  (refine cps fun ZP zk => ?_; obtain ⟨kvs, hm, e, r⟩ := Own.dictOf ho w; refine zk ?_)
  exact wpAny_in_of (Ky.kindIs ia) (O.ownSys hx) hm.mapOf (wpAny_truthy_bool ⟨S₁, st₁.trans (st₁.inv.toks _), by rw [valueAt_mem, e]⟩)

/-! slices -/
noncomputable def Bd (G : Gl) (A : Around) (act : Act sc mc) (ρ : LEnv) (oe : Option Expr) (k : Option Int) : Prop := ∀ kp adr S s, OK G act kp adr ρ S s → wpAny G.M A (evalPart oe act.env) (Post G S s fun _ v => IsPart v k) No s
theorem Bd.non : Bd G A act ρ Option.none Option.none := fun _ _ S s O => wpAny_pure ⟨S, .refl O.inv, .none⟩
theorem Bd.at {ex : Expr} {i : Int} (h : Ev G A act ρ ex (.int i)) : Bd G A act ρ (Option.some ex) (Option.some i) := fun kp adr S s O => wp_post (h kp adr S s O) fun _ _ _ i => by obtain ⟨t, rfl⟩ := i.intI; exact .int ..
theorem EvO.sliced {lo hi st : Option Expr} {a b c : Option Int} {p : Pos} (hv : Ev G A act ρ value (.list ds)) (hl : Bd G A act ρ lo a) (hh : Bd G A act ρ hi b) (hs : Bd G A act ρ st c) (hn : ds.length ≤ sizeLine) (h0 : c ≠ some 0) :
    EvO G A act ρ (.Subscript value (.Slice lo hi st p) pos) (.list (lslice ds a b c)) := fun kp adr S s O => by
  refine Subscript_ (wp_seq (hv kp adr S s O) fun S₁ va s₁ st₁ ia => wpAny_Slice (wp_seq (hl kp adr S₁ s₁ (O.step st₁)) fun S₂ vl s₂ st₂ il => wp_seq (hh kp adr S₂ s₂ ((O.step st₁).step st₂)) fun S₃ vh s₃ st₃ ih =>
    wp_seq (hs kp adr S₃ s₃ (((O.step st₁).step st₂).step st₃)) fun S₄ vc s₄ st₄ ic => ?_))
  have st' := st₂.trans (st₃.trans st₄)
  obtain ⟨l, vs, rfl, hL, r⟩ := (ia.mono st'.sub).lst st'.inv
  have st5 := st'.inv.keeps (h' := s₄.heap.push { cls := .type "slice", data := .fields #[vl, vh, vc] }) (t := s₄.toks) fun b o e => Heap.get?_push_of_some _ e
  refine sub_tail (Heap.IsList.typeIs (s := { s₄ with heap := s₄.heap.push { cls := .type "slice", data := .fields #[vl, vh, vc] } }) (hL.push _)) slot_list_getitem.lookup ?_
  refine wpAny_getItem_list_slice (hL.push _) (Heap.IsSliceOf.new ..) il ih ic h0 ?_ (by rw [List.size_toArray, r.length]; exact hn)
  rw [slicePick_l]
  exact (PostO.push st5.inv (.list r.slice) rfl).pre ((st₁.trans st').trans st5)
theorem isPart_val {v : Value} {k : Option Int} (h : IsPart v k) : ∃ l : Option (Int × Tok), l.map (·.1) = k ∧ v = partValue l := by
  cases h with
  | none => exact ⟨none, rfl, rfl⟩
  | int i t => exact ⟨some (i, t), rfl, rfl⟩
theorem Ev.sliceS {lo hi : Option Expr} {a b : Option Int} {p : Pos} (hv : Ev G A act ρ value (.str x)) (hl : Bd G A act ρ lo a) (hh : Bd G A act ρ hi b) (hn : x.length ≤ sizeLine) :
    Ev G A act ρ (.Subscript value (.Slice lo hi Option.none p) pos) (.str (Txt.slice x a b)) := fun kp adr S s O => by
  refine Subscript_ (wp_seq (hv kp adr S s O) fun S₁ va s₁ st₁ ia => wpAny_Slice (wp_seq (hl kp adr S₁ s₁ (O.step st₁)) fun S₂ vl s₂ st₂ il => wp_seq (hh kp adr S₂ s₂ ((O.step st₁).step st₂)) fun S₃ vh s₃ st₃ ih => ?_))
  rw [evalPart_none]
  refine wpAny_pure ?_
  have st' := st₁.trans (st₂.trans st₃)
  obtain ⟨t, rfl⟩ := ia.str'
  obtain ⟨l, rfl, rfl⟩ := isPart_val il
  obtain ⟨u, rfl, rfl⟩ := isPart_val ih
  have st5 := st'.inv.keeps (h' := s₃.heap.push { cls := .type "slice", data := .fields #[partValue l, partValue u, .none] }) (t := s₃.toks) fun b o e => Heap.get?_push_of_some _ e
  refine sub_tail (typeIs_str _ _ _) PySem.F.slot_str_getitem.lookup ?_
  refine wpAny_getItem_str_slice (l := l) (u := u) (st := Option.none) ⟨_, Heap.get?_push_size _ rfl, rfl, rfl⟩ rfl ?_
  exact post_val_or_str ⟨Nat.le_trans (Txt.slice_le x _ _) hn, fun t' k => ⟨S₃, (st'.trans st5).trans (st5.inv.toks k), .str ..⟩⟩
end
end Mine
end

section
namespace Mine
variable {sc : Scope} {mc : List Str}
open PySem PySem.Calls PyProof.Rows
noncomputable def NsObj (o : Obj) (m : Str → Option Value) : Prop := ∃ es ep, o.data = .dict es ep ∧ StrKeys es ∧ ∀ name, nsFind es name = m name
structure Names (G : Gl) (mg mb : Str → Option Value) : Prop where
  g : ∃ o, G.base mainGlobals = some o ∧ NsObj o mg
  b : ∃ o, G.base builtinsNs = some o ∧ NsObj o mb
  lim : ∃ o m, G.base cStatics = some o ∧ NsObj o m ∧ m "sys.recursionlimit" = none
theorem NsObj.ns {h : Heap} {a : Addr} {o : Obj} {m : Str → Option Value} (x : NsObj o m) (ho : h.get? a = some o) : h.Ns a m := let ⟨es, ep, h1, h2, h3⟩ := x; ⟨o, es, ep, ho, h1, h2, h3⟩
structure FnAt (G : Gl) (mg : Str → Option Value) (nm : Str) (params : Arguments) (body : List Stmt) (scope : Scope) (dflt kwd : Value) (f : Addr) : Prop where
  named : mg nm = some (.ref f)
  obj : ∃ o fd, G.base f = some o ∧ o.data = .func fd ∧ fd.params = params ∧ fd.body = .stmts body ∧ fd.scope = scope ∧ fd.globals = mainGlobals ∧ fd.builtins = builtinsNs ∧ fd.closure = [] ∧ fd.defaults = dflt ∧ fd.kwdefaults = kwd ∧
    ∃ c oc vs t, fd.code = .ref c ∧ G.base c = some oc ∧ oc.data = .fields vs ∧ vs[1]? = some (.str fd.qualname t)
section
theorem bindL_not {k : Str → Option NameKind} {x : Str} : ∀ {bs : List (Str × Value)} {m : Str → Option Value}, x ∉ bs.map (·.1) → PySem.bindL k bs m x = m x
  | [], m, _ => rfl
  | (n, v) :: r, m, h => by
    rw [PySem.bindL, bindL_not (fun q => h (.tail _ q))]
    have : x ≠ n := fun e => h (e ▸ .head _)
    split <;> simp [this]
theorem bindL_at {k : Str → Option NameKind} {x : Str} {v : Value} (hk : k x = some .local) : ∀ {bs : List (Str × Value)} {m : Str → Option Value}, (bs.map (·.1)).Nodup → (x, v) ∈ bs → PySem.bindL k bs m x = some v
  | [], m, _, h => nomatch h
  | (n, u) :: r, m, nd, h => by
    rw [List.map_cons, List.nodup_cons] at nd
    rw [PySem.bindL]
    rcases List.mem_cons.mp h with e | h
    · obtain ⟨rfl, rfl⟩ := Prod.mk.inj e
      rw [bindL_not nd.1, if_pos hk]; simp
    · exact bindL_at hk nd.2 h
theorem bindC_not {k : Str → Option NameKind} {x : Str} : ∀ {bs : List (Str × Value)} {m : Str → Option Value}, x ∉ bs.map (·.1) → PySem.bindC k bs m x = m x
  | [], m, _ => rfl
  | (n, v) :: r, m, h => by
    rw [PySem.bindC, bindC_not (fun q => h (.tail _ q))]
    have : x ≠ n := fun e => h (e ▸ .head _)
    split <;> simp [this]
theorem bindC_at {k : Str → Option NameKind} {x : Str} {v : Value} (hk : k x ≠ some .local) : ∀ {bs : List (Str × Value)} {m : Str → Option Value}, (bs.map (·.1)).Nodup → (x, v) ∈ bs → PySem.bindC k bs m x = some v
  | [], m, _, h => nomatch h
  | (n, u) :: r, m, nd, h => by
    rw [List.map_cons, List.nodup_cons] at nd
    rw [PySem.bindC]
    rcases List.mem_cons.mp h with e | h
    · obtain ⟨rfl, rfl⟩ := Prod.mk.inj e
      rw [bindC_not nd.1, if_neg hk]; simp
    · exact bindC_at hk nd.2 h
theorem cellsFrom_nodup : ∀ {l : List (Str × NameKind)} {n : Nat} {acc : List (Str × Addr)}, (l.map (·.1)).Nodup → (acc.map (·.1)).Nodup → (∀ x ∈ acc.map (·.1), x ∉ l.map (·.1)) → ((cellsFrom n l acc).map (·.1)).Nodup
  | [], n, acc, _, h, _ => h
  | (x, k) :: r, n, acc, nd, h, hd => by
    rw [List.map_cons, List.nodup_cons] at nd
    rw [cellsFrom]
    split
    · refine cellsFrom_nodup nd.2 ?_ fun y hy hr => ?_
      · rw [List.map_cons, List.nodup_cons]
        exact ⟨fun q => hd x q (.head _), h⟩
      · rcases List.mem_cons.mp hy with e | hy
        · have e : y = x := e
          subst e; exact nd.1 hr
        · exact hd y hy (.tail _ hr)
    · exact cellsFrom_nodup nd.2 h fun y hy hr => hd y hy (.tail _ hr)
end
open Classical in
noncomputable def kpBut (G : Gl) (s : Shared) (X : List Addr) : Kept := ⟨fun b => if NoTab G b ∧ b ∉ X then s.heap.get? b else none, fun g => s.gens[g]?⟩
noncomputable def entAct (fd : FuncData) (scope : Scope) (hs : fd.scope = scope) (L a : Addr) : Act scope (cellNames scope.names) where
  env := callEnvC fd L a
  hsc := hs
  mt := L :: (callEnvC fd L a).cells.map (·.2)
section
variable {G : Gl} {A : Around} {S : Fz} {s : Shared} {mg mb : Str → Option Value} {nm : Str} {params : Arguments} {body : List Stmt} {scope : Scope} {dflt kwd : Value} {f : Addr}
noncomputable def scopeFit (scope : Scope) : Bool := scope.kind == .function && !scope.isCoroutine && !scope.isGenerator && decide ((scope.names.map (·.1)).Nodup) && scope.names.all (fun x => x.2 != .free)
noncomputable def bindFit (scope : Scope) (xs : List Str) : Bool := decide xs.Nodup && xs.all fun x => scope.names.lookup x == some .local || scope.names.lookup x == some .cell
noncomputable def EntArg (G : Gl) (S : Fz) (s : Shared) (adr : Str → Addr) (X : List Addr) (b : Str × Value × Loc) : Prop := match b.2.2 with
  | .val d => Is G S b.2.1 d
  | .own d => b.2.1 = .ref (adr b.1) ∧ adr b.1 ∈ X ∧ ∃ o, s.heap.get? (adr b.1) = some o ∧ Own G S o d
set_option tactic.hygienic true in
theorem enterEnv (N : Names G mg mb) {fd : FuncData} (h3 : fd.scope = scope) (h4 : fd.globals = mainGlobals) (h5 : fd.builtins = builtinsNs) (h6 : fd.closure = [])
    (f1 : scope.kind = .function) (f4 : (scope.names.map (·.1)).Nodup) (f5 : ∀ x ∈ scope.names, x.2 ≠ .free) (bs : List (Str × Value × Loc)) {args : Args} (hb : bindFit scope (bs.map (·.1)) = true)
    (hbind : BindsTo s fd args (bs.map fun b => (b.1, b.2.1)))
    (I : Inv G S s) (X : List Addr) (adr : Str → Addr) (hX : ∀ a ∈ X, S a = none) (hargs : ∀ b ∈ bs, EntArg G S s adr X b) (hinj : ∀ x y dx dy, (bs.map fun b => (b.1, b.2.2)).lookup x = some (.own dx) → (bs.map fun b => (b.1, b.2.2)).lookup y = some (.own dy) → adr x = adr y → x = y)
    {P : Env → Shared → Prop} {E : Value → Shared → Prop}
    (h : ∀ (act : Act scope (cellNames scope.names)) s₀, OK G act (kpBut G s X) adr (bs.map fun b => (b.1, b.2.2)) S s₀ → (∀ b o, s.heap.get? b = some o → s₀.heap.get? b = some o) → s₀.gens = s.gens → (∀ a ∈ act.mt, s.heap.get? a = none) →
      act.mt = act.env.locals :: act.env.cells.map (·.2) → act.env.cells = cellsFrom (s.heap.objs.size + 1) scope.names [] ∧ act.env.frame = some act.env.locals ∧ act.env.code = fd.code ∧ act.env.qual = fd.qualname ++ ".<locals>." → P act.env s₀) :
    wpAny G.M A.in1 (bindArgs fd args) (fun binds s₁ => wpAny G.M A.in1 (newFunctionEnv fd.scope fd.globals fd.closure binds (fd.qualname ++ ".<locals>.") (some f) fd.code none fd.builtins) (fun env s₂ => s₂.heap.NoLimit ∧ P env s₂) E s₁) E s := by
  have up : ∀ {a o}, G.base a = some o → s.heap.get? a = some o := fun e => I.sub _ _ (I.base _ _ e)
  simp only [bindFit, Bool.and_eq_true, decide_eq_true_eq, List.all_eq_true, Bool.or_eq_true, beq_iff_eq] at hb
  obtain ⟨b1, b2⟩ := hb
  have hlim : s.heap.NoLimit := by obtain ⟨o, m, ho, hn, hm⟩ := N.lim; exact ⟨m, hn.ns (up ho), hm⟩
  rw [h6]
  refine hbind _ _ _ _ ?_
  have hkeys : (bs.map fun b => (b.1, b.2.1)).map (·.1) = bs.map (·.1) := by simp
  have cellsIs : (callEnvC fd s.heap.objs.size f).cells = cellsFrom (s.heap.objs.size + 1) scope.names [] := by show cellsFrom _ fd.scope.names [] = _; rw [h3]
  have nd : ((cellsFrom (s.heap.objs.size + 1) scope.names []).map (·.1)).Nodup := cellsFrom_nodup f4 (by simp) (by simp)
  refine wpAny_newFunctionEnv_cells (by rw [h3]; exact f1) (fun x hx => ?_) fun env he s' x => ?_
  · obtain ⟨b, hb, rfl⟩ := List.mem_map.mp hx
    rw [h3]
    rcases b2 b.1 (List.mem_map_of_mem hb) with q | q
    · exact .inl q
    · refine .inr ⟨q, ?_⟩
      obtain ⟨a, ha⟩ := lookup_some_of_mem (cellsFrom_has (n := s.heap.objs.size + 1) (l := scope.names) (acc := []) (x := b.1) (.inl (mem_cellNames.mpr (mem_of_lookup q))))
      rw [ha]; rfl
  have henv : env = (entAct fd scope h3 s.heap.objs.size f).env := he
  clear he
  subst henv
  generalize hact : entAct fd scope h3 s.heap.objs.size f = act at x ⊢
  refine ⟨hlim.keeps x.toInCall.keep, ?_⟩
  obtain ⟨hp, tk, hs', hkeep⟩ := x.done
  subst hs'
  have hL : act.env.locals = s.heap.objs.size := by rw [← hact]; rfl
  have hcs : act.env.cells = cellsFrom (s.heap.objs.size + 1) scope.names [] := by rw [← hact]; exact cellsIs
  have hmt : act.mt = s.heap.objs.size :: (cellsFrom (s.heap.objs.size + 1) scope.names []).map (·.2) := by rw [← hact, ← cellsIs]; rfl
  have st : Stp G S s S { s with heap := hp, toks := tk } := I.keeps hkeep
  have fresh : ∀ b, s.heap.objs.size ≤ b → s.heap.get? b = none := fun b hb => by
    cases q : s.heap.get? b with
    | none => rfl
    | some o => exact absurd (Heap.lt_size q) (Nat.not_lt.mpr hb)
  have mtN : ∀ b ∈ act.mt, s.heap.get? b = none := fun b hb => by
    rw [hmt] at hb
    rcases List.mem_cons.mp hb with rfl | hb
    · exact fresh _ (Nat.le_refl _)
    · obtain ⟨p, hp', rfl⟩ := List.mem_map.mp hb
      rcases cellsFrom_mem hp' with q | ⟨_, q⟩
      · exact nomatch q
      · exact fresh _ (Nat.le_of_succ_le q)
  have cellAt : ∀ p ∈ act.env.cells, ∃ v, hp.IsCell p.2 v := fun p hpm => ⟨_, x.cell p.1 p.2 (lookup_of_mem (by rw [hcs]; exact nd) hpm)⟩
  have freshS : ∀ b, s.heap.get? b = none → S b = none := fun b hb => by
    cases q : S b with
    | none => rfl
    | some o => have := I.sub _ _ q; rw [hb] at this; exact nomatch this
  have O : OK G act (kpBut G s X) adr (bs.map fun b => (b.1, b.2.2)) S { s with heap := hp, toks := tk } := {
    inv := st.inv
    kept := fun a o e => by
      unfold kpBut at e; simp only at e
      split at e
      · exact hkeep _ _ e
      · exact nomatch e
    knt := fun a o e => by
      unfold kpBut at e; simp only at e
      split at e
      · rename_i h; exact h.1
      · exact nomatch e
    kgens := fun g x e => e
    fn := f1
    glob := by rw [← hact]; exact h4
    blt := by rw [← hact]; exact h5
    ns := ⟨_, x.toInCall.ns⟩
    mtL := by rw [hL, hmt]; exact .head _
    mt := fun b hb => by
      have hn := mtN b hb
      refine ⟨freshS b hn, ?_, I.noTabFresh hn, ?_⟩
      · unfold kpBut; simp only; split
        · exact hn
        · rfl
      · rw [hmt] at hb
        rcases List.mem_cons.mp hb with e | hb
        · obtain ⟨o, _, _, ho, _⟩ := x.toInCall.ns; rw [hL] at ho; exact ⟨o, e ▸ ho⟩
        · obtain ⟨p, hp', rfl⟩ := List.mem_map.mp hb
          obtain ⟨v, o, ho, _⟩ := cellAt p (by rw [hcs]; exact hp')
          exact ⟨o, ho⟩
    mtc := fun y hy => by
      obtain ⟨c, hc⟩ := lookup_some_of_mem (cellsFrom_has (n := s.heap.objs.size + 1) (l := scope.names) (acc := []) (x := y) (.inl hy))
      exact ⟨c, by rw [hcs]; exact hc, by rw [hmt]; exact .tail _ (List.mem_map.mpr ⟨_, mem_of_lookup hc, rfl⟩)⟩
    apart := x.apart
    clo := fun y hy => by
      rw [hcs]
      rcases hy with q | q
      · exact lookup_some_of_mem (cellsFrom_has (.inl (mem_cellNames.mpr (mem_of_lookup q))))
      · exact absurd rfl (f5 _ (mem_of_lookup q))
    cells := fun p hpm => by
      refine ⟨?_, cellAt p hpm⟩
      refine I.noTabFresh (mtN _ ?_)
      rw [hmt]
      rw [hcs] at hpm
      exact .tail _ (List.mem_map.mpr ⟨p, hpm, rfl⟩)
    vars := fun y l e => by
      obtain ⟨b, hb, he⟩ := List.mem_map.mp (mem_of_lookup e)
      obtain ⟨n, v, l'⟩ := b
      obtain ⟨rfl, rfl⟩ := Prod.mk.inj he
      have rd : Reads act.env hp n v := by
        have hm : (n, v) ∈ bs.map fun b => (b.1, b.2.1) := List.mem_map.mpr ⟨_, hb, rfl⟩
        have ndb : ((bs.map fun b => (b.1, b.2.1)).map (·.1)).Nodup := by rw [hkeys]; exact b1
        have hkind : act.env.kindOf n = scope.names.lookup n := act.kindOf n
        rcases b2 n (List.mem_map_of_mem hb) with q | q
        · rw [q] at hkind
          exact .inl ⟨hkind, _, x.toInCall.ns, bindL_at hkind ndb hm⟩
        · rw [q] at hkind
          obtain ⟨c, hc⟩ := lookup_some_of_mem (cellsFrom_has (n := s.heap.objs.size + 1) (l := scope.names) (acc := []) (x := n) (.inl (mem_cellNames.mpr (mem_of_lookup q))))
          refine .inr ⟨.inl hkind, c, by rw [hcs]; exact hc, ?_⟩
          have := x.cell n c (by rw [hcs]; exact hc)
          rw [bindC_at (by rw [hkind]; decide) ndb hm] at this
          exact this
      have ha := hargs _ hb
      cases l' with
      | val d => exact ⟨v, rd, ha⟩
      | own d =>
        obtain ⟨e1, e2, o, ho, w⟩ := ha
        have e1 : v = .ref (adr n) := e1
        subst e1
        have ho : s.heap.get? (adr n) = some o := ho
        refine ⟨rd, ⟨o, hkeep _ _ ho, w⟩, hX _ e2, ?_, fun hm => ?_⟩
        · unfold kpBut; simp only
          rw [if_neg fun h => h.2 e2]
        · rw [mtN _ hm] at ho; exact nomatch ho
    inj := hinj }
  exact h act _ O hkeep rfl mtN (by rw [hmt, hL, hcs]) ⟨hcs, by rw [← hact]; rfl, by rw [← hact]; rfl, by rw [← hact]; rfl⟩
theorem enter (F : FnAt G mg nm params body scope dflt kwd f) (N : Names G mg mb) (hroom : A.depth < recursionLimit) (hfit : scopeFit scope = true) (bs : List (Str × Value × Loc)) {args : Args} (hb : bindFit scope (bs.map (·.1)) = true)
    (hbind : ∀ fd, fd.params = params → fd.defaults = dflt → fd.kwdefaults = kwd → BindsTo s fd args (bs.map fun b => (b.1, b.2.1)))
    (I : Inv G S s) (X : List Addr) (adr : Str → Addr) (hX : ∀ a ∈ X, S a = none) (hargs : ∀ b ∈ bs, EntArg G S s adr X b) (hinj : ∀ x y dx dy, (bs.map fun b => (b.1, b.2.2)).lookup x = some (.own dx) → (bs.map fun b => (b.1, b.2.2)).lookup y = some (.own dy) → adr x = adr y → x = y)
    {R : Result → Shared → Prop}
    (h : ∀ (act : Act scope (cellNames scope.names)) s₀, OK G act (kpBut G s X) adr (bs.map fun b => (b.1, b.2.2)) S s₀ → (∀ b o, s.heap.get? b = some o → s₀.heap.get? b = some o) → s₀.gens = s.gens → (∀ a ∈ act.mt, s.heap.get? a = none) →
      wpAny G.M (A.deeper act.env) (execs body act.env) (fun fl s' => R (.ok (.ret (match fl with | .ret v => v | _ => .none))) s') No s₀) :
    codeAny G.M A (.call (.ref f) args) R s := by
  (refine cps fun ZP zk => ?_; obtain ⟨o, fd, ho, hd, h1, h2, h3, h4, h5, h6, h7, h8, c, oc, cv, t, hc, hoc, hcd, hq⟩ := F.obj; refine zk ?_)
  have up : ∀ {a o}, G.base a = some o → s.heap.get? a = some o := fun e => I.sub _ _ (I.base _ _ e)
  simp only [scopeFit, Bool.and_eq_true, beq_iff_eq, Bool.not_eq_true', decide_eq_true_eq, List.all_eq_true, bne_iff_ne, ne_eq] at hfit
  obtain ⟨⟨⟨⟨f1, f2⟩, f3⟩, f4⟩, f5⟩ := hfit
  refine codeAny_call_function hroom (up ho) hd (by rw [h3]; exact f2) (by rw [h3]; exact f3) h2 ⟨c, oc, cv, t, hc, up hoc, hcd, hq⟩ ?_
  exact enterEnv N h3 h4 h5 h6 f1 f4 f5 bs hb (hbind fd h1 h7 h8) I X adr hX hargs hinj fun act s₀ O hk hg hm _ _ => codeAny_func (wpAny_mono (h act s₀ O hk hg hm) (fun _ _ q => q) fun _ _ e => False.elim e)
end
end Mine
end

section
namespace Mine
variable {sc : Scope} {mc : List Str}
open PySem PySem.Calls PyProof.Rows
noncomputable def EvV (G : Gl) (A : Around) (act : Act sc mc) (ρ : LEnv) (e : Expr) (v : Value) : Prop := ∀ kp adr S s, OK G act kp adr ρ S s → wpAny G.M A (eval e act.env) (Post G S s fun _ u => u = v) No s
inductive Callee (G : Gl) : Value → Prop
  | builtin (id : String) : Callee G (.builtin id)
  | type (T : String) : Callee G (.type T)
  | func {f : Addr} {o : Obj} {fd : FuncData} : G.base f = some o → o.data = .func fd → Callee G (.ref f)
noncomputable def CallD (G : Gl) (A : Around) (f : Value) (ds : List D) (d : D) : Prop := ∀ S s vs, Inv G S s → Alls G S vs ds → wpAny G.M A (call f vs) (Post G S s fun S' v => Is G S' v d) No s
noncomputable def CallO (G : Gl) (A : Around) (f : Value) (ds : List D) (d : D) : Prop := ∀ S s vs, Inv G S s → Alls G S vs ds → wpAny G.M A (call f vs) (PostO G S s d) No s
section
variable {G : Gl} {A : Around} {act : Act sc mc} {kp : Kept} {adr : Str → Addr} {ρ : LEnv} {S S' : Fz} {s s' : Shared} {mg mb : Str → Option Value} {d : D} {ds : List D} {f : Value} {e : Expr} {es : List Expr} {pos : Pos}
theorem EvV.glob {x : Str} {npos : Pos} {v : Value} (N : Names G mg mb) (hk : sc.names.lookup x = some .globalImplicit) (hv : mg x = some v) (hd : (x == ("__debug__" : Str)) = false := by decide) : EvV G A act ρ (.Name x npos) v := fun kp adr S s O => by
  obtain ⟨o, ho, hn⟩ := N.g
  exact Name_function_global O.fn' (by rw [act.kindOf]; exact hk) (loadGlobal_global (mg := mg) (by rw [O.glob]; exact hn.ns (O.inv.sub _ _ (O.inv.base _ _ ho))) hv ⟨S, .refl O.inv, rfl⟩) hd
theorem EvV.blt {x : Str} {npos : Pos} {v : Value} (N : Names G mg mb) (hk : sc.names.lookup x = some .globalImplicit) (hm : mg x = none) (hv : mb x = some v) (hd : (x == ("__debug__" : Str)) = false := by decide) : EvV G A act ρ (.Name x npos) v := fun kp adr S s O => by
  obtain ⟨o, ho, hn⟩ := N.g
  obtain ⟨o', ho', hn'⟩ := N.b
  exact Name_function_global O.fn' (by rw [act.kindOf]; exact hk) (loadGlobal_builtin (mg := mg) (mb := mb) (by rw [O.glob]; exact hn.ns (O.inv.sub _ _ (O.inv.base _ _ ho))) hm
    (by rw [O.blt]; exact hn'.ns (O.inv.sub _ _ (O.inv.base _ _ ho'))) hv ⟨S, .refl O.inv, rfl⟩) hd
theorem Evs.plain (h : Evs G A act ρ es ds) : (backTo pos (starEach es act.env)).any (·.1) = false := by
  have : ∀ x ∈ starEach es act.env, x.1 = false := by
    induction h with
    | nil => intro x hx; exact nomatch hx
    | cons _ _ he ih =>
      intro x hx
      rw [he] at hx
      rcases List.mem_cons.mp hx with rfl | hx
      · rfl
      · exact ih x hx
  cases q : starEach es act.env with
  | nil => rfl
  | cons x xs =>
    rw [q] at this
    show (((x :: xs).map fun y => (y.1, _)).any (·.1)) = false
    rw [List.any_eq_false]
    intro y hy
    obtain ⟨z, hz, rfl⟩ := List.mem_map.mp hy
    simp [this z hz]
theorem call_args {Q : Value → Shared → Prop} (hc : Callee G f) (h : Evs G A act ρ (e :: es) ds) (O : OK G act kp adr ρ S s)
    (hQ : ∀ S₁ s₁ vs, Stp G S s S₁ s₁ → Alls G S₁ vs ds → wpAny G.M A (call f vs) Q No s₁) : wpAny G.M A (callWith pos f [] (backTo pos (starEach (e :: es) act.env)) []) Q No s := by
  have sp := h.spliced (pos := pos) kp adr S s O
  have pl := h.plain (pos := pos)
  cases h with
  | cons h1 h2 he =>
    rw [he] at sp pl ⊢
    cases hc with
    | builtin id => exact callWith_builtin pl (evalArgs_plain (wp_seq sp fun S₁ vs s₁ st is => hQ S₁ s₁ vs st is))
    | type T => exact PyProof.Rows.callWith_type pl (evalArgs_plain (wp_seq sp fun S₁ vs s₁ st is => hQ S₁ s₁ vs st is))
    | func hb hd => exact callWith_function (evalArgs_plain (wp_seq sp fun S₁ vs s₁ st is => ⟨⟨st.inv.sub _ _ (st.inv.base _ _ hb), hd⟩, hQ S₁ s₁ vs st is⟩))
theorem Ev.call {fx : Expr} (hf : EvV G A act ρ fx f) (hc : Callee G f) (h : Evs G A act ρ (e :: es) ds) (hd : CallD G A f ds d)
    (he : eval (.Call fx (e :: es) [] pos) act.env = (eval fx act.env >>= fun f => callWith pos f [] (backTo pos (starEach (e :: es) act.env)) (backToKw pos (keywordEach [] act.env))) := by rfl) : Ev G A act ρ (.Call fx (e :: es) [] pos) d := fun kp adr S s O => by
  rw [he]
  refine wpAny_bind (wp_seq (hf kp adr S s O) fun S₁ v s₁ st e => ?_)
  subst e
  exact call_args hc h (O.step st) fun S₂ s₂ vs st₂ is => wp_pre (st.trans st₂) (hd S₂ s₂ vs st₂.inv is)
theorem EvO.call {fx : Expr} (hf : EvV G A act ρ fx f) (hc : Callee G f) (h : Evs G A act ρ (e :: es) ds) (hd : CallO G A f ds d)
    (he : eval (.Call fx (e :: es) [] pos) act.env = (eval fx act.env >>= fun f => callWith pos f [] (backTo pos (starEach (e :: es) act.env)) (backToKw pos (keywordEach [] act.env))) := by rfl) : EvO G A act ρ (.Call fx (e :: es) [] pos) d := fun kp adr S s O => by
  rw [he]
  refine wpAny_bind (wp_seq (hf kp adr S s O) fun S₁ v s₁ st e => ?_)
  subst e
  exact call_args hc h (O.step st) fun S₂ s₂ vs st₂ is => wpAny_mono (hd S₂ s₂ vs st₂.inv is) (fun _ _ h => h.pre (st.trans st₂)) fun _ _ e => e

/-! functions of the module -/
variable {nm : Str} {params : Arguments} {body : List Stmt} {scope : Scope} {dflt kwd : Value} {fa : Addr}
theorem FnAt.callee (F : FnAt G mg nm params body scope dflt kwd fa) : Callee G (.ref fa) := by
  obtain ⟨o, fd, ho, hd, _⟩ := F.obj
  exact .func ho hd
noncomputable def FD.val : FD → D
  | .ret d => d
  | _ => .none
theorem OK.leave {act : Act sc mc} {ρ : LEnv} (I : Inv G S s) {X : List Addr} (hX : X = []) (g : Gro (kpBut G s X) S S') (O : OK G act (kpBut G s X) adr ρ S' s') : Stp G S s S' s' := by
  subst hX
  refine ⟨O.inv, g.sub, fun a o e => ?_, fun b o nt e => ?_, fun n x e => O.kgens n x e⟩
  · rcases g.new a o e with h | h
    · exact .inl h
    · unfold kpBut at h
      simp only at h
      rw [if_pos ⟨O.inv.noTabS e, by simp⟩] at h
      exact .inr h
  · refine O.kept b o ?_
    unfold kpBut; simp only
    rw [if_pos ⟨nt, by simp⟩]; exact e
noncomputable def zipArgs : List Str → List Value → List D → List (Str × Value × Loc)
  | x :: xs, v :: vs, d :: ds => (x, v, .val d) :: zipArgs xs vs ds
  | _, _, _ => []
noncomputable def zipEnv : List Str → List D → LEnv
  | x :: xs, d :: ds => (x, .val d) :: zipEnv xs ds
  | _, _ => []
theorem zipArgs_env : ∀ {xs : List Str} {vs : List Value} {ds : List D}, Alls G S vs ds → (zipArgs xs vs ds).map (fun b => (b.1, b.2.2)) = zipEnv xs ds
  | [], vs, ds, _ => by cases vs <;> cases ds <;> rfl
  | x :: xs, _, _, .nil => rfl
  | x :: xs, _, _, .cons h r => by
    show _ :: (zipArgs xs _ _).map _ = _ :: zipEnv xs _
    rw [zipArgs_env r]
theorem zipArgs_keys : ∀ {xs : List Str} {vs : List Value} {ds : List D}, Alls G S vs ds → xs.length = ds.length → (zipArgs xs vs ds).map (·.1) = xs
  | [], _, _, .nil, _ => rfl
  | x :: xs, _, _, .cons h r, e => by
    show x :: (zipArgs xs _ _).map _ = _
    rw [zipArgs_keys r (by simpa using e)]
theorem zipArgs_bind : ∀ {xs : List Str} {vs : List Value} {ds : List D}, Alls G S vs ds → xs.length = ds.length → (zipArgs xs vs ds).map (fun b => (b.1, b.2.1)) = xs.zip vs
  | [], _, _, .nil, _ => rfl
  | x :: xs, _, _, .cons h r, e => by
    show (x, _) :: (zipArgs xs _ _).map _ = (x, _) :: _
    rw [zipArgs_bind r (by simpa using e)]
    rfl
theorem zipArgs_is : ∀ {xs : List Str} {vs : List Value} {ds : List D} {b}, Alls G S vs ds → b ∈ zipArgs xs vs ds → ∃ d, b.2.2 = .val d ∧ Is G S b.2.1 d
  | [], vs, ds, b, _, h => by cases vs <;> cases ds <;> exact nomatch h
  | x :: xs, _, _, b, .nil, h => nomatch h
  | x :: xs, _, _, b, .cons i r, h => by
    rcases List.mem_cons.mp h with rfl | h
    · exact ⟨_, rfl, i⟩
    · exact zipArgs_is r h
theorem CallD.fn {n : Nat} {xs : List Str} (F : FnAt G mg nm params body scope dflt kwd fa) (N : Names G mg mb) (hA : Room (n + 1) A) (hfit : scopeFit scope = true) (hb : bindFit scope xs = true) (extra : List (Str × Value × D)) (hl : xs.length = ds.length + extra.length)
    (hbind : ∀ vs fd S s, vs.length = ds.length → fd.params = params → fd.defaults = dflt → fd.kwdefaults = kwd → Inv G S s → BindsTo s fd ⟨vs, []⟩ (xs.zip (vs ++ extra.map (·.2.1))))
    (hex : ∀ S s, Inv G S s → Alls G S (extra.map (·.2.1)) (extra.map (·.2.2)))
    (run : ∀ act : Act scope (cellNames scope.names), Run G (A.deeper act.env) act (execs body act.env) (zipEnv xs (ds ++ extra.map (·.2.2))) fun fd _ => fd.val = d) : CallD G A (.ref fa) ds d := fun S s vs I r => by
  refine wpAny_call ?_
  have r' := r.append (hex S s I)
  have hl' : xs.length = (ds ++ extra.map (·.2.2)).length := by simp [hl]
  refine enter F N hA.lt hfit (zipArgs xs (vs ++ extra.map (·.2.1)) (ds ++ extra.map (·.2.2))) (by rw [zipArgs_keys r' hl']; exact hb) (fun fd h1 h2 h3 => by rw [zipArgs_bind r' hl']; exact hbind vs fd S s r.length h1 h2 h3 I) I [] (fun _ => 0)
    (fun a h => nomatch h) (fun b hbm => ?_) (fun x y dx dy hx _ _ => ?_) fun act s₀ O hk hg hm => ?_
  · obtain ⟨d, e, i⟩ := zipArgs_is r' hbm
    unfold EntArg
    rw [e]; exact i
  · obtain ⟨b, hbm, e⟩ := List.mem_map.mp (mem_of_lookup hx)
    obtain ⟨d, e', _⟩ := zipArgs_is r' hbm
    obtain ⟨_, _, l⟩ := b
    have e' : l = .val d := e'
    subst e'
    cases e
  · rw [zipArgs_env r'] at O
    refine wpAny_mono (run act _ _ S s₀ O) (fun fl s' ⟨S', adr', ρ', fd, g, O', i, q⟩ => ?_) fun _ _ e => e
    have st := O'.leave I rfl g
    refine ⟨S', st, ?_⟩
    cases fl <;> cases fd <;> first | exact i.elim | (subst q; exact .none) | skip
    subst q
    exact i
end
end Mine
end

section
namespace Mine
variable {sc : Scope} {mc : List Str}
open PySem PySem.Calls PyProof.Rows
section
variable {G : Gl} {A : Around} {S S' : Fz} {s s' : Shared} {mg mb : Str → Option Value} {d : D} {ds : List D} {n : Nat}
theorem alls1 {vs : List Value} (h : Alls G S vs [d]) : ∃ v, vs = [v] ∧ Is G S v d :=
  let ⟨v, r, e, i, h⟩ := h.consI; ⟨v, by rw [e, h.nilI], i⟩
theorem alls2 {vs : List Value} {e : D} (h : Alls G S vs [d, e]) : ∃ v w, vs = [v, w] ∧ Is G S v d ∧ Is G S w e :=
  let ⟨v, r, e, i, h⟩ := h.consI; let ⟨w, e', j⟩ := alls1 h; ⟨v, w, by rw [e, e'], i, j⟩
theorem CallD.lenL (h : ds.length ≤ sizeLine) : CallD G A (.builtin "len") [.list ds] (.int ds.length) := fun S s vs I r => by
  obtain ⟨v, rfl, i⟩ := alls1 r
  obtain ⟨a, ws, rfl, hl, r'⟩ := i.lst I
  have e := r'.length
  have : (2 : Nat) ^ 24 < 2 ^ 63 := by decide
  refine call_len_list hl (by rw [List.size_toArray, e]; unfold sizeLine at h; lia) ?_
  rw [List.size_toArray, e]
  exact ⟨S, I.toks _, .int ..⟩
theorem CallD.lenS {x : Str} (h : x.length ≤ sizeLine) : CallD G A (.builtin "len") [.str x] (.int x.length) := fun S s vs I r => by
  obtain ⟨v, rfl, i⟩ := alls1 r
  obtain ⟨t, rfl⟩ := i.str'
  have : (2 : Nat) ^ 24 < 2 ^ 63 := by decide
  exact P.len_str (by unfold sizeLine at h; lia) ⟨S, I.toks _, .int ..⟩
theorem CallD.range1 {b : Int} : CallD G A (.type "range") [.int b] (.range 0 b) := fun S s vs I r => by
  obtain ⟨v, rfl, i⟩ := alls1 r
  obtain ⟨t, rfl⟩ := i.int'
  refine call_range_1 ?_
  exact ⟨_, I.push { cls := .type "range", data := .fields #[.int 0 s.toks, .int b t, .int 1 (s.toks + 1)] } rfl (fun e => nomatch e) (t := s.toks + 1 + 1), .range (Fz.put_self ..)⟩
theorem CallD.range2 {a b : Int} : CallD G A (.type "range") [.int a, .int b] (.range a b) := fun S s vs I r => by
  obtain ⟨v, w, rfl, i, j⟩ := alls2 r
  obtain ⟨t, rfl⟩ := i.int'
  obtain ⟨u, rfl⟩ := j.int'
  refine call_range_2 ?_
  exact ⟨_, I.push { cls := .type "range", data := .fields #[.int a t, .int b u, .int 1 s.toks] } rfl (fun e => nomatch e) (t := s.toks + 1), .range (Fz.put_self ..)⟩
theorem CallD.sum (hA : Room n A) {ns : List Int} : CallD G A (.builtin "sum") [.list (ns.map .int)] (.int ns.sum) := fun S s vs I r => by
  obtain ⟨v, rfl, i⟩ := alls1 r
  obtain ⟨a, ws, rfl, hl, r'⟩ := i.lst I
  have hi := r'.ints
  obtain ⟨xs, e1, e2⟩ : ∃ xs : List (Int × Tok), ws = xs.map (fun p => .int p.1 p.2) ∧ ns = xs.map (·.1) := by
    clear hl r' i r
    induction hi with
    | nil => exact ⟨[], rfl, rfl⟩
    | cons n t _ ih => obtain ⟨xs, e1, e2⟩ := ih; exact ⟨(n, t) :: xs, by rw [e1]; rfl, by rw [e2]; rfl⟩
  have hl' : s.heap.IsList a (intItems xs.toArray) := by
    have : intItems xs.toArray = ws.toArray := by rw [e1]; simp [intItems]
    rw [this]; exact hl
  refine sum_intListG hA.handled hl' fun h' tk t' hk => ⟨S, I.keeps hk, ?_⟩
  have key : ∀ (pre l : List (Int × Tok)), pre ++ l = xs → preSum (numAt xs.toArray) pre.length = (pre.map (·.1)).sum → preSum (numAt xs.toArray) xs.length = (xs.map (·.1)).sum := by
    intro pre l
    induction l generalizing pre with
    | nil => intro e h; rw [List.append_nil] at e; subst e; exact h
    | cons x l ih =>
      intro e h
      refine ih (pre ++ [x]) (by rw [List.append_assoc]; exact e) ?_
      rw [List.length_append, List.length_singleton, preSum, h, List.map_append, List.sum_append]
      have : numAt xs.toArray pre.length = x.1 := by
        unfold numAt
        rw [← e]
        simp
      rw [this]; simp
  have := key [] xs rfl rfl
  rw [List.size_toArray, this, ← e2]
  exact .int ..
noncomputable def IsTup (d : D) : Bool := match d with
  | .tuple _ => true
  | _ => false
end
end Mine
end

section
namespace Mine
variable {sc : Scope} {mc : List Str}
open PySem PySem.Calls PyProof.Rows
noncomputable def isortIns (x : Int) : List Int → List Int
  | [] => [x]
  | y :: ys => if x ≤ y then x :: y :: ys else y :: isortIns x ys
noncomputable def isort : List Int → List Int
  | [] => []
  | x :: xs => isortIns x (isort xs)
theorem isortIns_perm (x : Int) : ∀ l, (isortIns x l).Perm (x :: l)
  | [] => .refl _
  | y :: ys => by
    unfold isortIns
    split
    · exact .refl _
    · exact ((isortIns_perm x ys).cons y).trans (.swap ..)
theorem isort_perm : ∀ l, (isort l).Perm l
  | [] => .refl _
  | x :: xs => (isortIns_perm x _).trans ((isort_perm xs).cons x)
set_option tactic.hygienic true in
theorem isortIns_le {x : Int} : ∀ {l : List Int}, l.Pairwise (· ≤ ·) → (isortIns x l).Pairwise (· ≤ ·)
  | [], _ => by simp [isortIns]
  | y :: ys, h => by
    unfold isortIns
    rw [List.pairwise_cons] at h
    split
    · rename_i q
      rw [List.pairwise_cons]
      refine ⟨fun z hz => ?_, List.pairwise_cons.mpr h⟩
      rcases List.mem_cons.mp hz with rfl | hz
      · exact q
      · exact Int.le_trans q (h.1 z hz)
    · rename_i q
      rw [List.pairwise_cons]
      refine ⟨fun z hz => ?_, isortIns_le h.2⟩
      rcases List.mem_cons.mp ((isortIns_perm x ys).mem_iff.mp hz) with rfl | hz
      · lia
      · exact h.1 z hz
theorem isort_le : ∀ l : List Int, (isort l).Pairwise (· ≤ ·)
  | [] => List.Pairwise.nil
  | x :: xs => isortIns_le (isort_le xs)
theorem isort_uniq {a b : List Int} (p : a.Perm b) (h : a.Pairwise (· ≤ ·)) : a = isort b :=
  (p.trans (isort_perm b).symm).eq_of_pairwise (fun x y _ _ h1 h2 => Int.le_antisymm h1 h2) h (isort_le b)
section
variable {G : Gl} {A : Around} {act : Act sc mc} {ρ : LEnv} {S S' : Fz} {s s' : Shared} {mg mb : Str → Option Value} {d : D} {ds : List D} {n : Nat} {pos : Pos}
theorem Ev.isTup {fx tx ex : Expr} (hf : EvV G A act ρ fx (.builtin "isinstance")) (he : Ev G A act ρ ex d) (ht : EvV G A act ρ tx (.type "tuple")) (hd : d = .int i ∨ d = .tuple ds)
    (hev : eval (.Call fx [ex, tx] [] pos) act.env = (eval fx act.env >>= fun f => callWith pos f [] [(false, eval ex act.env), (false, eval tx act.env)] []) := by rfl) : Ev G A act ρ (.Call fx [ex, tx] [] pos) (.bool (IsTup d)) := fun kp adr S s O => by
  rw [hev]
  refine wpAny_bind (wp_seq (hf kp adr S s O) fun S₁ v s₁ st e => ?_)
  subst e
  refine callWith_builtin rfl (evalArgs_plain (Calls.spliced_cons (wp_seq (he kp adr S₁ s₁ (O.step st)) fun S₂ va s₂ st₂ ia => Calls.spliced_cons (wp_seq (ht kp adr S₂ s₂ ((O.step st).step st₂)) fun S₃ vb s₃ st₃ e => Calls.spliced_nil ?_))))
  subst e
  have st' := st.trans (st₂.trans st₃)
  have ia := ia.mono st₃.sub
  show wpAny G.M A (PySem.call (Value.builtin "isinstance") [va, Value.type "tuple"]) _ _ _
  rcases hd with rfl | rfl
  · obtain ⟨t, rfl⟩ := ia.intI; exact PySem.IsiPair.int_tuple ⟨S₃, st'.trans (st'.inv.toks _), .bool _⟩
  · (refine cps fun ZP zk => ?_; obtain ⟨_, _, _, _, rfl, hS, hc, _⟩ := ia.tupleI; refine zk ?_); exact PySem.IsiPair.tuple_tuple (st'.inv.sub _ _ hS) hc ⟨S₃, st', .bool _⟩
theorem Alls.strsAre : ∀ {vs : List Value} {ss : List Str}, Alls G S vs (ss.map .str) → StrsAre vs ss
  | _, [], .nil => .nil
  | _, x :: ss, .cons h r => by
    obtain ⟨t, rfl⟩ := h.str'
    exact .cons x t r.strsAre
theorem Ev.join {o e : Expr} {apos : Pos} {x : Str} {ss : List Str} (ho : Ev G A act ρ o (.str x)) (he : Ev G A act ρ e (.list (ss.map .str))) (hx : x.length ≤ 16) (hw : (ss.map (·.length)).sum + ss.length ≤ 1048576)
    (hbase : attributeBase o "join" act.env (eval o act.env) = eval o act.env := by rfl) (hs : starEach [e] act.env = [(false, eval e act.env)] := by rfl) (hline : (apos.endLine == pos.line) = true := by rfl) :
    Ev G A act ρ (.Call (.Attribute o "join" apos) [e] [] pos) (.str (Txt.join x ss)) := fun kp adr S s O => by
  refine Call_method1 hbase hs hline (wp_seq (ho kp adr S s O) fun S₁ v s₁ st i => ?_)
  obtain ⟨t, rfl⟩ := i.str'
  refine ⟨"str", "str.join", PySem.F.plainAttrs_str, PySem.F.slot_str_join, PySem.F.type_str_join, typeIs_str _ _ _, (fun a e => nomatch e), ?_⟩
  refine callWith_builtin rfl (evalArgs_plain (Calls.spliced_cons (wp_seq (he kp adr S₁ s₁ (O.step st)) fun S₂ va s₂ st₂ ia => Calls.spliced_nil ?_)))
  obtain ⟨l, ws, rfl, hl, r⟩ := ia.lst st₂.inv
  exact join_listW hl (by simpa using r.strsAre) hx hw fun t' k => ⟨S₂, (st.trans st₂).trans (st₂.inv.toks _), .str ..⟩
theorem Ev.items {o : Expr} {apos : Pos} {ks : List Ky} (ho : Ev G A act ρ o (.dict ks ds))
    (hbase : attributeBase o "items" act.env (eval o act.env) = eval o act.env := by rfl) (hline : (apos.endLine == pos.line) = true := by rfl) :
    Ev G A act ρ (.Call (.Attribute o "items" apos) [] [] pos) (.items ks ds) := fun kp adr S s O => by
  refine wpAny_Call_method (T := "dict") (id := "dict.items") hbase rfl hline PySem.F.plainAttrs_dict PySem.F.slot_dict_items PySem.F.type_dict_items (wp_seq (ho kp adr S s O) fun S₁ v s₁ st i => ?_)
  (refine cps fun ZP zk => ?_; obtain ⟨a, kvs, rfl, hm, e, r, hs⟩ := dict_of st.inv i; refine zk ?_)
  refine ⟨hm.typeIs, hm.mapOf.noDict, ?_⟩
  show wpAny _ _ (callWith pos (.builtin "dict.items") [.ref a] [] []) _ _ s₁
  refine method_meetsIn PySem.F.slot_dict_items PySem.F.entry_dict_items rfl (PySem.evalArgs_none ⟨rfl, hm.typeIs, PySem.F.args_dict_items_1 _, _, meets_dict_items G.knd a hs, ⟨kvs, hm⟩, ?_⟩)
  have st2 := st.inv.push { cls := .type "dict_items", data := .fields #[.ref a] } rfl (fun e => nomatch e) (t := s₁.toks)
  exact ⟨_, st.trans st2, .items (Fz.put_self ..) (i.mono st2.sub)⟩
theorem Ev.values {o : Expr} {apos : Pos} {ks : List Ky} (ho : Ev G A act ρ o (.dict ks ds))
    (hbase : attributeBase o "values" act.env (eval o act.env) = eval o act.env := by rfl) (hline : (apos.endLine == pos.line) = true := by rfl) :
    Ev G A act ρ (.Call (.Attribute o "values" apos) [] [] pos) (.values ks ds) := fun kp adr S s O => by
  refine wpAny_Call_method (T := "dict") (id := "dict.values") hbase rfl hline PySem.F.plainAttrs_dict PySem.F.slot_dict_values PySem.F.type_dict_values (wp_seq (ho kp adr S s O) fun S₁ v s₁ st i => ?_)
  (refine cps fun ZP zk => ?_; obtain ⟨a, kvs, rfl, hm, e, r, hs⟩ := dict_of st.inv i; refine zk ?_)
  refine ⟨hm.typeIs, hm.mapOf.noDict, ?_⟩
  show wpAny _ _ (callWith pos (.builtin "dict.values") [.ref a] [] []) _ _ s₁
  refine method_meetsIn PySem.F.slot_dict_values PySem.F.entry_dict_values rfl (PySem.evalArgs_none ⟨rfl, hm.typeIs, PySem.F.args_dict_values_1 _, _, meets_dict_values G.knd a hs, ⟨kvs, hm⟩, ?_⟩)
  have st2 := st.inv.push { cls := .type "dict_values", data := .fields #[.ref a] } rfl (fun e => nomatch e) (t := s₁.toks)
  exact ⟨_, st.trans st2, .values (Fz.put_self ..) (i.mono st2.sub)⟩
theorem Ev.get2 {o e₁ e₂ : Expr} {apos : Pos} {ks : List Ky} {k : Ky} {e : D} (ho : Ev G A act ρ o (.dict ks ds)) (h1 : Ev G A act ρ e₁ k.d) (h2 : Ev G A act ρ e₂ e)
    (hbase : attributeBase o "get" act.env (eval o act.env) = eval o act.env := by rfl) (hs : starEach [e₁, e₂] act.env = [(false, eval e₁ act.env), (false, eval e₂ act.env)] := by rfl) (hline : (apos.endLine == pos.line) = true := by rfl) :
    Ev G A act ρ (.Call (.Attribute o "get" apos) [e₁, e₂] [] pos) ((dfind k ks ds).getD e) := fun kp adr S s O => by
  refine Call_method2 hbase hs hline (wp_seq (ho kp adr S s O) fun S₁ v s₁ st i => ?_)
  (refine cps fun ZP zk => ?_; obtain ⟨a, kvs, rfl, hm, ek, r, hs⟩ := dict_of st.inv i; refine zk ?_)
  refine ⟨"dict", "dict.get", PySem.F.plainAttrs_dict, PySem.F.slot_dict_get, PySem.F.type_dict_get, hm.typeIs, hm.mapOf.noDict, ?_⟩
  refine wpAny_dict_get2 (knd := G.knd) hs (wp_seq (h1 kp adr S₁ s₁ (O.step st)) fun S₂ vk s₂ st₂ ik => wp_seq (h2 kp adr S₂ s₂ ((O.step st).step st₂)) fun S₃ ve s₃ st₃ ie => ?_)
  have st' := st₂.trans st₃
  (refine cps fun ZP zk => ?_; obtain ⟨a', kvs', ha, hm', ek', r', _⟩ := dict_of st'.inv (i.mono st'.sub); refine zk ?_)
  obtain rfl := PySem.Value.ref.inj ha
  refine ⟨k, valueAt kvs', Ky.kindIs (ik.mono st₃.sub), hm'.mapOf, S₃, (st.trans st').trans (st'.inv.toks _), ?_⟩
  subst ek'
  rcases dfind_valueAt (k := k) r' with ⟨q1, q2⟩ | ⟨d', v', q1, q2, q3⟩
  · rw [q1, q2]; exact ie
  · rw [q1, q2]; exact q3
end
end Mine
end

section
namespace Mine
variable {sc : Scope} {mc : List Str}
open PySem PySem.Calls PyProof.Rows
structure StpBut (a : Addr) (G : Gl) (S : Fz) (s : Shared) (S' : Fz) (s' : Shared) : Prop where
  inv : Inv G S' s'
  sub : Sub S S'
  new : ∀ b o, S' b = some o → S b = some o ∨ s.heap.get? b = none
  keep : ∀ b o, b ≠ a → NoTab G b → s.heap.get? b = some o → s'.heap.get? b = some o
  gens : ∀ (g : Nat) (x : GenState), s.gens[g]? = some x → s'.gens[g]? = some x
  off : S' a = none
section
variable {G : Gl} {A : Around} {act : Act sc mc} {kp : Kept} {adr : Str → Addr} {ρ : LEnv} {S S' : Fz} {s s' : Shared} {mg mb : Str → Option Value} {d d' : D} {ds : List D} {n : Nat} {pos : Pos}
theorem OK.stepBut (O : OK G act kp adr ρ S s) {x : Str} (hx : ρ.lookup x = some (.own d)) (st : StpBut (adr x) G S s S' s') (ho : ∃ o, s'.heap.get? (adr x) = some o ∧ Own G S' o d') : OK G act kp adr ((x, .own d') :: ρ) S' s' ∧ Gro kp S S' := by
  obtain ⟨rx, ⟨ox, hox, wx⟩, hS, hk, hm⟩ := O.vars x _ hx
  have hcell := O.ownCell hox wx
  have g : Gro kp S S' := ⟨st.sub, fun b o e => (st.new b o e).imp id fun q => by
    cases q' : kp.objs b with
    | none => rfl
    | some o' => have := O.kept _ _ q'; rw [q] at this; exact nomatch this⟩
  have rd : ∀ y v, Reads act.env s.heap y v → Reads act.env s'.heap y v := fun y v r => r.of (fun o e => st.keep _ o (fun q => hm (q ▸ O.mtL)) O.ntL e)
    fun c hc o e => st.keep _ o (hcell _ (cell_in hc)) (O.cells _ (cell_in hc)).1 e
  refine ⟨{ O with
    inv := st.inv
    kept := fun b o e => st.keep b o (fun q => by rw [q, hk] at e; exact nomatch e) (O.knt b o e) (O.kept b o e)
    kgens := fun g x e => st.gens g x (O.kgens g x e)
    ns := let ⟨m, h⟩ := O.ns; ⟨m, h.at' fun o e => st.keep _ o (fun q => hm (q ▸ O.mtL)) O.ntL e⟩
    mt := fun b hb => by
      obtain ⟨h1, h2, h3, o, ho⟩ := O.mt b hb
      refine ⟨?_, h2, h3, o, st.keep _ o (fun q => hm (q ▸ hb)) h3 ho⟩
      cases q : S' b with
      | none => rfl
      | some o' =>
        rcases st.new b o' q with e | e
        · rw [h1] at e; exact nomatch e
        · rw [ho] at e; exact nomatch e
    cells := fun p hp => by
      obtain ⟨nt, v, o, ho, hd⟩ := O.cells p hp
      exact ⟨nt, v, o, st.keep _ o (hcell p hp) nt ho, hd⟩
    vars := fun y l e => ?_
    inj := fun y z dy dz ey ez e => ?_ }, g⟩
  · by_cases q : y = x
    · subst q
      simp only [List.lookup, BEq.rfl] at e
      obtain rfl := Option.some.inj e
      exact ⟨rd _ _ rx, ho, st.off, hk, hm⟩
    · rw [lookup_cons_ne q] at e
      have z := O.vars y l e
      cases l with
      | val dy => obtain ⟨v, r, i⟩ := z; exact ⟨v, rd _ _ r, i.mono st.sub⟩
      | own dy =>
        obtain ⟨r, ⟨o, ho, w⟩, h1, h2, h3⟩ := z
        have hne : adr y ≠ adr x := fun e' => q (O.inj y x _ _ e hx e')
        refine ⟨rd _ _ r, ⟨o, st.keep _ o hne (O.inv.noTab ho w.cls) ho, w.mono st.sub⟩, ?_, h2, h3⟩
        cases q' : S' (adr y) with
        | none => rfl
        | some o' =>
          rcases st.new _ o' q' with e | e
          · rw [h1] at e; exact nomatch e
          · rw [ho] at e; exact nomatch e
  · have own : ∀ y dy, List.lookup y ((x, Loc.own d') :: ρ) = some (.own dy) → ∃ d, ρ.lookup y = some (.own d) := fun y dy ey => by
      by_cases q : y = x
      · subst q; exact ⟨_, hx⟩
      · rw [lookup_cons_ne q] at ey; exact ⟨_, ey⟩
    obtain ⟨_, h1⟩ := own _ _ ey
    obtain ⟨_, h2⟩ := own _ _ ez
    exact O.inj y z _ _ h1 h2 e
noncomputable def EvX (G : Gl) (A : Around) (act : Act sc mc) (e : Expr) (ρ ρ' : LEnv) : Prop := ∀ kp adr S s, OK G act kp adr ρ S s →
  wpAny G.M A (eval e act.env) (fun v s' => ∃ S', Gro kp S S' ∧ OK G act kp adr ρ' S' s') No s
theorem EvX.ite {t x y : Expr} {p : Bool} {ρ' : LEnv} (ht : Te G A act ρ t p) (hx : p = true → EvX G A act x ρ ρ') (hy : p = false → EvX G A act y ρ ρ') : EvX G A act (.IfExp t x y pos) ρ ρ' := fun kp adr S s O =>
  IfExp_ (wp_seq (ht kp adr S s O) fun S₁ b s₁ st e => by
    subst e
    cases b with
    | true => exact wpAny_mono (hx rfl kp adr S₁ s₁ (O.step st)) (fun _ _ ⟨S', g, o⟩ => ⟨S', (O.gro st).trans g, o⟩) fun _ _ e => e
    | false => exact wpAny_mono (hy rfl kp adr S₁ s₁ (O.step st)) (fun _ _ ⟨S', g, o⟩ => ⟨S', (O.gro st).trans g, o⟩) fun _ _ e => e)
theorem interactive_fn (O : OK G act kp adr ρ S s) : interactive act.env = false := by
  unfold interactive
  rw [O.fn']
  rfl
theorem Run.expr {e : Expr} {Q : FD → LEnv → Prop} {ρ' : LEnv} (h : EvX G A act e ρ ρ') (hq : Q .next ρ') (hs : swapsWith e none pos.line act.env = pure false := by rfl) : Run G A act (exec (.Expr e pos) act.env) ρ Q := fun kp adr S s O =>
  wpAny_Expr_any (wpAny_mono (h kp adr S s O) (fun v s' ⟨S', g, O'⟩ => ⟨S', adr, ρ', .next, g, O', trivial, hq⟩) fun _ _ e => e) (interactive_fn O) hs
theorem IsL.isList' {h : Heap} {a : Addr} {items : Array Value} {k : Nat} (e : h.get? a = some { cls := .type "list", data := .seq items k }) : h.IsList a items := ⟨_, e, rfl, _, rfl⟩
theorem own_list {o : Obj} (w : Own G S o (.list ds)) : ∃ n vs, o = { cls := .type "list", data := .seq vs.toArray n } ∧ Alls G S vs ds := by
  cases w with
  | list r => exact ⟨_, _, rfl, r⟩
theorem EvX.append {x : Str} {e : Expr} {np apos : Pos} (hx : ρ.lookup x = some (.own (.list ds))) (he : Ev G A act ρ e d) (hn : ds.length ≤ sizeLine)
    (hd : (x == ("__debug__" : Str)) = false := by decide) (hc : (x == ("__classdict__" : Str)) = false := by decide)
    (hbase : attributeBase (.Name x np) "append" act.env (eval (.Name x np) act.env) = eval (.Name x np) act.env := by rfl) (hs : starEach [e] act.env = [(false, eval e act.env)] := by rfl) (hline : (apos.endLine == pos.line) = true := by rfl) :
    EvX G A act (.Call (.Attribute (.Name x np) "append" apos) [e] [] pos) ρ ((x, .own (.list (ds ++ [d]))) :: ρ) := fun kp adr S s O => by
  refine Call_method1 hbase hs hline (O.nameOwn hx ?_ hd hc)
  obtain ⟨o, ho, w⟩ := O.ownAt hx
  (refine cps fun ZP zk => ?_; obtain ⟨k, vs, rfl, r⟩ := own_list w; refine zk ?_)
  refine ⟨"list", "list.append", PySem.F.plainAttrs_list, slot_list_append, type_list_append, ⟨_, ho, rfl⟩, (fun a e => ⟨_, by obtain rfl := PySem.Value.ref.inj e; exact ho, rfl⟩), ?_⟩
  refine callWith_builtin rfl (evalArgs_plain (Calls.spliced_cons (wp_seq (he kp adr S s O) fun S₁ v s₁ st i => Calls.spliced_nil ?_)))
  have O₁ := O.step st
  obtain ⟨o₁, ho₁, w₁⟩ := O₁.ownAt hx
  obtain ⟨vs₁, hp, r₁⟩ := Own.plain ho₁ w₁
  refine wpAny_list_append_plain hp (fun h' hp' hs => ?_) (by rw [List.size_toArray, r₁.length]; exact hn)
  exact ⟨S₁, O.gro st, O₁.turnOwn (t := s₁.toks) hx hs (Own.ofPlain (vs := vs₁ ++ [v]) hp' (by simp) (r₁.append (.cons i .nil)))⟩
noncomputable def insAt {α : Type} (k : Nat) (x : α) (l : List α) : List α := l.take k ++ x :: l.drop k
theorem Alls.ins {vs : List Value} {v : Value} (h : Alls G S vs ds) (i : Is G S v d) (k : Nat) : Alls G S (insAt k v vs) (insAt k d ds) := (h.take k).append (.cons i (h.drop k))
theorem insert_call {a : Addr} {vs : List Value} {k : Int} {t : Tok} {v : Value} {m : Nat} {Q : Value → Shared → Prop} {E : Value → Shared → Prop} (ho : s.heap.get? a = some { cls := .type "list", data := .seq vs.toArray m }) (h0 : 0 ≤ k) (h1 : k ≤ vs.length) (hn : vs.length ≤ sizeLine)
    (h : ∀ h', (∃ m', h'.get? a = some { cls := .type "list", data := .seq (insAt k.toNat v vs).toArray m' }) → Heap.SameBut a s.heap h' → Q .none { s with heap := h' }) : wpAny G.M A (call (.builtin "list.insert") [.ref a, .int k t, v]) Q E s := by
  have h24 : (2 : Nat) ^ 24 < 2 ^ 62 := by decide
  refine call_meets PySem.F.slot_list_insert ⟨_, ho, rfl⟩ PySem.F.entry_list_insert (PySem.F.args_list_insert_3 _ _ _) (PySem.AutoSeq1.list_insert_list_int_val_1 a _ m k t v (by unfold Builtin.List.listFitsIndex; unfold sizeLine at hn; simp; lia) (by rw [List.size_toArray]; exact hn)) ⟨ho, ?_⟩
  refine h _ ?_ (Heap.SameBut.update ..)
  have ek : (if k < 0 then (k + (vs.toArray.size : Int)).toNat else min k.toNat vs.toArray.size) = k.toNat := by
    rw [if_neg (by lia), List.size_toArray]; lia
  have key : ∀ g : Array Value → Array Value, g vs.toArray = (insAt k.toNat v vs).toArray → ∃ m', (s.heap.update a (Obj.mapSeq g)).get? a = some { cls := .type "list", data := .seq (insAt k.toNat v vs).toArray m' } := fun g hg => by
    have e := get?_update_seq ho g
    rw [hg] at e
    exact ⟨_, e⟩
  refine key _ ?_
  show (vs.toArray.extract 0 (if k < 0 then (k + (vs.toArray.size : Int)).toNat else min k.toNat vs.toArray.size)).push v ++ vs.toArray.extract (if k < 0 then (k + (vs.toArray.size : Int)).toNat else min k.toNat vs.toArray.size) = _
  rw [ek, PySem.W.kl_ins_eq]
  rfl
theorem EvX.insert {x : Str} {e₁ e₂ : Expr} {np apos : Pos} {k : Int} (hx : ρ.lookup x = some (.own (.list ds))) (h1 : Ev G A act ρ e₁ (.int k)) (h2 : Ev G A act ρ e₂ d) (hk0 : 0 ≤ k) (hk1 : k ≤ ds.length) (hn : ds.length ≤ sizeLine)
    (hd : (x == ("__debug__" : Str)) = false := by decide) (hc : (x == ("__classdict__" : Str)) = false := by decide)
    (hbase : attributeBase (.Name x np) "insert" act.env (eval (.Name x np) act.env) = eval (.Name x np) act.env := by rfl) (hs : starEach [e₁, e₂] act.env = [(false, eval e₁ act.env), (false, eval e₂ act.env)] := by rfl) (hline : (apos.endLine == pos.line) = true := by rfl) :
    EvX G A act (.Call (.Attribute (.Name x np) "insert" apos) [e₁, e₂] [] pos) ρ ((x, .own (.list (insAt k.toNat d ds))) :: ρ) := fun kp adr S s O => by
  refine Call_method2 hbase hs hline (O.nameOwn hx ?_ hd hc)
  obtain ⟨o, ho, w⟩ := O.ownAt hx
  (refine cps fun ZP zk => ?_; obtain ⟨_, vs, rfl, r⟩ := own_list w; refine zk ?_)
  refine ⟨"list", "list.insert", PySem.F.plainAttrs_list, PySem.F.slot_list_insert, PySem.F.type_list_insert, ⟨_, ho, rfl⟩, (fun a e => ⟨_, by obtain rfl := PySem.Value.ref.inj e; exact ho, rfl⟩), ?_⟩
  refine callWith_builtin rfl (evalArgs_plain (Calls.spliced_cons (wp_seq (h1 kp adr S s O) fun S₁ v s₁ st i => Calls.spliced_cons (wp_seq (h2 kp adr S₁ s₁ (O.step st)) fun S₂ v₂ s₂ st₂ i₂ => Calls.spliced_nil ?_))))
  obtain ⟨t, rfl⟩ := i.int'
  have st' := st.trans st₂
  have O₁ := O.step st'
  obtain ⟨o₁, ho₁, w₁⟩ := O₁.ownAt hx
  (refine cps fun ZP zk => ?_; obtain ⟨_, vs₁, rfl, r₁⟩ := own_list w₁; refine zk ?_)
  have hl := r₁.length
  refine insert_call ho₁ hk0 (by rw [hl]; exact hk1) (by rw [hl]; exact hn) fun h' ⟨m', ho'⟩ hs => ?_
  exact ⟨S₂, O.gro st', O₁.turnOwn (t := s₂.toks) hx hs ⟨_, ho', .list (r₁.ins i₂ _)⟩⟩
theorem EvX.extend {x : Str} {e : Expr} {np apos : Pos} {es : List D} (hx : ρ.lookup x = some (.own (.list ds))) (he : EvO G A act ρ e (.list es)) (hn : ds.length + es.length ≤ sizeLine)
    (hd : (x == ("__debug__" : Str)) = false := by decide) (hc : (x == ("__classdict__" : Str)) = false := by decide)
    (hbase : attributeBase (.Name x np) "extend" act.env (eval (.Name x np) act.env) = eval (.Name x np) act.env := by rfl) (hs : starEach [e] act.env = [(false, eval e act.env)] := by rfl) (hline : (apos.endLine == pos.line) = true := by rfl) :
    EvX G A act (.Call (.Attribute (.Name x np) "extend" apos) [e] [] pos) ρ ((x, .own (.list (ds ++ es))) :: ρ) := fun kp adr S s O => by
  refine Call_method1 hbase hs hline (O.nameOwn hx ?_ hd hc)
  obtain ⟨o, ho, w⟩ := O.ownAt hx
  (refine cps fun ZP zk => ?_; obtain ⟨k, vs, rfl, r⟩ := own_list w; refine zk ?_)
  refine ⟨"list", "list.extend", PySem.F.plainAttrs_list, PySem.F.slot_list_extend, PySem.F.type_list_extend, ⟨_, ho, rfl⟩, (fun a e => ⟨_, by cases e; exact ho, rfl⟩), ?_⟩
  refine callWith_builtin rfl (evalArgs_plain (Calls.spliced_cons (wpAny_mono (he kp adr S s O) (fun v s₁ ⟨S₁, b, ob, st, hv, hob, wb, hSb, hbn⟩ => Calls.spliced_nil ?_) fun _ _ e => e)))
  subst hv
  have O₁ := O.step st
  obtain ⟨o₁, ho₁, w₁⟩ := O₁.ownAt hx
  (refine cps fun ZP zk => ?_; obtain ⟨_, vs₁, rfl, r₁⟩ := own_list w₁; refine zk ?_)
  (refine cps fun ZP zk => ?_; obtain ⟨_, vs₂, rfl, r₂⟩ := own_list wb; refine zk ?_)
  have l1 := r₁.length
  have l2 := r₂.length
  have hsz' : vs₁.toArray.size + vs₂.toArray.size ≤ sizeLine := by rw [List.size_toArray, List.size_toArray, l1, l2]; exact hn
  refine call_meets PySem.F.slot_list_extend ⟨_, ho₁, rfl⟩ PySem.F.entry_list_extend (PySem.F.args_list_extend_2 _ _) (AutoSeq1.list_extend_list_list_0 _ vs₁.toArray _ b vs₂.toArray _ (extend_door hsz') (Nat.le_trans (Nat.le_add_right _ _) hsz')) ⟨ho₁, hob, ?_⟩
  have e := get?_update_seq ho₁ (fun x => x ++ vs₂.toArray)
  refine ⟨S₁, O.gro st, O₁.turnOwn (t := s₁.toks) hx (Heap.SameBut.update ..) ⟨_, e, ?_⟩⟩
  have : vs₁.toArray ++ vs₂.toArray = (vs₁ ++ vs₂).toArray := by simp
  rw [this]
  exact .list (r₁.append r₂)
noncomputable def CallX (G : Gl) (A : Around) (f : Value) (d : D) (args : List D) (d' : D) : Prop := ∀ S s a vs, Inv G S s → (∃ o, s.heap.get? a = some o ∧ Own G S o d) → S a = none → Alls G S vs args →
  wpAny G.M A (call f (.ref a :: vs)) (fun _ s' => ∃ S', StpBut a G S s S' s' ∧ ∃ o', s'.heap.get? a = some o' ∧ Own G S' o' d') No s
theorem EvX.call {fx : Expr} {f : Value} {x : Str} {np : Pos} {es : List Expr} {args : List D} (hf : EvV G A act ρ fx f) (hc : Callee G f) (hx : ρ.lookup x = some (.own d)) (h : Evs G A act ρ es args) (hd : CallX G A f d args d')
    (hb : (x == ("__debug__" : Str)) = false := by decide) (hcd : (x == ("__classdict__" : Str)) = false := by decide)
    (he : eval (.Call fx (.Name x np :: es) [] pos) act.env = (eval fx act.env >>= fun f => callWith pos f [] (backTo pos (starEach (.Name x np :: es) act.env)) (backToKw pos (keywordEach [] act.env))) := by rfl)
    (hst : starEach (.Name x np :: es) act.env = (false, eval (.Name x np) act.env) :: starEach es act.env := by rfl) : EvX G A act (.Call fx (.Name x np :: es) [] pos) ρ ((x, .own d') :: ρ) := fun kp adr S s O => by
  rw [he]
  refine wpAny_bind (wp_seq (hf kp adr S s O) fun S₁ v s₁ st e => ?_)
  subst e
  have O₁ := O.step st
  have pl := h.plain (pos := pos)
  have key : ∀ {Q : List Value → Shared → Prop}, (∀ S₂ s₂ vs, Stp G S₁ s₁ S₂ s₂ → Alls G S₂ vs args → Q (.ref (adr x) :: vs) s₂) → wpAny G.M A (spliced ((false, eval (.Name x np) act.env) :: backTo pos (starEach es act.env))) Q No s₁ := fun hQ =>
    Calls.spliced_cons (O₁.nameOwn hx (wp_seq (h.spliced (pos := pos) kp adr S₁ s₁ O₁) fun S₂ vs s₂ st₂ is => hQ S₂ s₂ vs st₂ is) hb hcd)
  have fin : ∀ S₂ s₂ vs, Stp G S₁ s₁ S₂ s₂ → Alls G S₂ vs args → wpAny G.M A (PySem.call v (.ref (adr x) :: vs)) (fun _ s' => ∃ S', Gro kp S S' ∧ OK G act kp adr ((x, .own d') :: ρ) S' s') No s₂ := fun S₂ s₂ vs st₂ is => by
    have O₂ := O₁.step st₂
    refine wpAny_mono (hd S₂ s₂ (adr x) vs st₂.inv (O₂.ownAt hx) (O₂.vars x _ hx).2.2.1 is) (fun _ s' ⟨S', sb, ho⟩ => ?_) fun _ _ e => e
    obtain ⟨O', g⟩ := O₂.stepBut hx sb ho
    exact ⟨S', (O.gro (st.trans st₂)).trans g, O'⟩
  rw [hst]
  have pl' : (backTo pos ((false, eval (.Name x np) act.env) :: starEach es act.env)).any (·.1) = false := by
    show (false || (backTo pos (starEach es act.env)).any (·.1)) = false
    rw [pl]; rfl
  cases hc with
  | builtin id => exact callWith_builtin pl' (evalArgs_plain (key fin))
  | type T => exact PyProof.Rows.callWith_type pl' (evalArgs_plain (key fin))
  | func hbs hdat => exact callWith_function (evalArgs_plain (key fun S₂ s₂ vs st₂ is => ⟨⟨st₂.inv.sub _ _ (st₂.inv.base _ _ hbs), hdat⟩, fin S₂ s₂ vs st₂ is⟩))
noncomputable def RunV (G : Gl) (A : Around) (act : Act sc mc) (m : Sem Flow) (ρ ρ' : LEnv) : Prop := ∀ kp adr S s, OK G act kp adr ρ S s → wpAny G.M A m (fun f s' => f = .next ∧ ∃ S', Gro kp S S' ∧ OK G act kp adr ρ' S' s') No s
theorem RunV.nil : RunV G A act (execs [] act.env) ρ ρ := fun kp adr S s O => wpAny_execs_nil ⟨rfl, S, .refl .., O⟩
theorem RunV.cons {st : Stmt} {rest : List Stmt} {ρ₁ ρ' : LEnv} (h : RunV G A act (exec st act.env) ρ ρ₁) (h' : RunV G A act (execs rest act.env) ρ₁ ρ') : RunV G A act (execs (st :: rest) act.env) ρ ρ' := fun kp adr S s O =>
  wpAny_execs_cons (wpAny_mono (h kp adr S s O) (fun f s' ⟨e, S', g, O'⟩ => by
    subst e
    exact wpAny_mono (h' kp adr S' s' O') (fun f' s'' ⟨e', S'', g', O''⟩ => ⟨e', S'', g.trans g', O''⟩) fun _ _ e => e) fun _ _ e => e)
theorem RunV.assign {x : Str} {e : Expr} {np : Pos} (he : Ev G A act ρ e d) (hx : Stores sc mc x) (hs : swapsWith e (some (.Name x np)) pos.line act.env = pure false := by rfl) : RunV G A act (exec (.Assign [.Name x np] e pos) act.env) ρ ((x, .val d) :: ρ) := fun kp adr S s O =>
  wpAny_Assign_Name (wp_seq (he kp adr S s O) fun S₁ v s₁ st i => (O.step st).storeVal hx i fun h' t O' => ⟨rfl, S₁, O.gro st, O'⟩) hs
theorem RunV.yes {t : Expr} {body orelse : List Stmt} {ρ' : LEnv} (ht : Te G A act ρ t true) (h : RunV G A act (execs body act.env) ρ ρ') : RunV G A act (exec (.If t body orelse pos) act.env) ρ ρ' := fun kp adr S s O =>
  wpAny_If (wp_seq (ht kp adr S s O) fun S₁ b' s₁ st e => by
    subst e
    exact wpAny_mono (h kp adr S₁ s₁ (O.step st)) (fun f s' ⟨e, S', g, O'⟩ => ⟨e, S', (O.gro st).trans g, O'⟩) fun _ _ e => e)
theorem RunV.expr {e : Expr} {ρ' : LEnv} (h : EvX G A act e ρ ρ') (hs : swapsWith e none pos.line act.env = pure false := by rfl) : RunV G A act (exec (.Expr e pos) act.env) ρ ρ' := fun kp adr S s O =>
  wpAny_Expr_any (wpAny_mono (h kp adr S s O) (fun v s' ⟨S', g, O'⟩ => ⟨rfl, S', g, O'⟩) fun _ _ e => e) (interactive_fn O) hs
theorem OK.leaveBut {act : Act sc mc} {ρ : LEnv} {a : Addr} (I : Inv G S s) (g : Gro (kpBut G s [a]) S S') (O : OK G act (kpBut G s [a]) adr ρ S' s') (hS : S' a = none) : StpBut a G S s S' s' where
  inv := O.inv
  sub := g.sub
  new := fun b o e => by
    rcases g.new b o e with h | h
    · exact .inl h
    · unfold kpBut at h
      simp only at h
      rw [if_pos ⟨O.inv.noTabS e, fun hm => by rw [List.mem_singleton.mp hm, hS] at e; exact nomatch e⟩] at h
      exact .inr h
  keep := fun b o hb nt e => O.kept b o (by
    unfold kpBut; simp only
    rw [if_pos ⟨nt, fun hm => hb (List.mem_singleton.mp hm)⟩]; exact e)
  gens := fun n x e => O.kgens n x e
  off := hS
variable {nm : Str} {params : Arguments} {body : List Stmt} {scope : Scope} {dflt kwd : Value} {fa : Addr}
theorem CallX.fn {n : Nat} {x : Str} {xs : List Str} (F : FnAt G mg nm params body scope dflt kwd fa) (N : Names G mg mb) (hA : Room (n + 1) A) (hfit : scopeFit scope = true) (hb : bindFit scope (x :: xs) = true) (extra : List (Str × Value × D)) (hl : xs.length = ds.length + extra.length)
    (hbind : ∀ v vs fd S s, vs.length = ds.length → fd.params = params → fd.defaults = dflt → fd.kwdefaults = kwd → Inv G S s → BindsTo s fd ⟨v :: vs, []⟩ ((x, v) :: xs.zip (vs ++ extra.map (·.2.1))))
    (hex : ∀ S s, Inv G S s → Alls G S (extra.map (·.2.1)) (extra.map (·.2.2)))
    (run : ∀ act : Act scope (cellNames scope.names), ∃ ρ', RunV G (A.deeper act.env) act (execs body act.env) ((x, .own d) :: zipEnv xs (ds ++ extra.map (·.2.2))) ρ' ∧ ρ'.lookup x = some (.own d')) : CallX G A (.ref fa) d ds d' := fun S s a vs I ho hS r => by
  refine wpAny_call ?_
  have r' := r.append (hex S s I)
  have hl' : xs.length = (ds ++ extra.map (·.2.2)).length := by simp [hl]
  have hno : ∀ y dy, (zipEnv xs (ds ++ extra.map (·.2.2))).lookup y = some (.own dy) → False := by
    intro y dy h
    have : ∀ (xs : List Str) (ds : List D), (zipEnv xs ds).lookup y = some (.own dy) → False := by
      intro xs
      induction xs with
      | nil => intro ds h; exact nomatch h
      | cons z xs ih =>
        intro ds h
        cases ds with
        | nil => exact nomatch h
        | cons e ds =>
          by_cases q : y = z
          · subst q; simp [zipEnv] at h
          · unfold zipEnv at h; rw [lookup_cons_ne q] at h; exact ih ds h
    exact this _ _ h
  refine enter F N hA.lt hfit ((x, .ref a, .own d) :: zipArgs xs (vs ++ extra.map (·.2.1)) (ds ++ extra.map (·.2.2))) (by rw [List.map_cons, zipArgs_keys r' hl']; exact hb) (fun fd h1 h2 h3 => by rw [List.map_cons, zipArgs_bind r' hl']; exact hbind _ vs fd S s r.length h1 h2 h3 I) I [a] (fun _ => a)
    (fun b h => by rw [List.mem_singleton.mp h]; exact hS) (fun b hbm => ?_) (fun y z dy dz hy hz _ => ?_) fun act s₀ O hk hg hm => ?_
  · rcases List.mem_cons.mp hbm with rfl | hbm
    · exact ⟨rfl, .head _, ho⟩
    · obtain ⟨d, e, i⟩ := zipArgs_is r' hbm
      unfold EntArg
      rw [e]; exact i
  · rw [List.map_cons, zipArgs_env r'] at hy hz
    have key : ∀ y dy, List.lookup y ((x, Loc.own d) :: zipEnv xs (ds ++ extra.map (·.2.2))) = some (.own dy) → y = x := fun y dy h => by
      by_cases q : y = x
      · exact q
      · rw [lookup_cons_ne q] at h; exact (hno _ _ h).elim
    rw [key y dy hy, key z dz hz]
  · rw [List.map_cons, zipArgs_env r'] at O
    obtain ⟨ρ', run, hρ⟩ := run act
    refine wpAny_mono (run _ _ S s₀ O) (fun fl s' ⟨e, S', g, O'⟩ => ?_) fun _ _ e => e
    subst e
    obtain ⟨_, ho', hS', _, _⟩ := O'.vars x _ hρ
    exact ⟨S', O'.leaveBut I g hS', ho'⟩
end
end Mine
end

section
namespace Mine
variable {sc : Scope} {mc : List Str}
open PySem PySem.Calls PyProof.Rows
section
variable {G : Gl} {A : Around} {act : Act sc mc} {kp : Kept} {adr : Str → Addr} {ρ : LEnv} {S S' : Fz} {s s' : Shared} {mg mb : Str → Option Value} {d d' : D} {ds : List D} {n : Nat} {pos : Pos} {Q : FD → LEnv → Prop}
theorem Run.setD {x : Str} {e i : Expr} {np tp : Pos} {ks : List Ky} {k : Ky} (hx : ρ.lookup x = some (.own (.dict ks ds))) (hi : Ev G A act ρ i k.d) (he : Ev G A act ρ e d) (hn : ks.length ≤ sizeLine)
    (h : Q .next ((x, .own (.dict (dput ks ds k d).1 (dput ks ds k d).2)) :: ρ)) (hd : (x == ("__debug__" : Str)) = false := by decide) (hc : (x == ("__classdict__" : Str)) = false := by decide)
    (hs : swapsWith e (some (.Subscript (.Name x np) i tp)) pos.line act.env = pure false := by rfl) : Run G A act (exec (.Assign [.Subscript (.Name x np) i tp] e pos) act.env) ρ Q := fun kp adr S s O => by
  refine wpAny_Assign_Subscript (wp_seq (he kp adr S s O) fun S₁ v s₁ st iv => (O.step st).nameOwn hx (wp_seq (hi kp adr S₁ s₁ (O.step st)) fun S₂ kv s₂ st₂ ik => ?_) hd hc) hs
  have st' := st.trans st₂
  have O₂ := O.step st'
  obtain ⟨o, ho, w⟩ := O₂.ownAt hx
  obtain ⟨kvs, hm, e, r⟩ := Own.dictOf ho w
  have hl : kvs.length ≤ sizeLine := by rw [e, List.length_map] at hn; exact hn
  refine wpAny_setItem_pairs (Ky.kindIs ik) hm (fun h' hd' hs => ?_) hl
  obtain ⟨q1, q2⟩ := stored_keys (k := k) r (iv.mono st₂.sub)
  exact ⟨S₂, adr, _, .next, O.gro st', O₂.turnOwn (t := s₂.toks + 1) hx hs (Own.ofDictOf (ks := (dput ks ds k d).1) (ds := (dput ks ds k d).2) hd' (by rw [q1, e]) (by rw [e]; exact q2)), trivial, h⟩
theorem Run.augD {x : Str} {e i : Expr} {np tp : Pos} {ks : List Ky} {k : Ky} {op : Operator} {d₀ d₁ : D} (hx : ρ.lookup x = some (.own (.dict ks ds))) (hi : Ev G A act ρ i k.d) (hf : dfind k ks ds = some d₀) (he : Ev G A act ρ e d₁) (ho : Op2 G A (inplaceOp op) d₀ d₁ d)
    (hn : ks.length ≤ sizeLine) (h : Q .next ((x, .own (.dict (dput ks ds k d).1 (dput ks ds k d).2)) :: ρ)) (hd : (x == ("__debug__" : Str)) = false := by decide) (hc : (x == ("__classdict__" : Str)) = false := by decide)
    (ha : ∀ ov iv new, augStore i ov iv new = (do holding [new, ov, iv] (setItem ov iv new); release [new, ov, iv] []; pure .next) := by intros; rfl) :
    Run G A act (exec (.AugAssign (.Subscript (.Name x np) i tp) op e pos) act.env) ρ Q := fun kp adr S s O => by
  refine wpAny_AugAssign_SubscriptAny (O.nameOwn hx (wp_seq (hi kp adr S s O) fun S₁ kv s₁ st ik => ?_) hd hc) ha
  have O₁ := O.step st
  obtain ⟨o, ho₁, w⟩ := O₁.ownAt hx
  (refine cps fun ZP zk => ?_; obtain ⟨kvs, hm, e₁, r⟩ := Own.dictOf ho₁ w; refine zk ?_)
  obtain ⟨v₀, hv₀, i₀⟩ := dfind_is e₁ r hf
  refine wpAny_getItem_of (Ky.kindIs ik) hm.mapOf hv₀ ?_
  have st1 := st.inv.toks (s₁.toks + 1)
  have O1 := O₁.step st1
  refine wp_seq (he kp adr S₁ _ O1) fun S₂ v s₂ st₂ iv => wp_seq (ho S₂ s₂ v₀ v st₂.inv (i₀.mono st₂.sub) iv) fun S₃ nv s₃ st₃ inv => ?_
  have st' := st.trans (st1.trans (st₂.trans st₃))
  have O₃ := O.step st'
  obtain ⟨o₃, ho₃, w₃⟩ := O₃.ownAt hx
  obtain ⟨kvs₃, hm₃, e₃, r₃⟩ := Own.dictOf ho₃ w₃
  have hl : kvs₃.length ≤ sizeLine := by rw [e₃, List.length_map] at hn; exact hn
  refine wpAny_setItem_pairs (Ky.kindIs ((ik.mono st₂.sub).mono st₃.sub)) hm₃ (fun h' hd' hs => ?_) hl
  obtain ⟨q1, q2⟩ := stored_keys (k := k) r₃ inv
  exact ⟨S₃, adr, _, .next, O.gro st', O₃.turnOwn (t := s₃.toks + 1) hx hs (Own.ofDictOf (ks := (dput ks ds k d).1) (ds := (dput ks ds k d).2) hd' (by rw [q1, e₃]) (by rw [e₃]; exact q2)), trivial, h⟩
theorem Run.augL {x : Str} {e i : Expr} {np tp : Pos} {k : Int} {op : Operator} {d₀ d₁ : D} (hx : ρ.lookup x = some (.own (.list ds))) (hi : Ev G A act ρ i (.int k)) (h0 : 0 ≤ k) (h1 : k < 2 ^ 62) (hf : ds[k.toNat]? = some d₀) (he : Ev G A act ρ e d₁) (ho : Op2 G A (inplaceOp op) d₀ d₁ d)
    (h : Q .next ((x, .own (.list (ds.set k.toNat d))) :: ρ)) (hd : (x == ("__debug__" : Str)) = false := by decide) (hc : (x == ("__classdict__" : Str)) = false := by decide)
    (ha : ∀ ov iv new, augStore i ov iv new = (do holding [new, ov, iv] (setItem ov iv new); release [new, ov, iv] []; pure .next) := by intros; rfl) :
    Run G A act (exec (.AugAssign (.Subscript (.Name x np) i tp) op e pos) act.env) ρ Q := fun kp adr S s O => by
  refine wpAny_AugAssign_SubscriptAny (O.nameOwn hx (wp_seq (hi kp adr S s O) fun S₁ kv s₁ st ik => ?_) hd hc) ha
  obtain ⟨t, rfl⟩ := ik.int'
  have O₁ := O.step st
  obtain ⟨o, ho₁, w⟩ := O₁.ownAt hx
  (refine cps fun ZP zk => ?_; obtain ⟨m, vs, rfl, r⟩ := own_list w; refine zk ?_)
  obtain ⟨v₀, hv₀, i₀⟩ := r.got hf
  have hlt : k.toNat < vs.length := by
    have := hv₀
    rw [List.getElem?_eq_some_iff] at this; exact this.1
  refine wpAny_getItem_list (IsL.isList' ho₁) h0 (by lia) (by simpa using hv₀) ?_
  refine wp_seq (he kp adr S₁ _ O₁) fun S₂ v s₂ st₂ iv => wp_seq (ho S₂ s₂ v₀ v st₂.inv (i₀.mono st₂.sub) iv) fun S₃ nv s₃ st₃ inv => ?_
  have st2 := st₂.trans st₃
  have ho₃ := st2.keep _ _ (O₁.inv.noTab ho₁ (fun e => nomatch e)) ho₁
  have O₃ := O₁.step st2
  refine PySem.W.ki_setAt (n := m) ho₃ h0 (by omega) (by rw [List.size_toArray]; lia) ?_
  have e := get?_update_seq ho₃ (fun xs => xs.setIfInBounds k.toNat nv)
  refine ⟨S₃, adr, _, .next, O.gro (st.trans st2), O₃.turnOwn (t := s₃.toks) (d' := .list (ds.set k.toNat d)) hx (Heap.SameBut.update ..) ⟨_, e, ?_⟩, trivial, h⟩
  have : vs.toArray.setIfInBounds k.toNat nv = (vs.set k.toNat nv).toArray := by simp
  rw [this]
  refine .list ?_
  have key : ∀ (j : Nat) {vs : List Value} {ds : List D}, Alls G S₃ vs ds → Alls G S₃ (vs.set j nv) (ds.set j d) := by
    intro j
    induction j with
    | zero => intro vs ds h; cases h with
      | nil => exact .nil
      | cons h r => exact .cons inv r
    | succ j ih => intro vs ds h; cases h with
      | nil => exact .nil
      | cons h r => exact .cons h (ih r)
  exact key _ (r.mono st2.sub)

/-! displays -/
theorem EvO.dict0 : EvO G A act ρ (.Dict [] [] pos) (.dict [] []) := fun kp adr S s O => by
  rw [eval_Dict_empty]
  refine wpAny_bind (wpAny_standAt (wpAny_newObj_type (T := "dict") (data := .dict #[]) ?_ (Nat.zero_le _)))
  exact PostO.push O.inv (.dict (kvs := []) (by intro e he; simp at he) .nil rfl .nil .nil) rfl (t := s.toks)
theorem EvO.dict1 {kx vx : Expr} {k : Ky} (hk : Ev G A act ρ kx k.d) (hv : Ev G A act ρ vx d)
    (hsh : ∀ env, (evalEachOpt [some kx] env).zip ((evalEach [vx] env).map fun v => do let x ← v; standAt pos; pure x) = [(some (eval kx env), (do let x ← eval vx env; standAt pos; pure x))] := by intro _; rfl) :
    EvO G A act ρ (.Dict [some kx] [vx] pos) (.dict [k] [d]) := fun kp adr S s O => by
  have st0 := O.inv.keeps (h' := s.heap.push { cls := .type "dict", data := .dict #[] }) (t := s.toks) fun b o e => Heap.get?_push_of_some _ e
  have O0 := O.step st0
  refine wpAny_Dict_pairs (knd := G.knd) (pairs := [(eval kx act.env, (do let x ← eval vx act.env; standAt pos; pure x))]) (hsh _) (by simp) (by simp) ?_
  refine evalPairs_cons (wp_seq (hk kp adr S _ O0) fun S₁ kv s₁ st₁ ik => wpAny_bind (wp_seq (hv kp adr S₁ s₁ (O0.step st₁)) fun S₂ vv s₂ st₂ iv => wpAny_bind (wpAny_standAt (wpAny_pure (evalPairs_nil ?_)))))
  have st' := st₁.trans st₂
  have hnew : (s.heap.push { cls := .type "dict", data := .dict #[] }).get? s.heap.objs.size = some { cls := .type "dict", data := .dict #[] } := Heap.get?_push_size _ rfl
  have hk0 := st'.keep _ _ (O.inv.noTabFresh Inv.fresh) hnew
  have hd0 : s₂.heap.DictOf G.knd s.heap.objs.size [] := ⟨_, #[], 0, hk0, ⟨rfl, rfl, rfl⟩, rfl, (by intro e he; simp at he), .nil, .nil⟩
  refine ⟨[(k, vv)], ⟨Ky.kindIs (ik.mono st₂.sub), rfl, trivial⟩, hd0, fun h' hd' hs => ?_⟩
  have hS2 : S₂ s.heap.objs.size = none := by
    cases q : S₂ s.heap.objs.size with
    | none => rfl
    | some o' =>
      rcases st'.new _ _ q with e | e
      · rw [O.inv.sizeS] at e; exact nomatch e
      · rw [hnew] at e; exact nomatch e
  obtain ⟨o', ho', w'⟩ := Own.ofDictOf (G := G) (S := S₂) (ks := [k]) (ds := [d]) hd' (by rfl) (.cons iv .nil)
  exact ⟨S₂, _, o', (st0.trans st').butNew (t := s₂.toks + 1) hs Inv.fresh hS2 (O.inv.noTabFresh Inv.fresh), rfl, ho', w', hS2, Inv.fresh⟩

/-! tuple = tuple -/
inductive Evl (G : Gl) (A : Around) (act : Act sc mc) (ρ : LEnv) : List Expr → List Loc → Prop
  | nil : Evl G A act ρ [] []
  | val {e : Expr} {es : List Expr} {d : D} {ls : List Loc} : Ev G A act ρ e d → Evl G A act ρ es ls → (∀ env, starEach (e :: es) env = (false, eval e env) :: starEach es env) → Evl G A act ρ (e :: es) (.val d :: ls)
  | own {e : Expr} {es : List Expr} {d : D} {ls : List Loc} : EvO G A act ρ e d → Evl G A act ρ es ls → (∀ env, starEach (e :: es) env = (false, eval e env) :: starEach es env) → Evl G A act ρ (e :: es) (.own d :: ls)
theorem Evl.v {e : Expr} {es : List Expr} {ls : List Loc} (h : Ev G A act ρ e d) (r : Evl G A act ρ es ls) (he : ∀ env, starEach (e :: es) env = (false, eval e env) :: starEach es env := by intro _; rfl) : Evl G A act ρ (e :: es) (.val d :: ls) := .val h r he
theorem Evl.o {e : Expr} {es : List Expr} {ls : List Loc} (h : EvO G A act ρ e d) (r : Evl G A act ρ es ls) (he : ∀ env, starEach (e :: es) env = (false, eval e env) :: starEach es env := by intro _; rfl) : Evl G A act ρ (e :: es) (.own d :: ls) := .own h r he
noncomputable def NewAt (G : Gl) (S : Fz) (s s' : Shared) (v : Value) : Loc → Prop
  | .val d => Is G S v d
  | .own d => ∃ a o, v = .ref a ∧ s'.heap.get? a = some o ∧ Own G S o d ∧ S a = none ∧ s.heap.get? a = none
inductive NewsAt (G : Gl) (S : Fz) (s s' : Shared) : List Value → List Loc → Prop
  | nil : NewsAt G S s s' [] []
  | cons {v : Value} {l : Loc} {vs : List Value} {ls : List Loc} : NewAt G S s s' v l → NewsAt G S s s' vs ls → (isOwn l = true → ∀ u l', (u, l') ∈ vs.zip ls → isOwn l' = true → u ≠ v) → NewsAt G S s s' (v :: vs) (l :: ls)
theorem NewsAt.fresh : ∀ {vs : List Value} {ls : List Loc}, NewsAt G S s s' vs ls → ∀ u l, (u, l) ∈ vs.zip ls → isOwn l = true → ∃ a, u = .ref a ∧ s.heap.get? a = none
  | _, _, .nil, u, l, h, _ => nomatch h
  | _, _, .cons (l := l₀) h r _, u, l, hm, ho => by
    rcases List.mem_cons.mp hm with e | hm
    · cases e
      cases l₀ with
      | val d => exact nomatch ho
      | own d => obtain ⟨a, o, e, _, _, _, hn⟩ := h; exact ⟨a, e, hn⟩
    · exact r.fresh u l hm ho
theorem NewsAt.pre {s₁ : Shared} (st : Stp G S s S' s₁) {S₂ : Fz} : ∀ {vs : List Value} {ls : List Loc}, NewsAt G S₂ s₁ s' vs ls → NewsAt G S₂ s s' vs ls
  | _, _, .nil => .nil
  | _, _, .cons (v := v) (l := l) h r hn => by
    refine .cons ?_ (r.pre st) hn
    cases l with
    | val d => exact h
    | own d =>
      obtain ⟨a, o, e, ho, w, hS, hf⟩ := h
      refine ⟨a, o, e, ho, w, hS, ?_⟩
      cases q : s.heap.get? a with
      | none => rfl
      | some o' => rw [st.keep _ _ (st.inv.noTabFresh hf) q] at hf; exact nomatch hf
theorem Evl.spliced {es : List Expr} {ls : List Loc} (h : Evl G A act ρ es ls) : ∀ kp adr S s, OK G act kp adr ρ S s → wpAny G.M A (spliced (backTo pos (starEach es act.env))) (fun vs s' => ∃ S', Stp G S s S' s' ∧ NewsAt G S' s s' vs ls) No s := by
  induction h with
  | nil => exact fun _ _ S _ O => spliced_none ⟨S, .refl O.inv, .nil⟩
  | val h _ he ih =>
    intro kp adr S s O
    refine spliced_more (wp_seq (h kp adr S s O) fun S₁ v s₁ st₁ i => wpAny_mono (ih kp adr S₁ s₁ (O.step st₁)) (fun vs s₂ ⟨S₂, st₂, is⟩ => ?_) fun _ _ e => e) (he _)
    exact ⟨S₂, st₁.trans st₂, .cons (i.mono st₂.sub) (is.pre st₁) fun e => nomatch e⟩
  | own h _ he ih =>
    intro kp adr S s O
    refine spliced_more (wpAny_mono (h kp adr S s O) (fun v s₁ ⟨S₁, a, o, st₁, hv, ho, w, hS, hn⟩ => wpAny_mono (ih kp adr S₁ s₁ (O.step st₁)) (fun vs s₂ ⟨S₂, st₂, is⟩ => ?_) fun _ _ e => e) fun _ _ e => e) (he _)
    subst hv
    have nt := st₁.inv.noTab ho w.cls
    refine ⟨S₂, st₁.trans st₂, .cons ⟨a, o, rfl, st₂.keep _ _ nt ho, w.mono st₂.sub, ?_, hn⟩ (is.pre st₁) fun _ u l' hm hl e => ?_⟩
    · cases q : S₂ a with
      | none => rfl
      | some o' =>
        rcases st₂.new _ _ q with e | e
        · rw [hS] at e; exact nomatch e
        · rw [ho] at e; exact nomatch e
    · obtain ⟨b, hb, hf⟩ := is.fresh u l' hm hl
      rw [e] at hb
      obtain rfl := PySem.Value.ref.inj hb
      rw [ho] at hf; exact nomatch hf
theorem NewsAt.length : ∀ {vs : List Value} {ls : List Loc}, NewsAt G S s s' vs ls → vs.length = ls.length
  | _, _, .nil => rfl
  | _, _, .cons _ r _ => by simp [r.length]
end
end Mine
end

section
namespace Mine
variable {sc : Scope} {mc : List Str}
open PySem PySem.Calls PyProof.Rows
theorem bindLs_lookup {y : Str} : ∀ {xs : List Str} {ls : List Loc} {ρ : LEnv}, xs.Nodup → xs.length = ls.length → (bindLs xs ls ρ).lookup y = ((xs.zip ls).lookup y).or (ρ.lookup y)
  | [], [], ρ, _, _ => rfl
  | x :: xs, l :: ls, ρ, nd, hl => by
    rw [List.nodup_cons] at nd
    rw [bindLs, bindLs_lookup nd.2 (by simpa using hl), List.zip_cons_cons]
    by_cases q : y = x
    · subst q
      have : (xs.zip ls).lookup y = none := by
        cases h : (xs.zip ls).lookup y with
        | none => rfl
        | some l' => exact absurd (List.of_mem_zip (mem_of_lookup h)).1 nd.1
      rw [this]
      simp
    · rw [lookup_cons_ne q, lookup_cons_ne q]
theorem nodup_rev {α : Type} {l : List α} (h : l.Nodup) : l.reverse.Nodup := List.pairwise_reverse.mpr (h.imp fun q => Ne.symm q)
theorem zip_rev {α β : Type} : ∀ {xs : List α} {ys : List β}, xs.length = ys.length → (xs.zip ys).reverse = xs.reverse.zip ys.reverse
  | [], [], _ => rfl
  | x :: xs, y :: ys, h => by
    have h : xs.length = ys.length := by simpa using h
    rw [List.zip_cons_cons, List.reverse_cons, List.reverse_cons, List.reverse_cons, List.zip_append (by simpa using h), zip_rev h]
    rfl
theorem bindLs_rev {y : Str} {l : Loc} {xs : List Str} {ls : List Loc} {ρ : LEnv} (nd : xs.Nodup) (hl : xs.length = ls.length) (h : (bindLs xs ls ρ).lookup y = some l) : (bindLs xs.reverse ls.reverse ρ).lookup y = some l := by
  rw [bindLs_lookup nd hl] at h
  rw [bindLs_lookup (nodup_rev nd) (by simpa using hl)]
  have keys : (xs.zip ls).map (·.1) = xs := List.map_fst_zip (Nat.le_of_eq hl)
  have rz : xs.reverse.zip ls.reverse = (xs.zip ls).reverse := (zip_rev hl).symm
  rw [rz]
  have ndk : ((xs.zip ls).reverse.map (·.1)).Nodup := by rw [List.map_reverse, keys]; exact nodup_rev nd
  cases q : (xs.zip ls).lookup y with
  | some l' =>
    rw [q] at h
    rw [lookup_of_mem ndk (List.mem_reverse.mpr (mem_of_lookup q))]
    exact h
  | none =>
    rw [q] at h
    have : (xs.zip ls).reverse.lookup y = none := by
      cases h' : (xs.zip ls).reverse.lookup y with
      | none => rfl
      | some l' =>
        rw [lookup_of_mem (by rw [keys]; exact nd) (List.mem_reverse.mp (mem_of_lookup h'))] at q
        exact nomatch q
    rw [this]; exact h
section
variable {G : Gl} {A : Around} {act : Act sc mc} {kp : Kept} {adr : Str → Addr} {ρ : LEnv} {S S' : Fz} {s s' : Shared} {d d' : D} {ds : List D} {n : Nat} {pos : Pos} {Q : FD → LEnv → Prop}
theorem NewsAt.snoc {v : Value} {l : Loc} (hv : NewAt G S s s' v l) : ∀ {vs : List Value} {ls : List Loc}, NewsAt G S s s' vs ls → (∀ u l', (u, l') ∈ vs.zip ls → isOwn l' = true → isOwn l = true → u ≠ v) → NewsAt G S s s' (vs ++ [v]) (ls ++ [l])
  | _, _, .nil, _ => .cons hv .nil fun _ _ _ h => nomatch h
  | _, _, .cons (v := u) (l := l₀) h r hn, hd => by
    refine .cons h (r.snoc hv fun u l' hm => hd u l' (.tail _ hm)) fun ho w l' hm hl => ?_
    have hm : (w, l') ∈ (_ ++ [v]).zip (_ ++ [l]) := hm
    rw [List.zip_append r.length] at hm
    rcases List.mem_append.mp hm with hm | hm
    · exact hn ho w l' hm hl
    · simp at hm
      obtain ⟨rfl, rfl⟩ := hm
      exact fun e => hd u l₀ (.head _) ho hl e.symm
theorem NewsAt.rev : ∀ {vs : List Value} {ls : List Loc}, NewsAt G S s s' vs ls → NewsAt G S s s' vs.reverse ls.reverse
  | _, _, .nil => .nil
  | _, _, .cons h r hn => by
    rw [List.reverse_cons, List.reverse_cons]
    refine (r.rev).snoc h fun u l' hm ho hl => ?_
    rw [← zip_rev r.length] at hm
    exact hn hl u l' (List.mem_reverse.mp hm) ho
noncomputable def D.sol : D → Bool
  | .raw _ => false
  | .at _ d => d.sol
  | _ => true
noncomputable def Loc.sol : Loc → Bool
  | .val d => d.sol
  | .own _ => true
theorem Is.refS {a : Addr} {d : D} (hd : d.sol = true) (h : Is G S (.ref a) d) : ∃ o, S a = some o :=
  Is.rec (motive_1 := fun v d _ => d.sol = true → ∀ a, v = .ref a → ∃ o, S a = some o) (motive_2 := fun _ _ _ => True) (fun _ _ e => nomatch e) (fun _ _ _ e => nomatch e) (fun _ _ _ _ e => nomatch e) (fun _ _ _ _ e => nomatch e)
    (fun h _ _ _ _ _ _ e => ⟨_, Value.ref.inj e ▸ h⟩) (fun h _ _ _ _ _ _ e => ⟨_, Value.ref.inj e ▸ h⟩) (fun h _ _ _ _ _ _ _ _ _ e => ⟨_, Value.ref.inj e ▸ h⟩) (fun h _ _ e => ⟨_, Value.ref.inj e ▸ h⟩)
    (fun h _ _ _ _ e => ⟨_, Value.ref.inj e ▸ h⟩) (fun h _ _ _ _ e => ⟨_, Value.ref.inj e ▸ h⟩) (fun _ h => nomatch h) (fun _ ih => ih) trivial (fun _ _ _ _ => trivial) h hd a rfl
theorem NewsAt.locs (O : OK G act kp adr ρ S s) (st : Stp G S s S' s') : ∀ {vs : List Value} {ls : List Loc}, NewsAt G S' s s' vs ls → ls.all Loc.sol = true → LocsOk G act kp adr ρ S' s' vs ls
  | _, _, .nil, _ => .nil
  | _, _, .cons (v := v) (l := l) (vs := ws) (ls := ks) h r hn, hsol => by
    have hsol' : ks.all Loc.sol = true := by simp only [List.all_cons, Bool.and_eq_true] at hsol; exact hsol.2
    refine .cons ?_ (NewsAt.locs O st r hsol') fun ho hm => ?_
    · cases l with
      | val d => exact h
      | own d =>
        obtain ⟨a, o, e, ho, w, hS, hf⟩ := h
        exact ⟨a, e, O.fresh st ho w hS hf⟩
    · obtain ⟨i, hi, hv⟩ := List.getElem_of_mem hm
      have hl := r.length
      cases l with
      | val d => exact nomatch ho
      | own d =>
        obtain ⟨a, o, e, _, _, hS, hf⟩ := h
        subst e
        have hz : (Value.ref a, ks[i]'(by lia)) ∈ ws.zip ks := List.mem_iff_getElem.mpr ⟨i, by rw [List.length_zip]; lia, by rw [List.getElem_zip, hv]⟩
        cases q : ks[i]'(by omega) with
        | own d' =>
          rw [q] at hz
          exact hn rfl _ _ hz rfl rfl
        | val d' =>
          rw [q] at hz
          have : ∀ {vs : List Value} {ls : List Loc}, NewsAt G S' s s' vs ls → (Value.ref a, Loc.val d') ∈ vs.zip ls → Is G S' (.ref a) d' := by
            intro vs ls h hm
            induction ls generalizing vs with
            | nil => cases h; exact nomatch hm
            | cons l ls ih =>
              cases h with
              | cons h r _ =>
                rcases List.mem_cons.mp hm with e | hm
                · obtain ⟨rfl, rfl⟩ := Prod.mk.inj e; exact h
                · exact ih r hm
          obtain ⟨o', ho'⟩ := Is.refS (by have := List.all_eq_true.mp hsol' (ks[i]'(by omega)) (List.getElem_mem _); rw [q] at this; exact this) (this r hz)
          rw [hS] at ho'; exact nomatch ho'
theorem elts_names {es : List Expr} {xs : List Str} (h : Elts sc mc es xs) (f : Str → Pos → Bool) (g : Expr → Option Str) (hg : ∀ x p, g (.Name x p) = if f x p = true then some x else none) : (es.filterMap g).length ≤ xs.length ∧ ((es.filterMap g).length = es.length → es.filterMap g = xs) ∧ es.length = xs.length := by
  induction h with
  | nil => exact ⟨Nat.le_refl _, fun _ => rfl, rfl⟩
  | @cons x p es xs _ _ ih =>
    obtain ⟨i1, i2, i3⟩ := ih
    rw [List.filterMap_cons, hg]
    by_cases q : f x p = true
    · simp only [q, if_true, List.length_cons]
      exact ⟨by lia, fun h => by rw [i2 (by lia)], by lia⟩
    · simp only [q, Bool.false_eq_true, if_false, List.length_cons]
      exact ⟨by lia, fun h => by lia, by omega⟩
set_option tactic.hygienic true in
theorem swapped_two {ts vs : List Expr} {xs : List Str} {k k2 : Nat} {tp p2 : Pos} (h : Elts sc mc ts xs) (env : Env) (hc : (vs.all (foldedForSure 8) || !(vs.all (constantsAlone 8))) = true) :
    swappedStores [.Tuple ts k tp] (.Tuple vs k2 p2) env = pure none ∨ swappedStores [.Tuple ts k tp] (.Tuple vs k2 p2) env = pure (some xs) := by
  unfold swappedStores
  simp only []
  obtain ⟨i1, i2, i3⟩ := elts_names h (fun x p => env.kindOf x == some .local && p.line == (ts.head?.map (·.pos.line)).getD 0) (fun
    | .Name id pos => if env.kindOf id == some .local && pos.line == (ts.head?.map (·.pos.line)).getD 0 then some id else none
    | _ => none) (fun x p => rfl)
  split
  · exact .inl rfl
  · split
    · exact .inl rfl
    · split
      · exact .inl rfl
      · rename_i h3
        split
        · exact .inl rfl
        · rename_i h4
          split
          · rename_i h5; rw [eq_false_of_ne_true h4, h5] at hc; exact absurd hc (by decide)
          · refine .inr ?_
            simp only [Bool.or_eq_true, bne_iff_ne, ne_eq, not_or, Decidable.not_not] at h3
            exact congrArg (fun z => pure (some z)) (i2 h3.1)
theorem Run.assignTT {m : Nat} (hA : Room m A) {ts es : List Expr} {xs : List Str} {ls : List Loc} {k k2 : Nat} {tp p2 : Pos} (ht : Elts sc mc ts xs) (he : Evl G A act ρ es ls) (hl : xs.length = ls.length) (nd : xs.Nodup) (hsz : ls.length ≤ sizeLine) (hc : (es.all (foldedForSure 8) || !(es.all (constantsAlone 8))) = true)
    (h : Q .next (bindLs xs ls ρ)) (hsol : ls.all Loc.sol = true := by rfl) : Run G A act (exec (.Assign [.Tuple ts k tp] (.Tuple es k2 p2) pos) act.env) ρ Q := fun kp adr S s O => by
  rw [exec_Assign]
  refine wpAny_bind (wpAny_standAt ?_)
  rw [show swapsWithSole [.Tuple ts k tp] (.Tuple es k2 p2) pos.line act.env = pure false from rfl]
  refine wpAny_bind (wpAny_pure ?_)
  rw [if_neg (by decide)]
  refine wpAny_bind (Tuple_ (wpAny_mono (he.spliced (pos := p2) kp adr S s O) (fun vs s₁ ⟨S₁, st, nw⟩ => ?_) fun _ _ e => e))
  have hvl := nw.length
  refine wpAny_newObj_type (T := "tuple") (data := .seq vs.toArray) ?_ (by show vs.toArray.size ≤ sizeLine; rw [List.size_toArray, hvl]; exact hsz)
  have st2 := st.inv.keeps (h' := s₁.heap.push { cls := .type "tuple", data := .seq vs.toArray }) (t := s₁.toks) fun b o e => Heap.get?_push_of_some _ e
  have hT : (s₁.heap.push { cls := .type "tuple", data := .seq vs.toArray }).IsTuple s₁.heap.objs.size vs.toArray := ⟨_, Heap.get?_push_size _ rfl, rfl, _, rfl⟩
  obtain ⟨h1, h2, h3⟩ := ht.stores (G := G) (A := A) (act := act)
  have later : ∀ {vs ls}, NewsAt G S₁ s s₁ vs ls → ∀ {s₂ : Shared}, Stp G S₁ s₁ S₁ s₂ → NewsAt G S₁ s s₂ vs ls := by
    intro vs ls h s₂ stx
    induction ls generalizing vs with
    | nil => cases h; exact .nil
    | cons l ls ih =>
      cases h with
      | cons h r hn =>
        refine .cons ?_ (ih r) hn
        cases l with
        | val d => exact h
        | own d =>
          obtain ⟨a, o, e, ho, w, hS, hf⟩ := h
          exact ⟨a, o, e, stx.keep _ _ (st.inv.noTab ho w.cls) ho, w, hS, hf⟩
  rcases swapped_two (k := k) (k2 := k2) (tp := tp) (p2 := p2) (vs := es) ht act.env hc with hw | hw
  · rw [hw]
    refine wpAny_bind (wpAny_pure ?_)
    show wpAny G.M A (PySem.assign (.Tuple ts k tp) act.env (.ref s₁.heap.objs.size) >>= fun _ => pure Flow.next) _ _ _
    refine wpAny_bind (wpAny_mono (Q := fun _ s' => RunPost G act kp S Q .next s') ?_ (fun _ _ h => wpAny_pure h) fun _ _ e => e)
    refine wpAny_assign_Tuple hA.handled hT (by rw [h2, List.size_toArray, hvl, hl]) h3 fun h' hx => ?_
    have st3 := st2.trans (st2.inv.ext (t := s₁.toks) hx)
    refine h1.run (vs := vs) ((O.step st).step st3) (NewsAt.locs O (st.trans st3) (later nw st3) hsol) (by rw [List.length_map, h2, hvl, hl]) fun s' adr' O' _ => ?_
    exact ⟨S₁, adr', _, .next, O.gro st, O', trivial, h⟩
  · rw [hw]
    refine wpAny_bind (wpAny_pure ?_)
    show wpAny G.M A (do rule "assign.swapped-stores"; let items ← unpackItems (.ref s₁.heap.objs.size) xs.length none; assignInOrder (xs.reverse.map fun n => bindName act.env n) items.reverse; pure Flow.next) _ _ _
    refine wpAny_bind (wpAny_rule (wpAny_bind ?_))
    rw [show xs.length = vs.toArray.size by rw [List.size_toArray, hvl, hl]]
    refine wpAny_unpackItems_tuple hA.handled hT fun h' hx => ?_
    have st3 := st2.trans (st2.inv.ext (t := s₁.toks) hx)
    have stores : ∀ {ys : List Str}, (∀ y ∈ ys, Stores sc mc y) → Storers G A act (ys.map fun n => bindName act.env n) ys := by
      intro ys
      induction ys with
      | nil => intro _; exact .nil
      | cons y ys ih => intro hy; exact .cons (fun v Q E s h => bindName_ h) (hy y (.head _)) (ih fun z hz => hy z (.tail _ hz))
    have sts : ∀ y ∈ xs, Stores sc mc y := by
      clear h hl h1 h2 h3 nd hw
      induction ht with
      | nil => intro y hy; exact nomatch hy
      | cons hx _ ih =>
        intro y hy
        rcases List.mem_cons.mp hy with rfl | hy
        · exact hx
        · exact ih y hy
    refine wpAny_bind (wpAny_mono (Q := fun _ s' => RunPost G act kp S Q .next s') ?_ (fun _ _ h => wpAny_pure h) fun _ _ e => e)
    refine (stores (ys := xs.reverse) fun y hy => sts y (List.mem_reverse.mp hy)).run (vs := vs.reverse) ((O.step st).step st3) (NewsAt.locs O (st.trans st3) (later nw st3).rev (by rw [List.all_reverse]; exact hsol)) (by simp [hvl, hl]) fun s' adr' O' _ => ?_
    exact ⟨S₁, adr', _, .next, O.gro st, O'.weaken fun y l e => bindLs_rev nd hl e, trivial, h⟩
end
end Mine
end

section
namespace Mine
variable {sc : Scope} {mc : List Str}
open PySem PySem.Calls PyProof.Rows
noncomputable def Has (ρ : LEnv) : LEnv → Prop
  | [] => True
  | (x, l) :: r => ρ.lookup x = some l ∧ Has ρ r
theorem Has.sub {ρ : LEnv} : ∀ {ρ₁ : LEnv}, Has ρ ρ₁ → ∀ x l, ρ₁.lookup x = some l → ρ.lookup x = some l
  | [], _, x, l, h => nomatch h
  | (y, l') :: r, ⟨h1, h2⟩, x, l, h => by
    by_cases q : x = y
    · subst q
      simp only [List.lookup, BEq.rfl] at h
      obtain rfl := Option.some.inj h
      exact h1
    · rw [lookup_cons_ne q] at h
      exact h2.sub x l h
noncomputable def lkE (ρ : LEnv) : LEnv → List (Option Loc)
  | [] => []
  | p :: r => ρ.lookup p.1 :: lkE ρ r
noncomputable def lkV : LEnv → List (Option Loc)
  | [] => []
  | p :: r => some p.2 :: lkV r
theorem Has.of {ρ : LEnv} : ∀ {ρ₁ : LEnv}, lkE ρ ρ₁ = lkV ρ₁ → Has ρ ρ₁
  | [], _ => trivial
  | _ :: _, h => ⟨(List.cons.inj h).1, Has.of (List.cons.inj h).2⟩
section
variable {G : Gl} {A : Around} {act : Act sc mc} {ρ ρ₁ : LEnv} {t e tgt : Expr} {pos : Pos} {body : List Stmt} {Q : FD → LEnv → Prop} {xs : List D} {m : Sem Flow} {d : D} {b : Bool}
theorem Run.has (h : Run G A act m ρ₁ Q) (hs : Has ρ ρ₁) : Run G A act m ρ Q := h.weaken hs.sub
theorem Te.has (h : Te G A act ρ₁ e b) (hs : Has ρ ρ₁) : Te G A act ρ e b := fun kp adr S s O => h kp adr S s (O.weaken hs.sub)
theorem Run.loop {α : Type} (env : α → LEnv) (I : α → Prop) (m : α → Nat) (a₀ : α) (h0 : I a₀) (hs : Has ρ (env a₀))
    (turn : ∀ a, I a → ∃ b, Te G A act (env a) t b ∧ (b = true → Run G A act (execs body act.env) (env a) (fun fd ρ' => match fd with
      | .next => ∃ a', I a' ∧ m a' < m a ∧ Has ρ' (env a')
      | .cont => ∃ a', I a' ∧ m a' < m a ∧ Has ρ' (env a')
      | .brk => Q .next ρ'
      | .ret d => Q (.ret d) ρ')) ∧ (b = false → ∀ ρ', Has ρ' (env a) → Q .next ρ')) :
    Run G A act (exec (.While t body [] pos) act.env) ρ Q := by
  refine Run.while (fun k ρ' => ∃ a, I a ∧ m a = k ∧ Has ρ' (env a)) (m a₀) ⟨a₀, h0, rfl, hs⟩ ?_
  rintro k ρ' ⟨a, ha, rfl, hh⟩
  obtain ⟨b, h1, h2, h3⟩ := turn a ha
  refine ⟨b, h1.has hh, fun hb => ((h2 hb).has hh).mono ?_, fun hb => h3 hb ρ' hh⟩
  intro fd ρ'' h
  cases fd with
  | next => obtain ⟨a', x, y, z⟩ := h; exact ⟨_, y, a', x, rfl, z⟩
  | cont => obtain ⟨a', x, y, z⟩ := h; exact ⟨_, y, a', x, rfl, z⟩
  | brk => exact h
  | ret d => exact h
theorem Run.forL {α β : Type} (as : List α) (φ : α → D) (env : β → LEnv) (I : List α → List α → β → Prop) (b₀ : β) (hsrc : Src G A act ρ tgt e (as.map φ)) (h0 : I [] as b₀) (hs : Has ρ (env b₀)) (ρt : α → β → LEnv)
    (turn : ∀ done a rest b, as = done ++ a :: rest → I done (a :: rest) b → Takes G A act tgt (φ a) (env b) (ρt a b) ∧ Run G A act (execs body act.env) (ρt a b) (fun fd ρ' => match fd with
      | .next => ∃ b', I (done ++ [a]) rest b' ∧ Has ρ' (env b')
      | .cont => ∃ b', I (done ++ [a]) rest b' ∧ Has ρ' (env b')
      | .brk => Q .next ρ'
      | .ret d => Q (.ret d) ρ'))
    (done : ∀ b ρ', I as [] b → Has ρ' (env b) → Q .next ρ') (hf : ∀ x, foldedSetIterable e act.env x = pure x := by intro _; rfl) :
    Run G A act (exec (.For tgt e body [] pos) act.env) ρ Q := by
  refine Run.for hsrc (fun xs ρ' => ∃ dn rest b, as = dn ++ rest ∧ xs = rest.map φ ∧ I dn rest b ∧ Has ρ' (env b)) ⟨[], as, b₀, rfl, rfl, h0, hs⟩ ?_ ?_ hf
  · rintro x xs ρ' ⟨dn, rest, b, e, hx, hI, hh⟩
    cases rest with
    | nil => simp at hx
    | cons a rest =>
      simp only [List.map_cons, List.cons.injEq] at hx
      obtain ⟨rfl, rfl⟩ := hx
      obtain ⟨t1, t2⟩ := turn dn a rest b e hI
      refine ⟨ρt a b, fun kp adr S s v O i => ?_, t2.mono ?_⟩
      · refine wpAny_mono (t1 kp adr S s v (O.weaken hh.sub) i) (fun _ s' ⟨S', adr', g, O', ho⟩ => ⟨S', adr', g, O', fun x d hx => ?_⟩) fun _ _ e => e
        obtain ⟨d₀, h1, h2⟩ := ho x d hx
        exact ⟨d₀, hh.sub _ _ h1, h2⟩
      · intro fd ρ'' h
        cases fd with
        | next => obtain ⟨b', h1, h2⟩ := h; exact ⟨dn ++ [a], rest, b', by simp [e], rfl, h1, h2⟩
        | cont => obtain ⟨b', h1, h2⟩ := h; exact ⟨dn ++ [a], rest, b', by simp [e], rfl, h1, h2⟩
        | brk => exact h
        | ret d => exact h
  · rintro ρ' ⟨dn, rest, b, e, hx, hI, hh⟩
    have : rest = [] := by simpa using hx.symm
    subst this
    rw [List.append_nil] at e
    subst e
    exact done b ρ' hI hh
end
end Mine
end

section
namespace Mine
variable {sc : Scope} {mc : List Str}
open PySem PySem.Calls PyProof.Rows
theorem entry_itemiter : entryFor table "dict_itemiterator.__iter__" = some Builtin.«dict_keyiterator.__iter__» :=
  entryFor_alias (id' := "dict_keyiterator.__iter__") (by kernel_rfl) rfl (by decide +kernel) (by kernel_rfl)
section
variable {G : Gl} {A : Around} {act : Act sc mc} {ρ : LEnv} {S S' : Fz} {s s' : Shared} {d : D} {ds : List D} {n : Nat} {pos : Pos}
theorem WalksT.items {knd : KeyKind G.prog G.w Ky} (hh : A.handled = none) (it d : Addr) (hne : d ≠ it) (kvs : List (Ky × Value)) (ep : Nat) :
    WalksT G.prog G.w A it [it, d] [it] kvs.length (fun i vals => ∃ k key v, kvs[i]? = some (k, v) ∧ knd.is k key = true ∧ vals = #[key, v])
      (fun i h => (∃ ok ov, IsItemIter h it d i kvs.length ep ok ov) ∧ h.DictAt knd d kvs ep)
      (fun i T h => (∃ ok ov, IsItemIterOut h it d (i + 1) kvs.length ep ok ov T) ∧ h.DictAt knd d kvs ep ∧ T ≠ it) where
  sub := fun b hb => by rw [List.mem_singleton.mp hb]; exact .head _
  frame := fun i h h' hst hk => by
    obtain ⟨⟨ok, ov, he⟩, hm⟩ := hst
    exact ⟨⟨ok, ov, hk it (.head _) _ he⟩, hm.at' fun o e => hk d (.tail _ (.head _)) o e⟩
  item := fun i s Q E hi hst hQ => by
    obtain ⟨⟨ok, ov, he⟩, hm⟩ := hst
    have hx : kvs[i]? = some (kvs[i].1, kvs[i].2) := List.getElem?_eq_getElem hi
    refine wpAny_pyNext_items_item he hm hx fun key h' hkey ho hT hsz hk => ?_
    have hlt : it < s.heap.objs.size := Heap.lt_size he
    exact hQ s.heap.objs.size #[key, kvs[i].2] h' s.toks ⟨_, key, _, hx, hkey, rfl⟩ (Nat.le_refl _) ⟨_, hT, rfl, _, rfl⟩ ⟨⟨_, _, ho⟩, hm.at' fun o e => hk d o hne e, Nat.ne_of_gt hlt⟩
      fun b o hb e => hk b o (fun q => hb (q ▸ .head _)) e
  go := fun elts k pos i T s Q E hm hQ => by
    obtain ⟨⟨ok, ov, ho⟩, hd, hT⟩ := hm
    refine wpAny_letOwnedTupleGo_items ho fun h' he hs => hQ h' ⟨⟨ok, ov, he⟩, hd.at' fun o e => hs.extBut _ _ hne e⟩ fun b o hb e => hs.extBut _ _ (fun q => hb (q ▸ .head _)) e
  apart := fun i T h hm hT => hm.2.2 (List.mem_singleton.mp hT)
  done := fun s Q E hst hQ => by
    obtain ⟨⟨ok, ov, he⟩, hm⟩ := hst
    exact wpAny_pyNext_items_end hh he hm (by simp) fun h' hx => hQ h' s.toks fun b o hb e => hx b o (fun q => hb (q ▸ .head _)) e
  self := fun i s Q E hst hQ => by
    obtain ⟨⟨ok, ov, he⟩, hm⟩ := hst
    have hT : s.TypeIs (.ref it) "dict_itemiterator" := ⟨_, he, rfl⟩
    refine wpAny_pyIter_slot hT PySem.F.slot_dict_itemiterator_iter (wpAny_call_entry PySem.F.slot_dict_itemiterator_iter hT entry_itemiter ?_ (PySem.F.args_dict_itemiterator_iter_1 _))
    show wpAny _ _ (ret (.ref it)) _ _ s
    exact wpAny_pure ⟨_, rfl, "dict_itemiterator", _, hT, PySem.F.slot_dict_itemiterator_next.lookup, hQ⟩
theorem Selfy.walksT {I : Addr} {fp wr : List Addr} {n : Nat} {Pt : Nat → Array Value → Prop} {St : Nat → Heap → Prop} {Mid : Nat → Addr → Heap → Prop} (W : WalksT G.prog G.w A I fp wr n Pt St Mid) {i : Nat} (I' : Inv G S s) (hst : St i s.heap) (hfp : ∀ b ∈ fp, b ∈ wr ∨ ∃ o, S b = some o) :
    Selfy G A (.ref I) ⟨wr, []⟩ S s := fun S' s' af Q E hQ => W.self i s' Q E (W.frame _ _ _ hst fun b hb o e => by
  rcases hfp b hb with h | ⟨o', h⟩
  · exact af.same.adr b h o e
  · have h3 := I'.sub _ _ h
    rw [e] at h3
    obtain rfl := Option.some.inj h3
    exact af.inv.sub _ _ (af.sub _ _ h)) hQ
noncomputable def itemDs (ks : List Ky) (ds : List D) : List D := List.zipWith pairD ks ds
theorem pairs_items {S : Fz} : ∀ {kvs : List (Ky × Value)} {ds : List D}, Alls G S (kvs.map (·.2)) ds → ∀ (i : Nat) (k : Ky) (v : Value), kvs[i]? = some (k, v) → ∃ d, (itemDs (kvs.map (·.1)) ds)[i]? = some (pairD k d) ∧ Is G S v d
  | [], _, _, i, k, v, h => by simp at h
  | (k₀, v₀) :: kvs, _, .cons h r, 0, k, v, e => by
    simp only [List.getElem?_cons_zero, Option.some.injEq, Prod.mk.injEq] at e
    obtain ⟨rfl, rfl⟩ := e
    exact ⟨_, rfl, h⟩
  | (k₀, v₀) :: kvs, _, .cons h r, i + 1, k, v, e => by
    rw [List.getElem?_cons_succ] at e
    obtain ⟨d, h1, h2⟩ := pairs_items r i k v e
    exact ⟨d, by simpa [itemDs] using h1, h2⟩
theorem Ky.isD {k : Ky} {v : Value} (h : G.knd.is k v = true) : Is G S v k.d := by
  cases k with
  | i k => obtain ⟨t, rfl⟩ := Value.isInt_shape h; exact .int ..
  | s x => obtain ⟨t, rfl⟩ := Value.isStrOf_shape h; exact .str ..
theorem Src.items (hA : Room n A) {ks : List Ky} {elts : List Expr} {kk : Nat} {tp : Pos} {e : Expr} (he : Ev G A act ρ e (.items ks ds)) : Src G A act ρ (.Tuple elts kk tp) e (itemDs ks ds) := fun kp adr S s O => by
  refine wp_seq (he kp adr S s O) fun S₁ v s₁ st i => ?_
  obtain ⟨v, d, rfl, hv, hd⟩ := i.itemsI
  (refine cps fun ZP zk => ?_; obtain ⟨_, es, ep, kvs, q0, h1, h2, h3, h4, h5, r, h6⟩ := hd.dictI; refine zk ?_)
  obtain rfl := PySem.Value.ref.inj q0
  have I := st.inv
  have hdt : s₁.heap.DictAt G.knd d kvs ep := ⟨_, es, I.sub _ _ h1, ⟨rfl, rfl, rfl⟩, rfl, h2, h3, h4 ▸ h5⟩
  refine wpAny_pyIter_items ⟨_, I.sub _ _ hv, rfl, rfl⟩ hdt ?_
  have hne : d ≠ s₁.heap.objs.size := fun q => by rw [q, I.sizeS] at h1; exact nomatch h1
  have W := WalksT.items (G := G) (knd := G.knd) hA.handled s₁.heap.objs.size d hne kvs ep
  have st2 := I.keeps (h' := s₁.heap.push { cls := .type "dict_itemiterator", data := .fields #[.none, .bool false, .ref d, .int 0 0, .int kvs.length 0, .int ep 0, .none, .none] }) (t := s₁.toks) fun b o e => Heap.get?_push_of_some _ e
  have hst : (∃ ok ov, IsItemIter (s₁.heap.push { cls := .type "dict_itemiterator", data := .fields #[.none, .bool false, .ref d, .int 0 0, .int kvs.length 0, .int ep 0, .none, .none] }) s₁.heap.objs.size d 0 kvs.length ep ok ov) ∧ (s₁.heap.push { cls := .type "dict_itemiterator", data := .fields #[.none, .bool false, .ref d, .int 0 0, .int kvs.length 0, .int ep 0, .none, .none] }).DictAt G.knd d kvs ep :=
    ⟨⟨_, _, Heap.get?_push_size _ rfl⟩, hdt.at' fun o e => Heap.get?_push_of_some _ e⟩
  have hfp : ∀ b ∈ [s₁.heap.objs.size, d], b ∈ [s₁.heap.objs.size] ∨ ∃ o, S₁ b = some o := fun b hb => by
    rcases List.mem_cons.mp hb with rfl | hb
    · exact .inl (.head _)
    · rw [List.mem_singleton.mp hb]; exact .inr ⟨_, h1⟩
  have hfr : ∀ b ∈ [s₁.heap.objs.size], S₁ b = none ∧ NoTab G b := fun b hb => by rw [List.mem_singleton.mp hb]; exact ⟨I.sizeS, I.noTabFresh Inv.fresh⟩
  have hlen : (itemDs ks ds).length = kvs.length := by
    have := r.length
    rw [List.length_map] at this
    unfold itemDs
    rw [List.length_zipWith, h4, List.length_map, ← this, Nat.min_self]
  refine ⟨S₁, ⟨[s₁.heap.objs.size], []⟩, st.trans st2, fun a ha => ?_, (fun g hg => nomatch hg), ?_, Selfy.walksT W st2.inv hst hfp⟩
  · rw [List.mem_singleton.mp ha]
    cases q : s.heap.get? s₁.heap.objs.size with
    | none => rfl
    | some o' => have := st.keep _ _ (I.noTabFresh Inv.fresh) q; rw [Inv.fresh] at this; exact nomatch this
  · have := Yields.walksT (elts := elts) (kk := kk) (tp := tp) W (S₀ := S₁) (xs := itemDs ks ds) hlen hfp
      (fun i h hst b hb => by rw [List.mem_singleton.mp hb]; obtain ⟨⟨_, _, e⟩, _⟩ := hst; exact ⟨_, e⟩)
      (fun i vals hi hP => by
        (refine cps fun ZP zk => ?_; obtain ⟨k, key, v, hx, hk, rfl⟩ := hP; refine zk ?_)
        obtain ⟨d, q1, q2⟩ := pairs_items r i k v hx
        rw [← h4] at q1
        exact ⟨_, q1, .cons (Ky.isD hk) (.cons q2 .nil)⟩)
      (kvs.length - 0) 0 S₁ _ rfl (Nat.zero_le _) (Sub.refl _) st2.inv hst hfr
    rw [List.drop_zero] at this
    exact this
noncomputable def enumDs (ds : List D) : List D := ds.zipIdx.map fun p => .tuple [.int p.2, p.1]
theorem enumDs_get {i : Nat} (h : ds[i]? = some d) : (enumDs ds)[i]? = some (.tuple [.int i, d]) := by
  unfold enumDs
  rw [List.getElem?_map, List.getElem?_zipIdx, h]
  simp
theorem enumDs_len : (enumDs ds).length = ds.length := by simp [enumDs]
theorem SrcAt.enum (hA : Room n A) {elts : List Expr} {kk : Nat} {tp : Pos} {S₁ : Fz} {s₁ : Shared} (st : Stp G S s S₁ s₁) {h' : Heap} {fp : List Addr} {m : Nat} {P : Nat → Value → Prop} {St : Nat → Heap → Prop}
    (Dr : Draws G.prog G.w A.in1 s₁.heap.objs.size (s₁.heap.objs.size :: fp) m P St) (hk : ∀ b o, s₁.heap.get? b = some o → h'.get? b = some o) (he : IsEnum h' (s₁.heap.objs.size + 1) s₁.heap.objs.size 0 .none) (hst : St 0 h')
    (hfp : ∀ b ∈ fp, ∃ o, S₁ b = some o) (hm : ds.length = m) (hP : ∀ i v, P i v → ∃ d, ds[i]? = some d ∧ Is G S₁ v d) (hlive : ∀ i h, St i h → ∃ o, h.get? s₁.heap.objs.size = some o) :
    wpAny G.M A (pyIter (.ref (s₁.heap.objs.size + 1))) (SrcAt G A (.Tuple elts kk tp) (enumDs ds) S s) No { s₁ with heap := h' } := by
  have I := st.inv
  have fresh : ∀ b, s₁.heap.objs.size ≤ b → s₁.heap.get? b = none := fun b hb => by
    cases q : s₁.heap.get? b with
    | none => rfl
    | some o => exact absurd (Heap.lt_size q) (Nat.not_lt.mpr hb)
  have freshS : ∀ b, s₁.heap.get? b = none → S₁ b = none := fun b hb => by
    cases q : S₁ b with
    | none => rfl
    | some o => have := I.sub _ _ q; rw [hb] at this; exact nomatch this
  have hne : s₁.heap.objs.size + 1 ≠ s₁.heap.objs.size := Nat.succ_ne_self _
  have W := WalksT.enumerateD Dr (s₁.heap.objs.size + 1) hne (fun hm => by
    rcases List.mem_cons.mp hm with q | q
    · exact hne q
    · obtain ⟨o, ho⟩ := hfp _ q
      rw [freshS _ (fresh _ (Nat.le_succ _))] at ho; exact nomatch ho) (.head _)
  have st2 := I.keeps (h' := h') (t := s₁.toks) hk
  have hsT : (∃ old, IsEnum h' (s₁.heap.objs.size + 1) s₁.heap.objs.size ((0 : Nat) : Int) old) ∧ St 0 h' := ⟨⟨_, he⟩, hst⟩
  refine W.self 0 _ _ _ hsT ?_
  have hfp' : ∀ b ∈ (s₁.heap.objs.size + 1) :: s₁.heap.objs.size :: fp, b ∈ [s₁.heap.objs.size + 1, s₁.heap.objs.size] ∨ ∃ o, S₁ b = some o := fun b hb => by
    rcases List.mem_cons.mp hb with rfl | hb
    · exact .inl (.head _)
    · rcases List.mem_cons.mp hb with rfl | hb
      · exact .inl (.tail _ (.head _))
      · exact .inr (hfp b hb)
  have hwr : ∀ b ∈ [s₁.heap.objs.size + 1, s₁.heap.objs.size], s₁.heap.get? b = none := fun b hb => by
    rcases List.mem_cons.mp hb with rfl | hb
    · exact fresh _ (Nat.le_succ _)
    · rw [List.mem_singleton.mp hb]; exact fresh _ (Nat.le_refl _)
  refine ⟨S₁, ⟨[s₁.heap.objs.size + 1, s₁.heap.objs.size], []⟩, st.trans st2, fun a ha => ?_, (fun g hg => nomatch hg), ?_, Selfy.walksT W st2.inv hsT hfp'⟩
  · have hn := hwr a ha
    cases q : s.heap.get? a with
    | none => rfl
    | some o' => have := st.keep _ _ (I.noTabFresh hn) q; rw [hn] at this; exact nomatch this
  · have := Yields.walksT (elts := elts) (kk := kk) (tp := tp) W (S₀ := S₁) (xs := enumDs ds) (by rw [enumDs_len, hm]) hfp'
      (fun i h hst b hb => by
        rcases List.mem_cons.mp hb with rfl | hb
        · obtain ⟨⟨_, e⟩, _⟩ := hst; exact ⟨_, e⟩
        · rw [List.mem_singleton.mp hb]; exact hlive i h hst.2)
      (fun i vals hi hP' => by
        obtain ⟨t, x, hx, rfl⟩ := hP'
        obtain ⟨d, q1, q2⟩ := hP i x hx
        exact ⟨_, enumDs_get q1, .cons (.int ..) (.cons q2 .nil)⟩)
      (m - 0) 0 S₁ _ rfl (Nat.zero_le _) (Sub.refl _) st2.inv hsT fun b hb => ⟨freshS b (hwr b hb), I.noTabFresh (hwr b hb)⟩
    rw [List.drop_zero] at this
    exact this
theorem Src.enumL (hA : Room (n + 1) A) {elts : List Expr} {kk : Nat} {tp : Pos} {fx ex : Expr} (hf : EvV G A act ρ fx (.type "enumerate")) (he : Ev G A act ρ ex (.list ds))
    (hev : eval (.Call fx [ex] [] pos) act.env = (eval fx act.env >>= fun f => callWith pos f [] (backTo pos (starEach [ex] act.env)) (backToKw pos (keywordEach [] act.env))) := by rfl) (hs : ∀ env, starEach [ex] env = (false, eval ex env) :: starEach [] env := by intro _; rfl) :
    Src G A act ρ (.Tuple elts kk tp) (.Call fx [ex] [] pos) (enumDs ds) := fun kp adr S s O => by
  rw [hev]
  refine wpAny_bind (wp_seq (hf kp adr S s O) fun S₁ v s₁ st e => ?_)
  subst e
  refine call_args (.type _) (Evs.cons he .nil hs) (O.step st) fun S₂ s₂ vs st₂ is => ?_
  obtain ⟨v, rfl, i⟩ := alls1 is
  obtain ⟨l, ws, rfl, hl, r⟩ := i.lst st₂.inv
  have hlS := Is.refS rfl i
  refine call_enumerate_list hl fun h' he' hit hsz hk => ?_
  have hne : l ≠ s₂.heap.objs.size := fun q => by obtain ⟨o, ho⟩ := hlS; rw [q, st₂.inv.sizeS] at ho; exact nomatch ho
  refine SrcAt.enum hA (st.trans st₂) (fp := [l]) (Draws.list hA.in1.handled s₂.heap.objs.size l hne ws.toArray) hk he' ⟨hit, hl.at fun o e => hk _ o e⟩ (fun b hb => by rw [List.mem_singleton.mp hb]; exact hlS) (by rw [List.size_toArray, r.length]) (fun i v hv => ?_) fun i h hst => by obtain ⟨⟨o, ho, _⟩, _⟩ := hst; exact ⟨o, ho⟩
  have hv : ws[i]? = some v := by simpa using hv
  exact r.get' hv
theorem chars_len {x : Str} : (chars x).length = x.cps.size := by simp [chars]
theorem chars_get {x : Str} {i c : Nat} (h : x.cps[i]? = some c) : (chars x)[i]? = some (.str ⟨#[c]⟩) := by
  unfold chars
  rw [List.getElem?_map, ← Array.getElem?_toList] at *
  rw [h]; rfl
theorem Src.enumS (hA : Room (n + 1) A) {elts : List Expr} {kk : Nat} {tp : Pos} {fx ex : Expr} {x : Str} (hf : EvV G A act ρ fx (.type "enumerate")) (he : Ev G A act ρ ex (.str x))
    (hev : eval (.Call fx [ex] [] pos) act.env = (eval fx act.env >>= fun f => callWith pos f [] (backTo pos (starEach [ex] act.env)) (backToKw pos (keywordEach [] act.env))) := by rfl) (hs : ∀ env, starEach [ex] env = (false, eval ex env) :: starEach [] env := by intro _; rfl) :
    Src G A act ρ (.Tuple elts kk tp) (.Call fx [ex] [] pos) (enumDs (chars x)) := fun kp adr S s O => by
  rw [hev]
  refine wpAny_bind (wp_seq (hf kp adr S s O) fun S₁ v s₁ st e => ?_)
  subst e
  refine call_args (.type _) (Evs.cons he .nil hs) (O.step st) fun S₂ s₂ vs st₂ is => ?_
  obtain ⟨v, rfl, i⟩ := alls1 is
  obtain ⟨t, rfl⟩ := i.str'
  refine call_enumerate_str fun h' he' hit hsz hk => ?_
  have key : ∀ T, strIterType x = T → (T = "str_ascii_iterator" ∨ T = "str_iterator") := fun T e => by
    subst e
    unfold strIterType
    split <;> simp
  rcases key _ rfl with q | q
  · rw [q] at hit
    refine SrcAt.enum hA (st.trans st₂) (fp := []) (Draws.strAscii hA.in1.handled s₂.heap.objs.size x t) hk he' hit (fun b hb => nomatch hb) chars_len (fun i v hv => ?_) fun i h hst => by obtain ⟨o, ho, _⟩ := hst; exact ⟨o, ho⟩
    obtain ⟨c, u, h1, rfl⟩ := hv
    exact ⟨_, chars_get h1, .str ..⟩
  · rw [q] at hit
    refine SrcAt.enum hA (st.trans st₂) (fp := []) (Draws.strWide hA.in1.handled s₂.heap.objs.size x t) hk he' hit (fun b hb => nomatch hb) chars_len (fun i v hv => ?_) fun i h hst => by obtain ⟨o, ho, _⟩ := hst; exact ⟨o, ho⟩
    obtain ⟨c, u, h1, rfl⟩ := hv
    exact ⟨_, chars_get h1, .str ..⟩
end
end Mine
end

section
namespace Mine
variable {sc : Scope} {mc : List Str}
open PySem PySem.Calls PyProof.Rows
section
variable {prog : Program} {w : World} {B : Around} {R : GenEnd} {Y : Protocol} {n : Nat} {s₀ : Shared} {c : Code} {fs : List Frame} {s : Shared} {env : Env}
  {K : Flow → Sem PySem.Fin} {H : Value → Sem PySem.Fin} {gd : Bool → Bool} {lv : List Value → List Value}
noncomputable def ownK (K : Flow → Sem PySem.Fin) (H : Value → Sem PySem.Fin) (gd : Bool → Bool) (lv : List Value → List Value) (env : Env) : Result → Sem PySem.Fin := fun r => ((match r with | .ok f => (.pure f : Sem Flow) | .error e => .raise e).onRaise fun (x : Value) => do
        if (← field x 1) == Value.none then unsupported "frame.own-activation:exception-without-traceback"
        setFlight x env.frame).wrap K H gd lv
theorem seg_For {target iter : Expr} {body orelse : List Stmt} {pos : Pos}
    (h : wpAny (model prog w) (B.over c fs) (eval iter env) (fun x s₁ => wpAny (model prog w) (B.over c fs) (pyIter x) (fun it s₂ =>
      ∀ p, Seg (model prog w) B R Y n s₀ (.forLoop target it body orelse env) ((model prog w).den (.forLoop target it body orelse env)) (.ret (ownK K H gd lv env) none (gd false) (lv []) c p [] :: fs) s₂) No s₁) No s)
    (hs : ∀ x, foldedSetIterable iter env x = pure x := by intro _; rfl) :
    Seg (model prog w) B R Y n s₀ c ((exec (.For target iter body orelse pos) env).wrap K H gd lv) fs s := by
  rw [exec_For]
  rw [Sem.bind_eq_wrap', Sem.wrap_wrap]
  refine seg_wrap (wpAny_standAt ?_)
  rw [Sem.bind_eq_wrap', Sem.wrap_wrap]
  refine seg_wrap (wpAny_mono h (fun x s₁ h₁ => ?_) fun _ _ e => False.elim e)
  rw [hs x]
  rw [Sem.bind_eq_wrap', Sem.wrap_wrap]
  refine seg_wrap (wpAny_pure ?_)
  rw [Sem.bind_eq_wrap', Sem.wrap_wrap]
  refine seg_wrap (wpAny_standAt ?_)
  rw [Sem.bind_eq_wrap', Sem.wrap_wrap]
  refine seg_wrap (wpAny_holding (wpAny_mono h₁ (fun it s₂ h₂ => ?_) fun _ _ e => False.elim e))
  exact seg_call h₂
theorem seg_forLoop {target : Expr} {it : Value} {body : List Stmt}
    (h : wpAny (model prog w) (B.over (.forLoop target it body [] env) fs) (pyNext it) (fun r s₁ => match r with
      | none => Seg (model prog w) B R Y n s₀ (.block [] env) (leafOf (.ok .next)) fs s₁
      | some v => wpAny (model prog w) (B.over (.forLoop target it body [] env) fs) (letOwnedTupleGo target it v) (fun _ s₂ => wpAny (model prog w) (B.over (.forLoop target it body [] env) fs) (assign target env v) (fun _ s₃ =>
          Seg (model prog w) B R Y n s₀ (.forLoop target it body [] env) ((execs body env).wrap (fun f => match f with
            | .next | .cont => .pure (.again (.forLoop target it body [] env))
            | .brk => .pure (.done .next)
            | .ret v => .pure (.done (.ret v))) (fun e => (do noteFrame e env; theTreesLotGoes e : Sem Unit).wrap (fun _ => .raise e) .raise id id) id id) fs s₃) No s₂) No s₁) No s) :
    Seg (model prog w) B R Y n s₀ (.forLoop target it body [] env) ((model prog w).den (.forLoop target it body [] env)) fs s := by
  show Seg _ B R Y n s₀ _ ((forTurn target it body [] env).onRaise (fun x => do noteFrame x env; theTreesLotGoes x)) fs s
  unfold forTurn
  rw [Sem.onRaise_eq_wrap, Sem.bind_eq_wrap', Sem.wrap_wrap]
  refine seg_wrap (wpAny_standAt ?_)
  rw [Sem.bind_eq_wrap', Sem.wrap_wrap]
  refine seg_wrap (wpAny_onRaise (wpAny_mono h (fun r s₁ h₁ => ?_) fun _ _ e => False.elim e))
  cases r with
  | none =>
    show Seg _ B R Y n s₀ _ (.pure (.again (.block [] env))) fs s₁
    exact seg_again rfl h₁
  | some v =>
    dsimp only
    rw [Sem.bind_eq_wrap', Sem.wrap_wrap]
    refine seg_wrap (wpAny_mono h₁ (fun _ s₂ h₂ => ?_) fun _ _ e => False.elim e)
    rw [Sem.bind_eq_wrap', Sem.wrap_wrap]
    refine seg_wrap (wpAny_mono h₂ (fun _ s₃ h₃ => ?_) fun _ _ e => False.elim e)
    rw [Sem.bind_eq_wrap', Sem.wrap_wrap]
    rw [Sem.wrap_congr (execs body env) _ _ (K' := fun f => match f with
            | .next | .cont => .pure (.again (.forLoop target it body [] env))
            | .brk => .pure (.done .next)
            | .ret v => .pure (.done (.ret v))) (H' := (fun e => (do noteFrame e env; theTreesLotGoes e : Sem Unit).wrap (fun _ => .raise e) .raise id id))
        (fun f => by cases f <;> rfl)
        (fun e => by first | exact Sem.bind_eq_wrap _ _ | (show (do noteFrame e env; theTreesLotGoes e : Sem Unit).bind (fun _ => .raise e) = _; rw [Sem.bind_eq_wrap]))]
    exact h₃
end
end Mine
end

section
namespace Mine
open PySem PyProof.Rows
theorem bare_set {gens : Array GenState} {g : Nat} {x : GenState} (h : AllBare gens) (hx : x.bare = true) : AllBare (gens.setIfInBounds g x) := fun y hy => by
  obtain ⟨i, hi, rfl⟩ := Array.mem_iff_getElem.mp hy
  have hi' : i < gens.size := by simpa using hi
  rw [Array.getElem_setIfInBounds hi']
  split
  · exact hx
  · exact h _ (Array.getElem_mem _)
theorem quiet_bare {e : End} (h : e.quiet = true) : e.genState.bare = true := End.bare_of_quiet h
theorem runs_bare {M : Model} {Γ : Ctx} {p : Pos} {t : Sem PySem.Fin} {fs : List Frame} {s : Shared} {e : End} {s' : Shared} (h : Runs M Γ p t fs s e s') : AllBare s.gens → AllBare s'.gens := by
  induction h with
  | done => exact id
  | raise => exact id
  | again _ _ ih => exact ih
  | rule _ ih => exact ih
  | «at» _ ih => exact ih
  | load _ _ ih => exact ih
  | update _ _ ih => exact ih
  | loadIfAlive _ ih => exact ih
  | point _ ih => exact ih
  | alloc _ ih => exact ih
  | fresh _ ih => exact ih
  | ask _ ih => exact ih
  | choose _ _ ih => exact ih
  | os _ ih => exact ih
  | handled _ ih => exact ih
  | genState _ _ ih => exact ih
  | stack _ ih => exact ih
  | thread _ ih => exact ih
  | newGen _ ih => exact fun b => ih (b.push rfl)
  | call _ _ ih1 ih2 => exact fun b => ih2 (ih1 b)
  | callSusp _ ih => exact ih
  | yield => exact id
  | resumeFresh _ _ hq _ ih1 ih2 => exact fun b => ih2 (bare_set (ih1 (bare_set b rfl)) (quiet_bare hq))
  | resumeSuspended _ _ hq _ ih1 ih2 => exact fun b => ih2 (bare_set (ih1 (bare_set b rfl)) (quiet_bare hq))
  | resumeJustStarted _ _ _ ih => exact ih
  | resumeThrowFresh _ _ ih => exact fun b => ih (bare_set b rfl)
  | resumeRunning _ _ ih => exact ih
  | resumeFinished _ _ ih => exact ih
  | segRet _ _ ih1 ih2 => exact fun b => ih2 (ih1 b)
  | segGen _ _ ih1 ih2 => exact fun b => ih2 (bare_set (ih1 b) rfl)
  | segSuspOut _ _ ih => exact ih
  | segSuspGen _ _ hq _ ih1 ih2 => exact fun b => ih2 (bare_set (ih1 b) (quiet_bare hq))
theorem wakes_bare {M : Model} {Γ : Ctx} {p : Pos} {g : Nat} {r : Resume} {s s' : Shared} {res : GenResult} (h : Wakes M Γ p g r s res s') (b : AllBare s.gens) : AllBare s'.gens := by
  unfold Wakes at h
  cases q : s.gens[g]? with
  | none => rw [q] at h; exact h.elim
  | some x =>
    rw [q] at h
    cases x with
    | fresh c =>
      cases r with
      | send v =>
        cases v <;> simp only at h <;> first
          | (obtain ⟨_, rfl⟩ := h; exact b)
          | (obtain ⟨e, t, a1, hq, _, rfl⟩ := h; exact bare_set (runs_bare a1 (bare_set b rfl)) (quiet_bare hq))
      | throw x => obtain ⟨_, rfl⟩ := h; exact bare_set b rfl
    | suspended k l c p₀ fs cl => obtain ⟨e, t, a1, hq, _, rfl⟩ := h; exact bare_set (runs_bare a1 (bare_set b rfl)) (quiet_bare hq)
    | running => obtain ⟨_, rfl⟩ := h; exact b
    | finished => obtain ⟨_, rfl⟩ := h; exact b
theorem wp_bare {α : Type} {M : Model} {Γ : Ctx} {Q : α → Pos → Shared → Prop} {E : Value → Pos → Shared → Prop} (t : Sem α) : ∀ {p : Pos} {s : Shared}, AllBare s.gens → Sem.wp M Γ t Q E p s →
    Sem.wp M Γ t (fun a p s => Q a p s ∧ AllBare s.gens) E p s := by
  induction t with
  | pure a => intro p s b h; exact ⟨h, b⟩
  | raise e => intro p s b h; exact h
  | unsupported _ => intro p s b h; exact h.elim
  | finish _ => intro p s b h; exact h.elim
  | rule _ k ih => intro p s b h; exact ih () b h
  | «at» p' k ih => intro p s b h; exact ih () b h
  | load a part k ih => intro p s b h; obtain ⟨o, ho, h⟩ := h; exact ⟨o, ho, ih o b h⟩
  | update a part f k ih => intro p s b h; exact ⟨h.1, ih () b h.2⟩
  | loadIfAlive a k ih => intro p s b h; exact ih _ b h
  | point _ k ih => intro p s b h; exact ih () b h
  | register _ _ => intro p s b h; exact h.elim
  | alloc o k ih => intro p s b h; exact ih _ b h
  | fresh k ih => intro p s b h; exact ih _ b h
  | ask k ih => intro p s b h; exact ih _ b h
  | choose src n k ih => intro p s b h; exact ⟨h.1, ih _ b h.2⟩
  | os q l k ih => intro p s b h; exact ih _ b h
  | call c h g l k ih => intro p s b x; obtain ⟨r, s₁, a, x⟩ := x; exact ⟨r, s₁, a, ih _ (runs_bare a b) x⟩
  | handled own k ih => intro p s b h; exact ih _ b h
  | genState g k ih => intro p s b h; obtain ⟨o, ho, h⟩ := h; exact ⟨o, ho, ih _ b h⟩
  | newGen c k ih => intro p s b h; exact ih _ (b.push rfl) h
  | resume g r l k ih => intro p s b x; obtain ⟨res, s₁, a, x⟩ := x; exact ⟨res, s₁, a, ih _ (wakes_bare a b) x⟩
  | yield => intro p s b h; exact h.elim
  | stack k ih => intro p s b h; exact ih _ b h
  | fork => intro p s b h; exact h.elim
  | thread k ih => intro p s b h; exact ih _ b h
  | await => intro p s b h; exact h.elim
theorem wpAny_bare {α : Type} {M : Model} {A : Around} {m : Sem α} {Q : α → Shared → Prop} {E : Value → Shared → Prop} {s : Shared} (b : AllBare s.gens) (h : wpAny M A m Q E s) :
    wpAny M A m (fun a s => Q a s ∧ AllBare s.gens) E s := fun Γ p hΓ => wp_bare m b (h Γ p hΓ)
end Mine
end

section
namespace Mine
variable {sc : Scope} {mc : List Str}
open PySem PySem.Calls PyProof.Rows
section
variable {prog : Program} {w : World} {A : Around} {E : Value → Shared → Prop} {s : Shared}
variable {B : Around} {R : GenEnd} {Y : Protocol} {n : Nat} {s₀ : Shared} {c : Code} {fs : List Frame} {env : Env}
  {K : Flow → Sem PySem.Fin} {H : Value → Sem PySem.Fin} {gd : Bool → Bool} {lv : List Value → List Value}
theorem seg_If {t : Expr} {body orelse : List Stmt} {pos : Pos}
    (h : wpAny (model prog w) (B.over c fs) (isTrue t env (eval t env)) (fun b s' => if b = true then Seg (model prog w) B R Y n s₀ c ((execs body env).wrap K H gd lv) fs s' else Seg (model prog w) B R Y n s₀ c ((execs orelse env).wrap K H gd lv) fs s') No s) :
    Seg (model prog w) B R Y n s₀ c ((exec (.If t body orelse pos) env).wrap K H gd lv) fs s := by
  rw [exec_If, Sem.bind_eq_wrap', Sem.wrap_wrap]
  refine seg_wrap (wpAny_standAt ?_)
  rw [Sem.bind_eq_wrap', Sem.wrap_wrap]
  refine seg_wrap (wpAny_mono h (fun b s' hb => ?_) fun _ _ e => False.elim e)
  cases b with
  | true => simp only [if_true] at hb ⊢; exact hb
  | false => simp only [Bool.false_eq_true, if_false] at hb ⊢; exact hb
end
section
variable {G : Gl} {A : Around} {S S' : Fz} {s s' : Shared} {d : D} {ds : List D}
noncomputable def grownAt (G : Gl) (h : Heap) (a : Addr) : Prop := ∃ t ∈ G.tabs, ∃ ps, h.get? t.P = some (tabObj ps) ∧ ps = t.ps₀ ++ #[rawInt t.line, rawInt t.col, .ref a] ∧ ∃ o, h.get? a = some o ∧ t.good o
open Classical in
noncomputable def Smin (G : Gl) (s : Shared) : Fz := fun a => match G.base a with
  | some o => some o
  | none => if grownAt G s.heap a then s.heap.get? a else none
theorem Smin.base (G : Gl) (s : Shared) : Sub G.base (Smin G s) := fun a o e => by unfold Smin; rw [e]
set_option tactic.hygienic true in
theorem Inv.smin (I : Inv G S s) : Inv G (Smin G s) s ∧ Sub (Smin G s) S := by
  have sub : Sub (Smin G s) S := fun a o e => by
    unfold Smin at e
    cases q : G.base a with
    | some o' => rw [q] at e; obtain rfl := Option.some.inj e; exact I.base _ _ q
    | none =>
      rw [q] at e
      simp only at e
      split at e
      · rename_i hg
        obtain ⟨t, ht, ps, hp, hps, o', ho', hgood⟩ := hg
        obtain ⟨ps', hp', x⟩ := I.tab t ht
        rw [hp] at hp'
        cases hp'
        rcases x with x | ⟨c', o'', x, hS, _⟩
        · have := congrArg Array.size (hps.symm.trans x)
          simp at this
        · have h1 : t.ps₀ ++ #[rawInt t.line, rawInt t.col, Value.ref a] = t.ps₀ ++ #[rawInt t.line, rawInt t.col, Value.ref c'] := hps.symm.trans x
          have h2 := congrArg Array.toList h1
          simp at h2
          subst h2
          have := I.sub _ _ hS
          rw [e] at this; obtain rfl := Option.some.inj this
          exact hS
      · exact nomatch e
  refine ⟨⟨fun a o e => I.sub _ _ (sub _ _ e), Smin.base G s, fun t ht => ?_, fun t ht => ?_, I.bare, I.os⟩, sub⟩
  · obtain ⟨ps, hp, x⟩ := I.tab t ht
    refine ⟨ps, hp, x.imp id ?_⟩
    rintro ⟨c', o, e, hS, hg⟩
    refine ⟨c', o, e, ?_, hg⟩
    unfold Smin
    cases q : G.base c' with
    | some o' => rw [I.base _ _ q] at hS; exact hS
    | none =>
      simp only
      rw [if_pos ⟨t, ht, ps, hp, e, o, I.sub _ _ hS, hg⟩]
      exact I.sub _ _ hS
  · cases q : Smin G s t.P with
    | none => rfl
    | some o => have := sub _ _ q; rw [I.tabS t ht] at this; exact nomatch this
structure NxF (G : Gl) (F : List Addr) (g : Nat) (S : Fz) (s : Shared) (S' : Fz) (s' : Shared) : Prop where
  inv : Inv G S' s'
  sub : Sub S S'
  new : ∀ a o, S' a = some o → S a = some o ∨ s.heap.get? a = none
  keep : ∀ b o, b ∉ F → NoTab G b → s.heap.get? b = some o → s'.heap.get? b = some o
  gens : ∀ h (x : GenState), h ≠ g → s.gens[h]? = some x → s'.gens[h]? = some x
  off : ∀ b ∈ F, S' b = none ∧ NoTab G b ∧ ∃ o, s'.heap.get? b = some o
  lt : g < s.gens.size → g < s'.gens.size
theorem WalksT.draw {elts : List Expr} {kk : Nat} {tp : Pos} {I : Addr} {fp wr : List Addr} {n : Nat} {Pt : Nat → Array Value → Prop} {St : Nat → Heap → Prop} {Mid : Nat → Addr → Heap → Prop} (W : WalksT G.prog G.w A I fp wr n Pt St Mid)
    (I' : Inv G S s) {i : Nat} (hst : St i s.heap) (hw : ∀ b ∈ wr, S b = none ∧ NoTab G b) (hi : i < n) (hP : ∀ vals, Pt i vals → Alls G S vals.toList ds) :
    wpAny G.M A (pyNext (.ref I)) (fun r s₁ => ∃ v, r = some v ∧ wpAny G.M A (letOwnedTupleGo (.Tuple elts kk tp) (.ref I) v) (fun _ s₂ => ∃ S₂, Nx G ⟨wr, []⟩ S s S₂ s₂ ⟨wr, []⟩ ∧ Is G S₂ v (.tuple ds) ∧ St (i + 1) s₂.heap ∧ s₂.gens = s.gens ∧ ∀ b ∈ wr, S₂ b = none) No s₁) No s := by
  refine W.item i s _ _ hi hst fun T vals h' tk hPv hsz hT hmid hkeep => ⟨_, rfl, ?_⟩
  refine W.go elts kk tp i T _ _ _ hmid fun h'' hst₁ hkeep₂ => ?_
  have kk2 : ∀ b o, b ∉ wr → s.heap.get? b = some o → h''.get? b = some o := fun b o hb e => hkeep₂ b o hb (hkeep b o hb e)
  have I₁ := I'.but (h' := h'') (t := tk) (wr := wr) hw kk2
  obtain ⟨o, ho, hc, nn, hd⟩ := hT
  have hTw := W.apart _ _ _ hmid
  have ho'' : h''.get? T = some o := hkeep₂ _ _ hTw ho
  have hTn : s.heap.get? T = none := by
    cases q : s.heap.get? T with
    | none => rfl
    | some o' => exact absurd (Heap.lt_size q) (Nat.not_lt.mpr hsz)
  have hTS : S T = none := by
    cases q : S T with
    | none => rfl
    | some o' => have := I'.sub _ _ q; rw [hTn] at this; exact nomatch this
  have hcn : o.cls ≠ .none := by rw [hc]; exact fun e => nomatch e
  have I₂ := I₁.freeze ho'' hcn hTS
  have hs2 : Sub S (S.put T o) := Fz.sub_put hTS
  refine ⟨S.put T o, ⟨I₂, hs2, fun a o' e => ?_, fun b o hb _ e => kk2 b o hb e, fun _ _ _ e => e, fun a ha => .inl ha, fun g hg => nomatch hg⟩, .tuple (Fz.put_self ..) hc (by rw [hd]) ((hP _ hPv).mono hs2), hst₁, rfl, fun b hb => ?_⟩
  · by_cases q : a = T
    · subst q; exact .inr hTn
    · rw [Fz.put_ne _ _ q] at e; exact .inl e
  · rw [Fz.put_ne S o (a := T) (b := b) fun q => hTw (by rw [← q]; exact hb)]
    exact (hw b hb).1
end
end Mine
end

section
namespace Mine
variable {sc : Scope} {mc : List Str}
open PySem PySem.Calls PyProof.Rows
noncomputable def Fz.join (S T : Fz) : Fz := fun a => match S a with
  | some o => some o
  | none => T a
theorem Fz.join_left (S T : Fz) : Sub S (S.join T) := fun a o e => by unfold Fz.join; rw [e]
theorem Fz.join_or {S T : Fz} {a : Addr} {o : Obj} (h : S.join T a = some o) : S a = some o ∨ (S a = none ∧ T a = some o) := by
  unfold Fz.join at h
  cases q : S a with
  | some o' => rw [q] at h; exact .inl h
  | none => rw [q] at h; exact .inr ⟨rfl, h⟩
section
variable {G : Gl} {A : Around} {S S' S₁ : Fz} {s s' s₀ s₁ : Shared} {d : D} {ds : List D} {F : List Addr} {g : Nat} {X : List D} {mg mb : Str → Option Value}
theorem setGen_get {s : Shared} {g h : Nat} {x : GenState} (e : h ≠ g) : (s.setGen g x).gens[h]? = s.gens[h]? := by
  unfold Shared.setGen
  simp only
  rw [Array.getElem?_setIfInBounds_ne (Ne.symm e)]
theorem setGen_at {s : Shared} {g : Nat} {x : GenState} (h : g < s.gens.size) : (s.setGen g x).gens[g]? = some x := by
  unfold Shared.setGen
  simp only
  rw [Array.getElem?_setIfInBounds_self_of_lt h]
theorem Inv.setGen (I : Inv G S s) {x : GenState} (hx : x.bare = true) : Inv G S (s.setGen g x) := ⟨I.sub, I.base, I.tab, I.tabS, bare_set I.bare hx, I.os⟩
theorem Inv.setGen' (I : Inv G S s) {x : GenState} (b : AllBare (s.setGen g x).gens) : Inv G S (s.setGen g x) := ⟨I.sub, I.base, I.tab, I.tabS, b, I.os⟩
theorem NxF.join (I : Inv G S s₀) (n : NxF G F g (Smin G s₀) s₀ S₁ s₁) (hF : ∀ b ∈ F, S b = none) :
    Inv G (S.join S₁) s₁ ∧ Sub S₁ (S.join S₁) ∧ (∀ a o, S.join S₁ a = some o → S a = some o ∨ s₀.heap.get? a = none) ∧ ∀ b ∈ F, S.join S₁ b = none := by
  have keep : ∀ a o, S a = some o → s₁.heap.get? a = some o := fun a o e => n.keep a o (fun hm => by rw [hF a hm] at e; exact nomatch e) (I.noTabS e) (I.sub _ _ e)
  have sub : Sub S₁ (S.join S₁) := fun a o e => by
    unfold Fz.join
    cases q : S a with
    | none => exact e
    | some o' =>
      have h1 := keep _ _ q
      rw [n.inv.sub _ _ e] at h1
      obtain rfl := Option.some.inj h1
      rfl
  have off : ∀ b ∈ F, S.join S₁ b = none := fun b hb => by
    unfold Fz.join
    rw [hF b hb]
    exact (n.off b hb).1
  refine ⟨⟨fun a o e => ?_, I.base.trans (Fz.join_left _ _), n.inv.tab.keeps sub fun _ _ e _ => e, fun t ht => ?_, n.inv.bare, n.inv.os⟩, sub, fun a o e => ?_, off⟩
  · rcases Fz.join_or e with h | ⟨_, h⟩
    · exact keep _ _ h
    · exact n.inv.sub _ _ h
  · unfold Fz.join
    rw [I.tabS t ht]
    exact n.inv.tabS t ht
  · rcases Fz.join_or e with h | ⟨_, h⟩
    · exact .inl h
    · exact (n.new a o h).imp (I.smin.2 a o) id
noncomputable def Yp (G : Gl) (F : List Addr) (g : Nat) (X : List D) : Protocol := fun m s₀ v s₁ kap => ∃ S₁, NxF G F g (Smin G s₀) s₀ S₁ s₁ ∧ (∃ d, X[X.length - 1 - m]? = some d ∧ Is G S₁ v d) ∧
  ∀ s₂ S₂, Inv G S₂ s₂ → (∀ b ∈ F, ∀ o, s₁.heap.get? b = some o → s₂.heap.get? b = some o) → (∀ b ∈ F, S₂ b = none) → kap (.send .none) s₂
noncomputable def Pp (G : Gl) (F : List Addr) (g : Nat) : Nat → Shared → Shared → Prop := fun n s₀ s₁ => n = 0 ∧ ∃ S₁, NxF G F g (Smin G s₀) s₀ S₁ s₁
noncomputable abbrev Rp (G : Gl) (F : List Addr) (g : Nat) : GenEnd := fun n s₀ r s₁ => r = .ok (.ret .none) ∧ Pp G F g n s₀ s₁
theorem gen_next {n : Nat} {k : Nat} {tgt : Expr} {a : Addr} (hA : Room k A) (N : Names G mg mb) (I : Inv G S s) {oa : Obj} {nm qn : Value} (ha : S a = some oa) (hc : oa.cls = .type "generator") (hda : oa.data = .fields #[.int g 0, nm, qn]) (hsl : oa.slots = #[]) {gs : GenState} (hgs : s.gens[g]? = some gs)
    (hgo : gs.Goes G.M A.in1 (Rp G F g) (Yp G F g X) n (.send .none) (s.setGen g .running)) {Q : Option Value → Shared → Prop}
    (hY : ∀ v s₁ gs', AllBare (s₁.setGen g gs').gens → Yp G F g X (n - 1) (s.setGen g .running) v s₁ (fun r' s'' => match n with
        | 0 => False
        | m + 1 => gs'.Goes G.M A.in1 (Rp G F g) (Yp G F g X) m r' s'') → wpAny G.M A (letOwnedTupleGo tgt (.ref a) v) (fun _ s₂ => Q (some v) s₂) No (s₁.setGen g gs'))
    (hP : ∀ s₁, Pp G F g n (s.setGen g .running) s₁ → ∀ h', (∀ b o, s₁.heap.get? b = some o → h'.get? b = some o) → Q none { s₁.setGen g .finished with heap := h' }) : Drawn G A tgt (.ref a) Q s := by
  have hg : s.heap.IsGen a g := ⟨oa, nm, qn, I.sub _ _ ha, hc, hda, hsl⟩
  have hlim : s.heap.NoLimit := by obtain ⟨o, m, ho, hn, hm⟩ := N.lim; exact ⟨m, hn.ns (I.sub _ _ (I.base _ _ ho)), hm⟩
  unfold Drawn
  refine wpAny_mono (wpAny_bare I.bare (wpAny_pyNext_gen (P := Pp G F g) (Y := Yp G F g X) (n := n)
    (Q := fun r s₁ => match r with | none => Q none s₁ | some v => AllBare s₁.gens → wpAny G.M A (letOwnedTupleGo tgt (.ref a) v) (fun _ s₂ => Q (some v) s₂) No s₁)
    hA.handled hlim hA.lt hg hgs hgo (fun v s₁ gs' hy b => hY v s₁ gs' b hy) hP)) (fun r s₁ ⟨h, b⟩ => ?_) fun _ _ e => e
  cases r with
  | none => exact h
  | some v => exact h b
theorem gen_yields {k : Nat} {tgt : Expr} {a : Addr} (hA : Room k A) (N : Names G mg mb) {oa : Obj} {nm qn : Value} (hc : oa.cls = .type "generator") (hda : oa.data = .fields #[.int g 0, nm, qn]) (hsl : oa.slots = #[]) : ∀ n, n ≤ X.length → ∀ S s gs, Inv G S s → S a = some oa →
    (∀ b ∈ F, S b = none ∧ NoTab G b ∧ ∃ o, s.heap.get? b = some o) → s.gens[g]? = some gs →
    (∀ s₂ S₂, Inv G S₂ s₂ → (∀ b ∈ F, ∀ o, s.heap.get? b = some o → s₂.heap.get? b = some o) → (∀ b ∈ F, S₂ b = none) → gs.Goes G.M A.in1 (Rp G F g) (Yp G F g X) n (.send .none) s₂) →
    Yields G A tgt (.ref a) (X.drop (X.length - n)) ⟨F, [g]⟩ S s := by
  intro n
  induction n with
  | zero =>
    intro hn S s gs I ha hF hgs hgo
    rw [Nat.sub_zero, List.drop_length]
    have hlt : g < s.gens.size := by
      rw [Array.getElem?_eq_some_iff] at hgs; exact hgs.1
    refine ⟨⟨hF, fun h hh => by rw [List.mem_singleton.mp hh]; exact hlt⟩, fun S' s' af => ?_⟩
    have hgs' := af.same.gen g (.head _) _ hgs
    refine gen_next (n := 0) hA N af.inv (af.sub _ _ ha) hc hda hsl hgs' (hgo _ S' (af.inv.setGen rfl) (fun b hb o e => af.same.adr b hb o e) af.off) (fun v s₁ gs' b hy => ?_) fun s₁ hp h' hk => ?_
    · (refine cps fun ZP zk => ?_; obtain ⟨S₁, nx, _, hkap⟩ := hy; refine zk ?_)
      exact (hkap s₁ S₁ nx.inv (fun _ _ _ e => e) fun b hb => (nx.off b hb).1).elim
    · obtain ⟨_, S₁, nx⟩ := hp
      obtain ⟨j1, j2, j3, j4⟩ := nx.join (af.inv.setGen rfl) af.off
      refine ⟨rfl, S'.join S₁, ⟨F, [g]⟩, ?_⟩
      have I2 : Inv G (S'.join S₁) (s₁.setGen g .finished) := j1.setGen rfl
      refine ⟨(I2.keeps (t := s₁.toks) hk).inv, Fz.join_left _ _, j3, fun b o hb nt e => hk _ _ (nx.keep b o hb nt e), fun h x hh e => ?_, fun b hb => .inl hb, fun h hh => .inl hh⟩
      have hne : h ≠ g := fun q => hh (q ▸ .head _)
      show (s₁.setGen g .finished).gens[h]? = some x
      rw [setGen_get hne]
      exact nx.gens h x hne (by rw [setGen_get hne]; exact e)
  | succ n ih =>
    intro hn S s gs I ha hF hgs hgo
    have hi : X.length - (n + 1) < X.length := by omega
    rw [List.drop_eq_getElem_cons hi, show X.length - (n + 1) + 1 = X.length - n by lia]
    have hlt : g < s.gens.size := by
      rw [Array.getElem?_eq_some_iff] at hgs; exact hgs.1
    refine ⟨⟨hF, fun h hh => by rw [List.mem_singleton.mp hh]; exact hlt⟩, fun S' s' af => ?_⟩
    have hgs' := af.same.gen g (.head _) _ hgs
    have hlt' : g < s'.gens.size := by
      have := hgs'
      rw [Array.getElem?_eq_some_iff] at this; exact this.1
    refine gen_next (n := n + 1) hA N af.inv (af.sub _ _ ha) hc hda hsl hgs' (hgo _ S' (af.inv.setGen rfl) (fun b hb o e => af.same.adr b hb o e) af.off) (fun v s₁ gs' b hy => ?_) fun s₁ hp h' hk => ?_
    · (refine cps fun ZP zk => ?_; obtain ⟨S₁, nx, ⟨d, hd, hi'⟩, hkap⟩ := hy; refine zk ?_)
      (refine cps fun ZP zk => ?_; obtain ⟨j1, j2, j3, j4⟩ := nx.join (af.inv.setGen rfl) af.off; refine zk ?_)
      have I2 : Inv G (S'.join S₁) (s₁.setGen g gs') := j1.setGen' b
      have hdx : X[X.length - (n + 1)] = d := by
        have : X.length - 1 - (n + 1 - 1) = X.length - (n + 1) := by lia
        rw [this, List.getElem?_eq_getElem hi] at hd
        exact Option.some.inj hd
      have ha' : S'.join S₁ a = some oa := Fz.join_left _ _ _ _ (af.sub _ _ ha)
      have hgo' : (s₁.setGen g gs').heap.get? a = some oa := I2.sub _ _ ha'
      refine quietGo (n := "generator") hgo' hc (by decide) ⟨v, S'.join S₁, ⟨F, [g]⟩, rfl, ?_, by rw [hdx]; exact hi'.mono j2, ?_⟩
      · refine ⟨I2, Fz.join_left _ _, j3, fun b o hb nt e => nx.keep b o hb nt e, fun h x hh e => ?_, fun b hb => .inl hb, fun h hh => .inl hh⟩
        have hne : h ≠ g := fun q => hh (q ▸ .head _)
        rw [setGen_get hne]
        exact nx.gens h x hne (by rw [setGen_get hne]; exact e)
      · have hsz : g < s₁.gens.size := by
          refine nx.lt ?_
          unfold Shared.setGen
          simpa using hlt'
        refine ih (by lia) _ _ gs' I2 ha' (fun b hb => ⟨j4 b hb, (nx.off b hb).2.1, (nx.off b hb).2.2⟩) (setGen_at hsz) fun s₂ S₂ I₂ hs₂ hf₂ => ?_
        exact hkap s₂ S₂ I₂ (fun b hb o e => hs₂ b hb o e) hf₂
    · obtain ⟨h0, _⟩ := hp
      exact absurd h0 (Nat.succ_ne_zero n)
end
end Mine
end

section
namespace Mine
variable {sc : Scope} {mc : List Str}
open PySem PySem.Calls PyProof.Rows
noncomputable def Atoms : LEnv → Prop
  | [] => True
  | (_, l) :: r => (∃ d, l = .val d ∧ d.atom = true) ∧ Atoms r
theorem Atoms.at : ∀ {ρ : LEnv}, Atoms ρ → ∀ x l, ρ.lookup x = some l → ∃ d, l = .val d ∧ d.atom = true
  | [], _, x, l, h => nomatch h
  | (y, l') :: r, ⟨h1, h2⟩, x, l, h => by
    by_cases q : x = y
    · subst q
      simp only [List.lookup, BEq.rfl] at h
      obtain rfl := Option.some.inj h
      exact h1
    · rw [lookup_cons_ne q] at h
      exact h2.at x l h
theorem seg_Yield {M : Model} {A : Around} {R : GenEnd} {Y : Protocol} {n : Nat} {s₀ : Shared} {c : Code} {fs : List Frame} {s : Shared} {env : Env}
  {K : Flow → Sem PySem.Fin} {H : Value → Sem PySem.Fin} {gd : Bool → Bool} {lv : List Value → List Value} {e : Expr} {ypos pos : Pos} (hfs : splitAtGen fs = none) (hgd : gd false = false) (hfg : fs.any Frame.guarded = false)
    (h : wpAny M (A.over c fs) (eval e env) (fun v s' => ∀ kap : Resume → Shared → Prop,
        (∀ s'', Seg M A R Y n s'' c (K .next) fs s'' → kap (.send .none) s'') → Y n s₀ v s' kap) No s) (hco : env.scope.isCoroutine = false) (hi : interactive env = false) :
    Seg M A R Y (n + 1) s₀ c ((exec (.Expr (.Yield (some e) ypos) pos) env).wrap K H gd lv) fs s :=
  seg_Expr_Yield hfs hgd hfg (wpAny_mono h (fun v s' h kap hk => h kap fun s'' hs => hk .none s'' hs) fun _ _ e => False.elim e) hco hi
section
variable {G : Gl} {A : Around} {act : Act sc mc} {kp : Kept} {adr : Str → Addr} {ρ : LEnv} {S S' S₁ S₂ : Fz} {s s' s₀ s₁ s₂ : Shared} {d : D} {ds : List D} {F : List Addr} {g : Nat}
noncomputable abbrev OffF (G : Gl) (F : List Addr) (S : Fz) (s : Shared) : Prop := ∀ b ∈ F, S b = none ∧ NoTab G b ∧ ∃ o, s.heap.get? b = some o
theorem OffF.step (h : OffF G F S s) (st : Stp G S s S' s') : OffF G F S' s' := fun b hb => by
  obtain ⟨h1, h2, o, ho⟩ := h b hb
  refine ⟨?_, h2, o, st.keep _ _ h2 ho⟩
  cases q : S' b with
  | none => rfl
  | some o' =>
    rcases st.new _ _ q with e | e
    · rw [h1] at e; exact nomatch e
    · rw [ho] at e; exact nomatch e
theorem Ev.use {e : Expr} {A : Around} (h : Ev G A act ρ e d) (O : OK G act kp adr ρ S s) : wpAny G.M A (eval e act.env) (Post G S s fun S' v => Is G S' v d) No s := h _ _ _ _ O
set_option tactic.hygienic true in
theorem OK.resume (O : OK G act kp adr ρ S₁ s₁) (hmt : ∀ b ∈ act.mt, b ∈ F) (hcells : act.env.cells = []) (hmc : mc = []) (I : Inv G S₂ s₂) (same : ∀ b ∈ F, ∀ o, s₁.heap.get? b = some o → s₂.heap.get? b = some o)
    (off : ∀ b ∈ F, S₂ b = none) (nt : ∀ b ∈ F, NoTab G b) (hat : Atoms ρ) : OK G act (kpBut G s₂ F) adr ρ (Smin G s₂) s₂ where
  inv := I.smin.1
  kept := fun a o e => by
    unfold kpBut at e; simp only at e
    split at e
    · exact e
    · exact nomatch e
  knt := fun a o e => by
    unfold kpBut at e; simp only at e
    split at e
    · rename_i h; exact h.1
    · exact nomatch e
  kgens := fun g x e => e
  fn := O.fn
  glob := O.glob
  blt := O.blt
  ns := let ⟨m, h⟩ := O.ns; ⟨m, h.at' fun o e => same _ (hmt _ O.mtL) o e⟩
  mtL := O.mtL
  mt := fun b hb => by
    have hF := hmt b hb
    (refine cps fun ZP zk => ?_; obtain ⟨_, _, h3, o, ho⟩ := O.mt b hb; refine zk ?_)
    refine ⟨?_, ?_, h3, o, same b hF o ho⟩
    · cases q : Smin G s₂ b with
      | none => rfl
      | some o' => have := I.smin.2 _ _ q; rw [off b hF] at this; exact nomatch this
    · unfold kpBut; simp only
      rw [if_neg fun h => h.2 hF]
  mtc := fun x hx => by rw [hmc] at hx; exact nomatch hx
  apart := O.apart
  clo := O.clo
  cells := fun p hp => by rw [hcells] at hp; exact nomatch hp
  vars := fun x l e => by
    have q := O.vars x l e
    obtain ⟨d, rfl, ha⟩ := hat.at x l e
    obtain ⟨v, r, i⟩ := q
    exact ⟨v, r.of (fun o e => same _ (hmt _ O.mtL) o e) (fun c hc => by rw [hcells] at hc; cases hc), i.atom ha⟩
  inj := fun x y dx dy ex _ => by obtain ⟨d, h, _⟩ := hat.at x _ ex; exact nomatch h
theorem OK.nxF (O : OK G act (kpBut G s₀ F) adr ρ S s) (g : Nat) (gr : Gro (kpBut G s₀ F) (Smin G s₀) S) (off : ∀ b ∈ F, S b = none ∧ NoTab G b ∧ ∃ o, s.heap.get? b = some o) : NxF G F g (Smin G s₀) s₀ S s where
  inv := O.inv
  sub := gr.sub
  new := fun a o e => by
    rcases gr.new a o e with h | h
    · exact .inl h
    · unfold kpBut at h
      simp only at h
      rw [if_pos ⟨O.inv.noTabS e, fun hm => by rw [(off a hm).1] at e; exact nomatch e⟩] at h
      exact .inr h
  keep := fun b o hb nt e => O.kept b o (by
    unfold kpBut; simp only
    rw [if_pos ⟨nt, hb⟩]; exact e)
  gens := fun h x _ e => O.kgens h x e
  off := off
  lt := fun h => by
    have := O.kgens g (s₀.gens[g]) (Array.getElem?_eq_getElem h)
    rw [Array.getElem?_eq_some_iff] at this; exact this.1
theorem OffF.resume (h : OffF G F S₁ s₁) (I : Inv G S₂ s₂) (same : ∀ b ∈ F, ∀ o, s₁.heap.get? b = some o → s₂.heap.get? b = some o) (off : ∀ b ∈ F, S₂ b = none) : OffF G F (Smin G s₂) s₂ := fun b hb => by
  obtain ⟨_, h2, o, ho⟩ := h b hb
  refine ⟨?_, h2, o, same b hb o ho⟩
  cases q : Smin G s₂ b with
  | none => rfl
  | some o' => have := I.smin.2 _ _ q; rw [off b hb] at this; exact nomatch this
theorem over_loop (B : Around) (env : Env) (gb : List Stmt) (tgt : Expr) (it : Value) (body : List Stmt) (k : Result → Sem PySem.Fin) (l : List Value) (b : Bool) (p : Pos) :
    B.over (.forLoop tgt it body [] env) [.ret k none b l (.func gb env) p []] = B.over (.func gb env) [] := by
  unfold Around.over
  congr 1
theorem Room.over {n : Nat} {B : Around} (h : Room (n + 1) B) (gb : List Stmt) (env : Env) : Room n (B.over (.func gb env) []) := ⟨h.handled, by
    have := h.depth
    show B.depth + 0 + 1 + n ≤ 900
    lia, by
    have := h.units
    show B.units + 0 + 3 + 50 * n ≤ 9000
    lia⟩
end
end Mine
end

section
namespace Mine
open PySem PySem.Calls PyProof.Rows
section
variable {prog : Program} {w : World} {A : Around} {E : Value → Shared → Prop} {s : Shared}
theorem strIter_end {it : Addr} {x : Str} {t : Tok} {T : String} (hT : T = "str_ascii_iterator" ∨ T = "str_iterator") {Q : Value → Shared → Prop} (hh : A.handled = none) (hit : s.heap.IsStrIter it T x t x.cps.size)
    (hE : ∀ h' e, (∀ b o, b ≠ it → s.heap.get? b = some o → h'.get? b = some o) → (∃ o, h'.get? it = some o) → (∃ o, h'.get? e = some o ∧ o.cls = .type "StopIteration") → E (.ref e) { s with heap := h' }) :
    wpAny (model prog w) A (Builtin.SmallTypes.nextOf (.ref it)) Q E s := by
  obtain ⟨o, ho, hc, hd⟩ := id hit
  have hx : x.cps[x.cps.size]? = none := by simp
  have alive : ∃ o', (s.heap.update it (Obj.mapFields (·.setIfInBounds 0 .none))).get? it = some o' := ⟨_, Heap.get?_update_self _ ho (by obtain ⟨c, dd, dt, sl⟩ := o; simp only at hd; subst hd; rfl)⟩
  have other : ∀ b o', b ≠ it → s.heap.get? b = some o' → (s.heap.update it (Obj.mapFields (·.setIfInBounds 0 .none))).get? b = some o' := fun b o' hb e => (Heap.get?_update_other _ _ (Ne.symm hb)).trans e
  have fin : ∀ (M : Model) (Q' : PySem.Fin → Shared → Prop), M = model prog w → wpAny M A.in1 (newExc (.type "StopIteration") [] >>= raiseNew) Q' E { s with heap := s.heap.update it (Obj.mapFields (·.setIfInBounds 0 .none)) } := fun M Q' hM => by
    subst hM
    refine wpAny_bind ?_
    simp only [newExc, newTuple]
    refine wpAny_bind (wpAny_newObj_type ?_ (by size_fits))
    refine wpAny_bind (m := firstArgMember _ _) (wpAny_of_eq (a := Value.none) (by first | rfl | (simp only [firstArgMember]; rfl)) ?_)
    refine wpAny_newObj_type ?_ (by size_fits)
    simp only [raiseNew]
    refine wpAny_bind (wpAny_handled ?_)
    rw [show A.in1.handled = none from hh]
    refine wpAny_bind (wpAny_pure (wpAny_throw ?_))
    exact hE _ _ (fun b o' hb e => Heap.get?_push_of_some _ (Heap.get?_push_of_some _ (other b o' hb e))) (let ⟨o', h⟩ := alive; ⟨o', Heap.get?_push_of_some _ (Heap.get?_push_of_some _ h)⟩) ⟨_, Heap.get?_push_size _ rfl, rfl⟩
  have go : wpAny (model prog w) A.in1 (field (.ref it) 0) (fun v s' => v = .str x t ∧ s' = s) No s ∧ wpAny (model prog w) A.in1 (field (.ref it) 1) (fun v s' => v = .int x.cps.size 0 ∧ s' = s) No s :=
    ⟨wpAny_field ho hd rfl ⟨rfl, rfl⟩, wpAny_field ho hd rfl ⟨rfl, rfl⟩⟩
  unfold Builtin.SmallTypes.nextOf
  rcases hT with rfl | rfl
  · refine wpAny_bind (wpAny_callSpecial?_slot (name := Str.ofString "__next__") hit.typeIs F.slot_str_ascii_iterator_next
      (wpAny_call_entry F.slot_str_ascii_iterator_next hit.typeIs F.entry_str_ascii_iterator_next ?_ (F.args_str_ascii_iterator_next_1 _)))
    show wpAny _ _ (field (.ref it) 0 >>= _) _ _ _
    refine wpAny_bind (wpAny_mono go.1 (fun v s' ⟨e1, e2⟩ => ?_) fun _ _ e => False.elim e)
    rw [e1, e2]
    show wpAny _ _ (field (.ref it) 1 >>= _) _ _ _
    refine wpAny_bind (wpAny_mono go.2 (fun v s' ⟨e1, e2⟩ => ?_) fun _ _ e => False.elim e)
    rw [e1, e2]
    simp only [Int.toNat_natCast, hx]
    refine wpAny_bind (wpAny_rule (wpAny_bind (wpAny_setField ho hd (by simp) (wpAny_bind (wpAny_letGo ?_)))))
    exact fin _ _ rfl
  · refine wpAny_bind (wpAny_callSpecial?_slot (name := Str.ofString "__next__") hit.typeIs F.slot_str_iterator_next
      (wpAny_call_entry F.slot_str_iterator_next hit.typeIs F.entry_str_iterator_next ?_ (F.args_str_iterator_next_1 _)))
    show wpAny _ _ (field (.ref it) 0 >>= _) _ _ _
    refine wpAny_bind (wpAny_mono go.1 (fun v s' ⟨e1, e2⟩ => ?_) fun _ _ e => False.elim e)
    rw [e1, e2]
    show wpAny _ _ (field (.ref it) 1 >>= _) _ _ _
    refine wpAny_bind (wpAny_mono go.2 (fun v s' ⟨e1, e2⟩ => ?_) fun _ _ e => False.elim e)
    rw [e1, e2]
    simp only [Int.toNat_natCast, hx]
    refine wpAny_bind (wpAny_rule (wpAny_bind (wpAny_setField ho hd (by simp) (wpAny_bind (wpAny_letGo ?_)))))
    exact fin _ _ rfl
theorem strEnum_end {e it : Addr} {x : Str} {t : Tok} {T : String} (hT : T = "str_ascii_iterator" ∨ T = "str_iterator") {i : Int} {old : Value} {Q : Option Value → Shared → Prop} (hh : A.in1.handled = none)
    (he : IsEnum s.heap e it i old) (hit : s.heap.IsStrIter it T x t x.cps.size)
    (hQ : ∀ h', (∀ b o, b ≠ it → s.heap.get? b = some o → h'.get? b = some o) → (∃ o, h'.get? it = some o) → Q none { s with heap := h' }) : wpAny (model prog w) A (pyNext (.ref e)) Q E s := by
  have hE : s.TypeIs (.ref e) "enumerate" := ⟨_, he, rfl⟩
  unfold pyNext
  refine wpAny_bind (wpAny_attempt (wpAny_callSpecial?_slot (name := Str.ofString "__next__") hE F.slot_enumerate_next
    (wpAny_call_entry F.slot_enumerate_next hE F.entry_enumerate_next ?_ (F.args_enumerate_next_1 _))))
  show wpAny _ _ (field (.ref e) 2 >>= _) _ _ _
  refine wpAny_bind (wpAny_field he rfl (x := .ref it) rfl (wpAny_bind (strIter_end hT hh hit fun h' y hk ha ⟨o, ho, hc⟩ => wpAny_bind (wpAny_isInstance (T := "StopIteration") (b := true) ⟨o, ho, hc⟩ isSubtype_stop ?_))))
  exact wpAny_pure (hQ h' hk ha)
end
end Mine
end

section
namespace Mine
variable {sc : Scope} {mc : List Str}
open PySem PySem.Calls PyProof.Rows
section
variable {G : Gl} {A : Around} {S S' S₁ : Fz} {s s' s₀ s₁ : Shared} {d : D} {ds : List D} {F F₀ : List Addr} {g : Nat} {X : List D} {mg mb : Str → Option Value}
theorem gen_start {k : Nat} {tgt : Expr} {a : Addr} (hA : Room k A) (N : Names G mg mb) {oa : Obj} {nm qn : Value} (hc : oa.cls = .type "generator") (hda : oa.data = .fields #[.int g 0, nm, qn]) (hsl : oa.slots = #[]) {n : Nat} (hn : n ≤ X.length) {gs : GenState} (I : Inv G S s) (ha : S a = some oa)
    (hF₀ : ∀ b ∈ F₀, S b = none ∧ NoTab G b ∧ ∃ o, s.heap.get? b = some o) (hgs : s.gens[g]? = some gs)
    (hgo : ∀ s₂ S₂, Inv G S₂ s₂ → (∀ b ∈ F₀, ∀ o, s.heap.get? b = some o → s₂.heap.get? b = some o) → (∀ b ∈ F₀, S₂ b = none) → ∃ F, (∀ b ∈ F, b ∈ F₀ ∨ s₂.heap.get? b = none) ∧ (∀ b ∈ F₀, b ∈ F) ∧ gs.Goes G.M A.in1 (Rp G F g) (Yp G F g X) n (.send .none) s₂) :
    Yields G A tgt (.ref a) (X.drop (X.length - n)) ⟨F₀, [g]⟩ S s := by
  have hlt : g < s.gens.size := by
    rw [Array.getElem?_eq_some_iff] at hgs; exact hgs.1
  have good : Good G ⟨F₀, [g]⟩ S s := ⟨hF₀, fun h hh => by rw [List.mem_singleton.mp hh]; exact hlt⟩
  have off : ∀ {S' s'}, Inv G S' s' → (∀ b ∈ F₀, S' b = none) → ∀ {F : List Addr}, (∀ b ∈ F, b ∈ F₀ ∨ s'.heap.get? b = none) → ∀ b ∈ F, S' b = none := fun {S' s'} I h {F} hF b hb => by
    rcases hF b hb with q | q
    · exact h b q
    · cases z : S' b with
      | none => rfl
      | some o => have := I.sub _ _ z; rw [q] at this; exact nomatch this
  cases n with
  | zero =>
    rw [Nat.sub_zero, List.drop_length]
    refine ⟨good, fun S' s' af => ?_⟩
    have hgs' := af.same.gen g (.head _) _ hgs
    obtain ⟨F, hF1, hF2, hgo⟩ := hgo (s'.setGen g .running) S' (af.inv.setGen rfl) (fun b hb o e => af.same.adr b hb o e) af.off
    have hoff := off af.inv af.off hF1
    refine gen_next (n := 0) hA N af.inv (af.sub _ _ ha) hc hda hsl hgs' hgo (fun v s₁ gs' b hy => ?_) fun s₁ hp h' hk => ?_
    · (refine cps fun ZP zk => ?_; obtain ⟨S₁, nx, _, hkap⟩ := hy; refine zk ?_)
      exact (hkap s₁ S₁ nx.inv (fun _ _ _ e => e) fun b hb => (nx.off b hb).1).elim
    · obtain ⟨_, S₁, nx⟩ := hp
      obtain ⟨j1, j2, j3, j4⟩ := nx.join (af.inv.setGen rfl) hoff
      refine ⟨rfl, S'.join S₁, ⟨F, [g]⟩, ?_⟩
      have I2 : Inv G (S'.join S₁) (s₁.setGen g .finished) := j1.setGen rfl
      refine ⟨(I2.keeps (t := s₁.toks) hk).inv, Fz.join_left _ _, j3, fun b o hb nt e => hk _ _ (nx.keep b o (fun q => ?_) nt e), fun h x hh e => ?_, fun b hb => hF1 b hb, fun h hh => .inl hh⟩
      · rcases hF1 b q with z | z
        · exact hb z
        · rw [show s'.heap.get? b = none from z] at e; exact nomatch e
      · have hne : h ≠ g := fun q => hh (q ▸ .head _)
        show (s₁.setGen g .finished).gens[h]? = some x
        rw [setGen_get hne]
        exact nx.gens h x hne (by rw [setGen_get hne]; exact e)
  | succ n =>
    have hi : X.length - (n + 1) < X.length := by omega
    rw [List.drop_eq_getElem_cons hi, show X.length - (n + 1) + 1 = X.length - n by lia]
    refine ⟨good, fun S' s' af => ?_⟩
    have hgs' := af.same.gen g (.head _) _ hgs
    have hlt' : g < s'.gens.size := by
      have := hgs'
      rw [Array.getElem?_eq_some_iff] at this; exact this.1
    (refine cps fun ZP zk => ?_; obtain ⟨F, hF1, hF2, hgo⟩ := hgo (s'.setGen g .running) S' (af.inv.setGen rfl) (fun b hb o e => af.same.adr b hb o e) af.off; refine zk ?_)
    have hoff := off af.inv af.off hF1
    refine gen_next (n := n + 1) hA N af.inv (af.sub _ _ ha) hc hda hsl hgs' hgo (fun v s₁ gs' b hy => ?_) fun s₁ hp h' hk => ?_
    · (refine cps fun ZP zk => ?_; obtain ⟨S₁, nx, ⟨d, hd, hi'⟩, hkap⟩ := hy; refine zk ?_)
      (refine cps fun ZP zk => ?_; obtain ⟨j1, j2, j3, j4⟩ := nx.join (af.inv.setGen rfl) hoff; refine zk ?_)
      have I2 : Inv G (S'.join S₁) (s₁.setGen g gs') := j1.setGen' b
      have hdx : X[X.length - (n + 1)] = d := by
        have : X.length - 1 - (n + 1 - 1) = X.length - (n + 1) := by lia
        rw [this, List.getElem?_eq_getElem hi] at hd
        exact Option.some.inj hd
      have ha' : S'.join S₁ a = some oa := Fz.join_left _ _ _ _ (af.sub _ _ ha)
      have hgo' : (s₁.setGen g gs').heap.get? a = some oa := I2.sub _ _ ha'
      refine quietGo (n := "generator") hgo' hc (by decide) ⟨v, S'.join S₁, ⟨F, [g]⟩, rfl, ?_, by rw [hdx]; exact hi'.mono j2, ?_⟩
      · refine ⟨I2, Fz.join_left _ _, j3, fun b o hb nt e => nx.keep b o (fun q => ?_) nt e, fun h x hh e => ?_, fun b hb => hF1 b hb, fun h hh => .inl hh⟩
        · rcases hF1 b q with z | z
          · exact hb z
          · rw [show s'.heap.get? b = none from z] at e; exact nomatch e
        · have hne : h ≠ g := fun q => hh (q ▸ .head _)
          rw [setGen_get hne]
          exact nx.gens h x hne (by rw [setGen_get hne]; exact e)
      · have hsz : g < s₁.gens.size := by
          refine nx.lt ?_
          unfold Shared.setGen
          simpa using hlt'
        refine gen_yields hA N hc hda hsl n (by lia) _ _ gs' I2 ha' (fun b hb => ⟨j4 b hb, (nx.off b hb).2.1, (nx.off b hb).2.2⟩) (setGen_at hsz) fun s₂ S₂ I₂ hs₂ hf₂ => ?_
        exact hkap s₂ S₂ I₂ (fun b hb o e => hs₂ b hb o e) hf₂
    · obtain ⟨h0, _⟩ := hp
      exact absurd h0 (Nat.succ_ne_zero n)
end
end Mine
end

section
namespace Mine
variable {sc : Scope} {mc : List Str}
open PySem PySem.Calls PyProof.Rows
section
variable {G : Gl} {A : Around} {act : Act sc mc} {ρ : LEnv} {d : D}
theorem EvO.lc {α : Type} {scope : Scope} {elt tgt iter : Expr} {ifs : List Expr} {pos : Pos} (as : List α) (φ : α → D) (ρ' : α → LEnv) (p : α → Bool) (f : α → D)
    (hsrc : Src G A act ρ tgt iter (as.map φ)) (hlen : as.length ≤ sizeLine)
    (turn : ∀ (act' : Act (relS scope sc) (cellNames scope.names)) a, a ∈ as → Takes G A act' tgt (φ a) (ρ.inner scope) (ρ' a) ∧ (∀ y l, (ρ.inner scope).lookup y = some l → (ρ' a).lookup y = some l) ∧
      Tests G A act' (ρ' a) ifs (p a) ∧ (p a = true → Ev G A act' (ρ' a) elt (f a)))
    (hd : d = .list ((as.filter p).map f)) (hfit : compFit scope sc = true := by decide) (hs : ∀ x, foldedSetIterable iter act.env x = pure x := by intro _; rfl)
    (hev : eval (.ListComp elt [⟨tgt, iter, ifs, 0⟩] scope pos) act.env = comprehension (.ListComp elt [⟨tgt, iter, ifs, 0⟩] scope pos) scope act.env iter.pos (newList []) false (eval iter act.env) none := by rfl) :
    EvO G A act ρ (.ListComp elt [⟨tgt, iter, ifs, 0⟩] scope pos) d := by
  rw [hd]
  exact CompRuns.evO (CompRuns.list as φ ρ' p f hsrc hlen turn hfit hs) hev
theorem EvO.dc {α : Type} {scope : Scope} {kx vx tgt iter : Expr} {ifs : List Expr} {pos : Pos} (as : List α) (φ : α → D) (ρ' : α → LEnv) (p : α → Bool) (kf : α → Ky) (f : α → D)
    (hsrc : Src G A act ρ tgt iter (as.map φ)) (hlen : as.length ≤ sizeLine)
    (turn : ∀ (act' : Act (relS scope sc) (cellNames scope.names)) a, a ∈ as → Takes G A act' tgt (φ a) (ρ.inner scope) (ρ' a) ∧ (∀ y l, (ρ.inner scope).lookup y = some l → (ρ' a).lookup y = some l) ∧
      Tests G A act' (ρ' a) ifs (p a) ∧ (p a = true → Ev G A act' (ρ' a) kx (kf a).d ∧ Ev G A act' (ρ' a) vx (f a)))
    (hd : d = .dict (dmk ((as.filter p).map fun a => (kf a, f a))).1 (dmk ((as.filter p).map fun a => (kf a, f a))).2) (hfit : compFit scope sc = true := by decide) (hs : ∀ x, foldedSetIterable iter act.env x = pure x := by intro _; rfl)
    (hev : eval (.DictComp kx vx [⟨tgt, iter, ifs, 0⟩] scope pos) act.env = comprehension (.DictComp kx vx [⟨tgt, iter, ifs, 0⟩] scope pos) scope act.env iter.pos newDict false (eval iter act.env) none := by rfl) :
    EvO G A act ρ (.DictComp kx vx [⟨tgt, iter, ifs, 0⟩] scope pos) d := by
  rw [hd]
  exact CompRuns.evO (CompRuns.dict as φ ρ' p kf f hsrc hlen turn hfit hs) hev
theorem inner_keep1 {scope : Scope} {x : Str} {l' : Loc} (hx : scope.names.lookup x ≠ some .free) : ∀ y l, (ρ.inner scope).lookup y = some l → (((x, l') :: ρ.inner scope : LEnv)).lookup y = some l := fun y l h => by
  rw [lookup_cons_ne (inner_not hx h)]; exact h
theorem inner_keep2 {scope : Scope} {x x₂ : Str} {l' l₂ : Loc} (hx : scope.names.lookup x ≠ some .free) (hx₂ : scope.names.lookup x₂ ≠ some .free) : ∀ y l, (ρ.inner scope).lookup y = some l → (((x₂, l₂) :: (x, l') :: ρ.inner scope : LEnv)).lookup y = some l := fun y l h => by
  rw [lookup_cons_ne (inner_not hx₂ h)]; exact inner_keep1 hx y l h
theorem Tests.none {A : Around} : Tests G A act ρ [] true := rfl
theorem Tests.one {A : Around} {c : Expr} {b : Bool} (h : Te G A act ρ c b) : Tests G A act ρ [c] b := ⟨b, true, h, fun _ => rfl, by simp⟩
end
theorem lslice_map {α β : Type} (f : α → β) (xs : List α) (lo hi st : Option Int) : lslice (xs.map f) lo hi st = (lslice xs lo hi st).map f := by
  unfold lslice
  rw [List.length_map, List.map_filterMap]
  congr 1
  funext i
  rw [List.getElem?_map]
theorem filter_all {α : Type} (l : List α) : l.filter (fun _ => true) = l := List.filter_eq_self.mpr fun _ _ => rfl
end Mine
end

section
namespace Mine
variable {sc : Scope} {mc : List Str}
open PySem PySem.Calls PyProof.Rows PySem.SeqAt
open PySem.AutoSeq1 (wpAny_loadPart')
open PySem.MeetsSeq PySem.MeetsSeq2 PySem.MeetsSeq3
theorem lt_loop1 (l b : Addr) (x y : Int) (t u : Tok) (n n2 : Nat) (dd dd2 : Option Addr) (sl sl2 : Array (Option Value)) :
    Meets (Builtin.«list.__eq__.loop» ⟨[.ref l, .ref b, rawInt 1, rawInt 0], []⟩)
      (fun A R s => s.heap.get? l = some { cls := .type "list", dict := dd, data := .seq #[.int x t] n, slots := sl } ∧ s.heap.get? b = some { cls := .type "list", dict := dd2, data := .seq #[.int y u] n2, slots := sl2 } ∧
        R (.ok (.ret (.bool false))) s) := by
  intro prog w A R s h
  obtain ⟨hp, g, d, tk, os⟩ := s; obtain ⟨hl, hb, h⟩ := h
  wp_walk using wpAny_loadPart' hl, wpAny_loadPart' hb
  exact h
theorem lt_loop0 (l b : Addr) (x y : Int) (t u : Tok) (n n2 : Nat) (dd dd2 : Option Addr) (sl sl2 : Array (Option Value)) :
    Meets (Builtin.«list.__eq__.loop» ⟨[.ref l, .ref b, rawInt 0, rawInt 0], []⟩)
      (fun A R s => s.heap.get? l = some { cls := .type "list", dict := dd, data := .seq #[.int x t] n, slots := sl } ∧ s.heap.get? b = some { cls := .type "list", dict := dd2, data := .seq #[.int y u] n2, slots := sl2 } ∧
        R (.ok (.ret (.bool (decide (x < y))))) s) := by
  intro prog w A R s h
  obtain ⟨hp, g, d, tk, os⟩ := s; obtain ⟨hl, hb, h⟩ := h
  wp_walk using wpAny_loadPart' hl, wpAny_loadPart' hb
  refine wpAny_eqBool_int ?_
  by_cases q : x = y
  · subst q
    rw [if_pos (by simp)]
    wp_walk
    exact ⟨plainId_quiet plain_eq_loop _, codeAny_builtin entry_eq_loop (by
        rw [Around.under_plainId plain_eq_loop _]
        exact lt_loop1 l b x x t u n n2 dd dd2 sl sl2 prog w A R _ ⟨hl, hb, by simpa using h⟩)⟩
  · rw [if_neg (by simpa using q)]
    refine wpAny_bind (listItems_at hl rfl (wpAny_bind (listItems_at hb rfl ?_)))
    show wpAny _ _ (compareOp .Lt (.int x t) (.int y u) >>= fun r => ret r) _ _ _
    refine wpAny_bind (lt_int ?_)
    wp_walk
    exact h
theorem list_lt1 (l b : Addr) (x y : Int) (t u : Tok) (n n2 : Nat) (dd dd2 : Option Addr) (sl sl2 : Array (Option Value)) :
    Meets (Builtin.«list.__lt__» ⟨[.ref l, .ref b], []⟩)
      (fun A R s => s.heap.get? l = some { cls := .type "list", dict := dd, data := .seq #[.int x t] n, slots := sl } ∧ s.heap.get? b = some { cls := .type "list", dict := dd2, data := .seq #[.int y u] n2, slots := sl2 } ∧
        R (.ok (.ret (.bool (decide (x < y))))) s) := by
  intro prog w A R s h
  obtain ⟨hp, g, d, tk, os⟩ := s; obtain ⟨hl, hb, h⟩ := h
  have f3 := AutoSeq1.sub_list_list
  wp_walk using wpAny_loadPart' hl, wpAny_loadPart' hb
  exact ⟨plainId_quiet plain_eq_loop _, codeAny_builtin entry_eq_loop (by
        rw [Around.under_plainId plain_eq_loop _]
        exact lt_loop0 l b x y t u n n2 dd dd2 sl sl2 prog w A R _ ⟨hl, hb, h⟩)⟩
section
variable {G : Gl} {A : Around} {act : Act sc mc} {ρ : LEnv} {S S' : Fz} {s s' : Shared} {n : Nat} {d e : D} {ds es : List D} {a b : Int}
theorem Cmp.lt1 (hA : Room n A) : Cmp G A .Lt (.list [.int a]) (.list [.int b]) (decide (a < b)) := fun S s va vb I ha hb => by
  (refine cps fun ZP zk => ?_; obtain ⟨l, o, k, vs, rfl, h1, h2, h3, r⟩ := ha.listI; refine zk ?_)
  (refine cps fun ZP zk => ?_; obtain ⟨l', o', k', vs', rfl, h1', h2', h3', r'⟩ := hb.listI; refine zk ?_)
  obtain ⟨v, rfl, i⟩ := alls1 r
  obtain ⟨v', rfl, i'⟩ := alls1 r'
  obtain ⟨t, rfl⟩ := i.int'
  obtain ⟨t', rfl⟩ := i'.int'
  obtain ⟨cls, dd, data, sl⟩ := o
  obtain ⟨cls', dd', data', sl'⟩ := o'
  simp only at h2 h3 h2' h3'
  subst h2 h3 h2' h3'
  have ho := I.sub _ _ h1
  have ho' := I.sub _ _ h1'
  exact richCompare_meets_room (op := .Lt) ⟨_, ho, rfl⟩ ⟨_, ho', rfl⟩ F.slot_list_lt F.entry_list_lt (F.args_list_lt_2 _ _) (list_lt1 l l' a b t t' k k' dd dd' sl sl')
    ⟨ho, ho', ⟨(fun x => nomatch x), ⟨S, .refl I, rfl⟩⟩⟩ hA.cl
noncomputable def dq : D → D → Option Bool
  | .dict ks vs, .dict ks' vs' => deqD ks vs ks' vs'
  | d, e => deq 7 d e
noncomputable def EqIn (G : Gl) (A : Around) (s : Shared) (y x : Value) : Prop := ∀ (E : Value → Shared → Prop) (Q : Bool → Shared → Prop), Q true s → wpAny G.M A (eqBool y x) Q E s
set_option tactic.hygienic true in
theorem eqIn (I : Inv G S s) (hu : A.units + 12 < cLine) {v w : Value} (ha : Is G S v d) (hb : Is G S w e) (h : dq d e = some true) : EqIn G A s v w := by
  by_cases q : v = w
  · subst q; exact fun E Q hq => EqAt.same (A := A) (s := s) v _ _ E Q hq
  · by_cases hd : ∃ ks vs ks' vs', d = .dict ks vs ∧ e = .dict ks' vs'
    · obtain ⟨ks, vs, ks', vs', rfl, rfl⟩ := hd
      intro E Q hq
      have h : deqD ks vs ks' vs' = some true := h
      (refine cps fun ZP zk => ?_; obtain ⟨a, es, ep, ka, rfl, h1, h2, h3, h4, h5, t, h6⟩ := ha.dictI; refine zk ?_)
      (refine cps fun ZP zk => ?_; obtain ⟨b, es', ep', kb, rfl, h1', h2', h3', h4', h5', t', h6'⟩ := hb.dictI; refine zk ?_)
      subst h4 h4'
      unfold deqD at h
      split at h
      · rename_i hl
        unfold eqBool
        refine wpAny_holding ?_
        refine wpAny_ite_split (fun hab => absurd (eq_of_beq hab) q) (fun _ => ?_)
        have hu1 : A.units < cLine := by lia
        have hu2 : A.in1.units + 8 < cLine := by show A.units + 1 + 8 < cLine; lia
        refine wpAny_bind (PySem.W.keq_eq (r := true) h6 h6' (dictOf_of I h1 h2 h3 h5) (dictOf_of I h1' h2' h3' h5') hu1 (fun _ => dict_hits I hu2 t' _ _ _ t h) ?_)
        have : (ka.length == kb.length) = true := by simpa using hl
        rw [this]
        exact wpAny_truthy_bool hq
      · cases h
    · have : deq 7 d e = some true := by
        cases d with
        | dict ks vs => cases e with
          | dict ks' vs' => exact absurd ⟨_, _, _, _, rfl, rfl⟩ hd
          | _ => exact h
        | _ => exact h
      exact fun E Q hq => eqAt I 7 A v w d e true (by lia) ha hb this _ _ E Q hq
theorem tup_ne_same {prog : Program} {w : World} {l b : Addr} {items items2 : Array Value} {n n2 : Nat} {dd dd2 : Option Addr} {sl sl2 : Array (Option Value)} (hsz : items.size = items2.size)
    (hl : s.heap.get? l = some { cls := .type "tuple", dict := dd, data := .seq items n, slots := sl }) (hb : s.heap.get? b = some { cls := .type "tuple", dict := dd2, data := .seq items2 n2, slots := sl2 })
    (he : ∀ j (h1 : j < items.size) (h2 : j < items2.size), ∀ (E : Value → Shared → Prop) (Q : Bool → Shared → Prop), Q true s → wpAny (model prog w) A.in1 (eqBool items[j] items2[j]) Q E s) {P : Value → Shared → Prop} {E : Value → Shared → Prop} (h : P (.bool false) s) :
    wpAny (model prog w) A.in1 (Builtin.«tuple.__ne__» ⟨[.ref l, .ref b], []⟩) (fun fin s' => ∃ v, fin = .done (.ret v) ∧ P v s') E s := by
  obtain ⟨hp, g, d, tk, os⟩ := s
  have f2 := AutoSeq1.sub_tuple_tuple
  have hZ : (items.toList.zip items2.toList).length = items.size := by simp [hsz]
  wp_walk using wpAny_loadPart' hl, wpAny_loadPart' hb, wpAny_forIn_list _ (fun rest b s' => b.1 = none ∧ s' = ⟨hp, g, d, tk, os⟩ ∧ ∃ i, rest = (items.toList.zip items2.toList).drop i) _
  case turn =>
    rintro ⟨y, x⟩ rest b s' ⟨hb', rfl, i, hz⟩
    have hlt : i < (items.toList.zip items2.toList).length := by
      rcases Nat.lt_or_ge i (items.toList.zip items2.toList).length with h' | h'
      · exact h'
      · rw [List.drop_of_length_le h'] at hz; exact nomatch hz
    have h1 : i < items.size := hZ ▸ hlt
    have h2 : i < items2.size := by lia
    rw [List.drop_eq_getElem_cons hlt] at hz
    injection hz with hyx hrest
    have hy : y = items[i] := by have := congrArg Prod.fst hyx; simpa using this
    have hx : x = items2[i] := by have := congrArg Prod.snd hyx; simpa using this
    subst hy hx
    refine wpAny_bind (he i h1 h2 _ _ ?_)
    wp_walk
    exact ⟨rfl, rfl, i + 1, hrest⟩
  case fin =>
    rintro ⟨b1, b2⟩ s' ⟨hb', rfl, i, hz⟩
    simp only at hb'
    subst hb'
    wp_walk
    exact ⟨_, rfl, by simpa [Builtin.Tuple.tupleCompareSizes, bne, hsz] using h⟩
  case h =>
    exact ⟨rfl, rfl, 0, rfl⟩
inductive AllEq : List D → List D → Prop
  | nil : AllEq [] []
  | cons {d e : D} {ds es : List D} : dq d e = some true → AllEq ds es → AllEq (d :: ds) (e :: es)
theorem AllEq.length : ∀ {ds es : List D}, AllEq ds es → ds.length = es.length
  | _, _, .nil => rfl
  | _, _, .cons _ r => by simp [r.length]
theorem AllEq.at : ∀ {ds es : List D}, AllEq ds es → ∀ {j : Nat} {d e : D}, ds[j]? = some d → es[j]? = some e → dq d e = some true
  | _, _, .nil, j, _, _, h, _ => by simp at h
  | _, _, .cons h r, 0, _, _, h1, h2 => by simp at h1 h2; subst h1 h2; exact h
  | _, _, .cons h r, j + 1, _, _, h1, h2 => by simp at h1 h2; exact r.at h1 h2
theorem Cmp.neT (hA : Room n A) (h : AllEq ds es) : Cmp G A .NotEq (.tuple ds) (.tuple es) false := fun S s va vb I ha hb => by
  (refine cps fun ZP zk => ?_; obtain ⟨l, o, k, vs, rfl, h1, h2, h3, r⟩ := ha.tupleI; refine zk ?_)
  (refine cps fun ZP zk => ?_; obtain ⟨l', o', k', vs', rfl, h1', h2', h3', r'⟩ := hb.tupleI; refine zk ?_)
  obtain ⟨cls, dd, data, sl⟩ := o
  obtain ⟨cls', dd', data', sl'⟩ := o'
  simp only at h2 h3 h2' h3'
  subst h2 h3 h2' h3'
  have ho := I.sub _ _ h1
  have ho' := I.sub _ _ h1'
  have hu : A.in1.units + 12 < cLine := by have := hA.units; show A.units + 1 + 12 < 9900; lia
  refine wpAny_richCompare_same_room (op := .NotEq) ⟨_, ho, rfl⟩ ⟨_, ho', rfl⟩ F.slot_tuple_ne (wpAny_call_entry F.slot_tuple_ne ⟨_, ho, rfl⟩ F.entry_tuple_ne ?_ (F.args_tuple_ne_2 _ _)) hA.cl
  refine tup_ne_same (prog := G.prog) (w := G.w) (P := fun v s' => v ≠ Value.notImplemented ∧ Post G S s (fun _ v => v = Value.bool false) v s') (by simp [r.length, r'.length, h.length]) ho ho' (fun j j1 j2 => ?_) (show Value.bool false ≠ Value.notImplemented ∧ Post G S s (fun _ v => v = Value.bool false) (Value.bool false) s from ⟨(fun x => nomatch x), S, Stp.refl I, rfl⟩)
  obtain ⟨d, q1, q2⟩ := r.get' (k := j) (v := vs[j]'(by simpa using j1)) (by simp)
  obtain ⟨d', q1', q2'⟩ := r'.get' (k := j) (v := vs'[j]'(by simpa using j2)) (by simp)
  have := eqIn I hu q2 q2' (h.at q1 q1')
  unfold EqIn at this
  simpa using this
end
end Mine
end

section
namespace Mine
variable {sc : Scope} {mc : List Str}
open PySem PySem.Calls PyProof.Rows
section
variable {G : Gl} {A : Around} {act : Act sc mc} {kp : Kept} {adr : Str → Addr} {ρ : LEnv} {S S' S₁ : Fz} {s s' : Shared} {mg mb : Str → Option Value} {d d' : D} {ds : List D} {n : Nat} {pos : Pos}
noncomputable def Fz.drop (S : Fz) (p : Addr) : Fz := fun a => if a = p then none else S a
theorem Inv.unfreeze (I : Inv G S s) {p : Addr} (hb : G.base p = none) (hc : ∀ o, S p = some o → ∀ vs, o.data ≠ .fields vs) : Inv G (S.drop p) s where
  sub := fun a o e => by
    unfold Fz.drop at e
    split at e
    · exact nomatch e
    · exact I.sub a o e
  base := fun a o e => by
    unfold Fz.drop
    rw [if_neg (fun q => by rw [q, hb] at e; exact nomatch e)]
    exact I.base a o e
  tab := fun t ht => by
    obtain ⟨ps, hp, x⟩ := I.tab t ht
    refine ⟨ps, hp, x.imp id ?_⟩
    rintro ⟨c', o, e, q, g⟩
    refine ⟨c', o, e, ?_, g⟩
    unfold Fz.drop
    rw [if_neg (fun h => by obtain ⟨vs, e⟩ := t.isCode _ g; exact hc o (by rw [← h]; exact q) vs e)]
    exact q
  tabS := fun t ht => by
    unfold Fz.drop
    split
    · rfl
    · exact I.tabS t ht
  bare := I.bare
  os := I.os
theorem Alls.at_eq : ∀ {vs us : List Value} {ds : List D}, us.length = ds.length → Alls G S vs (List.zipWith D.at us ds) → vs = us
  | _, [], [], _, h => h.nilI
  | _, u :: us, d :: ds, hl, h => by obtain ⟨v, r, rfl, i, h⟩ := h.consI; rw [Alls.at_eq (Nat.succ.inj hl) h, i.atI.1]
  | _, [], _ :: _, hl, _ => by simp at hl
  | _, _ :: _, [], hl, _ => by simp at hl
theorem Alls.to_at : ∀ {vs : List Value} {ds : List D}, Alls G S vs ds → Alls G S vs (List.zipWith D.at vs ds)
  | _, _, .nil => .nil
  | _, _, .cons i r => .cons (.at i) r.to_at
theorem Alls.app_inv : ∀ {as bs : List D} {vs : List Value}, Alls G S vs (as ++ bs) → ∃ us ws, vs = us ++ ws ∧ Alls G S us as ∧ Alls G S ws bs
  | [], bs, vs, h => ⟨[], vs, rfl, .nil, h⟩
  | a :: as, bs, _, .cons i r => by
    (refine cps fun ZP zk => ?_; obtain ⟨us, ws, e, h1, h2⟩ := Alls.app_inv r; refine zk ?_)
    exact ⟨_ :: us, ws, by rw [e]; rfl, .cons i h1, h2⟩
theorem zipWith_ins {us : List Value} {ds : List D} (hl : us.length = ds.length) (k : Nat) (u : Value) (d : D) : insAt k (D.at u d) (List.zipWith D.at us ds) = List.zipWith D.at (insAt k u us) (insAt k d ds) := by
  unfold insAt
  rw [List.zipWith_append (by simp [hl]), List.zipWith_cons_cons, List.take_zipWith, List.drop_zipWith]
theorem insAt_length {α : Type} (k : Nat) (x : α) (l : List α) : (insAt k x l).length = l.length + 1 := by
  unfold insAt; simp; lia
theorem Alls.plug {k : Nat} {u : Value} {vs : List Value} (h : Alls G S vs (insAt k (.raw u) ds)) (i : Is G S u d) : Alls G S vs (insAt k d ds) := by
  unfold insAt at h ⊢
  obtain ⟨us, ws, rfl, h1, h2⟩ := Alls.app_inv h
  obtain ⟨v, r, rfl, j, h2⟩ := h2.consI
  rw [j.rawI]
  exact h1.append (.cons i h2)
set_option tactic.hygienic true in
theorem CallX.hole {f : Value} {pd : D} {more : List D} {k : Nat} (hd : ∀ us v, us.length = ds.length → CallX G A f (.list (List.zipWith D.at us ds)) (.at v pd :: more) (.list (insAt k (.at v pd) (List.zipWith D.at us ds))))
    (I : Inv G S s) {a p : Addr} {vs : List Value} (ha : ∃ o, s.heap.get? a = some o ∧ Own G S o (.list ds)) (hS : S a = none) (hp : ∃ o, s.heap.get? p = some o ∧ Own G S o pd) (hSp : S p = none) (hne : a ≠ p) (r : Alls G S vs more) :
    wpAny G.M A (call f (.ref a :: .ref p :: vs)) (fun _ s' => ∃ S', StpBut a G S s S' s' ∧ ∃ o', s'.heap.get? a = some o' ∧ Own G S' o' (.list (insAt k (.raw (.ref p)) ds))) No s := by
  obtain ⟨oa, hoa, wa⟩ := ha
  obtain ⟨op, hop, wp⟩ := hp
  (refine cps fun ZP zk => ?_; obtain ⟨m, us, rfl, ra⟩ := own_list wa; refine zk ?_)
  have I₁ := I.freeze hop wp.cls hSp
  have hs := Fz.sub_put (o := op) hSp
  refine wpAny_mono (hd us (.ref p) ra.length (S.put p op) s a (.ref p :: vs) I₁ ⟨_, hoa, .list (ra.mono hs).to_at⟩ (by rw [Fz.put_ne _ _ hne]; exact hS) (.cons (.at (wp.is hSp I.base)) (r.mono hs))) (fun _ s' ⟨S₂, st, o', ho', w'⟩ => ?_) fun _ _ e => e
  obtain ⟨m', ws, rfl, r'⟩ := own_list w'
  rw [zipWith_ins ra.length] at r'
  have e := r'.at_eq (by rw [insAt_length, insAt_length, ra.length])
  subst e
  have hbase : G.base p = none := by
    cases q : G.base p with
    | none => rfl
    | some o => rw [I.base _ _ q] at hSp; exact nomatch hSp
  have h2 : S₂ p = some op := st.sub _ _ (Fz.put_self ..)
  have hsub : Sub S (S₂.drop p) := fun b o e => by
    unfold Fz.drop
    rw [if_neg (fun q => by rw [q, hSp] at e; exact nomatch e)]
    exact st.sub _ _ (hs _ _ e)
  refine ⟨S₂.drop p, ⟨st.inv.unfreeze hbase (fun o e => ?_), hsub, fun b o e => ?_, st.keep, st.gens, ?_⟩, _, ho', .list ((ra.mono hsub).ins (.raw _) k)⟩
  · rw [h2] at e; obtain rfl := Option.some.inj e
    cases wp <;> exact fun vs => by simp
  · unfold Fz.drop at e
    split at e
    · exact nomatch e
    · rename_i q
      rcases st.new b o e with h | h
      · rw [Fz.put_ne _ _ q] at h; exact .inl h
      · exact .inr h
  · unfold Fz.drop
    rw [if_neg hne]
    exact st.off
noncomputable def EvXA (G : Gl) (A : Around) (act : Act sc mc) (e : Expr) (ρ ρ' : (Str → Addr) → LEnv) : Prop := ∀ kp adr S s, OK G act kp adr (ρ adr) S s →
  wpAny G.M A (eval e act.env) (fun v s' => ∃ S', Gro kp S S' ∧ OK G act kp adr (ρ' adr) S' s') No s
theorem EvXA.of {e : Expr} {ρ ρ' : (Str → Addr) → LEnv} (h : ∀ adr, EvX G A act e (ρ adr) (ρ' adr)) : EvXA G A act e ρ ρ' := fun kp adr S s O => h adr kp adr S s O
theorem EvXA.ite {t x y : Expr} {p : Bool} {ρ ρ' : (Str → Addr) → LEnv} (ht : ∀ adr, Te G A act (ρ adr) t p) (hx : p = true → EvXA G A act x ρ ρ') (hy : p = false → EvXA G A act y ρ ρ') : EvXA G A act (.IfExp t x y pos) ρ ρ' := fun kp adr S s O =>
  IfExp_ (wp_seq (ht adr kp adr S s O) fun S₁ b s₁ st e => by
    subst e
    cases b with
    | true => exact wpAny_mono (hx rfl kp adr S₁ s₁ (O.step st)) (fun _ _ ⟨S', g, o⟩ => ⟨S', (O.gro st).trans g, o⟩) fun _ _ e => e
    | false => exact wpAny_mono (hy rfl kp adr S₁ s₁ (O.step st)) (fun _ _ ⟨S', g, o⟩ => ⟨S', (O.gro st).trans g, o⟩) fun _ _ e => e)
theorem EvXA.lay {fx : Expr} {f : Value} {x y : Str} {np yp : Pos} {es : List Expr} {more : List D} {pd : D} {k : Nat} {ρ : (Str → Addr) → LEnv} (hf : ∀ adr, EvV G A act (ρ adr) fx f) (hc : Callee G f) (hx : ∀ adr, (ρ adr).lookup x = some (.own (.list ds))) (hy : ∀ adr, (ρ adr).lookup y = some (.own pd)) (hxy : x ≠ y) (h : ∀ adr, Evs G A act (ρ adr) es more)
    (hd : ∀ us v, us.length = ds.length → CallX G A f (.list (List.zipWith D.at us ds)) (.at v pd :: more) (.list (insAt k (.at v pd) (List.zipWith D.at us ds))))
    (hb : (x == ("__debug__" : Str)) = false := by decide) (hcd : (x == ("__classdict__" : Str)) = false := by decide)
    (hb' : (y == ("__debug__" : Str)) = false := by decide) (hcd' : (y == ("__classdict__" : Str)) = false := by decide)
    (he : eval (.Call fx (.Name x np :: .Name y yp :: es) [] pos) act.env = (eval fx act.env >>= fun f => callWith pos f [] (backTo pos (starEach (.Name x np :: .Name y yp :: es) act.env)) (backToKw pos (keywordEach [] act.env))) := by rfl)
    (hst : starEach (.Name x np :: .Name y yp :: es) act.env = (false, eval (.Name x np) act.env) :: (false, eval (.Name y yp) act.env) :: starEach es act.env := by rfl) :
    EvXA G A act (.Call fx (.Name x np :: .Name y yp :: es) [] pos) ρ (fun adr => (x, .own (.list (insAt k (.raw (.ref (adr y))) ds))) :: ρ adr) := fun kp adr S s O => by
  rw [he]
  refine wpAny_bind (wp_seq (hf adr kp adr S s O) fun S₁ v s₁ st e => ?_)
  subst e
  have O₁ := O.step st
  have pl := (h adr).plain (pos := pos)
  have key : ∀ {Q : List Value → Shared → Prop}, (∀ S₂ s₂ vs, Stp G S₁ s₁ S₂ s₂ → Alls G S₂ vs more → Q (.ref (adr x) :: .ref (adr y) :: vs) s₂) → wpAny G.M A (spliced ((false, eval (.Name x np) act.env) :: (false, eval (.Name y yp) act.env) :: backTo pos (starEach es act.env))) Q No s₁ := fun hQ =>
    Calls.spliced_cons (O₁.nameOwn (hx adr) (Calls.spliced_cons (O₁.nameOwn (hy adr) (wp_seq ((h adr).spliced (pos := pos) kp adr S₁ s₁ O₁) fun S₂ vs s₂ st₂ is => hQ S₂ s₂ vs st₂ is) hb' hcd')) hb hcd)
  have fin : ∀ S₂ s₂ vs, Stp G S₁ s₁ S₂ s₂ → Alls G S₂ vs more → wpAny G.M A (PySem.call v (.ref (adr x) :: .ref (adr y) :: vs)) (fun _ s' => ∃ S', Gro kp S S' ∧ OK G act kp adr ((x, .own (.list (insAt k (.raw (.ref (adr y))) ds))) :: ρ adr) S' s') No s₂ := fun S₂ s₂ vs st₂ is => by
    have O₂ := O₁.step st₂
    refine wpAny_mono (CallX.hole hd O₂.inv (O₂.ownAt (hx adr)) (O₂.vars x _ (hx adr)).2.2.1 (O₂.ownAt (hy adr)) (O₂.vars y _ (hy adr)).2.2.1 (fun e => hxy (O₂.inj x y _ _ (hx adr) (hy adr) e)) is) (fun _ s' ⟨S', sb, ho⟩ => ?_) fun _ _ e => e
    obtain ⟨O', g⟩ := O₂.stepBut (hx adr) sb ho
    exact ⟨S', (O.gro (st.trans st₂)).trans g, O'⟩
  rw [hst]
  have pl' : (backTo pos ((false, eval (.Name x np) act.env) :: (false, eval (.Name y yp) act.env) :: starEach es act.env)).any (·.1) = false := by
    show (false || (false || (backTo pos (starEach es act.env)).any (·.1))) = false
    rw [pl]; rfl
  cases hc with
  | builtin id => exact callWith_builtin pl' (evalArgs_plain (key fin))
  | type T => exact PyProof.Rows.callWith_type pl' (evalArgs_plain (key fin))
  | func hbs hdat => exact callWith_function (evalArgs_plain (key fun S₂ s₂ vs st₂ is => ⟨⟨st₂.inv.sub _ _ (st₂.inv.base _ _ hbs), hdat⟩, fin S₂ s₂ vs st₂ is⟩))
theorem OK.retell (O : OK G act kp adr ρ S s) {x : Str} (hx : ρ.lookup x = some (.own d)) (h : ∀ o, Own G S o d → Own G S o d') : OK G act kp adr ((x, .own d') :: ρ) S s :=
  { O with
    vars := fun y l e => by
      by_cases q : y = x
      · subst q
        simp only [List.lookup, BEq.rfl] at e
        obtain rfl := Option.some.inj e
        obtain ⟨r, ⟨o, ho, w⟩, z⟩ := O.vars y _ hx
        exact ⟨r, ⟨o, ho, h o w⟩, z⟩
      · rw [lookup_cons_ne q] at e
        exact O.vars y l e
    inj := fun y z dy dz ey ez => by
      have own : ∀ y dy, List.lookup y ((x, Loc.own d') :: ρ) = some (.own dy) → ∃ d, ρ.lookup y = some (.own d) := fun y dy ey => by
        by_cases q : y = x
        · subst q; exact ⟨_, hx⟩
        · rw [lookup_cons_ne q] at ey; exact ⟨_, ey⟩
      obtain ⟨_, h1⟩ := own _ _ ey
      obtain ⟨_, h2⟩ := own _ _ ez
      exact O.inj y z _ _ h1 h2 }
theorem OK.plug (O : OK G act kp adr ρ S s) {x y : Str} {k : Nat} (hxy : x ≠ y) (hx : ρ.lookup x = some (.own (.list (insAt k (.raw (.ref (adr y))) ds)))) (hy : ρ.lookup y = some (.own d)) :
    ∃ S', Gro kp S S' ∧ OK G act kp adr ((x, .own (.list (insAt k d ds))) :: (y, .val d) :: ρ) S' s := by
  obtain ⟨S', g, i, O'⟩ := O.freezeI hy
  refine ⟨S', g, O'.retell (by rw [lookup_cons_ne hxy]; exact hx) fun o w => ?_⟩
  obtain ⟨m, vs, rfl, r⟩ := own_list w
  exact .list (r.plug i)
inductive EvXAs (G : Gl) (A : Around) (act : Act sc mc) : List Stmt → ((Str → Addr) → LEnv) → ((Str → Addr) → LEnv) → Prop
  | nil {ρ : (Str → Addr) → LEnv} : EvXAs G A act [] ρ ρ
  | cons {e : Expr} {p : Pos} {sts : List Stmt} {ρ ρ₁ ρ₂ : (Str → Addr) → LEnv} : EvXA G A act e ρ ρ₁ → swapsWith e none p.line act.env = pure false → EvXAs G A act sts ρ₁ ρ₂ → EvXAs G A act (.Expr e p :: sts) ρ ρ₂
theorem EvXAs.run {sts rest : List Stmt} {ρ ρ' : (Str → Addr) → LEnv} {Q : FD → LEnv → Prop} (h : EvXAs G A act sts ρ ρ') : ∀ {kp adr S s}, OK G act kp adr (ρ adr) S s →
    (∀ S' s', Gro kp S S' → OK G act kp adr (ρ' adr) S' s' → wpAny G.M A (execs rest act.env) (RunPost G act kp S' Q) No s') → wpAny G.M A (execs (sts ++ rest) act.env) (RunPost G act kp S Q) No s := by
  induction h with
  | nil => exact fun O hk => hk _ _ (.refl ..) O
  | cons h hs _ ih =>
    intro kp adr S s O hk
    refine wpAny_execs_cons (wpAny_Expr_any (wpAny_mono (h kp adr S s O) (fun v s' ⟨S', g, O'⟩ => ?_) fun _ _ e => e) (interactive_fn O) hs)
    exact wpAny_mono (ih O' fun S'' s'' g' O'' => hk S'' s'' (g.trans g') O'') (fun _ _ h => h.pre g) fun _ _ e => e
end
end Mine
end

section
namespace Mine
variable {sc : Scope} {mc : List Str}
open PySem PySem.Calls PyProof.Rows
noncomputable def Flies (base : Heap) (outer : List Env) (cls : String) (x : Str) (s : Shared) (e : Value) (s' : Shared) : Prop :=
  ∃ ea t tok, e = .ref ea ∧ Heap.FlyingW base outer ea (.type cls) (.ref t) s'.heap ∧ s'.heap.TupAt t [.str x tok] ∧ base.get? t = none ∧ s.heap.UpToSlots s'.heap ∧ s'.gens = s.gens ∧ s'.os = s.os
noncomputable def CallE (G : Gl) (A : Around) (f : Value) (ds : List D) (cls : String) (x : Str) : Prop := ∀ S s vs outer base, Inv G S s → Alls G S vs ds → A.frames = some outer → base.StaysIn s.heap → s.heap.FunFrames base outer →
  wpAny G.M A (call f vs) (fun _ _ => False) (Flies base outer cls x s) s
section
variable {G : Gl} {A : Around} {act : Act sc mc} {kp : Kept} {adr : Str → Addr} {ρ : LEnv} {S S' S₁ : Fz} {s s' : Shared} {mg mb : Str → Option Value} {d d' : D} {ds : List D} {n : Nat} {pos : Pos}
variable {nm : Str} {params : Arguments} {body : List Stmt} {scope : Scope} {dflt kwd : Value} {fa : Addr} {cls : String} {w : Str}
theorem CallE.fn {xs : List Str} (F : FnAt G mg nm params body scope dflt kwd fa) (N : Names G mg mb) (hA : Room (n + 1) A) (hfit : scopeFit scope = true) (hb : bindFit scope xs = true) (extra : List (Str × Value × D)) (hl : xs.length = ds.length + extra.length)
    (hbind : ∀ vs fd S s, vs.length = ds.length → fd.params = params → fd.defaults = dflt → fd.kwdefaults = kwd → Inv G S s → BindsTo s fd ⟨vs, []⟩ (xs.zip (vs ++ extra.map (·.2.1))))
    (hex : ∀ S s, Inv G S s → Alls G S (extra.map (·.2.1)) (extra.map (·.2.2)))
    (run : ∀ act : Act scope (cellNames scope.names), act.env.frame = some act.env.locals → ∀ kp adr S s outer base, OK G act kp adr (zipEnv xs (ds ++ extra.map (·.2.2))) S s → (A.deeper act.env).frames = some (act.env :: outer) → base.StaysIn s.heap →
      s.heap.FunFrames base (act.env :: outer) → wpAny G.M (A.deeper act.env) (execs body act.env) (fun _ _ => False) (fun e s' => wpAny G.M (A.deeper act.env) (leaving act.env e) (fun _ s'' => Flies base outer cls w s e s'') (fun _ _ => False) s') s) : CallE G A (.ref fa) ds cls w := fun S s vs outer base I r hfr hst hff => by
  refine wpAny_call ?_
  (refine cps fun ZP zk => ?_; obtain ⟨o, fd, ho, hd, h1, h2, h3, h4, h5, h6, h7, h8, c, oc, cv, t, hc, hoc, hcd, hq⟩ := F.obj; refine zk ?_)
  have up : ∀ {a o}, G.base a = some o → s.heap.get? a = some o := fun e => I.sub _ _ (I.base _ _ e)
  simp only [scopeFit, Bool.and_eq_true, beq_iff_eq, Bool.not_eq_true', decide_eq_true_eq, List.all_eq_true, bne_iff_ne, ne_eq] at hfit
  (refine cps fun ZP zk => ?_; obtain ⟨⟨⟨⟨f1, f2⟩, f3⟩, f4⟩, f5⟩ := hfit; refine zk ?_)
  have r' := r.append (hex S s I)
  have hl' : xs.length = (ds ++ extra.map (·.2.2)).length := by simp [hl]
  refine codeAny_call_function hA.lt (up ho) hd (by rw [h3]; exact f2) (by rw [h3]; exact f3) h2 ⟨c, oc, cv, t, hc, up hoc, hcd, hq⟩ ?_
  refine enterEnv N h3 h4 h5 h6 f1 f4 f5 (zipArgs xs (vs ++ extra.map (·.2.1)) (ds ++ extra.map (·.2.2))) (by rw [zipArgs_keys r' hl']; exact hb) (by rw [zipArgs_bind r' hl']; exact hbind vs fd S s r.length h1 h7 h8 I) I [] (fun _ => 0)
    (fun a h => nomatch h) (fun b hbm => ?_) (fun x y dx dy hx _ _ => ?_) fun act s₀ O hk hg hm hmt hcl => ?_
  · obtain ⟨d, e, i⟩ := zipArgs_is r' hbm
    unfold EntArg
    rw [e]; exact i
  · obtain ⟨b, hbm, e⟩ := List.mem_map.mp (mem_of_lookup hx)
    obtain ⟨d, e', _⟩ := zipArgs_is r' hbm
    obtain ⟨_, _, l⟩ := b
    have e' : l = .val d := e'
    subst e'
    cases e
  · rw [zipArgs_env r'] at O
    have hL : base.get? act.env.locals = none := by
      have hn := hm _ (by rw [hmt]; exact .head _)
      cases q : base.get? act.env.locals with
      | none => rfl
      | some o => have := hst _ _ q; rw [hn] at this; exact nomatch this
    have hff' : s₀.heap.FunFrames base (act.env :: outer) := by
      obtain ⟨m, hm'⟩ := O.ns
      exact .cons (by rw [O.fn']; decide) hcl.2.1 hm' hL (hff.of_keeps fun b o hb _ => ⟨o, hk b o hb, rfl⟩)
    refine codeAny_func (wpAny_mono (run act hcl.2.1 _ _ S s₀ outer base O (Around.frames_deeper hfr) (fun b o e => hk _ _ (hst b o e)) hff') (fun _ _ h => h.elim) fun e s' h => ?_)
    refine wpAny_mono h (fun _ s'' ⟨ea, t, tok, e1, e2, e3, e4, e5, e6, e7⟩ => ?_) fun _ _ h => h.elim
    exact ⟨ea, t, tok, e1, e2, e3, e4, (Heap.UpToSlots.of_keeps hk).trans e5, by rw [e6, hg], by rw [e7, O.inv.os, I.os]⟩
theorem raise_neg {rest orelse : List Stmt} {ip tp np zp rp cp vp xp : Pos} {k k' : Nat} {lo : Int} {x : Str} {outer : List Env} {base : Heap} (hA : Room n A) (N : Names G mg mb) (hV : mg "ValueError" = none ∧ mb "ValueError" = some (.type "ValueError"))
    (O : OK G act kp adr ρ S s) (hx : ρ.lookup ("lo" : Str) = some (.val (.int lo))) (hneg : lo < 0) (hk : sc.names.lookup ("ValueError" : Str) = some .globalImplicit) (hf : act.env.frame = some act.env.locals) (hfr : A.frames = some (act.env :: outer)) (hst : base.StaysIn s.heap) (hff : s.heap.FunFrames base (act.env :: outer)) :
    wpAny G.M A (execs (.If (.Compare (.Name "lo" np) [.Lt] [.Constant (.int 0) k zp] tp) [.Raise (some (.Call (.Name "ValueError" vp) [.Constant (.str x) k' xp] [] cp)) Option.none rp] orelse ip :: rest) act.env) (fun _ _ => False)
      (fun e s' => wpAny G.M A (leaving act.env e) (fun _ s'' => Flies base outer "ValueError" x s e s'') (fun _ _ => False) s') s := by
  refine wpAny_execs_cons (wpAny_If (wpAny_isTrue_Compare1 (wpAny_mono (E := No) (O.name hx (Q := fun v s' => s' = s ∧ ∃ t, v = .int lo t) fun v i => ⟨rfl, i.int'⟩) (fun v s' hv => ?_) fun _ _ h => h.elim)))
  obtain ⟨rfl, t, rfl⟩ := hv
  refine wpAny_Constant_int (lt_int (wpAny_truthy_bool ?_))
  rw [decide_eq_true hneg, if_pos rfl]
  obtain ⟨o, ho, hn⟩ := N.g
  obtain ⟨o', ho', hn'⟩ := N.b
  refine wpAny_execs_cons (Raise_madeB PySem.F.excCall_ValueError PySem.F.excRaise_ValueError hA.handled ?_)
  refine Name_function_global O.fn' (by rw [act.kindOf]; exact hk) (loadGlobal_builtin (mg := mg) (mb := mb) (by rw [O.glob]; exact hn.ns (O.inv.sub _ _ (O.inv.base _ _ ho))) hV.1
    (by rw [O.blt]; exact hn'.ns (O.inv.sub _ _ (O.inv.base _ _ ho'))) hV.2 ⟨rfl, ?_⟩) (by decide)
  refine spliced_more (wpAny_Constant_str (spliced_none ⟨by show 1 ≤ sizeLine; decide, fun h' e hm => ?_⟩)) rfl
  have hx := Heap.MadeExc.of hm
  refine wpAny_leaves_madeW hfr hf hst hff hx fun h'' t' q1 q2 q3 q4 => ?_
  exact ⟨e, t', _, rfl, q1, q2, q3, (Heap.UpToSlots.of_keeps hx.keeps).trans q4, rfl, rfl⟩
end
end Mine
end

section
namespace Mine
variable {sc : Scope} {mc : List Str}
open PySem PySem.Calls PyProof.Rows
section
variable {G : Gl} {A : Around} {act : Act sc mc} {kp : Kept} {adr : Str → Addr} {ρ : LEnv} {S S' S₁ : Fz} {s s' : Shared} {mg mb : Str → Option Value} {d d' : D} {ds : List D} {n : Nat} {pos : Pos}
variable {cls : String} {w : Str} {Q : FD → LEnv → Prop}
theorem nameRaw (O : OK G act kp adr ρ S s) {x : Str} (hx : ρ.lookup x = some (.val d)) (hd : (x == ("__debug__" : Str)) = false := by decide) (hn : (x == ("__classdict__" : Str)) = false := by decide) :
    wpAny G.M A (eval (.Name x pos) act.env) (fun v s' => s' = s ∧ Is G S v d) No s := O.name hx (fun v i => ⟨rfl, i⟩) hd hn
theorem raise_through {rest orelse : List Stmt} {f : Value} {fx : Expr} {ip tp np zp cp ap tgp p1 p2 p3 p4 : Pos} {k : Nat} {da dx dlo dhi : D} {outer : List Env} {base : Heap} (hc : Callee G f) (hd : CallE G A f [da, dx, dlo, dhi] cls w)
    (hf0 : wpAny G.M A (eval fx act.env) (fun v s' => s' = s ∧ v = f) No s)
    (O : OK G act kp adr ρ S s) (hk : ρ.lookup ("key" : Str) = some (.val .none)) (ha : ρ.lookup ("a" : Str) = some (.val da)) (hx : ρ.lookup ("x" : Str) = some (.val dx)) (hlo : ρ.lookup ("lo" : Str) = some (.val dlo)) (hhi : ρ.lookup ("hi" : Str) = some (.val dhi))
    (hf : act.env.frame = some act.env.locals) (hfr : A.frames = some (act.env :: outer)) (hst : base.StaysIn s.heap) (hff : s.heap.FunFrames base (act.env :: outer))
    (he : eval (.Call fx [.Name "a" p1, .Name "x" p2, .Name "lo" p3, .Name "hi" p4] [] cp) act.env = (eval fx act.env >>= fun f => callWith cp f [] (backTo cp (starEach [.Name "a" p1, .Name "x" p2, .Name "lo" p3, .Name "hi" p4] act.env)) (backToKw cp (keywordEach [] act.env))) := by rfl)
    (hs : swapsWith (.Call fx [.Name "a" p1, .Name "x" p2, .Name "lo" p3, .Name "hi" p4] [] cp) (some (.Name "lo" tgp)) ap.line act.env = pure false := by rfl) :
    wpAny G.M A (execs (.If (.Compare (.Name "key" np) [.Is] [.Constant .none k zp] tp) [.Assign [.Name "lo" tgp] (.Call fx [.Name "a" p1, .Name "x" p2, .Name "lo" p3, .Name "hi" p4] [] cp) ap] orelse ip :: rest) act.env) (fun _ _ => False)
      (fun e s' => wpAny G.M A (leaving act.env e) (fun _ s'' => Flies base outer cls w s e s'') (fun _ _ => False) s') s := by
  refine wpAny_execs_cons (wpAny_If (wpAny_isTrue_Compare1 (wpAny_mono (nameRaw O hk) (fun v s' hv => ?_) fun _ _ h => h.elim)))
  obtain ⟨rfl, i⟩ := hv
  obtain rfl := i.noneI
  refine wpAny_Constant_none (is_none_gen (wpAny_truthy_bool ?_))
  rw [show ((Value.none == Value.none) = true) from rfl, if_pos rfl]
  refine wpAny_execs_cons (wpAny_Assign_Name ?_ hs)
  rw [he]
  refine wpAny_bind (wpAny_mono hf0 (fun v s₁ hv => ?_) fun _ _ h => h.elim)
  obtain ⟨rfl, rfl⟩ := hv
  have key : ∀ {Q : List Value → Shared → Prop} {E : Value → Shared → Prop}, (∀ vs, Alls G S vs [da, dx, dlo, dhi] → Q vs s₁) → wpAny G.M A (spliced (backTo cp (starEach [.Name "a" p1, .Name "x" p2, .Name "lo" p3, .Name "hi" p4] act.env))) Q E s₁ := fun hQ =>
    spliced_more (wpAny_mono (nameRaw O ha) (fun v1 s' ⟨e, i1⟩ => by
      subst e
      exact spliced_more (wpAny_mono (nameRaw O hx) (fun v2 s' ⟨e, i2⟩ => by
        subst e
        exact spliced_more (wpAny_mono (nameRaw O hlo) (fun v3 s' ⟨e, i3⟩ => by
          subst e
          exact spliced_more (wpAny_mono (nameRaw O hhi) (fun v4 s' ⟨e, i4⟩ => by
            subst e
            exact spliced_none (hQ _ (.cons i1 (.cons i2 (.cons i3 (.cons i4 .nil)))))) fun _ _ h => h.elim) rfl) fun _ _ h => h.elim) rfl) fun _ _ h => h.elim) rfl) fun _ _ h => h.elim) rfl
  have fin : ∀ {P : Value → Shared → Prop} vs, Alls G S vs [da, dx, dlo, dhi] → wpAny G.M A (PySem.call v vs) P (fun e s' => wpAny G.M A (leaving act.env e) (fun _ s'' => Flies base outer cls w s₁ e s'') (fun _ _ => False) s') s₁ := fun vs is =>
    wpAny_mono (hd S s₁ vs _ base O.inv is hfr hst hff) (fun _ _ h => h.elim) fun e s' ⟨ea, t, tok, e1, e2, e3, e4, e5, e6, e7⟩ => by
      subst e1
      refine wpAny_leaves_onW hfr hf e2 fun h' q1 q2 => ?_
      exact ⟨ea, t, tok, rfl, q1, e3.of_slots q2, e4, e5.trans q2, e6, e7⟩
  cases hc with
  | builtin id => exact callWith_builtin rfl (evalArgs_plain (key fin))
  | type T => exact PyProof.Rows.callWith_type rfl (evalArgs_plain (key fin))
  | func hbs hdat => exact callWith_function (evalArgs_plain (key fun vs is => ⟨⟨O.inv.sub _ _ (O.inv.base _ _ hbs), hdat⟩, fin vs is⟩))
theorem OK.slotsOn (O : OK G act kp adr ρ S s) {h' : Heap} {t : Nat} (hk : ∀ b o, b ≠ act.env.locals → s.heap.get? b = some o → h'.get? b = some o) (hu : s.heap.UpToSlots h') :
    OK G act kp adr ρ S { s with heap := h', toks := t } := by
  obtain ⟨hL1, hL2, hL3, oL, hoL⟩ := O.mt _ O.mtL
  obtain ⟨m, hm⟩ := O.ns
  have hm' : h'.Ns act.env.locals m := hu.ns hm
  have cellNe : ∀ p ∈ act.env.cells, p.2 ≠ act.env.locals := fun p hp q => by
    obtain ⟨_, v, o, ho, hd⟩ := O.cells p hp
    obtain ⟨o', es, ep, ho', hd', _⟩ := hm
    rw [q, ho'] at ho; obtain rfl := Option.some.inj ho
    rw [hd'] at hd; exact nomatch hd
  have rd : ∀ y v, Reads act.env s.heap y v → Reads act.env h' y v := fun y v r => by
    rcases r with ⟨k, m', hm', e⟩ | ⟨k, c, hx, o, ho, hd⟩
    · exact .inl ⟨k, m', hu.ns hm', e⟩
    · exact .inr ⟨k, c, hx, o, hk _ _ (cellNe _ (cell_in hx)) ho, hd⟩
  exact { O with
    inv := O.inv.but (wr := [act.env.locals]) (fun a ha => by rw [List.mem_singleton.mp ha]; exact ⟨hL1, hL3⟩) fun b o hb e => hk b o (fun q => hb (by rw [q]; exact .head _)) e
    kept := fun a o e => hk a o (fun q => by rw [q, hL2] at e; exact nomatch e) (O.kept a o e)
    kgens := O.kgens
    ns := ⟨m, hm'⟩
    mt := fun b hb => by
      obtain ⟨h1, h2, h3, o, ho⟩ := O.mt b hb
      refine ⟨h1, h2, h3, ?_⟩
      by_cases q : b = act.env.locals
      · subst q; obtain ⟨o', _, _, ho', _⟩ := hm'; exact ⟨o', ho'⟩
      · exact ⟨o, hk b o q ho⟩
    cells := fun p hp => by
      obtain ⟨nt, v, o, ho, hd⟩ := O.cells p hp
      exact ⟨nt, v, o, hk _ _ (cellNe p hp) ho, hd⟩
    vars := fun y l e => by
      have z := O.vars y l e
      cases l with
      | val dy => obtain ⟨v, r, i⟩ := z; exact ⟨v, rd _ _ r, i⟩
      | own dy =>
        obtain ⟨r, ⟨o, ho, w⟩, h1, h2, h3⟩ := z
        exact ⟨rd _ _ r, ⟨o, hk _ _ (fun q => h3 (by rw [q]; exact O.mtL)) ho, w⟩, h1, h2, h3⟩ }
noncomputable def EvE (G : Gl) (A : Around) (act : Act sc mc) (ρ : LEnv) (e : Expr) (cls : String) (w : Str) : Prop := ∀ kp adr S s, OK G act kp adr ρ S s →
  wpAny G.M A (eval e act.env) (fun _ _ => False) (fun x s' => ∃ S₁ s₁ base, Stp G S s S₁ s₁ ∧ base.StaysIn s₁.heap ∧ (∀ b o, b ≠ act.env.locals → s₁.heap.get? b = some o → base.get? b = some o) ∧ Flies base [act.env] cls w s₁ x s') s
theorem EvE.ite {t x y : Expr} {p : Bool} (ht : Te G A act ρ t p) (hx : p = true → EvE G A act ρ x cls w) (hy : p = false → EvE G A act ρ y cls w) : EvE G A act ρ (.IfExp t x y pos) cls w := fun kp adr S s O =>
  IfExp_ (wpAny_mono (ht kp adr S s O) (fun b s₁ ⟨S₁, st, e⟩ => by
    subst e
    cases b with
    | true => exact wpAny_mono (hx rfl kp adr S₁ s₁ (O.step st)) (fun _ _ h => h) fun _ _ ⟨S₂, s₂, base, st', q⟩ => ⟨S₂, s₂, base, st.trans st', q⟩
    | false => exact wpAny_mono (hy rfl kp adr S₁ s₁ (O.step st)) (fun _ _ h => h) fun _ _ ⟨S₂, s₂, base, st', q⟩ => ⟨S₂, s₂, base, st.trans st', q⟩) fun _ _ h => h.elim)
theorem EvE.call {fx : Expr} {f : Value} {e : Expr} {es : List Expr} (hfr : A.frames = some [act.env]) (hf0 : act.env.frame = some act.env.locals) (hf : EvV G A act ρ fx f) (hc : Callee G f) (h : Evs G A act ρ (e :: es) ds) (hd : CallE G A f ds cls w)
    (he : eval (.Call fx (e :: es) [] pos) act.env = (eval fx act.env >>= fun f => callWith pos f [] (backTo pos (starEach (e :: es) act.env)) (backToKw pos (keywordEach [] act.env))) := by rfl) : EvE G A act ρ (.Call fx (e :: es) [] pos) cls w := fun kp adr S s O => by
  rw [he]
  refine wpAny_bind (wpAny_mono (hf kp adr S s O) (fun v s₁ ⟨S₁, st, e⟩ => ?_) fun _ _ h => h.elim)
  subst e
  have O₁ := O.step st
  have sp := h.spliced (pos := pos) kp adr S₁ s₁ O₁
  have pl := h.plain (pos := pos)
  have fin : ∀ {P : Value → Shared → Prop} S₂ s₂ vs, Stp G S₁ s₁ S₂ s₂ → Alls G S₂ vs ds → wpAny G.M A (PySem.call v vs) P (fun x s' => ∃ S₁ s₁ base, Stp G S s S₁ s₁ ∧ base.StaysIn s₁.heap ∧ (∀ b o, b ≠ act.env.locals → s₁.heap.get? b = some o → base.get? b = some o) ∧ Flies base [act.env] cls w s₁ x s') s₂ := fun S₂ s₂ vs st₂ is => by
    have O₂ := O₁.step st₂
    obtain ⟨m, hm⟩ := O₂.ns
    have hst : (PySem.W.hideAll s₂.heap [act.env.locals]).StaysIn s₂.heap := fun b o e => PySem.W.of_hideAll _ e
    have hb : ∀ b o, b ≠ act.env.locals → s₂.heap.get? b = some o → (PySem.W.hideAll s₂.heap [act.env.locals]).get? b = some o := fun b o hb e => PySem.W.hideAll_get _ e (by simpa using hb)
    refine wpAny_mono (hd S₂ s₂ vs [act.env] (PySem.W.hideAll s₂.heap [act.env.locals]) O₂.inv is hfr hst ?_) (fun _ _ h => h.elim) fun e s' h => ⟨S₂, s₂, _, st.trans st₂, hst, hb, h⟩
    exact .cons (by rw [O.fn']; decide) hf0 hm (PySem.W.hideAll_none _ (.head _)) trivial
  cases h with
  | cons h1 h2 he =>
    rw [he] at sp pl ⊢
    cases hc with
    | builtin id => exact callWith_builtin pl (evalArgs_plain (wpAny_mono sp (fun vs s₂ ⟨S₂, st₂, is⟩ => fin S₂ s₂ vs st₂ is) fun _ _ h => h.elim))
    | type T => exact PyProof.Rows.callWith_type pl (evalArgs_plain (wpAny_mono sp (fun vs s₂ ⟨S₂, st₂, is⟩ => fin S₂ s₂ vs st₂ is) fun _ _ h => h.elim))
    | func hbs hdat => exact callWith_function (evalArgs_plain (wpAny_mono sp (fun vs s₂ ⟨S₂, st₂, is⟩ => ⟨⟨st₂.inv.sub _ _ (st₂.inv.base _ _ hbs), hdat⟩, fin S₂ s₂ vs st₂ is⟩) fun _ _ h => h.elim))
end
end Mine
end

section
namespace Mine
variable {sc : Scope} {mc : List Str}
open PySem PySem.Calls PyProof.Rows
section
variable {G : Gl} {A : Around} {act : Act sc mc} {kp : Kept} {adr : Str → Addr} {ρ : LEnv} {S S' S₁ : Fz} {s s' : Shared} {mg mb : Str → Option Value} {d d' : D} {ds : List D} {n : Nat} {pos : Pos}
variable {cls : String} {w : Str} {Q : FD → LEnv → Prop}
theorem OK.turnLocal (O : OK G act kp adr ρ S s) {x : Str} (hρ : ρ.lookup x = none) {h' : Heap} {t : Nat} {m : Str → Option Value} {v : Option Value} (hm : s.heap.Ns act.env.locals m) (hm' : h'.Ns act.env.locals (fun y => if y = x then v else m y)) (hs : Heap.SameBut act.env.locals s.heap h') :
    OK G act kp adr ρ S { s with heap := h', toks := t } := by
  obtain ⟨hL1, hL2, hL3, oL, hoL⟩ := O.mt _ O.mtL
  have hk : ∀ b o, b ≠ act.env.locals → s.heap.get? b = some o → h'.get? b = some o := fun b o hb e => hs.extBut b o hb e
  have cellNe : ∀ p ∈ act.env.cells, p.2 ≠ act.env.locals := fun p hp q => by
    obtain ⟨_, v, o, ho, hd⟩ := O.cells p hp
    obtain ⟨o', es, ep, ho', hd', _⟩ := hm
    rw [q, ho'] at ho; obtain rfl := Option.some.inj ho
    rw [hd'] at hd; exact nomatch hd
  have rd : ∀ y v, y ≠ x → Reads act.env s.heap y v → Reads act.env h' y v := fun y v hy r => by
    rcases r with ⟨k, m', hm₂, e⟩ | ⟨k, c, hx, o, ho, hd⟩
    · refine .inl ⟨k, _, hm', ?_⟩
      have : m y = m' y := by
        obtain ⟨o, es, ep, ho, hd, _, h1⟩ := hm
        obtain ⟨o', es', ep', ho', hd', _, h1'⟩ := hm₂
        rw [ho] at ho'; obtain rfl := Option.some.inj ho'
        rw [hd] at hd'; obtain ⟨rfl, rfl⟩ := PySem.Data.dict.inj hd'
        rw [← h1, ← h1']
      simp [hy, this, e]
    · exact .inr ⟨k, c, hx, o, hk _ _ (cellNe _ (cell_in hx)) ho, hd⟩
  exact { O with
    inv := O.inv.but (wr := [act.env.locals]) (fun a ha => by rw [List.mem_singleton.mp ha]; exact ⟨hL1, hL3⟩) fun b o hb e => hk b o (fun q => hb (by rw [q]; exact .head _)) e
    kept := fun a o e => hk a o (fun q => by rw [q, hL2] at e; exact nomatch e) (O.kept a o e)
    kgens := O.kgens
    ns := ⟨_, hm'⟩
    mt := fun b hb => by
      obtain ⟨h1, h2, h3, o, ho⟩ := O.mt b hb
      refine ⟨h1, h2, h3, ?_⟩
      by_cases q : b = act.env.locals
      · subst q; obtain ⟨o', _, _, ho', _⟩ := hm'; exact ⟨o', ho'⟩
      · exact ⟨o, hk b o q ho⟩
    cells := fun p hp => by
      obtain ⟨nt, v, o, ho, hd⟩ := O.cells p hp
      exact ⟨nt, v, o, hk _ _ (cellNe p hp) ho, hd⟩
    vars := fun y l e => by
      have hy : y ≠ x := fun q => by rw [q, hρ] at e; exact nomatch e
      have z := O.vars y l e
      cases l with
      | val dy => obtain ⟨v, r, i⟩ := z; exact ⟨v, rd _ _ hy r, i⟩
      | own dy =>
        obtain ⟨r, ⟨o, ho, w⟩, h1, h2, h3⟩ := z
        exact ⟨rd _ _ hy r, ⟨o, hk _ _ (fun q => h3 (by rw [q]; exact O.mtL)) ho, w⟩, h1, h2, h3⟩ }
theorem isExc_VE : isSubtype (.type "ValueError") (.type "BaseException") = pure true := by rw [isSubtype_type]; kernel_rfl
theorem selfSub_VE : isSubtype (.type "ValueError") (.type "ValueError") = pure true := by rw [isSubtype_type]; kernel_rfl
theorem Run.tryE {e : Expr} {x y : Str} {ep np wp cp sp fp ap hp : Pos} {rest : List Stmt} (hA : Room n A) (N : Names G mg mb) (hV : mg ("ValueError" : Str) = none ∧ mb ("ValueError" : Str) = some (.type "ValueError")) (hS : mg ("str" : Str) = none ∧ mb ("str" : Str) = some (.type "str"))
    (hE : EvE G A act ρ e "ValueError" w) (hfr : A.frames = some [act.env]) (hf : act.env.frame = some act.env.locals) (hkV : sc.names.lookup ("ValueError" : Str) = some .globalImplicit) (hkS : sc.names.lookup ("str" : Str) = some .globalImplicit)
    (hx : sc.names.lookup x = some .local) (hy : Stores sc mc y) (hxy : x ≠ y) (hρ : ρ.lookup x = none) (h : Q .next ((y, .val (.str w)) :: ρ)) (hd : (x == ("__debug__" : Str)) = false := by decide)
    (hs : swapsWith e none ep.line act.env = pure false := by rfl)
    (he : eval (.Call (.Name "str" sp) [.Name x fp] [] cp) act.env = (eval (.Name "str" sp) act.env >>= fun f => callWith cp f [] (backTo cp (starEach [.Name x fp] act.env)) (backToKw cp (keywordEach [] act.env))) := by rfl)
    (hs2 : swapsWith (.Call (.Name "str" sp) [.Name x fp] [] cp) (some (.Name y wp)) ap.line act.env = pure false := by rfl) :
    Run G A act (exec (.Try (.Expr e ep :: rest) [.ExceptHandler (some (.Name "ValueError" np)) (some x) [.Assign [.Name y wp] (.Call (.Name "str" sp) [.Name x fp] [] cp) ap] hp] [] [] pos) act.env) ρ Q := fun kp adr S s O => by
  refine wpAny_Try_except (wpAny_execs_cons (wpAny_Expr_any (wpAny_mono (hE kp adr S s O) (fun _ _ h => h.elim) fun ex s' hq => ?_) (interactive_fn O) hs))
  (refine cps fun ZP zk => ?_; obtain ⟨S₁, s₁, base, st, hb1, hb2, ea, t, tok, rfl, hfl, htup, hnt, hup, hg, ho⟩ := hq; refine zk ?_)
  have O₁ := O.step st
  have hkeep : ∀ b o, b ≠ act.env.locals → s₁.heap.get? b = some o → s'.heap.get? b = some o := fun b o hb e => hfl.1 b o (hb2 b o hb e)
  refine wpAny_looks_onW hfr hf hfl fun h₄ hheld₄ hsm₄ => ?_
  refine wpAny_landsW hheld₄ fun h₅ hheld hsm₅' => ?_
  have hsm₅ := hsm₄.trans hsm₅'
  obtain ⟨ob, hob, hobc⟩ := hheld.there
  -- the state, told by what it was
  have state : ∀ {h'' : Heap}, base.StaysIn h'' → s₁.heap.UpToSlots h'' → OK G act kp adr ρ S₁ { s' with heap := h'' } := fun {h''} hst hu => by
    have := O₁.slotsOn (t := s'.toks) (fun b o hb e => hst b o (hb2 b o hb e)) hu
    have e1 : ({ s₁ with heap := h'', toks := s'.toks } : Shared) = { s' with heap := h'', drawn := s₁.drawn } := by
      obtain ⟨_, _, _, _, _⟩ := s'; obtain ⟨_, _, _, _, _⟩ := s₁; simp only at hg ho; subst hg ho; rfl
    have d : ∀ {s : Shared} {z}, OK G act kp adr ρ S₁ { s with drawn := z } → OK G act kp adr ρ S₁ s := fun {s z} h => { h with inv := ⟨h.inv.sub, h.inv.base, h.inv.tab, h.inv.tabS, h.inv.bare, h.inv.os⟩ }
    rw [e1] at this
    exact d this
  have O₅ := state hheld.1 (hup.trans hsm₅)
  obtain ⟨og, hog, hng⟩ := N.g
  obtain ⟨obu, hobu, hnb⟩ := N.b
  refine wpAny_handleBy_builtin_as (X := "ValueError") (T := "ValueError") (b := true) isExc_VE PySem.F.notTuple_ValueError selfSub_VE
    (Name_function_global O₅.fn' (by rw [act.kindOf]; exact hkV) (loadGlobal_builtin (mg := mg) (mb := mb) (by rw [O₅.glob]; exact hng.ns (O₅.inv.sub _ _ (O₅.inv.base _ _ hog))) hV.1
      (by rw [O₅.blt]; exact hnb.ns (O₅.inv.sub _ _ (O₅.inv.base _ _ hobu))) hV.2 ⟨rfl, ⟨ob, hob, hobc⟩, ?_⟩) (by decide))
  show wpAny G.M (A.mark (some (.ref ea))) (setFlight (.ref ea) none) _ _ _
  refine lands_againW hheld fun h₆ hfl₆ hsm₆ => ?_
  have hup₆ := (hup.trans hsm₅).trans hsm₆
  have O₆ := state hfl₆.1 hup₆
  have htup₆ := (htup.of_slots hsm₅).of_slots hsm₆
  (refine cps fun ZP zk => ?_; obtain ⟨oe, ws, hoe, hoec, hoed, hoe0⟩ := hfl₆.first; refine zk ?_)
  (refine cps fun ZP zk => ?_; obtain ⟨ot, nt', hot, hotc, hotd⟩ := htup₆; refine zk ?_)
  have off : ∀ {a : Addr} {o : Obj}, base.get? a = none → h₆.get? a = some o → (∀ es ep, o.data ≠ .dict es ep) → a ∉ act.mt := fun {a o} hb ha hnd hm => by
    by_cases q : a = act.env.locals
    · obtain ⟨m, hm'⟩ := O₆.ns
      obtain ⟨o', es, ep, ho', hd', _⟩ := hm'
      rw [← q] at ho'
      have ho' : h₆.get? a = some o' := ho'
      rw [ha] at ho'; obtain rfl := Option.some.inj ho'
      exact hnd _ _ hd'
    · obtain ⟨_, _, _, o', ho'⟩ := O₁.mt a hm
      rw [hb2 a o' q ho'] at hb; exact nomatch hb
  have offE := off hfl₆.2.1 hoe (fun es ep q => by rw [hoed] at q; exact nomatch q)
  have offT := off hnt hot (fun es ep q => by rw [hotd] at q; exact nomatch q)
  refine O₆.store (.inl hx) fun h₇ t₇ st₇ => ?_
  have O₇ : OK G act kp adr ρ S₁ { s' with heap := h₇, toks := t₇ } := O₆.after (adr' := adr) st₇ (fun y l _ e => e) (fun _ _ => rfl) (fun l e => by rw [hρ] at e; exact nomatch e) (fun y dx dy _ e _ => by rw [hρ] at e; exact nomatch e)
  have hE₇ := st₇.keep _ _ offE hoe
  have hT₇ := st₇.keep _ _ offT hot
  refine wpAny_execs_cons (wpAny_Assign_Name ?_ hs2)
  rw [he]
  refine wpAny_bind (Name_function_global O₇.fn' (by rw [act.kindOf]; exact hkS) (loadGlobal_builtin (mg := mg) (mb := mb) (by rw [O₇.glob]; exact hng.ns (O₇.inv.sub _ _ (O₇.inv.base _ _ hog))) hS.1
      (by rw [O₇.blt]; exact hnb.ns (O₇.inv.sub _ _ (O₇.inv.base _ _ hobu))) hS.2 ?_) (by decide))
  refine PyProof.Rows.callWith_type rfl (evalArgs_plain (Calls.spliced_cons ?_))
  have kx : act.env.kindOf x = some .local := by rw [act.kindOf]; exact hx
  rcases st₇.reads with ⟨_, m, hm, em⟩ | ⟨k | k, _⟩
  rotate_left
  · rw [kx] at k; cases k
  · rw [kx] at k; cases k
  refine wpAny_Name (wpAny_loadName_local O₇.fn' kx hm em (Calls.spliced_nil ?_)) hd
  refine PySem.P.str_of_exc_one PySem.F.excStr_ValueError (by have := hA.units; show A.units + 2 < 9900; lia) (e := ea) (t0 := t) (m := w) (tk := tok) ⟨oe, ws, hE₇, hoec, hoed, hoe0⟩ ⟨ot, nt', hT₇, hotc, hotd⟩ ?_
  refine O₇.storeVal hy (.str w tok) fun h₈ t₈ O₈ => wpAny_execs_nil ?_
  have hρ' : List.lookup x ((y, Loc.val (.str w)) :: ρ) = none := by rw [lookup_cons_ne hxy]; exact hρ
  obtain ⟨m₈, hm₈⟩ := O₈.ns
  refine wpAny_nameGoes_keeps kx hm₈ (by rw [O₈.fn']; rfl) fun h₉ v₉ hn₉ hs₉ => ?_
  have O₉ := O₈.turnLocal (t := t₈ + 1) hρ' hm₈ hn₉ hs₉
  exact ⟨S₁, adr, _, .next, O.gro st, O₉, trivial, h⟩
end
end Mine
end

section
namespace Mine
variable {sc : Scope} {mc : List Str}
open PySem PySem.Calls PyProof.Rows
section
variable {G : Gl} {A : Around} {act : Act sc mc} {kp : Kept} {adr : Str → Addr} {ρ : LEnv} {S S' S₁ : Fz} {s s' : Shared} {mg mb : Str → Option Value} {d d' : D} {ds : List D} {n : Nat} {pos : Pos}
theorem alls_of_get : ∀ {vs : List Value} {ds : List D}, vs.length = ds.length → (∀ (j : Nat) (v : Value), vs[j]? = some v → ∃ d, ds[j]? = some d ∧ Is G S v d) → Alls G S vs ds
  | [], [], _, _ => .nil
  | v :: vs, d :: ds, hl, h => by
    obtain ⟨d', e, i⟩ := h 0 v rfl
    simp only [List.getElem?_cons_zero, Option.some.injEq] at e
    subst e
    exact .cons i (alls_of_get (by simpa using hl) fun j u hu => by simpa using h (j + 1) u (by simpa using hu))
  | [], _ :: _, hl, _ => by simp at hl
  | _ :: _, [], hl, _ => by simp at hl
theorem CallO.listS (hA : Room n A) {x : Str} (h : x.length ≤ sizeLine) : CallO G A (.type "list") [.str x] (.list (chars x)) := fun S s vs I r => by
  obtain ⟨v, rfl, i⟩ := alls1 r
  obtain ⟨t, rfl⟩ := i.str'
  refine call_list_str hA.handled x t (fun h' tk acc' c' hk hS' hacc => ?_) h
  refine ⟨S, _, _, I.keeps hk, rfl, hS', ?_, I.sizeS, Inv.fresh⟩
  have e : acc' = acc'.toList.toArray := by simp
  rw [e]
  refine .list (alls_of_get (by rw [Array.length_toList, hacc.1, chars_len]) fun j v hv => ?_)
  obtain ⟨c, u, hc, rfl⟩ := hacc.2 j v (by simpa using hv)
  exact ⟨_, chars_get hc, .str ..⟩
theorem dict_at {ks : List Ky} {v : Value} (I : Inv G S s) (h : Is G S v (.dict ks ds)) : ∃ a kvs ep, v = .ref a ∧ s.heap.DictAt G.knd a kvs ep ∧ ks = kvs.map (·.1) ∧ Alls G S (kvs.map (·.2)) ds ∧ (a == sysModules) = false := by
  (refine cps fun ZP zk => ?_; obtain ⟨a, kvs, e, hm, h1, h2, h3⟩ := dict_of I h; refine zk ?_)
  obtain ⟨ep, hat⟩ := hm.dictAt
  exact ⟨a, kvs, ep, e, hat, h1, h2, h3⟩
theorem CallO.listD (hA : Room n A) {ks : List Ky} (h : ks.length ≤ sizeLine) : CallO G A (.type "list") [.dict ks ds] (.list (ks.map Ky.d)) := fun S s vs I r => by
  obtain ⟨v, rfl, i⟩ := alls1 r
  (refine cps fun ZP zk => ?_; obtain ⟨a, kvs, ep, rfl, hat, e1, r', lo⟩ := dict_at I i; refine zk ?_)
  have hl : ks.length = kvs.length := by rw [e1]; simp
  refine PySem.W.kdl_call (PySem.W.kdl_dict (knd := G.knd) (kvs := kvs) (ep := ep) lo) hA.handled hat (by rw [← hl]; exact h) fun h' tk acc' c' hk hS' hacc => ?_
  refine ⟨S, _, _, I.keeps hk, rfl, hS', ?_, I.sizeS, Inv.fresh⟩
  have e : acc' = acc'.toList.toArray := by simp
  rw [e]
  refine .list (alls_of_get (by rw [Array.length_toList, hacc.1, List.length_map, hl]) fun j v hv => ?_)
  obtain ⟨k, x, hx, hk⟩ := hacc.2 j v (by simpa using hv)
  exact ⟨k.d, by rw [e1, List.map_map, List.getElem?_map, hx]; rfl, Ky.isD hk⟩
theorem sort_strs (I : Inv G S s) {vs : List Value} {ss es : List Str} (hS : StrsAre vs ss) (h64 : vs.length < 64) (hres : ∀ ss' : List Str, ss'.Perm ss → sortedS ss' = true → ss' = es) {a : Addr} (hn : s.heap.get? a = some (seqObj "list" vs.toArray 0)) {P : Shared → Prop} {E : Value → Shared → Prop}
    (hQ : ∀ h' o, (∀ b o, b ≠ a → s.heap.get? b = some o → h'.get? b = some o) → h'.get? a = some o → Own G S o (.list (es.map .str)) → P { s with heap := h' }) :
    wpAny G.M A (call (.builtin "list.sort") [.ref a]) (fun _ s' => P s') E s := by
  refine wpAny_call_entry slot_list_sort ⟨_, hn, rfl⟩ entry_list_sort (list_sort_treeK strKind_oneLt hn hS.keysOf (fun v₁ v₂ rest e => keyKind_strs (by rw [← e]; exact hS)) h64 fun st' a1 a2 => ⟨_, rfl, ?_⟩) (args_list_sort _)
  obtain ⟨ss', h1, h2, h3⟩ := sorted_out_str hS a1 a2
  have e := hres ss' h2 h3
  subst e
  obtain ⟨ep, he⟩ := sortedHeap_at (vs := vs) (out := (arrOf st').map (·.2)) hn
  refine hQ _ _ (fun b o hb e => ?_) he ?_
  · rw [sortedHeap_old hb (Heap.lt_size e)]; exact e
  · have e : (arrOf st').map (·.2) = ((arrOf st').map (·.2)).toList.toArray := (Array.toArray_toList ..).symm
    unfold seqObj
    rw [e]
    refine .list ?_
    clear hQ he e hres
    generalize ((arrOf st').map (·.2)).toList = l at h1
    clear a1 a2 h2 h3 hS
    induction h1 with
    | nil => exact .nil
    | cons x t _ ih => exact .cons (.str ..) ih
theorem CallO.sortedD (hA : Room (n + 1) A) {ss es : List Str} (h64 : ss.length < 64) (hres : ∀ ss' : List Str, ss'.Perm ss → sortedS ss' = true → ss' = es) : CallO G A (.builtin "sorted") [.dict (ss.map .s) ds] (.list (es.map .str)) := fun S s vs I r => by
  obtain ⟨v, rfl, i⟩ := alls1 r
  (refine cps fun ZP zk => ?_; obtain ⟨a, kvs, ep, rfl, hat, e1, r', lo⟩ := dict_at I i; refine zk ?_)
  have hl : ss.length = kvs.length := by have := congrArg List.length e1; simpa using this
  refine call_function_entry kind_sorted plain_sorted entry_sorted (args_sorted1 _) ?_
  unfold Builtin.«sorted»
  refine wpAny_bind (m := checkCount "sorted" 1 1 _) (wpAny_pure ?_)
  refine wpAny_bind (PySem.W.kdu_collect (A := A.in1) (PySem.W.kdl_dict (knd := G.knd) (kvs := kvs) (ep := ep) lo) hA.in1.handled hat (by rw [sizeLine_eq]; lia) fun h' tk acc hk hacc => ?_)
  have hal : acc.toList.length = kvs.length := by rw [Array.length_toList]; exact hacc.1
  refine wpAny_bind (wpAny_newList ?_ (by rw [hal, sizeLine_eq]; lia))
  have st : Stp G S s S { s with heap := h', toks := tk } := I.keeps hk
  have st2 := st.inv.keeps (h' := h'.push (seqObj "list" acc.toList.toArray 0)) (t := tk) fun b o e => Heap.get?_push_of_some _ e
  have hS : StrsAre acc.toList ss := by
    have : Alls G S acc.toList (ss.map .str) := alls_of_get (by rw [hal, List.length_map, hl]) fun j v hv => by
      obtain ⟨k, x, hx, hk⟩ := hacc.2 j v (by simpa using hv)
      have ek : (ss.map Ky.s)[j]? = some k := by rw [e1, List.getElem?_map, hx]; rfl
      rw [List.getElem?_map] at ek
      cases q : ss[j]? with
      | none => rw [q] at ek; cases ek
      | some y =>
        rw [q] at ek
        cases ek
        exact ⟨.str y, by rw [List.getElem?_map, q]; rfl, Ky.isD hk⟩
    exact this.strsAre
  refine wpAny_bind (wpAny_holding (sort_strs (A := A.in1) (P := fun s' => wpAny G.M A.in1 (ret (.ref h'.objs.size)) (fun fin s' => ∃ v, fin = PySem.Fin.done (Flow.ret v) ∧ PostO G S s (D.list (List.map D.str es)) v s') No s') (s := { s with heap := h'.push (seqObj "list" acc.toList.toArray 0), toks := tk }) st2.inv hS (by rw [hal]; lia) hres (a := h'.objs.size) (Heap.get?_push_size _ rfl) fun h'' o hk'' ho w => wpAny_pure ⟨_, rfl, ?_⟩))
  have hf : h'.get? h'.objs.size = none := Inv.fresh (s := { s with heap := h', toks := tk })
  have hk3 : ∀ b o, s.heap.get? b = some o → h''.get? b = some o := fun b o e => hk'' b o (fun q => by have := hk _ _ e; rw [q, hf] at this; exact nomatch this) (Heap.get?_push_of_some _ (hk b o e))
  refine ⟨S, _, _, I.keeps (t := tk) hk3, rfl, ho, w, ?_, ?_⟩
  · cases q : S h'.objs.size with
    | none => rfl
    | some o' => have := hk _ _ (I.sub _ _ q); rw [hf] at this; exact nomatch this
  · cases q : s.heap.get? h'.objs.size with
    | none => rfl
    | some o' => have := hk _ _ q; rw [hf] at this; exact nomatch this
end
end Mine
end

section
namespace Mine
variable {sc : Scope} {mc : List Str}
open PySem PySem.Calls PyProof.Rows
structure CodeTab (G : Gl) (mg : Str → Option Value) (cd : Value) (qual : Str) (T : Tab) (pos : Pos) : Prop where
  code : ∃ c, cd = .ref c ∧ ∀ h : Heap, (∀ a o, G.base a = some o → h.get? a = some o) → PySem.W.CodeHd h c T.P
  trip : TriplesOk T.ps₀.toList
  line : T.line = (pos.line : Int)
  col : T.col = (pos.col : Int)
  miss : codeAmong pos T.ps₀.toList = none
  blt : ∀ h : Heap, (∀ a o, G.base a = some o → h.get? a = some o) → h.BuiltinsAt mg T.P
  ne : mainGlobals ≠ T.P
  tabs : G.tabs = [T]
  good : T.good = fun o => ∃ vs t, o.data = .fields vs ∧ vs[1]? = some (.str qual t)
section
variable {G : Gl} {A : Around} {act : Act sc mc} {kp : Kept} {adr : Str → Addr} {ρ : LEnv} {S S' S₁ : Fz} {s s' : Shared} {mg mb : Str → Option Value} {d d' : D} {ds : List D} {n : Nat} {pos : Pos}
theorem codeAmong_hit {pos : Pos} {ps : Array Value} {c : Value} {l k : Int} (h : TriplesOk ps.toList) (hn : codeAmong pos ps.toList = none) (hl : l = (pos.line : Int)) (hk : k = (pos.col : Int)) :
    TriplesOk (ps ++ #[rawInt l, rawInt k, c]).toList ∧ codeAmong pos (ps ++ #[rawInt l, rawInt k, c]).toList = some c := by
  subst hl hk
  have e : (ps ++ #[rawInt pos.line, rawInt pos.col, c]).toList = ps.toList ++ [rawInt pos.line, rawInt pos.col, c] := by simp
  rw [e]
  exact ⟨TriplesOk_snoc _ _ _ _ h, codeAmong_snoc _ h hn⟩
theorem lambda_made {params : Arguments} {body : Expr} {scope : Scope} {lpos : Pos} {T : Tab} {clos : List (Str × Addr)} (N : Names G mg mb) (O : OK G act kp adr ρ S s) (C : CodeTab G mg act.env.code (act.env.qual ++ "<lambda>") T lpos)
    (hd : eval (.Lambda params body scope lpos) act.env = makeFunction "<lambda>" (act.env.qual ++ "<lambda>") params (.expr body) scope act.env [] [] [] lpos lpos.line)
    (hcl : closureFor scope act.env = pure clos) :
    wpAny G.M A (eval (.Lambda params body scope lpos) act.env) (fun v s' => ∃ S' f pm cv ctv, Stp G S s S' s' ∧ v = .ref f ∧ S' f = some { cls := .type "function", data := .func (PySem.W.kla_fn "<lambda>" (act.env.qual ++ "<lambda>") params body scope clos pm cv ctv) } ∧
      (∀ h : Heap, (∀ a o, S' a = some o → h.get? a = some o) → h.CodeRec cv (act.env.qual ++ "<lambda>"))) No s := by
  rw [hd]
  obtain ⟨c, hc, hC⟩ := C.code
  have hbs : ∀ a o, G.base a = some o → s.heap.get? a = some o := fun a o e => O.inv.sub _ _ (O.inv.base _ _ e)
  obtain ⟨og, hog, hng⟩ := N.g
  have hg := hng.ns (hbs _ _ hog)
  obtain ⟨ps, hP, hps⟩ := O.inv.tab T (by rw [C.tabs]; exact .head _)
  rcases hps with rfl | ⟨c', oc, rfl, hSc, hgood⟩
  · refine PySem.W.kla_makeFunction (mg := mg) hcl O.glob hg hc (hC _ hbs) hP C.trip C.miss C.ne (C.blt _ hbs) fun c' ctv h' tk hx hge hlt hrec htab => ?_
    obtain ⟨cc, oc, vs, t, ec, hoc, hdc, hq⟩ := hrec
    obtain rfl := PySem.Value.ref.inj ec
    have hPlt : T.P < s.heap.objs.size := Heap.lt_size hP
    have hST := O.inv.tabS T (by rw [C.tabs]; exact .head _)
    have hSc : ∀ b, s.heap.objs.size ≤ b → S b = none ∧ s.heap.get? b = none := fun b hb => by
      have h1 : s.heap.get? b = none := by
        cases q : s.heap.get? b with
        | none => rfl
        | some o => exact absurd (Heap.lt_size q) (Nat.not_lt.mpr hb)
      refine ⟨?_, h1⟩
      cases q : S b with
      | none => rfl
      | some o => have := O.inv.sub _ _ q; rw [h1] at this; exact nomatch this
    generalize hfo : PySem.W.kla_obj "<lambda>" (act.env.qual ++ "<lambda>") params body scope clos ((mg "__name__").getD .none) c' ctv = fo
    have hff : fo.isFreed = false := by rw [← hfo]; rfl
    have hne : c' ≠ h'.objs.size := Nat.ne_of_lt hlt
    have hfg : s.heap.objs.size ≤ h'.objs.size := Nat.le_trans hge (Nat.le_of_lt hlt)
    let S' : Fz := (S.put c' oc).put h'.objs.size fo
    have s1 : Sub S S' := (Fz.sub_put (hSc c' hge).1).trans (Fz.sub_put (by rw [Fz.put_ne _ _ hne.symm]; exact (hSc _ hfg).1))
    have hSf : S' h'.objs.size = some fo := Fz.put_self ..
    have hScc : S' c' = some oc := by show ((S.put c' oc).put h'.objs.size fo) c' = _; rw [Fz.put_ne _ _ hne, Fz.put_self]
    have inS : ∀ a o, S' a = some o → (a = c' ∧ o = oc) ∨ (a = h'.objs.size ∧ o = fo) ∨ S a = some o := fun a o e => by
      by_cases q : a = h'.objs.size
      · subst q; rw [hSf] at e; obtain rfl := Option.some.inj e; exact .inr (.inl ⟨rfl, rfl⟩)
      · have e : ((S.put c' oc).put h'.objs.size fo) a = some o := e
        rw [Fz.put_ne _ _ q] at e
        by_cases q2 : a = c'
        · subst q2; rw [Fz.put_self] at e; obtain rfl := Option.some.inj e; exact .inl ⟨rfl, rfl⟩
        · rw [Fz.put_ne _ _ q2] at e; exact .inr (.inr e)
    have keep : ∀ b o, b ≠ T.P → s.heap.get? b = some o → (h'.push fo).get? b = some o := fun b o hb e => Heap.get?_push_of_some _ (hx b o hb e)
    have hsub : ∀ a o, S' a = some o → (h'.push fo).get? a = some o := fun a o e => by
      rcases inS a o e with ⟨rfl, rfl⟩ | ⟨rfl, rfl⟩ | e
      · exact Heap.get?_push_of_some _ hoc
      · exact Heap.get?_push_size _ hff
      · exact keep a o (fun q => by rw [q, hST] at e; exact nomatch e) (O.inv.sub _ _ e)
    refine ⟨S', h'.objs.size, (mg "__name__").getD .none, .ref c', ctv, ⟨⟨hsub, O.inv.base.trans s1, fun t' ht' => ?_, fun t' ht' => ?_, O.inv.bare, O.inv.os⟩, s1, fun a o e => ?_, fun b o nt e => keep b o (fun q => nt T (by rw [C.tabs]; exact .head _) q.symm) e, fun _ _ e => e⟩, rfl, ?_, fun h hh => ⟨c', oc, vs, t, rfl, hh _ _ hScc, hdc, hq⟩⟩
    · rw [C.tabs] at ht'
      rw [List.mem_singleton.mp ht']
      exact ⟨_, Heap.get?_push_of_some _ htab, .inr ⟨c', oc, by rw [C.line, C.col], hScc, by rw [C.good]; exact ⟨vs, t, hdc, hq⟩⟩⟩
    · rw [C.tabs] at ht'
      rw [List.mem_singleton.mp ht']
      cases q : S' T.P with
      | none => rfl
      | some o =>
        rcases inS _ _ q with ⟨q, _⟩ | ⟨q, _⟩ | q
        · rw [q] at hPlt; exact absurd hge (Nat.not_le.mpr hPlt)
        · rw [q] at hPlt; exact absurd hfg (Nat.not_le.mpr hPlt)
        · rw [hST] at q; exact nomatch q
    · rcases inS a o e with ⟨rfl, _⟩ | ⟨rfl, _⟩ | e
      · exact .inr (hSc _ hge).2
      · exact .inr (hSc _ hfg).2
      · exact .inl e
    · rw [hSf, ← hfo]
  · obtain ⟨ht, hf⟩ := codeAmong_hit (c := .ref c') C.trip C.miss C.line C.col
    refine PySem.W.kla_makeFunctionHit (mg := mg) hcl O.glob hg hc (hC _ hbs) hP ht hf (C.blt _ hbs) fun ctv h' tk hk hsz => ?_
    have st := O.inv.keeps (t := tk) hk
    rw [C.good] at hgood
    obtain ⟨vs, t, hdc, hq⟩ := hgood
    have st2 := st.inv.push { cls := .type "function", data := .func (PySem.W.kla_fn "<lambda>" (act.env.qual ++ "<lambda>") params body scope clos ((mg "__name__").getD .none) (.ref c') ctv) } rfl (fun e => nomatch e) (t := tk)
    exact ⟨_, _, _, _, _, st.trans st2, rfl, Fz.put_self .., fun h hh => ⟨c', oc, vs, t, rfl, hh _ _ (st2.sub _ _ hSc), hdc, hq⟩⟩
end
end Mine
end

section
namespace Mine
variable {sc : Scope} {mc : List Str}
open PySem PySem.Calls PyProof.Rows
noncomputable def allPairs (h : Heap) (L : Addr) : List (Addr × Obj) := (List.range h.objs.size).filterMap fun b => if b = L then none else (h.get? b).map fun o => (b, o)
theorem allPairs_mem {h : Heap} {L b : Addr} {o : Obj} (hb : b ≠ L) (ho : h.get? b = some o) : (b, o) ∈ allPairs h L := by
  unfold allPairs
  refine List.mem_filterMap.mpr ⟨b, List.mem_range.mpr (Heap.lt_size ho), ?_⟩
  rw [if_neg hb, ho]; rfl
set_option tactic.hygienic true in
theorem allPairs_of {h : Heap} {L : Addr} {p : Addr × Obj} (hp : p ∈ allPairs h L) : h.get? p.1 = some p.2 ∧ p.1 ≠ L := by
  unfold allPairs at hp
  obtain ⟨b, _, e⟩ := List.mem_filterMap.mp hp
  split at e
  · exact nomatch e
  · rename_i hb
    cases q : h.get? b with
    | none => rw [q] at e; cases e
    | some o => rw [q] at e; cases e; exact ⟨q, hb⟩
theorem perm_lift {α β : Type} (f : α → β) : ∀ {xs : List β} {ys : List β}, xs.Perm ys → ∀ {as : List α}, ys = as.map f → ∃ bs : List α, bs.Perm as ∧ xs = bs.map f := by
  intro xs ys h
  induction h with
  | nil =>
    intro as e
    cases as with
    | nil => exact ⟨[], .refl _, rfl⟩
    | cons a as => cases e
  | cons x h ih =>
    intro as e
    cases as with
    | nil => cases e
    | cons a as =>
      simp only [List.map_cons, List.cons.injEq] at e
      obtain ⟨bs, p, q⟩ := ih e.2
      exact ⟨a :: bs, p.cons a, by rw [List.map_cons, ← e.1, q]⟩
  | swap x y l =>
    intro as e
    match as, e with
    | [], e => cases e
    | [a], e => simp at e
    | a :: b :: as, e =>
      simp only [List.map_cons, List.cons.injEq] at e
      exact ⟨b :: a :: as, .swap a b as, by simp [e.1, e.2.1, e.2.2]⟩
  | trans _ _ ih1 ih2 =>
    intro as e
    obtain ⟨bs, p, q⟩ := ih2 e
    obtain ⟨cs, p', q'⟩ := ih1 q
    exact ⟨cs, p'.trans p, q'⟩
theorem sorted_uniq {α : Type} {f : α → Int} : ∀ {xs ys : List α}, xs.Perm ys → (ys.map f).Nodup → xs.Pairwise (fun a b => f a ≤ f b) → ys.Pairwise (fun a b => f a ≤ f b) → xs = ys
  | [], ys, p, _, _, _ => p.symm.eq_nil.symm ▸ rfl
  | x :: xs, [], p, _, _, _ => by have := p.length_eq; simp at this
  | x :: xs, y :: ys, p, nd, hx, hy => by
    have inj : ∀ (l : List α), (l.map f).Nodup → ∀ a ∈ l, ∀ b ∈ l, f a = f b → a = b := by
      intro l
      induction l with
      | nil => intro _ a h; exact nomatch h
      | cons c l ih =>
        intro nd a ha b hb e
        rw [List.map_cons, List.nodup_cons] at nd
        rcases List.mem_cons.mp ha with qa | ha'
        · rcases List.mem_cons.mp hb with qb | hb'
          · rw [qa, qb]
          · exact absurd (List.mem_map.mpr ⟨b, hb', by rw [← e, qa]⟩) nd.1
        · rcases List.mem_cons.mp hb with qb | hb'
          · exact absurd (List.mem_map.mpr ⟨a, ha', by rw [e, qb]⟩) nd.1
          · exact ih nd.2 a ha' b hb' e
    have hxy : x = y := by
      have h1 : x ∈ y :: ys := p.mem_iff.mp (.head _)
      have h2 : y ∈ x :: xs := p.mem_iff.mpr (.head _)
      refine inj _ nd x h1 y (.head _) (Int.le_antisymm ?_ ?_)
      · rcases List.mem_cons.mp h2 with e | h2
        · rw [e]; exact Int.le_refl _
        · exact (List.pairwise_cons.mp hx).1 y h2
      · rcases List.mem_cons.mp h1 with e | h1
        · rw [e]; exact Int.le_refl _
        · exact (List.pairwise_cons.mp hy).1 x h1
    subst hxy
    rw [sorted_uniq (List.Perm.cons_inv p) (List.nodup_cons.mp (by simpa using nd)).2 (List.pairwise_cons.mp hx).2 (List.pairwise_cons.mp hy).2]
section
variable {G : Gl} {A : Around} {act : Act sc mc} {kp : Kept} {adr : Str → Addr} {ρ : LEnv} {S S' S₁ : Fz} {s s' : Shared} {mg mb : Str → Option Value} {d d' : D} {ds : List D} {n : Nat} {pos : Pos}
theorem lam_eval {env : Env} {x y : Str} {p1 p2 p3 p4 p5 : Pos} {kk : Nat} {m : Str → Option Value} {v dv : Value} {c : Addr} {ks : List Ky} {k : Ky} {ts : List D} {z : Int} (hk : env.scope.kind = .function) (kx : env.kindOf x = some .local) (hm : s.heap.Ns env.locals m) (mx : m x = some v)
    (ky : env.kindOf y = some .free) (hc : env.cells.lookup y = some c) (hv : s.heap.IsCell c (some dv)) (I : Inv G S s) (idv : Is G S dv (.dict ks ds)) (iv : Is G S v k.d) (hd : dfind k ks ds = some (.tuple ts)) (ht : ts[0]? = some (.int z))
    (h1 : (x == ("__debug__" : Str)) = false := by decide) (h2 : (y == ("__debug__" : Str)) = false := by decide) (h3 : (y == ("__classdict__" : Str)) = false := by decide) :
    wpAny G.M A (eval (.Subscript (.Subscript (.Name y p1) (.Name x p2) p3) (.Constant (.int 0) kk p4) p5) env) (fun r s' => ∃ t tk, r = .int z t ∧ s' = { s with toks := tk }) No s := by
  (refine cps fun ZP zk => ?_; obtain ⟨a, kvs, rfl, hm', e, r, hs⟩ := dict_of I idv; refine zk ?_)
  obtain ⟨w, hw, iw⟩ := dfind_is e r hd
  (refine cps fun ZP zk => ?_; obtain ⟨b, o, n, vs, rfl, hS, hcl, hda, rr⟩ := iw.tupleI; refine zk ?_)
  obtain ⟨u, hu, iu⟩ := rr.got ht
  obtain ⟨t, rfl⟩ := iu.int'
  have hlt : 0 < vs.length := by rw [List.getElem?_eq_some_iff] at hu; exact hu.1
  refine Subscript_ (Subscript_ (wpAny_Name (wpAny_loadName_free hk ky hc hv ?_ h3) h2))
  refine wpAny_Name (wpAny_loadName_local hk kx hm mx ?_) h1
  refine sub_tail (T := "dict") hm'.typeIs slot_dict_getitem.lookup (wpAny_getItem_of (Ky.kindIs iv) hm'.mapOf hw ?_)
  refine wpAny_Constant_int ?_
  refine sub_tail (T := "tuple") ⟨o, I.sub _ _ hS, hcl⟩ PySem.F.slot_tuple_getitem.lookup ?_
  exact PyProof.Rows.getItem_tuple (items := vs.toArray) (j := 0) ⟨o, I.sub _ _ hS, hcl, n, hda⟩ (by lia) (by lia) (by rw [List.size_toArray]; exact seqIdx (by lia) hlt) (by simpa using hu) ⟨t, _, rfl, rfl⟩
end
end Mine
end

section
namespace Mine
variable {sc : Scope} {mc : List Str}
open PySem PySem.Calls PyProof.Rows
section
variable {G : Gl} {A : Around} {act : Act sc mc} {kp : Kept} {adr : Str → Addr} {ρ : LEnv} {S S' S₁ : Fz} {s s' : Shared} {mg mb : Str → Option Value} {d d' : D} {ds : List D} {n : Nat} {pos : Pos}
theorem OK.sameNs (O : OK G act kp adr ρ S s) {h' : Heap} {t : Nat} {m : Str → Option Value} (hk : ∀ b o, b ≠ act.env.locals → s.heap.get? b = some o → h'.get? b = some o) (hm : s.heap.Ns act.env.locals m) (hm' : h'.Ns act.env.locals m) :
    OK G act kp adr ρ S { s with heap := h', toks := t } := by
  obtain ⟨hL1, hL2, hL3, oL, hoL⟩ := O.mt _ O.mtL
  have cellNe : ∀ p ∈ act.env.cells, p.2 ≠ act.env.locals := fun p hp q => by
    obtain ⟨_, v, o, ho, hd⟩ := O.cells p hp
    obtain ⟨o', es, ep, ho', hd', _⟩ := hm
    rw [q, ho'] at ho; obtain rfl := Option.some.inj ho
    rw [hd'] at hd; exact nomatch hd
  have rd : ∀ y v, Reads act.env s.heap y v → Reads act.env h' y v := fun y v r => by
    rcases r with ⟨k, m', hm₂, e⟩ | ⟨k, c, hx, o, ho, hd⟩
    · refine .inl ⟨k, _, hm', ?_⟩
      have : m y = m' y := by
        obtain ⟨o, es, ep, ho, hd, _, h1⟩ := hm
        obtain ⟨o', es', ep', ho', hd', _, h1'⟩ := hm₂
        rw [ho] at ho'; obtain rfl := Option.some.inj ho'
        rw [hd] at hd'; obtain ⟨rfl, rfl⟩ := PySem.Data.dict.inj hd'
        rw [← h1, ← h1']
      rw [this, e]
    · exact .inr ⟨k, c, hx, o, hk _ _ (cellNe _ (cell_in hx)) ho, hd⟩
  exact { O with
    inv := O.inv.but (wr := [act.env.locals]) (fun a ha => by rw [List.mem_singleton.mp ha]; exact ⟨hL1, hL3⟩) fun b o hb e => hk b o (fun q => hb (by rw [q]; exact .head _)) e
    kept := fun a o e => hk a o (fun q => by rw [q, hL2] at e; exact nomatch e) (O.kept a o e)
    kgens := O.kgens
    ns := ⟨m, hm'⟩
    mt := fun b hb => by
      obtain ⟨h1, h2, h3, o, ho⟩ := O.mt b hb
      refine ⟨h1, h2, h3, ?_⟩
      by_cases q : b = act.env.locals
      · subst q; obtain ⟨o', _, _, ho', _⟩ := hm'; exact ⟨o', ho'⟩
      · exact ⟨o, hk b o q ho⟩
    cells := fun p hp => by
      obtain ⟨nt, v, o, ho, hd⟩ := O.cells p hp
      exact ⟨nt, v, o, hk _ _ (cellNe p hp) ho, hd⟩
    vars := fun y l e => by
      have z := O.vars y l e
      cases l with
      | val dy => obtain ⟨v, r, i⟩ := z; exact ⟨v, rd _ _ r, i⟩
      | own dy =>
        obtain ⟨r, ⟨o, ho, w⟩, h1, h2, h3⟩ := z
        exact ⟨rd _ _ r, ⟨o, hk _ _ (fun q => h3 (by rw [q]; exact O.mtL)) ho, w⟩, h1, h2, h3⟩ }
theorem lam_call {scope : Scope} {params : Arguments} {x y : Str} {p1 p2 p3 p4 p5 : Pos} {kk : Nat} {f c : Addr} {qual nm : Str} {pm cv ctv v dv : Value} {ks : List Ky} {k : Ky} {ts : List D} {z : Int} (N : Names G mg mb) (hA : Room (n + 1) A) (I : Inv G S s)
    (hf : S f = some { cls := .type "function", data := .func (PySem.W.kla_fn nm qual params (.Subscript (.Subscript (.Name y p1) (.Name x p2) p3) (.Constant (.int 0) kk p4) p5) scope [(y, c)] pm cv ctv) })
    (hcr : s.heap.CodeRec cv qual) (hsk : scope.kind = .function) (hco : scope.isCoroutine = false) (hge : scope.isGenerator = false) (hns : scope.names = [(x, .local), (y, .free)]) (hxy : x ≠ y)
    (hbind : ∀ fd : FuncData, fd.params = params → fd.defaults = .none → fd.kwdefaults = .none → bindArgs fd ⟨[v], []⟩ = pure [(x, v)])
    (hv : s.heap.IsCell c (some dv)) (idv : Is G S dv (.dict ks ds)) (iv : Is G S v k.d) (hd : dfind k ks ds = some (.tuple ts)) (ht : ts[0]? = some (.int z))
    (h1 : (x == ("__debug__" : Str)) = false := by decide) (h2 : (y == ("__debug__" : Str)) = false := by decide) (h3 : (y == ("__classdict__" : Str)) = false := by decide) :
    wpAny G.M A (call (.ref f) [v]) (fun r s' => ∃ t tk h', r = .int z t ∧ s' = { s with heap := h', toks := tk } ∧ ∀ b o, s.heap.get? b = some o → h'.get? b = some o) No s := by
  refine wpAny_call ?_
  have ho := I.sub _ _ hf
  refine PySem.W.kla_callFunE hA.lt ho rfl hco hge rfl hcr ?_
  refine BindsTo.of_eq (hbind _ rfl rfl rfl) _ _ _ _ ?_
  refine wpAny_newFunctionEnv (by rw [hns]; intro q hq; simp at hq; rcases hq with rfl | rfl <;> simp) (by intro q hq; rw [List.mem_singleton.mp hq]; show List.lookup x scope.names = _; rw [hns]; simp) (fun h' hn hs => ?_) hsk
  have hkeep : ∀ b o, s.heap.get? b = some o → h'.get? b = some o := fun b o e => by
    rw [hs.2 b (Nat.ne_of_lt (Heap.lt_size e))]
    exact Heap.get?_push_of_some _ e
  have hlim : h'.NoLimit := by
    obtain ⟨o, m, ho, hn, hm⟩ := N.lim
    exact ⟨m, hn.ns (hkeep _ _ (I.sub _ _ (I.base _ _ ho))), hm⟩
  refine ⟨hlim, PySem.W.kla_codeExpr ?_⟩
  have kx : Env.kindOf (newEnv scope s.heap.objs.size mainGlobals [(y, c)] (qual ++ ".<locals>.") (some f) cv none builtinsNs) x = some .local := by
    unfold Env.kindOf; show List.lookup x scope.names = _; rw [hns]; simp
  have ky : Env.kindOf (newEnv scope s.heap.objs.size mainGlobals [(y, c)] (qual ++ ".<locals>.") (some f) cv none builtinsNs) y = some .free := by
    unfold Env.kindOf; show List.lookup y scope.names = _; rw [hns, List.lookup_cons, beq_eq_false_iff_ne.mpr hxy.symm]; simp
  have st := I.keeps (h' := h') (t := s.toks + 1) hkeep
  refine wpAny_mono (lam_eval (s := { s with heap := h', toks := s.toks + 1 }) hsk kx hn (by simp) ky (by show List.lookup y [(y, c)] = some c; simp) (by obtain ⟨o, ho, hd⟩ := hv; exact ⟨o, hkeep _ _ ho, hd⟩) st.inv idv iv hd ht h1 h2 h3) (fun r s' ⟨t, tk, e1, e2⟩ => ?_) fun _ _ h => h.elim
  exact ⟨t, tk, h', e1, by rw [e2], hkeep⟩
end
end Mine
end

section
namespace Mine
variable {sc : Scope} {mc : List Str}
open PySem PySem.Calls PyProof.Rows
noncomputable abbrev h00 : Heap := { objs := #[] }
theorem h00_none (b : Addr) : h00.get? b = none := rfl
theorem Alls.zs {G : Gl} {S : Fz} : ∀ {vs : List Value} {zs : List (Int × Str)}, Alls G S vs (zs.map fun z => .str z.2) → ∃ as : List (Value × Int × Str), as.map (·.1) = vs ∧ as.map (·.2) = zs ∧ ∀ a ∈ as, Is G S a.1 (.str a.2.2)
  | [], [], _ => ⟨[], rfl, rfl, fun _ h => nomatch h⟩
  | v :: vs, z :: zs, .cons i r => by
    obtain ⟨as, h1, h2, h3⟩ := Alls.zs r
    refine ⟨(v, z) :: as, by simp [h1], by simp [h2], fun a ha => ?_⟩
    rcases List.mem_cons.mp ha with rfl | ha
    · exact i
    · exact h3 a ha
section
variable {G : Gl} {A : Around} {act : Act sc mc} {kp : Kept} {adr : Str → Addr} {ρ : LEnv} {S S' S₁ : Fz} {s s' : Shared} {mg mb : Str → Option Value} {d d' : D} {ds : List D} {n : Nat} {pos : Pos}
theorem sorted_out {zs es : List (Int × Str)} {vs out : List Value} (r : Alls G S vs (zs.map fun z => .str z.2)) (hnd : (zs.map (·.1)).Nodup) (hes : es.Perm zs) (hso : es.Pairwise (fun a b => a.1 ≤ b.1)) (ko : KskOut false (zs.map (·.1)) vs out) : Alls G S out (es.map fun z => .str z.2) := by
  obtain ⟨as, rfl, rfl, h3⟩ := Alls.zs r
  obtain ⟨ps, hp, rfl, hpw⟩ := ko
  have ez : ((as.map (·.2)).map (·.1)).zip (as.map (·.1)) = as.map fun a => (a.2.1, a.1) := by
    clear hp r hes hnd h3
    induction as with
    | nil => rfl
    | cons a as ih => simp only [List.map_cons, List.zip_cons_cons, ih]
  rw [ez] at hp
  obtain ⟨bs, hb, rfl⟩ := perm_lift _ hp rfl
  have hk : (bs.map (·.2)).Perm es := (hb.map (·.2)).trans hes.symm
  have e1 : bs.map (·.2) = es := by
    refine sorted_uniq (f := fun z => z.1) hk ?_ ?_ hso
    · exact (hes.map (·.1)).nodup_iff.mpr hnd
    · rw [List.pairwise_map] at hpw ⊢
      exact hpw.imp fun h => by simpa using h
  rw [← e1, List.map_map, List.map_map]
  have h4 : ∀ b ∈ bs, Is G S b.1 (.str b.2.2) := fun b hb' => h3 b (hb.mem_iff.mp hb')
  clear e1 hk hpw hp hb hso hes hnd r ez h3
  induction bs with
  | nil => exact .nil
  | cons b bs ih => exact .cons (h4 b (.head _)) (ih fun c hc => h4 c (.tail _ hc))
theorem Run.assignSortedKey {x y q nm : Str} {params : Arguments} {scope : Scope} {lpos ap fp kpos cpos np pos : Pos} {p1 p2 p3 p4 p5 : Pos} {kk : Nat} {T : Tab} {txt : Str} {ks : List Ky} {zs es : List (Int × Str)} {Q : FD → LEnv → Prop} (hA : Room (n + 4) A) (N : Names G mg mb) (hS : mg ("sorted" : Str) = none ∧ mb ("sorted" : Str) = some (.builtin "sorted")) (hkS : sc.names.lookup ("sorted" : Str) = some .globalImplicit)
    (C : CodeTab G mg act.env.code (act.env.qual ++ "<lambda>") T lpos) (hn : ρ.lookup nm = some (.val (.str txt))) (hy : ρ.lookup y = some (.val (.dict ks ds))) (hyc : sc.names.lookup y = some .cell) (hx : Stores sc mc x)
    (hsk : scope.kind = .function) (hco : scope.isCoroutine = false) (hge : scope.isGenerator = false) (hns : scope.names = [(q, .local), (y, .free)]) (hqy : q ≠ y)
    (hbind : ∀ (v : Value) (fd : FuncData), fd.params = params → fd.defaults = .none → fd.kwdefaults = .none → bindArgs fd ⟨[v], []⟩ = pure [(q, v)])
    (htxt : chars txt = zs.map fun z => .str z.2) (hlen : txt.length < 64) (hks : ∀ z ∈ zs, ∃ ts, dfind (.s z.2) ks ds = some (.tuple ts) ∧ ts[0]? = some (.int z.1)) (hnd : (zs.map (·.1)).Nodup) (hes : es.Perm zs) (hso : es.Pairwise (fun a b => a.1 ≤ b.1))
    (h : Q .next ((x, .own (.list (es.map fun z => .str z.2))) :: ρ))
    (hd1 : (q == ("__debug__" : Str)) = false := by decide) (hd2 : (y == ("__debug__" : Str)) = false := by decide) (hd3 : (y == ("__classdict__" : Str)) = false := by decide) (hd4 : (nm == ("__debug__" : Str)) = false := by decide) (hd5 : (nm == ("__classdict__" : Str)) = false := by decide)
    (hlam : eval (.Lambda params (.Subscript (.Subscript (.Name y p1) (.Name q p2) p3) (.Constant (.int 0) kk p4) p5) scope lpos) act.env = makeFunction "<lambda>" (act.env.qual ++ "<lambda>") params (.expr (.Subscript (.Subscript (.Name y p1) (.Name q p2) p3) (.Constant (.int 0) kk p4) p5)) scope act.env [] [] [] lpos lpos.line := by rfl)
    (he : eval (.Call (.Name "sorted" fp) [.Name nm ap] [⟨some "key", .Lambda params (.Subscript (.Subscript (.Name y p1) (.Name q p2) p3) (.Constant (.int 0) kk p4) p5) scope lpos, kpos⟩] cpos) act.env =
      (eval (.Name "sorted" fp) act.env >>= fun f => callWith cpos f [] (backTo cpos (starEach [.Name nm ap] act.env)) (backToKw cpos (keywordEach [⟨some "key", .Lambda params (.Subscript (.Subscript (.Name y p1) (.Name q p2) p3) (.Constant (.int 0) kk p4) p5) scope lpos, kpos⟩] act.env))) := by rfl)
    (hs : swapsWith (.Call (.Name "sorted" fp) [.Name nm ap] [⟨some "key", .Lambda params (.Subscript (.Subscript (.Name y p1) (.Name q p2) p3) (.Constant (.int 0) kk p4) p5) scope lpos, kpos⟩] cpos) (some (.Name x np)) pos.line act.env = pure false := by rfl) :
    Run G A act (exec (.Assign [.Name x np] (.Call (.Name "sorted" fp) [.Name nm ap] [⟨some "key", .Lambda params (.Subscript (.Subscript (.Name y p1) (.Name q p2) p3) (.Constant (.int 0) kk p4) p5) scope lpos, kpos⟩] cpos) pos) act.env) ρ Q := fun kp adr S s O => by
  refine wpAny_Assign_Name ?_ hs
  rw [he]
  refine wpAny_bind (wp_seq ((EvV.blt (act := act) (A := A) (ρ := ρ) N hkS hS.1 hS.2 : EvV G A act ρ (.Name "sorted" fp) _) kp adr S s O) fun S₁ v₁ s₁ st₁ e => ?_)
  subst e
  have O₁ := O.step st₁
  refine callWith_builtin_kwB rfl rfl (evalArgs_kw2 rfl (spliced_more (wpAny_mono (nameRaw O₁ hn hd4 hd5) (fun v s' ⟨e, iv⟩ => ?_) fun _ _ h => h.elim) rfl))
  subst e
  obtain ⟨tx, rfl⟩ := iv.str'
  refine spliced_none (kwAll_cons ?_)
  obtain ⟨dv, rd, idv⟩ := O₁.vars y _ hy
  have ky : act.env.kindOf y = some .cell := by rw [act.kindOf]; exact hyc
  obtain ⟨c, hc, hcv⟩ : ∃ c, act.env.cells.lookup y = some c ∧ s'.heap.IsCell c (some dv) := by
    rcases rd with ⟨k, _⟩ | ⟨_, c, hc, hcv⟩
    · rw [ky] at k; cases k
    · exact ⟨c, hc, hcv⟩
  have hcl : closureFor scope act.env = pure [(y, c)] := by
    rw [closureFor_eq scope act.env (fun z hz hf => by
      rw [hns] at hz
      simp at hz
      rcases hz with rfl | rfl
      · exact nomatch hf
      · exact ⟨c, hc⟩), hns]
    simp [closeList, hc]
  refine wpAny_mono (lambda_made N O₁ C hlam hcl) (fun v s₂ ⟨S₂, f, pm, cv, ctv, st₂, e, hf, hcr⟩ => ?_) fun _ _ h => h.elim
  subst e
  refine kwAll_nil ?_
  have O₂ := O₁.step st₂
  show wpAny G.M A (call (.builtin "sorted") [.str txt tx] [(Str.ofString "key", .ref f)]) _ _ _
  refine call_function_entry_kw kind_sorted plain_sorted entry_sorted (ksk_s1 _ _) ?_
  unfold Builtin.«sorted»
  refine wpAny_bind (m := checkCount "sorted" 1 1 _) (wpAny_pure ?_)
  refine wpAny_bind (wpAny_collect_str hA.in1.handled txt tx (fun s₃ acc hk₃ hg₃ hdr₃ hos₃ hacc => ?_) (by rw [sizeLine_eq]; exact Nat.le_of_lt (Nat.lt_trans hlen (by decide))))
  have es₃ : s₃ = { s₂ with heap := s₃.heap, toks := s₃.toks } := by
    obtain ⟨_, _, _, _, _⟩ := s₃; obtain ⟨_, _, _, _, _⟩ := s₂; simp only at hg₃ hdr₃ hos₃; subst hg₃ hdr₃ hos₃; rfl
  have st₃ : Stp G S₂ s₂ S₂ s₃ := by rw [es₃]; exact O₂.inv.keeps hk₃
  have O₃ := O₂.step st₃
  have hal : acc.toList.length = txt.length := by rw [Array.length_toList]; exact hacc.1
  have r : Alls G S₂ acc.toList (zs.map fun z => .str z.2) := by
    rw [← htxt]
    refine alls_of_get (by rw [hal, chars_len]; rfl) fun j v hv => ?_
    obtain ⟨c, u, hc, rfl⟩ := hacc.2 j v (by simpa using hv)
    exact ⟨_, chars_get hc, .str ..⟩
  have hzl : zs.length = txt.length := by have := congrArg List.length htxt; rw [chars_len, List.length_map] at this; exact this.symm
  refine wpAny_bind (wpAny_newList ?_ (by rw [hal, sizeLine_eq]; lia))
  have hk₄ : ∀ b o, s₃.heap.get? b = some o → (s₃.heap.push (seqObj "list" acc.toList.toArray 0)).get? b = some o := fun b o e => Heap.get?_push_of_some _ e
  have hoL : (s₃.heap.push (seqObj "list" acc.toList.toArray 0)).get? s₃.heap.objs.size = some (seqObj "list" acc.toList.toArray 0) := Heap.get?_push_size _ rfl
  obtain ⟨m, hm⟩ := O₃.ns
  have hLlt : act.env.locals < s₃.heap.objs.size := by obtain ⟨o, es, ep, ho, _⟩ := hm; exact Heap.lt_size ho
  have hL : s₃.heap.objs.size ≠ act.env.locals := Nat.ne_of_gt hLlt
  have F : Fr h00 act.env.locals (s₃.heap.push (seqObj "list" acc.toList.toArray 0)) m := ⟨hm.push _, fun b o e => (by rw [h00_none] at e; exact nomatch e), Nat.zero_le _⟩
  have NN : News h00 act.env.locals (s₃.heap.push (seqObj "list" acc.toList.toArray 0)) (allPairs s₃.heap act.env.locals) := fun p hp => by
    obtain ⟨h1, h2⟩ := allPairs_of hp
    exact ⟨hk₄ _ _ h1, h2, h00_none _⟩
  refine wpAny_bind (wpAny_holding (wpAny_call_entry_kw slot_list_sort ⟨_, hoL, rfl⟩ entry_list_sort ?body (ksk_l1 _ _)))
  case body =>
    show wpAny (model G.prog G.w) A.in1.in1 (Builtin.«list.sort» ⟨[.ref s₃.heap.objs.size], [(Str.ofString "key", .ref f)]⟩) _ _ _
    rw [ksk_t1]
    refine ksk_sort (kz := zs.map (·.1)) (vs := acc.toList) (s := { s₃ with heap := s₃.heap.push (seqObj "list" acc.toList.toArray 0) }) F NN hoL hL (h00_none _) (fun p hp => Nat.ne_of_lt (Heap.lt_size (allPairs_of hp).1)) (by rw [List.length_map, hal, hzl]) (by rw [hal]; exact hlen) (fun i v k hv hkk h tk own F' N' => ?_) fun h' tk out cc F' N' ko => ⟨_, rfl, ?_⟩
    · have hkk' : ∀ b o, b ≠ act.env.locals → s₃.heap.get? b = some o → h.get? b = some o := fun b o hb e => (N' (b, o) (List.mem_append_left _ (allPairs_mem hb e))).1
      have O' : OK G act kp adr ρ S₂ { s₃ with heap := h, toks := tk } := O₃.sameNs hkk' hm F'.ns
      obtain ⟨z, hz, ez⟩ : ∃ z, zs[i]? = some z ∧ z.1 = k := by
        rw [List.getElem?_map] at hkk
        cases q : zs[i]? with
        | none => rw [q] at hkk; cases hkk
        | some z => rw [q] at hkk; cases hkk; exact ⟨z, rfl, rfl⟩
      obtain ⟨dd, hdd, ii⟩ := r.get' hv
      rw [List.getElem?_map, hz] at hdd
      cases hdd
      obtain ⟨ts, h1, h2⟩ := hks z (List.mem_of_getElem? hz)
      rw [ez] at h2
      have hcne : c ≠ act.env.locals := fun q => by
        obtain ⟨_, v', o, ho, hd⟩ := O₃.cells _ (cell_in hc)
        obtain ⟨o', es, ep, ho', hd', _⟩ := hm
        rw [q, ho'] at ho; obtain rfl := Option.some.inj ho
        rw [hd'] at hd; exact nomatch hd
      have hc₃ : s₃.heap.IsCell c (some dv) := by
        obtain ⟨o, ho, hd⟩ := hcv
        exact ⟨o, hk₃ _ _ (st₂.keep _ _ (O₁.cells _ (cell_in hc)).1 ho), hd⟩
      refine wpAny_mono (lam_call (k := .s z.2) N (A := A.in1.in1) (n := n + 1) ⟨hA.handled, by have := hA.depth; show A.depth + (n + 1 + 1) ≤ 900; lia, by have := hA.units; show A.units + 1 + 1 + 50 * (n + 1 + 1) ≤ 9000; lia⟩ O'.inv hf (hcr _ fun a o e => O'.inv.sub _ _ e) hsk hco hge hns hqy (hbind v)
        (by obtain ⟨o, ho, hd⟩ := hc₃; exact ⟨o, hkk' _ _ hcne ho, hd⟩) (idv.mono st₂.sub) ii h1 h2 hd1 hd2 hd3) (fun r' s'' ⟨t', tk', h'', e1, e2, hkk''⟩ => ?_) fun _ _ h => h
      refine ⟨h'', tk', t', e2, e1, ⟨?_, fun b o e => (by rw [h00_none] at e; exact nomatch e), Nat.zero_le _⟩, fun p hp => ⟨hkk'' _ _ (N' p hp).1, (N' p hp).2⟩⟩
      exact F'.ns.at' fun o e => hkk'' _ _ e
    · refine wpAny_pure ⟨_, rfl, ?_⟩
      have hkk' : ∀ b o, b ≠ act.env.locals → s₃.heap.get? b = some o → h'.get? b = some o := fun b o hb e => (N' (b, o) (.tail _ (allPairs_mem hb e))).1
      have O' : OK G act kp adr ρ S₂ { s₃ with heap := h', toks := tk } := O₃.sameNs hkk' hm F'.ns
      have hnew : s₃.heap.get? s₃.heap.objs.size = none := Inv.fresh
      have hfr : Fresh G act kp adr ρ S₂ { s₃ with heap := h', toks := tk } s₃.heap.objs.size (.list (es.map fun z => .str z.2)) := {
        obj := ⟨_, (N' _ (.head _)).1, by
          have : out = out.toList.toArray := (Array.toArray_toList ..).symm
          unfold seqObj
          rw [this]
          exact .list (sorted_out r hnd hes hso ko)⟩
        S := O₃.inv.sizeS
        kp := by
          cases q : kp.objs s₃.heap.objs.size with
          | none => rfl
          | some o' => have := O₃.kept _ _ q; rw [hnew] at this; exact nomatch this
        mt := fun h => by obtain ⟨_, _, _, o', ho'⟩ := O₃.mt _ h; rw [hnew] at ho'; exact nomatch ho'
        ne := fun y dy hy q => by
          obtain ⟨_, ⟨o', ho', _⟩, _⟩ := O₃.vars y _ hy
          rw [q, hnew] at ho'; exact nomatch ho' }
      exact O'.storeOwn hx hfr fun h₆ t₆ O₆ => ⟨S₂, _, _, .next, (O.gro st₁).trans (O₁.gro st₂), O₆, trivial, h⟩
end
end Mine
end

section
namespace Mine
open PySem PySem.Calls PyProof.Rows
theorem pick_range {α : Type} (xs : List α) (a : Nat) : ∀ m : Nat, ((List.range m).map (a + ·)).filterMap (xs[·]?) = (xs.drop a).take m
  | 0 => by simp
  | m + 1 => by
    rw [List.range_succ, List.map_append, List.filterMap_append, pick_range xs a m, List.take_add_one, List.getElem?_drop]
    cases q : xs[a + m]? <;> simp [q]
theorem lslice_plain {α : Type} (xs : List α) (lo hi : Option Int) : lslice xs lo hi none = (xs.drop (lo.elim 0 (clipAt xs.length))).take (hi.elim xs.length (clipAt xs.length) - lo.elim 0 (clipAt xs.length)) := by
  unfold lslice
  rw [sliceBounds_plain]
  show List.filterMap _ (sliceRange _ _ 1) = _
  rw [sliceRange_one, pick_range]
theorem clip_nat' {n k : Nat} : clipAt n (k : Int) = min k n := clipAt_nat n k
theorem clip_nat {n k : Nat} (h : k ≤ n) : clipAt n (k : Int) = k := by
  rw [clip_nat', Nat.min_eq_left h]
theorem lslice_to {α : Type} (xs : List α) (k : Nat) : lslice xs none (some (k : Int)) none = xs.take k := by
  rw [lslice_plain]
  simp only [Option.elim_none, Option.elim_some, List.drop_zero, Nat.sub_zero, clip_nat']
  rw [List.take_eq_take_iff]; simp
theorem lslice_from {α : Type} (xs : List α) (k : Nat) : lslice xs (some (k : Int)) none none = xs.drop k := by
  rw [lslice_plain]
  simp only [Option.elim_none, Option.elim_some, clip_nat']
  by_cases h : k ≤ xs.length
  · rw [Nat.min_eq_left h, List.take_of_length_le (by simp)]
  · rw [Nat.min_eq_right (by lia), List.drop_of_length_le (Nat.le_refl _), List.drop_of_length_le (by omega)]; simp
theorem lslice_mid {α : Type} (xs : List α) (a b : Nat) (h : a ≤ b) (hb : b ≤ xs.length) : lslice xs (some (a : Int)) (some (b : Int)) none = (xs.take b).drop a := by
  rw [lslice_plain]
  simp only [Option.elim_some, clip_nat (Nat.le_trans h hb), clip_nat hb]
  rw [List.drop_take]
theorem lslice_rev {α : Type} (xs : List α) : lslice xs none none (some (-1)) = xs.reverse := by
  unfold lslice
  rw [PySem.W.krv_bounds]
  show List.filterMap _ (sliceRange _ _ _) = _
  rw [PySem.W.krv_sliceRange]
  have key : ∀ (l : List Nat) (h : ∀ j ∈ l, j < xs.length), l.filterMap (xs[·]?) = l.pmap (fun j (h : j < xs.length) => xs[j]) h := by
    intro l
    induction l with
    | nil => intro _; rfl
    | cons j l ih =>
      intro h
      have hj := h j (.head _)
      simp only [List.filterMap_cons, List.getElem?_eq_getElem hj, List.pmap_cons]
      rw [ih fun k hk => h k (.tail _ hk)]
  rw [key _ (fun j hj => by obtain ⟨k, hk, rfl⟩ := List.mem_map.mp hj; rw [List.mem_range] at hk; omega)]
  refine List.ext_getElem (by simp) fun i h1 h2 => ?_
  simp
theorem lslice_one {α : Type} (xs : List α) : lslice xs none none (some 1) = xs := by
  have e : sliceBounds none none (some 1) xs.length = ((0 : Int), ((xs.length : Nat) : Int), 1) := by simp [sliceBounds]
  unfold lslice
  rw [e]
  show List.filterMap _ (sliceRange ((0 : Nat) : Int) ((xs.length : Nat) : Int) 1) = xs
  rw [sliceRange_one, pick_range]; simp
theorem join_cps : ∀ l : List Str, (Txt.join "" l).cps.toList = (l.map (·.cps.toList)).flatten := by
  intro l
  have e : Txt.join "" l = Str.join "" l := PySem.StrLaws.glued_eq_join _ _
  rw [e]
  clear e
  induction l with
  | nil => rfl
  | cons x l ih =>
    cases l with
    | nil => simp [Str.join]
    | cons y l =>
      have h1 : Str.join "" (x :: y :: l) = x ++ "" ++ Str.join "" (y :: l) := rfl
      rw [h1]
      show (x.cps ++ (Str.ofString "").cps ++ (Str.join "" (y :: l)).cps).toList = _
      rw [Array.toList_append, Array.toList_append, ih]
      rw [List.map_cons, List.flatten_cons, show (Str.ofString "").cps = #[] from rfl]
      simp
theorem join_len (l : List Str) : (Txt.join "" l).length = (l.map (·.length)).sum := by
  show (Txt.join "" l).cps.size = _
  rw [← Array.length_toList, join_cps, List.length_flatten, List.map_map]
  congr 1
theorem sublist_sum {l l' : List Nat} (h : l.Sublist l') : l.sum ≤ l'.sum := by
  induction h with
  | slnil => exact Nat.le_refl _
  | cons a _ ih => rw [List.sum_cons]; lia
  | cons_cons a _ ih => rw [List.sum_cons, List.sum_cons]; lia
theorem lslice_sub {α : Type} (us : List α) (lo hi : Option Int) : (lslice us lo hi none).Sublist us := by
  rw [lslice_plain]
  exact (List.take_sublist ..).trans (List.drop_sublist ..)
end Mine
end

section
namespace Mine
variable {sc : Scope} {mc : List Str}
open PySem PySem.Calls PyProof.Rows
section
variable {G : Gl} {A : Around} {act : Act sc mc} {ρ : LEnv} {d d' e : D} {ds : List D} {n : Nat} {pos : Pos}
theorem Cmp.at {op : CmpOp} {r : Bool} {u v : Value} (h : Cmp G A op d e r) : Cmp G A op (.at u d) (.at v e) r := fun S s va vb I ha hb => by
  obtain ⟨rfl, ia⟩ := ha.atI
  obtain ⟨rfl, ib⟩ := hb.atI
  exact h S s _ _ I ia ib
theorem zipWith_at_get {us : List Value} {ds : List D} {i : Nat} {d : D} (h : (List.zipWith D.at us ds)[i]? = some d) : ∃ u e, d = .at u e ∧ ds[i]? = some e := by
  rw [List.getElem?_zipWith] at h
  cases q : us[i]? with
  | none => rw [q] at h; exact nomatch h
  | some u =>
    cases q' : ds[i]? with
    | none => rw [q, q'] at h; exact nomatch h
    | some e => rw [q, q'] at h; obtain rfl := Option.some.inj h; exact ⟨u, e, rfl, rfl⟩
theorem Run.lay2 {e1 e2 : Expr} {p1 p2 : Pos} {rest : List Stmt} {x y : Str} {k : Nat} {Q : FD → LEnv → Prop} (hxy : x ≠ y) (h1 : EvXA G A act e1 (fun _ => ρ) (fun adr => (x, .own (.list (insAt k (.raw (.ref (adr y))) ds))) :: ρ))
    (h2 : ∀ a, EvX G A act e2 ((x, .own (.list (insAt k (.raw (.ref a)) ds))) :: ρ) ((y, .own d') :: (x, .own (.list (insAt k (.raw (.ref a)) ds))) :: ρ))
    (hrest : Run G A act (execs rest act.env) ((x, .own (.list (insAt k d' ds))) :: (y, .val d') :: ρ) Q) (hs1 : swapsWith e1 none p1.line act.env = pure false := by rfl) (hs2 : swapsWith e2 none p2.line act.env = pure false := by rfl) :
    Run G A act (execs (.Expr e1 p1 :: .Expr e2 p2 :: rest) act.env) ρ Q := fun kp adr S s O => by
  have hs : EvXAs G A act [.Expr e1 p1, .Expr e2 p2] (fun _ => ρ) (fun adr => (y, .own d') :: (x, .own (.list (insAt k (.raw (.ref (adr y))) ds))) :: ρ) :=
    .cons h1 hs1 (.cons (EvXA.of fun adr => h2 (adr y)) hs2 .nil)
  refine EvXAs.run (rest := rest) hs O fun S' s' g O' => ?_
  obtain ⟨S'', g', O''⟩ := O'.plug (x := x) (y := y) (k := k) (ds := ds) (d := d') hxy (by rw [lookup_cons_ne hxy]; exact List.lookup_cons_self) List.lookup_cons_self
  refine wpAny_mono (hrest kp adr S'' s' (O''.weaken fun z l hz => ?_)) (fun _ _ h => h.pre g') fun _ _ e => e
  by_cases q : z = x
  · subst q; simp only [List.lookup_cons_self] at hz ⊢; exact hz
  · rw [lookup_cons_ne q] at hz ⊢
    by_cases q2 : z = y
    · subst q2; simp only [List.lookup_cons_self] at hz ⊢; exact hz
    · rw [lookup_cons_ne q2] at hz ⊢
      rw [lookup_cons_ne q2, lookup_cons_ne q]
      exact hz
end
end Mine
end

section
namespace Mine
open PySem PySem.Calls PyProof.Rows

/- what is looked up in the start heap: the kernel computes it once -/
noncomputable def fnD : Data → Option FuncData
  | .func fd => some fd
  | _ => none
noncomputable def fieldsD : Data → Option (Array Value)
  | .fields vs => some vs
  | _ => none
noncomputable def seqD : Data → Option (List Value × Nat)
  | .seq vs n => some (vs.toList, n)
  | _ => none
noncomputable def dictD : Data → Option (Array DictEntry × Nat)
  | .dict es n => some (es, n)
  | _ => none
theorem fnD_of {d : Data} {x : FuncData} (h : fnD d = some x) : d = .func x := by
  cases d with
  | func fd => exact congrArg _ (Option.some.inj h)
  | _ => exact nomatch h
theorem fieldsD_of {d : Data} {x : Array Value} (h : fieldsD d = some x) : d = .fields x := by
  cases d with
  | fields fd => exact congrArg _ (Option.some.inj h)
  | _ => exact nomatch h
theorem dictD_of {d : Data} {x : Array DictEntry} {n : Nat} (h : dictD d = some (x, n)) : d = .dict x n := by
  cases d with
  | dict es m => obtain ⟨rfl, rfl⟩ := Prod.mk.inj (Option.some.inj h); rfl
  | _ => exact nomatch h
noncomputable abbrev FnLook := Arguments × FuncBody × Scope × Addr × Addr × List (Str × Addr) × Value × Value × Value × Str
noncomputable def fnTup (fd : FuncData) : FnLook := (fd.params, fd.body, fd.scope, fd.globals, fd.builtins, fd.closure, fd.defaults, fd.kwdefaults, fd.code, fd.qualname)
noncomputable def strV : Value → Option Str
  | .str q _ => some q
  | _ => none
theorem strV_of {v : Value} {q : Str} (h : strV v = some q) : ∃ t, v = .str q t := by
  cases v with
  | str x t => exact ⟨t, by rw [Option.some.inj h]⟩
  | _ => exact nomatch h
noncomputable def fnLook (h : Heap) (a c : Addr) : Option FnLook × Option Bool :=
  (((h.get? a).bind fun o => fnD o.data).map fnTup, ((h.get? c).bind fun o => fieldsD o.data).bind fun vs => (vs[1]?).bind fun v => (strV v).bind fun q => ((h.get? a).bind fun o => fnD o.data).map fun fd => PySem.W.Fast.sEq q fd.qualname)
noncomputable def nmLook (h : Heap) (ns : List Str) : Option (List (Option Value)) := ((h.get? mainGlobals).bind fun o => dictD o.data).map fun es => ns.map (nsFind es.1)
noncomputable def isStr : Value → Bool
  | .str _ _ => true
  | _ => false
noncomputable def isInt : Value → Bool
  | .int _ _ => true
  | _ => false
noncomputable def isBool : Value → Bool
  | .bool _ => true
  | _ => false
noncomputable def cdLook (h : Heap) (c : Addr) : Option (Value × Option Value × Value × Bool × Bool × Bool × Bool) := (h.get? c).bind fun o => (fieldsD o.data).map fun vs =>
  (o.cls, vs[11]?, vs.getD 11 .none, isStr (vs.getD 18 .none), isInt (vs.getD 7 .none), isBool (vs.getD 9 .none), isInt (vs.getD 10 .none))
theorem isStr_of {v : Value} (h : isStr v = true) : ∃ x t, v = .str x t := by cases v with | str x t => exact ⟨x, t, rfl⟩ | _ => exact nomatch h
theorem isInt_of {v : Value} (h : isInt v = true) : ∃ x t, v = .int x t := by cases v with | int x t => exact ⟨x, t, rfl⟩ | _ => exact nomatch h
theorem isBool_of {v : Value} (h : isBool v = true) : ∃ x, v = .bool x := by cases v with | bool x => exact ⟨x, rfl⟩ | _ => exact nomatch h
section
variable {h h₁ : Heap} {a c : Addr} {P : Arguments} {B : FuncBody} {S : Scope} {g b : Addr} {cl : List (Str × Addr)} {d k : Value}
theorem bind_of {α β : Type} {o : Option α} {f : α → Option β} {y : β} (e : o.bind f = some y) : ∃ x, o = some x ∧ f x = some y := Option.bind_eq_some_iff.mp e
theorem map_of {α β : Type} {o : Option α} {f : α → β} {y : β} (e : o.map f = some y) : ∃ x, o = some x ∧ f x = y := Option.map_eq_some_iff.mp e
noncomputable def FnIs (h : Heap) (a c : Addr) (x : FnLook) : Prop := ∃ o fd oc vs t, h.get? a = some o ∧ o.data = .func fd ∧ fnTup fd = x ∧ h.get? c = some oc ∧ oc.data = .fields vs ∧ vs[1]? = some (.str fd.qualname t)
theorem fnLook_of {x : FnLook} (e : fnLook h a c = (some x, some true)) : FnIs h a c x := by
  obtain ⟨e1, e2⟩ := Prod.mk.inj e
  obtain ⟨fd, e1, ex⟩ := map_of e1
  obtain ⟨vs, e2, e3⟩ := bind_of e2
  obtain ⟨o, h1, h2⟩ := bind_of e1
  obtain ⟨oc, h3, h4⟩ := bind_of e2
  obtain ⟨v, e3, e4⟩ := bind_of e3
  obtain ⟨q, e4, e5⟩ := bind_of e4
  rw [e1] at e5
  obtain ⟨t, rfl⟩ := strV_of e4
  exact ⟨o, fd, oc, vs, t, h1, fnD_of h2, ex, h3, fieldsD_of h4, PySem.W.Fast.sEq_iff.mp (Option.some.inj e5) ▸ e3⟩
theorem nmLook_of {ns : List Str} {vs : List (Option Value)} {m : Str → Option Value} (keeps : ∀ b o, h.get? b = some o → h₁.get? b = some o) (e : nmLook h ns = some vs) (T : h₁.Ns mainGlobals m) : ns.map m = vs := by
  obtain ⟨es, e0, rfl⟩ := map_of e
  obtain ⟨o, x1, x2⟩ := bind_of e0
  obtain ⟨o', es', ep, ho, hd, _, hf⟩ := T
  obtain rfl := Option.some.inj ((keeps _ _ x1).symm.trans ho)
  have hd' := dictD_of (n := es.2) (x := es.1) x2
  rw [(PySem.Data.dict.inj (hd'.symm.trans hd)).1]
  exact List.map_congr_left fun n _ => (hf n).symm
theorem cdLook_of {P : Addr} (e : cdLook h c = some (.type "code", some (.ref P), .ref P, true, true, true, true)) (hne : c ≠ P) (keeps : ∀ a o, h.get? a = some o → h₁.get? a = some o) : PySem.W.CodeHd h₁ c P := by
  obtain ⟨o, x1, e⟩ := bind_of e
  obtain ⟨vs, x2, e⟩ := map_of e
  obtain ⟨y1, y⟩ := Prod.mk.inj e
  obtain ⟨y2, y⟩ := Prod.mk.inj y
  obtain ⟨y3, y⟩ := Prod.mk.inj y
  obtain ⟨y4, y⟩ := Prod.mk.inj y
  obtain ⟨y5, y⟩ := Prod.mk.inj y
  obtain ⟨y6, y7⟩ := Prod.mk.inj y
  obtain ⟨f, tf, z1⟩ := isStr_of y4
  obtain ⟨g, tg, z2⟩ := isInt_of y5
  obtain ⟨i, z3⟩ := isBool_of y6
  obtain ⟨j, tt, z4⟩ := isInt_of y7
  exact ⟨o, vs, f, tf, g, tg, i, j, tt, keeps _ _ x1, y1, fieldsD_of x2, y2, y3, z1, z2, z3, z4, hne⟩
end
noncomputable def baseOf (h : Heap) (t : Addr) : Fz := fun a => if a = t then none else h.get? a
section
variable {h h₁ : Heap} {t a c : Addr} {o : Obj} {G : Gl}
theorem base_at (hG : G.base = baseOf h t) (e : h.get? a = some o) (ha : a ≠ t) : G.base a = some o := by
  rw [hG]; exact (if_neg ha).trans e
theorem base_of (e : baseOf h t a = some o) : h.get? a = some o := by
  unfold baseOf at e
  split at e
  · exact nomatch e
  · exact e
theorem nsObj_at (hG : G.base = baseOf h t) (keeps : ∀ b o, h.get? b = some o → h₁.get? b = some o) (e : (h.get? a).isSome = true) (ha : a ≠ t) {m : Str → Option Value} (H : h₁.Ns a m) : ∃ o, G.base a = some o ∧ NsObj o m := by
  obtain ⟨o, ho⟩ := Option.isSome_iff_exists.mp e
  obtain ⟨o', es, ep, ho', r⟩ := H
  obtain rfl := Option.some.inj ((keeps _ _ ho).symm.trans ho')
  exact ⟨o, base_at hG ho ha, es, ep, r⟩
theorem fnAt_of {mg : Str → Option Value} {nm : Str} {P : Arguments} {B : List Stmt} {S : Scope} {d k : Value} {q : Str} (hG : G.base = baseOf h t) (hn : mg nm = some (.ref a)) (ha : a ≠ t ∧ c ≠ t)
    (e : fnLook h a c = (some (P, .stmts B, S, mainGlobals, builtinsNs, [], d, k, .ref c, q), some true)) : FnAt G mg nm P B S d k a := by
  obtain ⟨o, fd, oc, vs, tk, h1, h2, h3, h13, h14, h15⟩ := fnLook_of e
  exact ⟨hn, o, fd, base_at hG h1 ha.1, h2, congrArg (fun x : FnLook => x.1) h3, congrArg (fun x : FnLook => x.2.1) h3, congrArg (fun x : FnLook => x.2.2.1) h3, congrArg (fun x : FnLook => x.2.2.2.1) h3, congrArg (fun x : FnLook => x.2.2.2.2.1) h3, congrArg (fun x : FnLook => x.2.2.2.2.2.1) h3,
    congrArg (fun x : FnLook => x.2.2.2.2.2.2.1) h3, congrArg (fun x : FnLook => x.2.2.2.2.2.2.2.1) h3, c, oc, vs, tk, congrArg (fun x : FnLook => x.2.2.2.2.2.2.2.2.1) h3, base_at hG h13 ha.2, h14, h15⟩
end
end Mine
end

section
namespace Mine
open PySem PySem.Calls PyProof.Rows
theorem at_of {α β : Type} {f : α → β} {l : List α} {l' : List β} (e : l.map f = l') (i : Nat) {x : α} {y : β} (h1 : l[i]? = some x) (h2 : l'[i]? = some y) : f x = y := by
  subst e
  rw [List.getElem?_map, h1] at h2
  exact Option.some.inj h2
theorem alls_ints {G : Gl} {S : Fz} : ∀ {vs : List Value} {ns : List Int}, IntsAre vs ns → Alls G S vs (ns.map .int)
  | _, _, .nil => .nil
  | _, _, .cons n t h => .cons (.int n t) (alls_ints h)
theorem finish {prog : Program} {w : World} {s₀ s₁ : Shared} {T : Tab} {hs : ∃ o, baseOf s₀.heap T.P sysModules = some o} {ns : List Int} {vs : List Value} {cd fa a : Addr}
    (keeps : ∀ b o, s₀.heap.get? b = some o → s₁.heap.get? b = some o) (h114 : s₀.heap.get? T.P = some (tabObj #[])) (hps : T.ps₀ = #[]) (hsz : s₀.heap.objs.size = a)
    (hc : PySem.W.CodeHd s₁.heap cd T.P) (hg : s₁.gens = #[]) (hl : s₁.heap.IsList a vs.toArray) (hi : IntsAre vs ns)
    (cl : CallD ⟨prog, w, baseOf s₀.heap T.P, s₁.os, [T], hs⟩ callerA (.ref fa) [.list (ns.map .int)] (.bool true)) :
    wpAny (model prog w) callerA (call (.ref fa) [.ref a]) (fun v s' => v = .bool true ∧ OldK s₁.heap s'.heap ∧ s'.os = s₁.os ∧ AllBare s'.gens) (fun _ _ => False) s₁ := by
  obtain ⟨o, ho, hcl, n, hd⟩ := hl
  let G : Gl := ⟨prog, w, baseOf s₀.heap T.P, s₁.os, [T], hs⟩
  let S : Fz := G.base.put a o
  have b118 : G.base a = none := by
    show baseOf s₀.heap T.P a = none
    unfold baseOf
    split
    · rfl
    · rw [← hsz]; exact Inv.fresh
  have hne : a ≠ T.P := fun e => by
    have := Heap.lt_size h114
    rw [hsz, ← e] at this
    exact Nat.lt_irrefl _ this
  have I : Inv G S s₁ := by
    refine ⟨fun b o' e => ?_, Fz.sub_put b118, fun t ht => ?_, fun t ht => ?_, .of_eq hg, rfl⟩
    · by_cases q : b = a
      · subst q
        have e : (G.base.put b o) b = some o' := e
        rw [Fz.put_self] at e; obtain rfl := Option.some.inj e; exact ho
      · have e : (G.base.put a o) b = some o' := e
        rw [Fz.put_ne _ _ q] at e
        exact keeps _ _ (base_of e)
    · rw [List.mem_singleton.mp ht]
      exact ⟨#[], keeps _ _ h114, .inl hps.symm⟩
    · rw [List.mem_singleton.mp ht]
      show (G.base.put a o) T.P = none
      rw [Fz.put_ne _ _ (Ne.symm hne)]
      exact if_pos rfl
  refine wpAny_mono (cl S s₁ [.ref a] I (.cons (.list (Fz.put_self ..) hcl hd (alls_ints hi)) .nil)) (fun v s' ⟨S', st, i⟩ => ?_) fun _ _ e => e
  obtain ⟨oc, cv, file, tf, flags, tg, inF, text, tt, c1, c2, c3, c4, _⟩ := hc
  refine ⟨by cases i; rfl, ⟨fun b o' e => ?_, fun b o' e => ?_⟩, st.inv.os, st.inv.bare⟩
  all_goals
    by_cases q : b = T.P
    · subst q
      rw [keeps _ _ h114] at e
      obtain rfl := Option.some.inj e
      obtain ⟨ps, hps', _⟩ := st.inv.tab T (.head _)
      first
      | exact ⟨_, hps'⟩
      | (refine .inr (.inl ⟨⟨cd, oc, cv, c1, c2, c3, c4⟩, rfl, #[], ps, rfl, ?_⟩)
         rw [show (#[] ++ ps : Array Value) = ps by simp]
         exact hps')
    · have k := st.keep b o' (fun t ht e' => q (by rw [List.mem_singleton.mp ht] at e'; exact e'.symm)) e
      first
      | exact ⟨o', k⟩
      | exact .inl k
end Mine
end

section
namespace Mine
open PySem PySem.Challenge
noncomputable def nthS : List Stmt → Nat → Option Stmt
  | [], _ => none
  | s :: _, 0 => some s
  | _ :: r, n + 1 => nthS r n
noncomputable def partsS : Option Stmt → Option (Arguments × List Stmt × Scope)
  | some (.FunctionDef _ a b _ _ _ sc _ _ _) => some (a, b, sc)
  | _ => none
theorem nthS0 (s : Stmt) (r : List Stmt) : nthS (s :: r) 0 = some s := rfl
theorem nthS1 (s : Stmt) (r : List Stmt) (n : Nat) : nthS (s :: r) (n + 1) = nthS r n := rfl
noncomputable abbrev PartsAt (n : Nat) := Σ' t : Arguments × List Stmt × Scope, partsS (nthS pw_xh0025_02.main.body n) = some t
noncomputable abbrev add_func_stats_S : PartsAt 1 := by
  dsimp only [PartsAt, pw_xh0025_02, nthS0, nthS1, partsS]
  exact ⟨_, rfl⟩
noncomputable abbrev add_func_stats_p : Arguments := add_func_stats_S.1.1
noncomputable abbrev add_func_stats_b : List Stmt := add_func_stats_S.1.2.1
noncomputable abbrev add_func_stats_s : Scope := add_func_stats_S.1.2.2
noncomputable abbrev add_callers_S : PartsAt 2 := by
  dsimp only [PartsAt, pw_xh0025_02, nthS0, nthS1, partsS]
  exact ⟨_, rfl⟩
noncomputable abbrev add_callers_p : Arguments := add_callers_S.1.1
noncomputable abbrev add_callers_b : List Stmt := add_callers_S.1.2.1
noncomputable abbrev add_callers_s : Scope := add_callers_S.1.2.2
noncomputable abbrev count_calls_S : PartsAt 3 := by
  dsimp only [PartsAt, pw_xh0025_02, nthS0, nthS1, partsS]
  exact ⟨_, rfl⟩
noncomputable abbrev count_calls_p : Arguments := count_calls_S.1.1
noncomputable abbrev count_calls_b : List Stmt := count_calls_S.1.2.1
noncomputable abbrev count_calls_s : Scope := count_calls_S.1.2.2
noncomputable abbrev insort_right_S : PartsAt 5 := by
  dsimp only [PartsAt, pw_xh0025_02, nthS0, nthS1, partsS]
  exact ⟨_, rfl⟩
noncomputable abbrev insort_right_p : Arguments := insort_right_S.1.1
noncomputable abbrev insort_right_b : List Stmt := insort_right_S.1.2.1
noncomputable abbrev insort_right_s : Scope := insort_right_S.1.2.2
noncomputable abbrev bisect_right_S : PartsAt 6 := by
  dsimp only [PartsAt, pw_xh0025_02, nthS0, nthS1, partsS]
  exact ⟨_, rfl⟩
noncomputable abbrev bisect_right_p : Arguments := bisect_right_S.1.1
noncomputable abbrev bisect_right_b : List Stmt := bisect_right_S.1.2.1
noncomputable abbrev bisect_right_s : Scope := bisect_right_S.1.2.2
noncomputable abbrev insort_left_S : PartsAt 7 := by
  dsimp only [PartsAt, pw_xh0025_02, nthS0, nthS1, partsS]
  exact ⟨_, rfl⟩
noncomputable abbrev insort_left_p : Arguments := insort_left_S.1.1
noncomputable abbrev insort_left_b : List Stmt := insort_left_S.1.2.1
noncomputable abbrev insort_left_s : Scope := insort_left_S.1.2.2
noncomputable abbrev bisect_left_S : PartsAt 8 := by
  dsimp only [PartsAt, pw_xh0025_02, nthS0, nthS1, partsS]
  exact ⟨_, rfl⟩
noncomputable abbrev bisect_left_p : Arguments := bisect_left_S.1.1
noncomputable abbrev bisect_left_b : List Stmt := bisect_left_S.1.2.1
noncomputable abbrev bisect_left_s : Scope := bisect_left_S.1.2.2
noncomputable abbrev iter_escaped_chars_S : PartsAt 10 := by
  dsimp only [PartsAt, pw_xh0025_02, nthS0, nthS1, partsS]
  exact ⟨_, rfl⟩
noncomputable abbrev iter_escaped_chars_p : Arguments := iter_escaped_chars_S.1.1
noncomputable abbrev iter_escaped_chars_b : List Stmt := iter_escaped_chars_S.1.2.1
noncomputable abbrev iter_escaped_chars_s : Scope := iter_escaped_chars_S.1.2.2
noncomputable abbrev strip_quoted_realnames_S : PartsAt 11 := by
  dsimp only [PartsAt, pw_xh0025_02, nthS0, nthS1, partsS]
  exact ⟨_, rfl⟩
noncomputable abbrev strip_quoted_realnames_p : Arguments := strip_quoted_realnames_S.1.1
noncomputable abbrev strip_quoted_realnames_b : List Stmt := strip_quoted_realnames_S.1.2.1
noncomputable abbrev strip_quoted_realnames_s : Scope := strip_quoted_realnames_S.1.2.2
noncomputable abbrev check_parenthesis_S : PartsAt 12 := by
  dsimp only [PartsAt, pw_xh0025_02, nthS0, nthS1, partsS]
  exact ⟨_, rfl⟩
noncomputable abbrev check_parenthesis_p : Arguments := check_parenthesis_S.1.1
noncomputable abbrev check_parenthesis_b : List Stmt := check_parenthesis_S.1.2.1
noncomputable abbrev check_parenthesis_s : Scope := check_parenthesis_S.1.2.2
noncomputable abbrev law_write_S : PartsAt 14 := by
  dsimp only [PartsAt, pw_xh0025_02, nthS0, nthS1, partsS]
  exact ⟨_, rfl⟩
noncomputable abbrev law_write_p : Arguments := law_write_S.1.1
noncomputable abbrev law_write_b : List Stmt := law_write_S.1.2.1
noncomputable abbrev law_write_s : Scope := law_write_S.1.2.2
noncomputable abbrev law_read_S : PartsAt 15 := by
  dsimp only [PartsAt, pw_xh0025_02, nthS0, nthS1, partsS]
  exact ⟨_, rfl⟩
noncomputable abbrev law_read_p : Arguments := law_read_S.1.1
noncomputable abbrev law_read_b : List Stmt := law_read_S.1.2.1
noncomputable abbrev law_read_s : Scope := law_read_S.1.2.2
noncomputable abbrev law_sums_S : PartsAt 16 := by
  dsimp only [PartsAt, pw_xh0025_02, nthS0, nthS1, partsS]
  exact ⟨_, rfl⟩
noncomputable abbrev law_sums_p : Arguments := law_sums_S.1.1
noncomputable abbrev law_sums_b : List Stmt := law_sums_S.1.2.1
noncomputable abbrev law_sums_s : Scope := law_sums_S.1.2.2
noncomputable abbrev law_ways_S : PartsAt 17 := by
  dsimp only [PartsAt, pw_xh0025_02, nthS0, nthS1, partsS]
  exact ⟨_, rfl⟩
noncomputable abbrev law_ways_p : Arguments := law_ways_S.1.1
noncomputable abbrev law_ways_b : List Stmt := law_ways_S.1.2.1
noncomputable abbrev law_ways_s : Scope := law_ways_S.1.2.2
noncomputable abbrev law_S : PartsAt 18 := by
  dsimp only [PartsAt, pw_xh0025_02, nthS0, nthS1, partsS]
  exact ⟨_, rfl⟩
noncomputable abbrev law_p : Arguments := law_S.1.1
noncomputable abbrev law_b : List Stmt := law_S.1.2.1
noncomputable abbrev law_s : Scope := law_S.1.2.2
end Mine
end

section
namespace Mine
open PySem PySem.Challenge PySem.Calls PyProof.Rows
section
variable {G : Gl} {A : Around} {n : Nat} {mg mb : Str → Option Value} {ds : List D} {x hiD : D} {lo hi c : Int}
noncomputable def clampTo (lo hi c : Int) : Int := max lo (min hi c)
theorem mid_lo {l h : Int} (q : l < h) : l ≤ (l + h) / 2 := by omega
theorem mid_hi {l h : Int} (q : l < h) : (l + h) / 2 < h := by omega
theorem toNat_lt {m h : Int} {n : Nat} (a : 0 ≤ m) (q : m < h) (r : h ≤ n) : m.toNat < n := by omega
theorem small_mid {m h : Int} {n : Nat} (q : m < h) (r : h ≤ n) (z : n ≤ 1000) : m < 2 ^ 63 := by omega
theorem clamp_up {l h c m : Int} (a : l ≤ m) (b : m < h) (q : m < c) : clampTo (m + 1) h c = clampTo l h c := by unfold clampTo; omega
theorem clamp_dn {l h c m : Int} (a : l ≤ m) (b : m < h) (q : c ≤ m) : clampTo l m c = clampTo l h c := by unfold clampTo; omega
theorem clamp_end {l h c : Int} (q : ¬ l < h) : clampTo l h c = l := by unfold clampTo; omega
theorem less_up {l h m : Int} (a : l ≤ m) (b : m < h) : (h - (m + 1)).toNat < (h - l).toNat := by omega
theorem less_dn {l h m : Int} (a : l ≤ m) (b : m < h) : (m - l).toNat < (h - l).toNat := by omega
theorem run_bisect_left (hA : Room n A) (N : Names G mg mb) (hlen : mg "len" = none ∧ mb "len" = some (.builtin "len")) (hn : ds.length ≤ 1000) (h0 : 0 ≤ lo) (hhi : hiD = .int hi ∨ (hiD = .none ∧ hi = ds.length)) (hle : hi ≤ ds.length) (hc : c ≤ ds.length)
    (p : ∀ i : Nat, ∀ d, ds[i]? = some d → Cmp G A .Lt d x (decide ((i : Int) < c))) (act : Act bisect_left_s (cellNames bisect_left_s.names)) :
    Run G A act (execs bisect_left_b act.env) (zipEnv ["a", "x", "lo", "hi", "key"] [.list ds, x, .int lo, hiD, .none]) fun fd _ => fd = .ret (.int (clampTo lo hi c)) := by
  unfold bisect_left_b
  refine Run.cons (Run.ite (b := false) ?_ (fun h => nomatch h) fun _ => Run.nil ?_)
  · refine Te.eq (Te.cmp (Ev.name rfl) (Ev.int 0) Cmp.lt) ?_
    exact decide_eq_false (by lia)
  refine Run.cons (Run.mono (Q := fun fd ρ => fd = .next ∧ Has ρ [("a", .val (.list ds)), ("x", .val x), ("lo", .val (.int lo)), ("hi", .val (.int hi)), ("key", .val .none)]) ?_ ?_)
  · refine Run.ite (Te.cmp (Ev.name rfl) Ev.none Cmp.isNone) (fun h => ?_) fun h => Run.nil ?_
    · rcases hhi with rfl | ⟨rfl, rfl⟩
      · cases h
      · refine Run.cons (Run.assign (Ev.call (EvV.blt N rfl hlen.1 hlen.2) (.builtin _) (.more (Ev.name rfl) .nil) (CallD.lenL (Nat.le_trans hn (by decide)))) (by decide) (Run.nil ⟨rfl, ?_⟩))
        exact Has.of rfl
    · rcases hhi with rfl | ⟨rfl, rfl⟩
      · exact ⟨rfl, Has.of rfl⟩
      · cases h
  rintro fd ρ ⟨rfl, hρ⟩
  refine Run.has ?_ hρ
  refine Run.cons (Run.mono (Q := fun fd ρ => fd = .next ∧ Has ρ [("lo", .val (.int (clampTo lo hi c)))]) ?_ ?_)
  · refine Run.ite (b := true) (Te.cmp (Ev.name rfl) Ev.none Cmp.isNone) (fun h => ?_) (fun h => nomatch h)
    refine Run.cons (Run.loop (fun a : Int × Int => [("a", .val (.list ds)), ("x", .val x), ("lo", .val (.int a.1)), ("hi", .val (.int a.2)), ("key", .val .none)])
      (fun a => 0 ≤ a.1 ∧ a.2 ≤ ds.length ∧ clampTo a.1 a.2 c = clampTo lo hi c) (fun a => (a.2 - a.1).toNat) (lo, hi) ⟨h0, hle, rfl⟩ (Has.of rfl) ?_)
    rintro ⟨l, h⟩ ⟨i0, i1, i2⟩
    refine ⟨decide (l < h), Te.cmp (Ev.name rfl) (Ev.name rfl) Cmp.lt, fun hb => ?_, fun hb ρ' hρ' => Run.nil ⟨rfl, ?_⟩⟩
    · have hb : l < h := of_decide_eq_true hb
      have m1 := mid_lo hb
      have m2 := mid_hi hb
      have m0 := Int.le_trans i0 m1
      have hm : ((l + h) / 2).toNat < ds.length := toNat_lt m0 m2 i1
      refine Run.cons (Run.assign (Ev.bin (Ev.bin (Ev.name rfl) (Ev.name rfl) Op2.add) (Ev.int 2) (Op2.fdiv (by decide) (by decide))) (by decide) ?_)
      refine Run.cons (Run.ite (b := decide ((l + h) / 2 < c)) ?_ (fun hb => ?_) fun hb => ?_)
      · refine Te.eq (Te.cmp (Ev.sub (Ev.name rfl) (Ev.name rfl) (SubD.list m0 (small_mid m2 i1 hn) (List.getElem?_eq_getElem hm))) (Ev.name rfl) (p _ _ (List.getElem?_eq_getElem hm))) ?_
        rw [Int.toNat_of_nonneg m0]
      · refine Run.cons (Run.assign (Ev.bin (Ev.name rfl) (Ev.int 1) Op2.add) (by decide) (Run.nil (Run.nil ⟨((l + h) / 2 + 1, h), ⟨?_, i1, ?_⟩, ?_, Has.of rfl⟩)))
        · exact Int.le_trans m0 (Int.le_add_one (Int.le_refl _))
        · exact (clamp_up m1 m2 (of_decide_eq_true hb)).trans i2
        · exact less_up m1 m2
      · refine Run.cons (Run.assign (Ev.name rfl) (by decide) (Run.nil (Run.nil ⟨(l, (l + h) / 2), ⟨i0, ?_, ?_⟩, ?_, Has.of rfl⟩)))
        · exact Int.le_trans (Int.le_of_lt m2) i1
        · exact (clamp_dn m1 m2 (Int.not_lt.mp (of_decide_eq_false hb))).trans i2
        · exact less_dn m1 m2
    · rw [i2.symm.trans (clamp_end (of_decide_eq_false hb))]
      exact ⟨hρ'.2.2.1, trivial⟩
  rintro fd ρ ⟨rfl, hρ⟩
  refine Run.has ?_ hρ
  exact Run.cons (Run.ret (Ev.name rfl) rfl)
theorem run_bisect_right (hA : Room n A) (N : Names G mg mb) (hlen : mg "len" = none ∧ mb "len" = some (.builtin "len")) (hn : ds.length ≤ 1000) (h0 : 0 ≤ lo) (hhi : hiD = .int hi ∨ (hiD = .none ∧ hi = ds.length)) (hle : hi ≤ ds.length) (hc : c ≤ ds.length)
    (p : ∀ i : Nat, ∀ d, ds[i]? = some d → Cmp G A .Lt x d (decide (c ≤ (i : Int)))) (act : Act bisect_right_s (cellNames bisect_right_s.names)) :
    Run G A act (execs bisect_right_b act.env) (zipEnv ["a", "x", "lo", "hi", "key"] [.list ds, x, .int lo, hiD, .none]) fun fd _ => fd = .ret (.int (clampTo lo hi c)) := by
  unfold bisect_right_b
  refine Run.cons (Run.ite (b := false) ?_ (fun h => nomatch h) fun _ => Run.nil ?_)
  · refine Te.eq (Te.cmp (Ev.name rfl) (Ev.int 0) Cmp.lt) ?_
    exact decide_eq_false (by lia)
  refine Run.cons (Run.mono (Q := fun fd ρ => fd = .next ∧ Has ρ [("a", .val (.list ds)), ("x", .val x), ("lo", .val (.int lo)), ("hi", .val (.int hi)), ("key", .val .none)]) ?_ ?_)
  · refine Run.ite (Te.cmp (Ev.name rfl) Ev.none Cmp.isNone) (fun h => ?_) fun h => Run.nil ?_
    · rcases hhi with rfl | ⟨rfl, rfl⟩
      · cases h
      · refine Run.cons (Run.assign (Ev.call (EvV.blt N rfl hlen.1 hlen.2) (.builtin _) (.more (Ev.name rfl) .nil) (CallD.lenL (Nat.le_trans hn (by decide)))) (by decide) (Run.nil ⟨rfl, ?_⟩))
        exact Has.of rfl
    · rcases hhi with rfl | ⟨rfl, rfl⟩
      · exact ⟨rfl, Has.of rfl⟩
      · cases h
  rintro fd ρ ⟨rfl, hρ⟩
  refine Run.has ?_ hρ
  refine Run.cons (Run.mono (Q := fun fd ρ => fd = .next ∧ Has ρ [("lo", .val (.int (clampTo lo hi c)))]) ?_ ?_)
  · refine Run.ite (b := true) (Te.cmp (Ev.name rfl) Ev.none Cmp.isNone) (fun h => ?_) (fun h => nomatch h)
    refine Run.cons (Run.loop (fun a : Int × Int => [("a", .val (.list ds)), ("x", .val x), ("lo", .val (.int a.1)), ("hi", .val (.int a.2)), ("key", .val .none)])
      (fun a => 0 ≤ a.1 ∧ a.2 ≤ ds.length ∧ clampTo a.1 a.2 c = clampTo lo hi c) (fun a => (a.2 - a.1).toNat) (lo, hi) ⟨h0, hle, rfl⟩ (Has.of rfl) ?_)
    rintro ⟨l, h⟩ ⟨i0, i1, i2⟩
    refine ⟨decide (l < h), Te.cmp (Ev.name rfl) (Ev.name rfl) Cmp.lt, fun hb => ?_, fun hb ρ' hρ' => Run.nil ⟨rfl, ?_⟩⟩
    · have hb : l < h := of_decide_eq_true hb
      have m1 := mid_lo hb
      have m2 := mid_hi hb
      have m0 := Int.le_trans i0 m1
      have hm : ((l + h) / 2).toNat < ds.length := toNat_lt m0 m2 i1
      refine Run.cons (Run.assign (Ev.bin (Ev.bin (Ev.name rfl) (Ev.name rfl) Op2.add) (Ev.int 2) (Op2.fdiv (by decide) (by decide))) (by decide) ?_)
      refine Run.cons (Run.ite (b := decide (c ≤ (l + h) / 2)) ?_ (fun hb => ?_) fun hb => ?_)
      · refine Te.eq (Te.cmp (Ev.name rfl) (Ev.sub (Ev.name rfl) (Ev.name rfl) (SubD.list m0 (small_mid m2 i1 hn) (List.getElem?_eq_getElem hm))) (p _ _ (List.getElem?_eq_getElem hm))) ?_
        rw [Int.toNat_of_nonneg m0]
      · refine Run.cons (Run.assign (Ev.name rfl) (by decide) (Run.nil (Run.nil ⟨(l, (l + h) / 2), ⟨i0, ?_, ?_⟩, ?_, Has.of rfl⟩)))
        · exact Int.le_trans (Int.le_of_lt m2) i1
        · exact (clamp_dn m1 m2 (of_decide_eq_true hb)).trans i2
        · exact less_dn m1 m2
      · refine Run.cons (Run.assign (Ev.bin (Ev.name rfl) (Ev.int 1) Op2.add) (by decide) (Run.nil (Run.nil ⟨((l + h) / 2 + 1, h), ⟨?_, i1, ?_⟩, ?_, Has.of rfl⟩)))
        · exact Int.le_trans m0 (Int.le_add_one (Int.le_refl _))
        · exact (clamp_up m1 m2 (Int.not_le.mp (of_decide_eq_false hb))).trans i2
        · exact less_up m1 m2
    · rw [i2.symm.trans (clamp_end (of_decide_eq_false hb))]
      exact ⟨hρ'.2.2.1, trivial⟩
  rintro fd ρ ⟨rfl, hρ⟩
  refine Run.has ?_ hρ
  exact Run.cons (Run.ret (Ev.name rfl) rfl)
end
end Mine
end

section
namespace Mine
open PySem PySem.Challenge PySem.Calls PyProof.Rows
structure Dfl (G : Gl) (T K : Addr) : Prop where
  t : ∃ n tk, G.base T = some { cls := .type "tuple", data := .seq #[.int 0 tk, .none] n }
  k : ∃ h tk ep, G.base K = some { cls := .type "dict", data := .dict #[{ hash := h, key := .str "key" tk, val := .none }] ep }
set_option tactic.hygienic true in
theorem frag2 {a b : Addr} {o p : Obj} {h : Heap} (h1 : h.get? a = some o) (h2 : h.get? b = some p) : PySem.W.Frag.In [(a, o), (b, p)] h := fun c q e => by
  simp only [List.lookup] at e
  split at e
  · rename_i hc; obtain rfl := Option.some.inj e; rw [eq_of_beq hc]; exact h1
  · split at e
    · rename_i hc; obtain rfl := Option.some.inj e; rw [eq_of_beq hc]; exact h2
    · exact nomatch e
structure Mod (G : Gl) (mg mb : Str → Option Value) : Prop where
  N : Names G mg mb
  b_len : mg "len" = none ∧ mb "len" = some (.builtin "len")
  b_range : mg "range" = none ∧ mb "range" = some (.type "range")
  b_list : mg "list" = none ∧ mb "list" = some (.type "list")
  b_dict : mg "dict" = none ∧ mb "dict" = some (.type "dict")
  b_sorted : mg "sorted" = none ∧ mb "sorted" = some (.builtin "sorted")
  b_sum : mg "sum" = none ∧ mb "sum" = some (.builtin "sum")
  b_max : mg "max" = none ∧ mb "max" = some (.builtin "max")
  b_min : mg "min" = none ∧ mb "min" = some (.builtin "min")
  b_int : mg "int" = none ∧ mb "int" = some (.type "int")
  b_isinstance : mg "isinstance" = none ∧ mb "isinstance" = some (.builtin "isinstance")
  b_tuple : mg "tuple" = none ∧ mb "tuple" = some (.type "tuple")
  b_str : mg "str" = none ∧ mb "str" = some (.type "str")
  b_enumerate : mg "enumerate" = none ∧ mb "enumerate" = some (.type "enumerate")
  b_zip : mg "zip" = none ∧ mb "zip" = some (.type "zip")
  b_ValueError : mg "ValueError" = none ∧ mb "ValueError" = some (.type "ValueError")
  f_iter_escaped_chars : FnAt G mg "_iter_escaped_chars" iter_escaped_chars_p iter_escaped_chars_b iter_escaped_chars_s .none .none 78
  f_strip_quoted_realnames : FnAt G mg "_strip_quoted_realnames" strip_quoted_realnames_p strip_quoted_realnames_b strip_quoted_realnames_s .none .none 85
  f_check_parenthesis : FnAt G mg "_check_parenthesis" check_parenthesis_p check_parenthesis_b check_parenthesis_s .none .none 92
  f_insort_right : FnAt G mg "insort_right" insort_right_p insort_right_b insort_right_s (.ref 36) (.ref 37) 44
  f_bisect_right : FnAt G mg "bisect_right" bisect_right_p bisect_right_b bisect_right_s (.ref 45) (.ref 46) 53
  f_insort_left : FnAt G mg "insort_left" insort_left_p insort_left_b insort_left_s (.ref 54) (.ref 55) 62
  f_bisect_left : FnAt G mg "bisect_left" bisect_left_p bisect_left_b bisect_left_s (.ref 63) (.ref 64) 71
  f_add_func_stats : FnAt G mg "add_func_stats" add_func_stats_p add_func_stats_b add_func_stats_s .none .none 21
  f_add_callers : FnAt G mg "add_callers" add_callers_p add_callers_b add_callers_s .none .none 28
  f_count_calls : FnAt G mg "count_calls" count_calls_p count_calls_b count_calls_s .none .none 35
  f_law_write : FnAt G mg "_law_write" law_write_p law_write_b law_write_s .none .none 97
  f_law_read : FnAt G mg "_law_read" law_read_p law_read_b law_read_s .none .none 102
  f_law_sums : FnAt G mg "_law_sums" law_sums_p law_sums_b law_sums_s .none .none 107
  f_law_ways : FnAt G mg "_law_ways" law_ways_p law_ways_b law_ways_s .none .none 112
  f_law : FnAt G mg "law" law_p law_b law_s .none .none 117
  d_insort_right : Dfl G 36 37
  d_bisect_right : Dfl G 45 46
  d_insort_left : Dfl G 54 55
  d_bisect_left : Dfl G 63 64
section
variable {G : Gl} {A : Around} {S : Fz} {s : Shared} {a x lo hi : Value} {tk : Tok} {n : Nat}
theorem bind_insort_right2 (ht : G.base 36 = some { cls := .type "tuple", data := .seq #[.int 0 tk, .none] n }) (D : Dfl G 36 37) (fd : FuncData) (h1 : fd.params = insort_right_p) (h2 : fd.defaults = .ref 36) (h3 : fd.kwdefaults = .ref 37) (I : Inv G S s) :
    BindsTo s fd ⟨[a, x], []⟩ [("a", a), ("x", x), ("lo", (.int 0 tk)), ("hi", .none), ("key", .none)] := by
  obtain ⟨hh, tk', ep, ho'⟩ := D.k
  obtain ⟨nm, qn, ps, bd, sc, gl, cl, df, kd, doc, mo, an, cd, ct, bl⟩ := fd
  simp only at h1 h2 h3
  subst h1 h2 h3
  exact PySem.W.kp_binds (frag2 (I.sub _ _ (I.base _ _ ht)) (I.sub _ _ (I.base _ _ ho'))) fun S => rfl
theorem bind_insort_right3 (ht : G.base 36 = some { cls := .type "tuple", data := .seq #[.int 0 tk, .none] n }) (D : Dfl G 36 37) (fd : FuncData) (h1 : fd.params = insort_right_p) (h2 : fd.defaults = .ref 36) (h3 : fd.kwdefaults = .ref 37) (I : Inv G S s) :
    BindsTo s fd ⟨[a, x, lo], []⟩ [("a", a), ("x", x), ("lo", lo), ("hi", .none), ("key", .none)] := by
  obtain ⟨hh, tk', ep, ho'⟩ := D.k
  obtain ⟨nm, qn, ps, bd, sc, gl, cl, df, kd, doc, mo, an, cd, ct, bl⟩ := fd
  simp only at h1 h2 h3
  subst h1 h2 h3
  exact PySem.W.kp_binds (frag2 (I.sub _ _ (I.base _ _ ht)) (I.sub _ _ (I.base _ _ ho'))) fun S => rfl
theorem bind_bisect_right2 (ht : G.base 45 = some { cls := .type "tuple", data := .seq #[.int 0 tk, .none] n }) (D : Dfl G 45 46) (fd : FuncData) (h1 : fd.params = bisect_right_p) (h2 : fd.defaults = .ref 45) (h3 : fd.kwdefaults = .ref 46) (I : Inv G S s) :
    BindsTo s fd ⟨[a, x], []⟩ [("a", a), ("x", x), ("lo", (.int 0 tk)), ("hi", .none), ("key", .none)] := by
  obtain ⟨hh, tk', ep, ho'⟩ := D.k
  obtain ⟨nm, qn, ps, bd, sc, gl, cl, df, kd, doc, mo, an, cd, ct, bl⟩ := fd
  simp only at h1 h2 h3
  subst h1 h2 h3
  exact PySem.W.kp_binds (frag2 (I.sub _ _ (I.base _ _ ht)) (I.sub _ _ (I.base _ _ ho'))) fun S => rfl
theorem bind_bisect_right3 (ht : G.base 45 = some { cls := .type "tuple", data := .seq #[.int 0 tk, .none] n }) (D : Dfl G 45 46) (fd : FuncData) (h1 : fd.params = bisect_right_p) (h2 : fd.defaults = .ref 45) (h3 : fd.kwdefaults = .ref 46) (I : Inv G S s) :
    BindsTo s fd ⟨[a, x, lo], []⟩ [("a", a), ("x", x), ("lo", lo), ("hi", .none), ("key", .none)] := by
  obtain ⟨hh, tk', ep, ho'⟩ := D.k
  obtain ⟨nm, qn, ps, bd, sc, gl, cl, df, kd, doc, mo, an, cd, ct, bl⟩ := fd
  simp only at h1 h2 h3
  subst h1 h2 h3
  exact PySem.W.kp_binds (frag2 (I.sub _ _ (I.base _ _ ht)) (I.sub _ _ (I.base _ _ ho'))) fun S => rfl
theorem bind_bisect_right4 (ht : G.base 45 = some { cls := .type "tuple", data := .seq #[.int 0 tk, .none] n }) (D : Dfl G 45 46) (fd : FuncData) (h1 : fd.params = bisect_right_p) (h2 : fd.defaults = .ref 45) (h3 : fd.kwdefaults = .ref 46) (I : Inv G S s) :
    BindsTo s fd ⟨[a, x, lo, hi], []⟩ [("a", a), ("x", x), ("lo", lo), ("hi", hi), ("key", .none)] := by
  obtain ⟨hh, tk', ep, ho'⟩ := D.k
  obtain ⟨nm, qn, ps, bd, sc, gl, cl, df, kd, doc, mo, an, cd, ct, bl⟩ := fd
  simp only at h1 h2 h3
  subst h1 h2 h3
  exact PySem.W.kp_binds (frag2 (I.sub _ _ (I.base _ _ ht)) (I.sub _ _ (I.base _ _ ho'))) fun S => rfl
theorem bind_insort_left2 (ht : G.base 54 = some { cls := .type "tuple", data := .seq #[.int 0 tk, .none] n }) (D : Dfl G 54 55) (fd : FuncData) (h1 : fd.params = insort_left_p) (h2 : fd.defaults = .ref 54) (h3 : fd.kwdefaults = .ref 55) (I : Inv G S s) :
    BindsTo s fd ⟨[a, x], []⟩ [("a", a), ("x", x), ("lo", (.int 0 tk)), ("hi", .none), ("key", .none)] := by
  obtain ⟨hh, tk', ep, ho'⟩ := D.k
  obtain ⟨nm, qn, ps, bd, sc, gl, cl, df, kd, doc, mo, an, cd, ct, bl⟩ := fd
  simp only at h1 h2 h3
  subst h1 h2 h3
  exact PySem.W.kp_binds (frag2 (I.sub _ _ (I.base _ _ ht)) (I.sub _ _ (I.base _ _ ho'))) fun S => rfl
theorem bind_insort_left3 (ht : G.base 54 = some { cls := .type "tuple", data := .seq #[.int 0 tk, .none] n }) (D : Dfl G 54 55) (fd : FuncData) (h1 : fd.params = insort_left_p) (h2 : fd.defaults = .ref 54) (h3 : fd.kwdefaults = .ref 55) (I : Inv G S s) :
    BindsTo s fd ⟨[a, x, lo], []⟩ [("a", a), ("x", x), ("lo", lo), ("hi", .none), ("key", .none)] := by
  obtain ⟨hh, tk', ep, ho'⟩ := D.k
  obtain ⟨nm, qn, ps, bd, sc, gl, cl, df, kd, doc, mo, an, cd, ct, bl⟩ := fd
  simp only at h1 h2 h3
  subst h1 h2 h3
  exact PySem.W.kp_binds (frag2 (I.sub _ _ (I.base _ _ ht)) (I.sub _ _ (I.base _ _ ho'))) fun S => rfl
theorem bind_bisect_left2 (ht : G.base 63 = some { cls := .type "tuple", data := .seq #[.int 0 tk, .none] n }) (D : Dfl G 63 64) (fd : FuncData) (h1 : fd.params = bisect_left_p) (h2 : fd.defaults = .ref 63) (h3 : fd.kwdefaults = .ref 64) (I : Inv G S s) :
    BindsTo s fd ⟨[a, x], []⟩ [("a", a), ("x", x), ("lo", (.int 0 tk)), ("hi", .none), ("key", .none)] := by
  obtain ⟨hh, tk', ep, ho'⟩ := D.k
  obtain ⟨nm, qn, ps, bd, sc, gl, cl, df, kd, doc, mo, an, cd, ct, bl⟩ := fd
  simp only at h1 h2 h3
  subst h1 h2 h3
  exact PySem.W.kp_binds (frag2 (I.sub _ _ (I.base _ _ ht)) (I.sub _ _ (I.base _ _ ho'))) fun S => rfl
theorem bind_bisect_left3 (ht : G.base 63 = some { cls := .type "tuple", data := .seq #[.int 0 tk, .none] n }) (D : Dfl G 63 64) (fd : FuncData) (h1 : fd.params = bisect_left_p) (h2 : fd.defaults = .ref 63) (h3 : fd.kwdefaults = .ref 64) (I : Inv G S s) :
    BindsTo s fd ⟨[a, x, lo], []⟩ [("a", a), ("x", x), ("lo", lo), ("hi", .none), ("key", .none)] := by
  obtain ⟨hh, tk', ep, ho'⟩ := D.k
  obtain ⟨nm, qn, ps, bd, sc, gl, cl, df, kd, doc, mo, an, cd, ct, bl⟩ := fd
  simp only at h1 h2 h3
  subst h1 h2 h3
  exact PySem.W.kp_binds (frag2 (I.sub _ _ (I.base _ _ ht)) (I.sub _ _ (I.base _ _ ho'))) fun S => rfl
theorem bind_bisect_left4 (ht : G.base 63 = some { cls := .type "tuple", data := .seq #[.int 0 tk, .none] n }) (D : Dfl G 63 64) (fd : FuncData) (h1 : fd.params = bisect_left_p) (h2 : fd.defaults = .ref 63) (h3 : fd.kwdefaults = .ref 64) (I : Inv G S s) :
    BindsTo s fd ⟨[a, x, lo, hi], []⟩ [("a", a), ("x", x), ("lo", lo), ("hi", hi), ("key", .none)] := by
  obtain ⟨hh, tk', ep, ho'⟩ := D.k
  obtain ⟨nm, qn, ps, bd, sc, gl, cl, df, kd, doc, mo, an, cd, ct, bl⟩ := fd
  simp only at h1 h2 h3
  subst h1 h2 h3
  exact PySem.W.kp_binds (frag2 (I.sub _ _ (I.base _ _ ht)) (I.sub _ _ (I.base _ _ ho'))) fun S => rfl
end
section
variable {G : Gl} {A : Around} {n : Nat} {mg mb : Str → Option Value} {ds : List D} {x hiD : D} {lo hi c : Int}
theorem call_bisect_left2 (M : Mod G mg mb) (hA : Room (n + 1) A) (hn : ds.length ≤ 1000)  (hc : c ≤ ds.length)
    (p : ∀ A' (i : Nat) d, ds[i]? = some d → Room n A' → Cmp G A' .Lt d x (decide ((i : Int) < c))) : CallD G A (.ref 71) [.list ds, x] (.int (clampTo 0 ds.length c)) := by
  obtain ⟨m, tk, ht⟩ := M.d_bisect_left.t
  refine CallD.fn (n := n) (xs := ["a", "x", "lo", "hi", "key"]) M.f_bisect_left M.N hA (by decide) (by decide) [("lo", .int 0 tk, .int 0), ("hi", .none, .none), ("key", .none, .none)] rfl (fun vs fd S s hl h1 h2 h3 I => ?_) (fun S s I => .cons (.int ..) (.cons (.none) (.cons (.none) (.nil)))) fun act => ?_
  · obtain ⟨a0, a1, rfl⟩ := len2 hl
    exact bind_bisect_left2 ht M.d_bisect_left fd h1 h2 h3 I
  · exact (run_bisect_left (hA.deeper act.env) M.N M.b_len hn (Int.le_refl 0) (.inr ⟨rfl, rfl⟩) (Int.le_refl _) hc (fun i d hd => p _ i d hd (hA.deeper act.env)) act).mono fun fd _ e => by rw [e]; rfl
theorem call_bisect_left3 (M : Mod G mg mb) (hA : Room (n + 1) A) (hn : ds.length ≤ 1000) (h0 : 0 ≤ lo) (hc : c ≤ ds.length)
    (p : ∀ A' (i : Nat) d, ds[i]? = some d → Room n A' → Cmp G A' .Lt d x (decide ((i : Int) < c))) : CallD G A (.ref 71) [.list ds, x, .int lo] (.int (clampTo lo ds.length c)) := by
  obtain ⟨m, tk, ht⟩ := M.d_bisect_left.t
  refine CallD.fn (n := n) (xs := ["a", "x", "lo", "hi", "key"]) M.f_bisect_left M.N hA (by decide) (by decide) [("hi", .none, .none), ("key", .none, .none)] rfl (fun vs fd S s hl h1 h2 h3 I => ?_) (fun S s I => .cons (.none) (.cons (.none) (.nil))) fun act => ?_
  · obtain ⟨a0, a1, a2, rfl⟩ := len3 hl
    exact bind_bisect_left3 ht M.d_bisect_left fd h1 h2 h3 I
  · exact (run_bisect_left (hA.deeper act.env) M.N M.b_len hn h0 (.inr ⟨rfl, rfl⟩) (Int.le_refl _) hc (fun i d hd => p _ i d hd (hA.deeper act.env)) act).mono fun fd _ e => by rw [e]; rfl
theorem call_bisect_left4 (M : Mod G mg mb) (hA : Room (n + 1) A) (hn : ds.length ≤ 1000) (h0 : 0 ≤ lo) (hhi : hiD = .int hi ∨ (hiD = .none ∧ hi = ds.length)) (hle : hi ≤ ds.length) (hc : c ≤ ds.length)
    (p : ∀ A' (i : Nat) d, ds[i]? = some d → Room n A' → Cmp G A' .Lt d x (decide ((i : Int) < c))) : CallD G A (.ref 71) [.list ds, x, .int lo, hiD] (.int (clampTo lo hi c)) := by
  obtain ⟨m, tk, ht⟩ := M.d_bisect_left.t
  refine CallD.fn (n := n) (xs := ["a", "x", "lo", "hi", "key"]) M.f_bisect_left M.N hA (by decide) (by decide) [("key", .none, .none)] rfl (fun vs fd S s hl h1 h2 h3 I => ?_) (fun S s I => .cons (.none) (.nil)) fun act => ?_
  · obtain ⟨a0, a1, a2, a3, rfl⟩ := len4 hl
    exact bind_bisect_left4 ht M.d_bisect_left fd h1 h2 h3 I
  · exact (run_bisect_left (hA.deeper act.env) M.N M.b_len hn h0 hhi hle hc (fun i d hd => p _ i d hd (hA.deeper act.env)) act).mono fun fd _ e => by rw [e]; rfl
theorem call_bisect_right2 (M : Mod G mg mb) (hA : Room (n + 1) A) (hn : ds.length ≤ 1000)  (hc : c ≤ ds.length)
    (p : ∀ A' (i : Nat) d, ds[i]? = some d → Room n A' → Cmp G A' .Lt x d (decide (c ≤ (i : Int)))) : CallD G A (.ref 53) [.list ds, x] (.int (clampTo 0 ds.length c)) := by
  obtain ⟨m, tk, ht⟩ := M.d_bisect_right.t
  refine CallD.fn (n := n) (xs := ["a", "x", "lo", "hi", "key"]) M.f_bisect_right M.N hA (by decide) (by decide) [("lo", .int 0 tk, .int 0), ("hi", .none, .none), ("key", .none, .none)] rfl (fun vs fd S s hl h1 h2 h3 I => ?_) (fun S s I => .cons (.int ..) (.cons (.none) (.cons (.none) (.nil)))) fun act => ?_
  · obtain ⟨a0, a1, rfl⟩ := len2 hl
    exact bind_bisect_right2 ht M.d_bisect_right fd h1 h2 h3 I
  · exact (run_bisect_right (hA.deeper act.env) M.N M.b_len hn (Int.le_refl 0) (.inr ⟨rfl, rfl⟩) (Int.le_refl _) hc (fun i d hd => p _ i d hd (hA.deeper act.env)) act).mono fun fd _ e => by rw [e]; rfl
theorem call_bisect_right3 (M : Mod G mg mb) (hA : Room (n + 1) A) (hn : ds.length ≤ 1000) (h0 : 0 ≤ lo) (hc : c ≤ ds.length)
    (p : ∀ A' (i : Nat) d, ds[i]? = some d → Room n A' → Cmp G A' .Lt x d (decide (c ≤ (i : Int)))) : CallD G A (.ref 53) [.list ds, x, .int lo] (.int (clampTo lo ds.length c)) := by
  obtain ⟨m, tk, ht⟩ := M.d_bisect_right.t
  refine CallD.fn (n := n) (xs := ["a", "x", "lo", "hi", "key"]) M.f_bisect_right M.N hA (by decide) (by decide) [("hi", .none, .none), ("key", .none, .none)] rfl (fun vs fd S s hl h1 h2 h3 I => ?_) (fun S s I => .cons (.none) (.cons (.none) (.nil))) fun act => ?_
  · obtain ⟨a0, a1, a2, rfl⟩ := len3 hl
    exact bind_bisect_right3 ht M.d_bisect_right fd h1 h2 h3 I
  · exact (run_bisect_right (hA.deeper act.env) M.N M.b_len hn h0 (.inr ⟨rfl, rfl⟩) (Int.le_refl _) hc (fun i d hd => p _ i d hd (hA.deeper act.env)) act).mono fun fd _ e => by rw [e]; rfl
theorem call_bisect_right4 (M : Mod G mg mb) (hA : Room (n + 1) A) (hn : ds.length ≤ 1000) (h0 : 0 ≤ lo) (hhi : hiD = .int hi ∨ (hiD = .none ∧ hi = ds.length)) (hle : hi ≤ ds.length) (hc : c ≤ ds.length)
    (p : ∀ A' (i : Nat) d, ds[i]? = some d → Room n A' → Cmp G A' .Lt x d (decide (c ≤ (i : Int)))) : CallD G A (.ref 53) [.list ds, x, .int lo, hiD] (.int (clampTo lo hi c)) := by
  obtain ⟨m, tk, ht⟩ := M.d_bisect_right.t
  refine CallD.fn (n := n) (xs := ["a", "x", "lo", "hi", "key"]) M.f_bisect_right M.N hA (by decide) (by decide) [("key", .none, .none)] rfl (fun vs fd S s hl h1 h2 h3 I => ?_) (fun S s I => .cons (.none) (.nil)) fun act => ?_
  · obtain ⟨a0, a1, a2, a3, rfl⟩ := len4 hl
    exact bind_bisect_right4 ht M.d_bisect_right fd h1 h2 h3 I
  · exact (run_bisect_right (hA.deeper act.env) M.N M.b_len hn h0 hhi hle hc (fun i d hd => p _ i d hd (hA.deeper act.env)) act).mono fun fd _ e => by rw [e]; rfl
end
end Mine
end

section
namespace Mine
open PySem PySem.Challenge PySem.Calls PyProof.Rows
section
variable {G : Gl} {A : Around} {n : Nat} {mg mb : Str → Option Value} {ds : List D} {x hiD : D} {lo hi c : Int}
theorem run_insort_left (M : Mod G mg mb) (hA : Room (n + 1) A) (hn : ds.length ≤ 1000) (h0 : 0 ≤ lo) (hhi : hiD = .int hi ∨ (hiD = .none ∧ hi = ds.length)) (hle : hi ≤ ds.length) (hlo : lo ≤ ds.length) (hc : c ≤ ds.length)
    (p : ∀ A' (i : Nat) d, ds[i]? = some d → Room n A' → Cmp G A' .Lt d x (decide ((i : Int) < c))) (act : Act insort_left_s (cellNames insort_left_s.names)) :
    ∃ ρ', RunV G A act (execs insort_left_b act.env) (("a", .own (.list ds)) :: zipEnv ["x", "lo", "hi", "key"] [x, .int lo, hiD, .none]) ρ' ∧ ρ'.lookup ("a" : Str) = some (.own (.list (insAt (clampTo lo hi c).toNat x ds))) := by
  unfold insort_left_b
  have h1 : 0 ≤ clampTo lo hi c := by unfold clampTo; lia
  have h2 : clampTo lo hi c ≤ ds.length := by unfold clampTo; omega
  refine ⟨_, RunV.cons (RunV.yes (Te.cmp (Ev.name rfl) Ev.none Cmp.isNone) (RunV.cons (RunV.assign (Ev.lend (Ev.call (EvV.glob M.N rfl M.f_bisect_left.named) M.f_bisect_left.callee (.more (Ev.name rfl) (.more (Ev.name rfl) (.more (Ev.name rfl) (.more (Ev.name rfl) .nil)))) (call_bisect_left4 M hA hn h0 hhi hle hc p)) rfl) (by decide)) .nil))
    (RunV.cons (RunV.expr (EvX.insert rfl (Ev.name rfl) (Ev.name rfl) h1 h2 (Nat.le_trans hn (by decide)))) .nil), rfl⟩
theorem call_insort_left2 (M : Mod G mg mb) (hA : Room (n + 2) A) (hn : ds.length ≤ 1000)  (hc : c ≤ ds.length)
    (p : ∀ A' (i : Nat) d, ds[i]? = some d → Room n A' → Cmp G A' .Lt d x (decide ((i : Int) < c))) : CallX G A (.ref 62) (.list ds) [x] (.list (insAt (clampTo 0 ds.length c).toNat x ds)) := by
  obtain ⟨m, tk, ht⟩ := M.d_insort_left.t
  refine CallX.fn (n := n + 1) (x := "a") (xs := ["x", "lo", "hi", "key"]) M.f_insort_left M.N hA (by decide) (by decide) [("lo", .int 0 tk, .int 0), ("hi", .none, .none), ("key", .none, .none)] rfl (fun v vs fd S s hl h1 h2 h3 I => ?_) (fun S s I => .cons (.int ..) (.cons (.none) (.cons (.none) (.nil)))) (fun act => run_insort_left M (hA.deeper act.env) hn (Int.le_refl 0) (.inr ⟨rfl, rfl⟩) (Int.le_refl _) (Int.natCast_nonneg _) hc p act)
  · obtain ⟨a1, rfl⟩ := len1 hl
    exact bind_insort_left2 ht M.d_insort_left fd h1 h2 h3 I
theorem run_insort_right (M : Mod G mg mb) (hA : Room (n + 1) A) (hn : ds.length ≤ 1000) (h0 : 0 ≤ lo) (hhi : hiD = .int hi ∨ (hiD = .none ∧ hi = ds.length)) (hle : hi ≤ ds.length) (hlo : lo ≤ ds.length) (hc : c ≤ ds.length)
    (p : ∀ A' (i : Nat) d, ds[i]? = some d → Room n A' → Cmp G A' .Lt x d (decide (c ≤ (i : Int)))) (act : Act insort_right_s (cellNames insort_right_s.names)) :
    ∃ ρ', RunV G A act (execs insort_right_b act.env) (("a", .own (.list ds)) :: zipEnv ["x", "lo", "hi", "key"] [x, .int lo, hiD, .none]) ρ' ∧ ρ'.lookup ("a" : Str) = some (.own (.list (insAt (clampTo lo hi c).toNat x ds))) := by
  unfold insort_right_b
  have h1 : 0 ≤ clampTo lo hi c := by unfold clampTo; lia
  have h2 : clampTo lo hi c ≤ ds.length := by unfold clampTo; omega
  refine ⟨_, RunV.cons (RunV.yes (Te.cmp (Ev.name rfl) Ev.none Cmp.isNone) (RunV.cons (RunV.assign (Ev.lend (Ev.call (EvV.glob M.N rfl M.f_bisect_right.named) M.f_bisect_right.callee (.more (Ev.name rfl) (.more (Ev.name rfl) (.more (Ev.name rfl) (.more (Ev.name rfl) .nil)))) (call_bisect_right4 M hA hn h0 hhi hle hc p)) rfl) (by decide)) .nil))
    (RunV.cons (RunV.expr (EvX.insert rfl (Ev.name rfl) (Ev.name rfl) h1 h2 (Nat.le_trans hn (by decide)))) .nil), rfl⟩
theorem call_insort_right2 (M : Mod G mg mb) (hA : Room (n + 2) A) (hn : ds.length ≤ 1000)  (hc : c ≤ ds.length)
    (p : ∀ A' (i : Nat) d, ds[i]? = some d → Room n A' → Cmp G A' .Lt x d (decide (c ≤ (i : Int)))) : CallX G A (.ref 44) (.list ds) [x] (.list (insAt (clampTo 0 ds.length c).toNat x ds)) := by
  obtain ⟨m, tk, ht⟩ := M.d_insort_right.t
  refine CallX.fn (n := n + 1) (x := "a") (xs := ["x", "lo", "hi", "key"]) M.f_insort_right M.N hA (by decide) (by decide) [("lo", .int 0 tk, .int 0), ("hi", .none, .none), ("key", .none, .none)] rfl (fun v vs fd S s hl h1 h2 h3 I => ?_) (fun S s I => .cons (.int ..) (.cons (.none) (.cons (.none) (.nil)))) (fun act => run_insort_right M (hA.deeper act.env) hn (Int.le_refl 0) (.inr ⟨rfl, rfl⟩) (Int.le_refl _) (Int.natCast_nonneg _) hc p act)
  · obtain ⟨a1, rfl⟩ := len1 hl
    exact bind_insort_right2 ht M.d_insort_right fd h1 h2 h3 I
end
end Mine
end

section
namespace Mine
open PySem PySem.Challenge PySem.Calls PyProof.Rows
noncomputable def escGo : List Nat → Int → Int → Bool → List (Int × Str)
  | [], _, p, e => if e then [(p, ⟨#[92]⟩)] else []
  | c :: cs, i, p, e => if e then (i, ⟨#[92, c]⟩) :: escGo cs (i + 1) i false else if c = 92 then escGo cs (i + 1) i true else (i, ⟨#[c]⟩) :: escGo cs (i + 1) i false
noncomputable def escaped (x : Str) : List (Int × Str) := escGo x.cps.toList 0 0 false
noncomputable def outD (p : Int × Str) : D := .tuple [.int p.1, .str p.2]
section
variable {G : Gl} {B : Around} {mg mb : Str → Option Value} {n k : Nat} {F : List Addr} {g : Nat} {X : List D} {x : Str} {T : String} {tk : Tok} {e it : Addr}
noncomputable abbrev gsc := iter_escaped_chars_s
noncomputable abbrev Gact := Act gsc (cellNames gsc.names)
noncomputable def gLoop : List Stmt × Expr := match iter_escaped_chars_b with
  | [_, _, .For t _ b _ _, _] => (b, t)
  | _ => ([], .Name "x" ⟨0, 0, 0, 0⟩)
noncomputable def gRest : List Stmt := iter_escaped_chars_b.drop 3
noncomputable abbrev gK0 : Flow → Sem PySem.Fin := fun f => .pure (.done (.ret (match f with | .ret v => v | _ => .none)))
noncomputable abbrev gH0 (env : Env) : Value → Sem PySem.Fin := fun e => (leaving env e).wrap (fun _ => .raise e) .raise id id
noncomputable abbrev gKc (env : Env) : Flow → Sem PySem.Fin := fun f => match f with | .next => (execs gRest env).wrap gK0 (gH0 env) id id | f => gK0 f
theorem seg_rest (act : Gact) (hA : Room (k + 2) B) (N : Names G mg mb) (hcells : act.env.cells = []) {adr : Str → Addr} {S : Fz} {s s₀ : Shared} {p : Int} {b : Bool}
    (O : OK G act (kpBut G s₀ F) adr [("pos", .val (.int p)), ("escape", .val (.bool b))] S s) (hmt : ∀ b ∈ act.mt, b ∈ F) (gr : Gro (kpBut G s₀ F) (Smin G s₀) S) (off : OffF G F S s)
    (hn : n ≤ X.length) (hX : X.drop (X.length - n) = (escGo [] 0 p b).map outD) : Seg G.M B (Rp G F g) (Yp G F g X) n s₀ (.func iter_escaped_chars_b act.env) ((execs gRest act.env).wrap gK0 (gH0 act.env) id id) [] s := by
  have hlen : n = ((escGo [] 0 p b).map outD).length := by rw [← hX, List.length_drop]; omega
  have hR := hA.over iter_escaped_chars_b act.env
  unfold gRest iter_escaped_chars_b
  show Seg _ _ _ _ n s₀ _ (Sem.wrap _ _ _ _ (execs (_ :: _) act.env)) [] s
  refine seg_execs_cons ?_
  refine seg_If (wp_seq ((show Te G _ act _ _ b from Te.of (Ev.name rfl) Tru.bool) _ adr S s O) fun S₁ b' s₁ st e => ?_)
  subst e
  have O₁ := O.step st
  have gr₁ := gr.trans (O.gro st)
  have off₁ := off.step st
  cases b' with
  | false =>
    simp only [Bool.false_eq_true, if_false]
    have h0 : n = 0 := hlen
    subst h0
    refine seg_execs_nil ?_
    refine seg_execs_nil ?_
    exact seg_end (.ok (.ret .none)) ⟨rfl, rfl, S₁, O₁.nxF g gr₁ off₁⟩
  | true =>
    simp only [if_true]
    have h1 : n = 1 := hlen
    subst h1
    refine seg_execs_cons ?_
    refine seg_Yield rfl rfl rfl (wp_seq (S := S₁) (P := fun S' v => Is G S' v (outD (p, ⟨#[92]⟩))) ?_ fun S₂ v s₂ st₂ i kap hkap => ?_) (by rw [act.hsc]; rfl) (interactive_fn O₁)
    · refine Ev.use ?_ O₁
      exact Ev.tuple (.more (Ev.name rfl) (.more (Ev.str _) .nil))
    have O₂ := O₁.step st₂
    have gr₂ := gr₁.trans (O₁.gro st₂)
    have off₂ := off₁.step st₂
    refine ⟨S₂, O₂.nxF g gr₂ off₂, ⟨_, ?_, i⟩, fun s₃ S₃ I₃ same off₃ => hkap _ ?_⟩
    · have : X[X.length - 1 - 0]? = (X.drop (X.length - 1))[0]? := by rw [List.getElem?_drop]; congr 1
      rw [this, hX]
      rfl
    · refine seg_execs_nil (seg_execs_nil ?_)
      have O₃ := O₂.resume hmt hcells rfl I₃ same off₃ (fun b hb => (off₂ b hb).2.1) ⟨⟨_, rfl, rfl⟩, ⟨_, rfl, rfl⟩, trivial⟩
      exact seg_end (.ok (.ret .none)) ⟨rfl, rfl, _, O₃.nxF g (.refl ..) (off₂.resume I₃ same off₃)⟩
theorem drop_tail {X l : List D} {a : D} {m : Nat} (hm : m + 1 ≤ X.length) (h : X.drop (X.length - (m + 1)) = a :: l) : X.drop (X.length - m) = l ∧ X[X.length - 1 - m]? = some a := by
  have hi : X.length - (m + 1) < X.length := by omega
  rw [List.drop_eq_getElem_cons hi, show X.length - (m + 1) + 1 = X.length - m by lia] at h
  injection h with h1 h2
  refine ⟨h2, ?_⟩
  rw [show X.length - 1 - m = X.length - (m + 1) by lia, List.getElem?_eq_getElem hi, h1]
noncomputable abbrev gBody : List Stmt := gLoop.1
noncomputable abbrev gTgt : Expr := gLoop.2
noncomputable def gTup : List Expr × Nat × Pos := match gTgt with | .Tuple es k p => (es, k, p) | _ => ([], 0, ⟨0, 0, 0, 0⟩)
noncomputable abbrev gCF (env : Env) (e : Addr) : Code := .forLoop gTgt (.ref e) gBody [] env
noncomputable abbrev gFr (env : Env) (pp : Pos) : Frame := .ret (ownK (gKc env) (gH0 env) id id env) none (id false) (id []) (.func iter_escaped_chars_b env) pp []
theorem asideW {act : Act gsc (cellNames gsc.names)} {adr : Str → Addr} {ρ : LEnv} {s₀ : Shared} (hcells : act.env.cells = []) (hat : Atoms ρ) (he : ∀ b ∈ [e, it], b ∈ F ∧ b ∉ act.mt) : Aside act (kpBut G s₀ F) adr ρ ⟨[e, it], []⟩ where
  mt := fun a ha => (he a ha).2
  cells := fun a ha p hp => by rw [hcells] at hp; cases hp
  own := fun a ha x d hx => by obtain ⟨d', h, _⟩ := hat.at x _ hx; exact nomatch h
  ko := fun a ha => by
    unfold kpBut; simp only
    rw [if_neg fun h => h.2 (he a ha).1]
  kgn := fun g hg => nomatch hg
theorem goodW {S : Fz} {s : Shared} {act : Act gsc (cellNames gsc.names)} (he : ∀ b ∈ [e, it], b ∈ F ∧ b ∉ act.mt) (off : OffF G F S s) : Good G ⟨[e, it], []⟩ S s := ⟨fun b hb => off b (he b hb).1, fun g hg => nomatch hg⟩
theorem outW {act : Act gsc (cellNames gsc.names)} {adr' : Str → Addr} {ρ ρ' : LEnv} {S S' : Fz} {s s' s₀ : Shared} (hcells : act.env.cells = []) (hat : Atoms ρ) (he : ∀ b ∈ [e, it], b ∈ F ∧ b ∉ act.mt) (hF : ∀ b ∈ F, b ∈ act.mt ∨ b ∈ [e, it])
    (off : OffF G F S s) (O' : OK G act ((kpBut G s₀ F).with ⟨[e, it], []⟩ s) adr' ρ' S' s') (g : Gro ((kpBut G s₀ F).with ⟨[e, it], []⟩ s) S S') :
    OK G act (kpBut G s₀ F) adr' ρ' S' s' ∧ Gro (kpBut G s₀ F) S S' ∧ OffF G F S' s' ∧ ∀ b ∈ [e, it], ∀ o, s.heap.get? b = some o → s'.heap.get? b = some o := by
  have ap : Aside act (kpBut G s₀ F) adr' ρ ⟨[e, it], []⟩ := asideW hcells hat he
  have keep : ∀ b ∈ [e, it], ∀ o, s.heap.get? b = some o → s'.heap.get? b = some o := fun b hb o e => O'.kept b o (by
    unfold Kept.with; simp only
    rw [if_pos hb]; exact e)
  refine ⟨O'.without ap.ko ap.kgn, g.without (fun a ha => (off a (he a ha).1).2.2) ap.ko, fun b hb => ?_, keep⟩
  rcases hF b hb with h | h
  · obtain ⟨h1, _, h3, h4⟩ := O'.mt b h
    exact ⟨h1, h3, h4⟩
  · obtain ⟨h1, h2, o, ho⟩ := off b hb
    refine ⟨?_, h2, o, keep b h o ho⟩
    cases q : S' b with
    | none => rfl
    | some o' =>
      rcases g.new _ _ q with z | z
      · rw [h1] at z; exact nomatch z
      · unfold Kept.with at z; simp only at z
        rw [if_pos h, ho] at z; exact nomatch z
theorem seg_loop (act : Act gsc (cellNames gsc.names)) (hA : Room (k + 2) B) (N : Names G mg mb) (hcells : act.env.cells = []) (hmt : ∀ b ∈ act.mt, b ∈ F) (he : ∀ b ∈ [e, it], b ∈ F ∧ b ∉ act.mt) (hF : ∀ b ∈ F, b ∈ act.mt ∨ b ∈ [e, it]) {St : Nat → Heap → Prop} {Pt : Nat → Array Value → Prop} {Mid : Nat → Addr → Heap → Prop}
    (W : WalksT G.prog G.w (B.over (.func iter_escaped_chars_b act.env) []) e [e, it] [e, it] x.cps.size Pt St Mid)
    (hT : T = "str_ascii_iterator" ∨ T = "str_iterator") (hStE : ∀ h, St x.cps.size h → ∃ old, IsEnum h e it x.cps.size old ∧ h.IsStrIter it T x tk x.cps.size)
    (hP : ∀ (S : Fz) i c vals, x.cps[i]? = some c → Pt i vals → Alls G S vals.toList [.int i, .str ⟨#[c]⟩]) (hStL : ∀ i h, St i h → ∀ b ∈ [e, it], ∃ o, h.get? b = some o) (pp : Pos) :
    ∀ m i, m = x.cps.size - i → i ≤ x.cps.size → ∀ n (adr : Str → Addr) ρ S s s₀ (p : Int) (b : Bool), OK G act (kpBut G s₀ F) adr ρ S s → Atoms ρ → Has ρ [("pos", .val (.int p)), ("escape", .val (.bool b))] → Gro (kpBut G s₀ F) (Smin G s₀) S → OffF G F S s → St i s.heap →
      n ≤ X.length → X.drop (X.length - n) = (escGo (x.cps.toList.drop i) i p b).map outD →
      Seg G.M B (Rp G F g) (Yp G F g X) n s₀ (gCF act.env e) (G.M.den (gCF act.env e)) [gFr act.env pp] s := by
  have hR := hA.over iter_escaped_chars_b act.env
  have hRoom : Room (k + 1) (B.over (.func iter_escaped_chars_b act.env) []) := hR
  have hov : B.over (gCF act.env e) [gFr act.env pp] = B.over (.func iter_escaped_chars_b act.env) [] := over_loop ..
  intro m
  induction m with
  | zero =>
    intro i hm hi n adr ρ S s s₀ p b O hat hhas gr off hst hn hX
    have hi : i = x.cps.size := by lia
    subst hi
    obtain ⟨old, hen, hsi⟩ := hStE _ hst
    refine seg_forLoop ?_
    rw [hov]
    refine strEnum_end hT hRoom.in1.handled hen hsi fun h' hk hal => ?_
    refine seg_leaf (.ok .next) ?_
    have hk' : ∀ b o, b ∉ [e, it] → s.heap.get? b = some o → h'.get? b = some o := fun b o hb ho => hk b o (fun q => hb (by rw [q]; exact .tail _ (.head _))) ho
    have nx : Nx G ⟨[e, it], []⟩ S s S { s with heap := h' } ⟨[e, it], []⟩ := ⟨O.inv.but (t := s.toks) (wr := [e, it]) (fun a ha => ⟨(off a (he a ha).1).1, (off a (he a ha).1).2.1⟩) hk', Sub.refl _, fun _ _ e => .inl e, fun b o hb _ e => hk' b o hb e, fun _ _ _ e => e, fun a ha => .inl ha, fun g hg => nomatch hg⟩
    have O' := O.nx (asideW hcells hat he) nx
    have off' : OffF G F S { s with heap := h' } := fun b hb => by
      obtain ⟨h1, h2, o, ho⟩ := off b hb
      refine ⟨h1, h2, ?_⟩
      by_cases q : b = it
      · rw [q]; exact hal
      · exact ⟨o, hk b o q ho⟩
    exact seg_rest act hA N hcells (O'.weaken (Has.sub hhas)) hmt gr off' hn (by rw [hX, List.drop_of_length_le (by simp)]; rfl)
  | succ m ih =>
    intro i hm hi n adr ρ S s s₀ p b O hat hhas gr off hst hn hX
    have hi : i < x.cps.size := by lia
    have hget : x.cps[i]? = some x.cps[i] := Array.getElem?_eq_getElem hi
    generalize hc : x.cps[i] = c at hget
    have hdrop : x.cps.toList.drop i = c :: x.cps.toList.drop (i + 1) := by
      rw [List.drop_eq_getElem_cons (by simpa using hi), Array.getElem_toList, hc]
    rw [hdrop] at hX
    refine seg_forLoop ?_
    rw [hov]
    refine wpAny_mono (WalksT.draw (elts := gTup.1) (kk := gTup.2.1) (tp := gTup.2.2) W O.inv hst (fun b hb => ⟨(off b (he b hb).1).1, (off b (he b hb).1).2.1⟩) hi (fun vals h => hP S i c vals hget h)) (fun r s₁ hrr => ?_) fun _ _ z => z
    obtain ⟨v, hr, hg⟩ := hrr
    subst hr
    dsimp only
    refine wpAny_mono hg (fun _ s₂ ⟨S₂, nx, iv, hst₂, _, hoff₂⟩ => ?_) fun _ _ z => z
    have ap := asideW (G := G) (F := F) (s₀ := s₀) (adr := adr) hcells hat he
    have O₂ := O.nx ap nx
    have gr₂ := gr.trans (O.nxGro nx)
    have off₂ : OffF G F S₂ s₂ := fun b hb => by
      rcases hF b hb with h | h
      · obtain ⟨h1, _, h3, h4⟩ := O₂.mt b h
        exact ⟨h1, h3, h4⟩
      · refine ⟨hoff₂ b h, (off b hb).2.1, ?_⟩
        exact hStL _ _ hst₂ b h
    have O₂w := O₂.with (goodW he off₂) ap
    refine wpAny_mono (Takes.tuple (xs := ["pos", "ch"]) hRoom (.cons (by decide) (.cons (by decide) .nil)) rfl _ _ _ _ v O₂w iv) (fun _ s₃ ⟨S₃, adr₃, g₃, O₃w, _⟩ => ?_) fun _ _ z => z
    obtain ⟨O₃, g₃', off₃, keep₃⟩ := outW hcells hat he hF off₂ O₃w g₃
    have gr₃ := gr₂.trans g₃'
    have hst₃ : St (i + 1) s₃.heap := W.frame _ _ _ hst₂ keep₃
    clear O₂w O₃w g₃ g₃' keep₃ hst₂ O₂ gr₂ off₂ nx ap hg hoff₂ iv O gr off hst
    have hρ : bindLs ["pos", "ch"] (([D.int i, D.str ⟨#[c]⟩] : List D).map .val) ρ = (((("ch" : Str), Loc.val (.str ⟨#[c]⟩)) :: (("pos" : Str), Loc.val (.int i)) :: ρ) : LEnv) := rfl
    rw [hρ] at O₃
    generalize hρ₁ : (((("ch" : Str), Loc.val (.str ⟨#[c]⟩)) :: (("pos" : Str), Loc.val (.int i)) :: ρ) : LEnv) = ρ₁ at O₃
    have hat₁ : Atoms ρ₁ := by rw [← hρ₁]; exact ⟨⟨_, rfl, rfl⟩, ⟨_, rfl, rfl⟩, hat⟩
    have hh₁ : Has ρ₁ [("pos", .val (.int i)), ("escape", .val (.bool b)), ("ch", .val (.str ⟨#[c]⟩))] := by rw [← hρ₁]; exact ⟨rfl, hhas.2.1, rfl, trivial⟩
    clear hρ₁ hρ hhas hat
    have hlen : n = ((escGo (c :: x.cps.toList.drop (i + 1)) i p b).map outD).length := by rw [← hX, List.length_drop]; omega
    have yld : ∀ (n : Nat) (p : Int × Str) (l : List D) (ex : Expr) (yp ep : Pos) (bodyRest : List Stmt) (Kb : Flow → Sem PySem.Fin) (Hb : Value → Sem PySem.Fin) (adr : Str → Addr) (S : Fz) (s : Shared),
        Ev G (B.over (.func iter_escaped_chars_b act.env) []) act ρ₁ ex (outD p) → OK G act (kpBut G s₀ F) adr ρ₁ S s → Gro (kpBut G s₀ F) (Smin G s₀) S → OffF G F S s → St (i + 1) s.heap → n + 1 ≤ X.length → X.drop (X.length - (n + 1)) = outD p :: l →
        (∀ s', OK G act (kpBut G s' F) adr ρ₁ (Smin G s') s' → OffF G F (Smin G s') s' → St (i + 1) s'.heap → X.drop (X.length - n) = l → Seg G.M B (Rp G F g) (Yp G F g X) n s' (gCF act.env e) (Kb .next) [gFr act.env pp] s') →
        Seg G.M B (Rp G F g) (Yp G F g X) (n + 1) s₀ (gCF act.env e) ((exec (.Expr (.Yield (some ex) yp) ep) act.env).wrap Kb Hb id id) [gFr act.env pp] s := by
      intro n p l ex yp ep bodyRest Kb Hb adr S s hev O gr off hst hn hX hk
      obtain ⟨hX', hX''⟩ := drop_tail hn hX
      refine seg_Yield rfl rfl rfl ?_ (by rw [act.hsc]; rfl) (interactive_fn O)
      rw [hov]
      refine wp_seq (hev.use O) fun S₁ v s₁ st iv kap hkap => ?_
      have O₁ := O.step st
      have off₁ := off.step st
      have hst₁ : St (i + 1) s₁.heap := W.frame _ _ _ hst fun b hb o z => st.keep _ _ (off b (he b hb).1).2.1 z
      refine ⟨S₁, O₁.nxF g (gr.trans (O.gro st)) off₁, ⟨_, hX'', iv⟩, fun s₂ S₂ I₂ same off₂ => hkap _ (hk s₂ ?_ (off₁.resume I₂ same off₂) (W.frame _ _ _ hst₁ fun b hb o z => same b (he b hb).1 o z) hX')⟩
      exact O₁.resume hmt hcells rfl I₂ same off₂ (fun b hb => (off₁ b hb).2.1) hat₁
    refine seg_execs_cons ?_
    refine seg_If ?_
    rw [hov]
    refine wp_seq ((show Te G _ act ρ₁ _ b from Te.of (Ev.name hh₁.2.1) Tru.bool) _ adr₃ S₃ s₃ O₃) fun S₄ b' s₄ st₄ z => ?_
    subst z
    have O₄ := O₃.step st₄
    have gr₄ := gr₃.trans (O₃.gro st₄)
    have off₄ := off₃.step st₄
    have hst₄ : St (i + 1) s₄.heap := W.frame _ _ _ hst₃ fun b hb o z => st₄.keep _ _ (off₃ b (he b hb).1).2.1 z
    have put : ∀ (bb : Bool) (np ap cp : Pos) (cn : Nat) (n : Nat) (adr : Str → Addr) (S : Fz) (s s₀ : Shared) (Kb : Flow → Sem PySem.Fin) (Hb : Value → Sem PySem.Fin),
        OK G act (kpBut G s₀ F) adr ρ₁ S s → Gro (kpBut G s₀ F) (Smin G s₀) S → OffF G F S s → St (i + 1) s.heap → n ≤ X.length → X.drop (X.length - n) = (escGo (x.cps.toList.drop (i + 1)) ((i + 1 : Nat) : Int) i bb).map outD →
        (Kb .next = .pure (.again (gCF act.env e))) → Seg G.M B (Rp G F g) (Yp G F g X) n s₀ (gCF act.env e) ((execs [.Assign [.Name "escape" np] (.Constant (.bool bb) cn cp) ap] act.env).wrap Kb Hb id id) [gFr act.env pp] s := by
      intro bb np ap cp cn n adr S s s₀ Kb Hb O gr off hst hn hX hK
      refine seg_execs_cons (seg_wrap ?_)
      rw [hov]
      refine wpAny_mono (RunV.assign (Ev.bool bb) (by decide) rfl _ _ _ _ (O.with (goodW he off) (asideW hcells hat₁ he))) (fun f s₁ ⟨z, S₁, g₁, O₁w⟩ => ?_) fun _ _ z => False.elim z
      subst z
      obtain ⟨O₁, g₁', off₁, keep₁⟩ := outW hcells hat₁ he hF off O₁w g₁
      refine seg_execs_nil ?_
      rw [hK]
      refine seg_again rfl (ih (i + 1) (by omega) (by lia) n adr _ S₁ s₁ s₀ i bb O₁ ⟨⟨_, rfl, rfl⟩, hat₁⟩ ⟨hh₁.1, rfl, trivial⟩ (gr.trans g₁') off₁ (W.frame _ _ _ hst keep₁) hn hX)
    cases b' with
    | true => 
      simp only [if_true]
      have hX' : X.drop (X.length - n) = outD ((i : Int), ⟨#[92, c]⟩) :: (escGo (x.cps.toList.drop (i + 1)) ((i + 1 : Nat) : Int) i false).map outD := hX
      obtain ⟨n', rfl⟩ : ∃ n', n = n' + 1 := ⟨n - 1, by rw [hlen]; rfl⟩
      refine seg_execs_cons ?_
      refine yld n' _ _ _ _ _ [] _ _ _ _ _ ?_ O₄ gr₄ off₄ hst₄ hn hX' fun s' O' off' hst' hX'' => ?_
      · exact Ev.tuple (.more (Ev.name hh₁.1) (.more (Ev.eq (Ev.bin (Ev.str _) (Ev.name hh₁.2.2.1) (Op2.addS (by show 1 + 1 ≤ sizeLine; unfold sizeLine; lia))) rfl) .nil))
      · exact put false _ _ _ _ n' _ _ _ _ _ _ O' (.refl ..) off' hst' (by lia) hX'' rfl
    | false =>
      simp only [Bool.false_eq_true, if_false]
      refine seg_execs_cons ?_
      refine seg_If ?_
      rw [hov]
      have hce : ((⟨#[c]⟩ : Str) == "\\") = decide (c = 92) := by
        by_cases q : c = 92
        · subst q; rfl
        · rw [decide_eq_false q, beq_eq_false_iff_ne]
          intro h
          have h := congrArg (fun s : Str => s.cps.toList) h
          exact q (List.cons.inj h).1
      refine wp_seq ((show Te G _ act ρ₁ _ (decide (c = 92)) from hce ▸ Te.cmp (Ev.name hh₁.2.2.1) (Ev.str _) (Cmp.eqS hRoom)) _ adr₃ S₄ s₄ O₄) fun S₅ b' s₅ st₅ z => ?_
      subst z
      have O₅ := O₄.step st₅
      have gr₅ := gr₄.trans (O₄.gro st₅)
      have off₅ := off₄.step st₅
      have hst₅ : St (i + 1) s₅.heap := W.frame _ _ _ hst₄ fun b hb o z => st₅.keep _ _ (off₄ b (he b hb).1).2.1 z
      by_cases q : c = 92
      · rw [decide_eq_true q]
        simp only [if_true]
        refine put true _ _ _ _ n _ _ _ _ _ _ O₅ gr₅ off₅ hst₅ hn ?_ rfl
        rw [hX]
        simp only [escGo, q, if_true]
        rfl
      · rw [decide_eq_false q]
        simp only [Bool.false_eq_true, if_false]
        have hX' : X.drop (X.length - n) = outD ((i : Int), ⟨#[c]⟩) :: (escGo (x.cps.toList.drop (i + 1)) ((i + 1 : Nat) : Int) i false).map outD := by
          rw [hX]
          simp only [escGo, q, if_false]
          rfl
        obtain ⟨n', rfl⟩ : ∃ n', n = n' + 1 := ⟨n - 1, by
          have := congrArg List.length hX'
          rw [List.length_drop, List.length_cons] at this
          omega⟩
        refine seg_execs_cons ?_
        refine yld n' _ _ _ _ _ [] _ _ _ _ _ ?_ O₅ gr₅ off₅ hst₅ hn hX' fun s' O' off' hst' hX'' => ?_
        · exact Ev.tuple (.more (Ev.name hh₁.1) (.more (Ev.name hh₁.2.2.1) .nil))
        · refine seg_execs_nil ?_
          refine seg_execs_nil ?_
          exact seg_again rfl (ih (i + 1) (by omega) (by lia) n' _ _ _ s' s' i false O' hat₁ ⟨hh₁.1, hh₁.2.1, trivial⟩ (.refl ..) off' hst' (by lia) hX'')
end
end Mine
end

section
namespace Mine
open PySem PySem.Challenge PySem.Calls PyProof.Rows
section
variable {sc : Scope} {mc : List Str} {G : Gl} {A : Around} {act : Act sc mc} {kp : Kept} {adr : Str → Addr} {ρ : LEnv} {S S₂ : Fz} {s s₂ : Shared} {d : D} {F F' : List Addr}
theorem kpBut_eq (h1 : ∀ b ∈ F, b ∈ F') (h2 : ∀ b ∈ F', b ∈ F ∨ s.heap.get? b = none) : kpBut G s F = kpBut G s F' := by
  unfold kpBut
  congr 1
  funext a
  by_cases q : a ∈ F'
  · rw [if_neg (c := NoTab G a ∧ a ∉ F') (fun h => h.2 q)]
    rcases h2 a q with z | z
    · rw [if_neg fun h => h.2 z]
    · split
      · exact z
      · rfl
  · have q' : a ∉ F := fun z => q (h1 a z)
    by_cases nt : NoTab G a
    · rw [if_pos ⟨nt, q'⟩, if_pos ⟨nt, q⟩]
    · rw [if_neg fun h => nt h.1, if_neg fun h => nt h.1]
theorem RunV.assignSz {x : Str} {e : Expr} {np pos : Pos} (O : OK G act kp adr ρ S s) (hk : sc.names.lookup x = some .local) (hx : Stores sc mc x)
    (he : ∀ (Q : Value → Shared → Prop), (∀ v t, Is G S v d → Q v { s with toks := t }) → wpAny G.M A (eval e act.env) Q No s) (hs : swapsWith e (some (.Name x np)) pos.line act.env = pure false := by rfl) :
    wpAny G.M A (exec (.Assign [.Name x np] e pos) act.env) (fun f s' => f = .next ∧ OK G act kp adr ((x, .val d) :: ρ) S s' ∧ s'.heap.objs.size = s.heap.objs.size) No s :=
  wpAny_Assign_Name (he _ fun v t i => by
    have O' : OK G act kp adr ρ S { s with toks := t } := O.step (O.inv.toks t)
    exact O'.storeValSz (Q := fun _ s' => Flow.next = .next ∧ OK G act kp adr ((x, .val d) :: ρ) S s' ∧ s'.heap.objs.size = s.heap.objs.size) hx i fun h' t' O'' z => ⟨rfl, O'', z hk⟩) hs
end
section
variable {G : Gl} {B : Around} {mg mb : Str → Option Value} {n k : Nat} {F : List Addr} {g : Nat} {x : Str} {T : String} {tk : Tok} {e it : Addr}
theorem strDraw {A : Around} (hh : A.handled = none) (hT : T = "str_ascii_iterator" ∨ T = "str_iterator") : Draws G.prog G.w A it [it] x.cps.size (fun i v => ∃ c u, x.cps[i]? = some c ∧ v = Value.str ⟨#[c]⟩ u) (fun i h => h.IsStrIter it T x tk i) := by
  rcases hT with rfl | rfl
  · exact Draws.strAscii hh it x tk
  · exact Draws.strWide hh it x tk
theorem gen_first (act : Act gsc (cellNames gsc.names)) (hA : Room (k + 2) B) (N : Names G mg mb) (hen : mg "enumerate" = none) (hbn : mb "enumerate" = some (.type "enumerate")) (hcells : act.env.cells = []) (hmt : act.mt = [act.env.locals])
    {kp : Kept} {adr : Str → Addr} {S S₂ : Fz} {s s₂ : Shared} (O : OK G act kp adr [("addr", .val (.str x))] S s) (I : Inv G S₂ s₂)
    (same : ∀ b ∈ [act.env.locals], ∀ o, s.heap.get? b = some o → s₂.heap.get? b = some o) (off : ∀ b ∈ [act.env.locals], S₂ b = none) :
    ∃ F, (∀ b ∈ F, b ∈ [act.env.locals] ∨ s₂.heap.get? b = none) ∧ (∀ b ∈ [act.env.locals], b ∈ F) ∧
      (GenState.fresh (.func iter_escaped_chars_b act.env)).Goes G.M B (Rp G F g) (Yp G F g ((escaped x).map outD)) ((escaped x).map outD).length (.send .none) s₂ := by
  have hR : Room (k + 1) (B.over (.func iter_escaped_chars_b act.env) []) := hA.over iter_escaped_chars_b act.env
  have hLa : ∃ o, s₂.heap.get? act.env.locals = some o := by
    obtain ⟨_, _, _, o, ho⟩ := O.mt _ O.mtL
    exact ⟨o, same _ (.head _) o ho⟩
  have hLt : act.env.locals < s₂.heap.objs.size := by obtain ⟨o, ho⟩ := hLa; exact Heap.lt_size ho
  have fresh : ∀ b, s₂.heap.objs.size ≤ b → s₂.heap.get? b = none := fun b hb => Heap.get?_none_of_le hb
  have hnt : NoTab G act.env.locals := (O.mt _ O.mtL).2.2.1
  generalize hz : s₂.heap.objs.size = z at hLt fresh
  refine ⟨[act.env.locals, z + 1, z], fun b hb => ?_, fun b hb => by rw [List.mem_singleton.mp hb]; exact .head _, rfl, ?_⟩
  · rcases List.mem_cons.mp hb with rfl | hb
    · exact .inl (.head _)
    rcases List.mem_cons.mp hb with rfl | hb
    · exact .inr (fresh _ (Nat.le_succ _))
    · rw [List.mem_singleton.mp hb]; exact .inr (fresh _ (Nat.le_refl _))
  have O₁ := O.resume (F := [act.env.locals]) (fun b hb => by rw [hmt] at hb; exact hb) hcells rfl I same off (fun b hb => by rw [List.mem_singleton.mp hb]; exact hnt) ⟨⟨_, rfl, rfl⟩, trivial⟩
  rw [kpBut_eq (F' := [act.env.locals, z + 1, z]) (fun b hb => by rw [List.mem_singleton.mp hb]; exact .head _) (fun b hb => by
    rcases List.mem_cons.mp hb with rfl | hb
    · exact .inl (.head _)
    rcases List.mem_cons.mp hb with rfl | hb
    · exact .inr (fresh _ (Nat.le_succ _))
    · rw [List.mem_singleton.mp hb]; exact .inr (fresh _ (Nat.le_refl _)))] at O₁
  refine seg_func ?_
  unfold iter_escaped_chars_b
  refine seg_execs_cons (seg_wrap ?_)
  refine wpAny_mono (RunV.assignSz (d := .int 0) O₁ (by decide) (by decide) (fun Q h => wpAny_Constant_int (h _ _ (.int ..)))) (fun f s₃ ⟨q, O₃, z₃⟩ => ?_) fun _ _ q => q.elim
  subst q
  refine seg_execs_cons (seg_wrap ?_)
  refine wpAny_mono (RunV.assignSz (d := .bool false) O₃ (by decide) (by decide) (fun Q h => wpAny_Constant_bool (h _ s₃.toks (.bool ..)))) (fun f s₄ ⟨q, O₄, z₄⟩ => ?_) fun _ _ q => q.elim
  subst q
  refine seg_execs_cons (seg_For ?_)
  have call : ∀ {fx ax : Expr} {pos : Pos} {Q : Value → Shared → Prop}, (eval (.Call fx [ax] [] pos) act.env = (eval fx act.env >>= fun f => callWith pos f [] (backTo pos (starEach [ax] act.env)) (backToKw pos (keywordEach [] act.env)))) →
      (starEach [ax] act.env = (false, eval ax act.env) :: starEach [] act.env) →
      (∀ E Q', Q' (.type "enumerate") s₄ → wpAny G.M (B.over (.func iter_escaped_chars_b act.env) []) (eval fx act.env) Q' E s₄) → (∀ Q' : Value → Shared → Prop, (∀ v, Is G (Smin G s₂) v (.str x) → Q' v s₄) → wpAny G.M (B.over (.func iter_escaped_chars_b act.env) []) (eval ax act.env) Q' No s₄) →
      (∀ h' t, IsEnum h' (s₄.heap.objs.size + 1) s₄.heap.objs.size 0 .none → h'.IsStrIter s₄.heap.objs.size (strIterType x) x t 0 → (∀ b o, s₄.heap.get? b = some o → h'.get? b = some o) → Q (.ref (s₄.heap.objs.size + 1)) { s₄ with heap := h' }) →
      wpAny G.M (B.over (.func iter_escaped_chars_b act.env) []) (eval (.Call fx [ax] [] pos) act.env) Q No s₄ := by
    intro fx ax pos Q h1 h2 h3 h4 h5
    rw [h1]
    refine wpAny_bind (h3 _ _ ?_)
    have pl : (backTo pos (starEach [ax] act.env)).any (·.1) = false := by rw [h2]; rfl
    have sp : ∀ Q' : List Value → Shared → Prop, (∀ v, Is G (Smin G s₂) v (.str x) → Q' [v] s₄) → wpAny G.M (B.over (.func iter_escaped_chars_b act.env) []) (spliced (backTo pos (starEach [ax] act.env))) Q' No s₄ := fun Q' h => spliced_more (h4 _ fun v i => spliced_none (h v i)) h2
    rw [h2] at pl sp ⊢
    refine PyProof.Rows.callWith_type pl (evalArgs_plain (sp _ fun v i => ?_))
    obtain ⟨t, rfl⟩ := i.str'
    exact call_enumerate_str fun h' he' hit hsz hk => h5 h' t he' hit hk
  refine call rfl rfl (fun E Q' h => ?_) (fun Q' h => ?_) fun h' t he' hit hk => ?_
  · obtain ⟨o, ho, hn⟩ := N.g
    obtain ⟨o', ho', hn'⟩ := N.b
    exact Name_function_global O₄.fn' (by rw [act.kindOf]; decide) (loadGlobal_builtin (mg := mg) (mb := mb) (by rw [O₄.glob]; exact hn.ns (O₄.inv.sub _ _ (O₄.inv.base _ _ ho))) hen
      (by rw [O₄.blt]; exact hn'.ns (O₄.inv.sub _ _ (O₄.inv.base _ _ ho'))) hbn h) (by decide)
  · exact O₄.name rfl h
  have hz4 : s₄.heap.objs.size = z := by rw [z₄, z₃, hz]
  rw [hz4] at he' hit ⊢
  refine wpAny_pyIter_enum he' ?_
  intro pp
  have hT : strIterType x = "str_ascii_iterator" ∨ strIterType x = "str_iterator" := by unfold strIterType; split <;> simp
  generalize hTT : strIterType x = T at hit hT
  have hne : z + 1 ≠ z := Nat.succ_ne_self _
  have hLz : act.env.locals ≠ z := Nat.ne_of_lt hLt
  have hLz' : act.env.locals ≠ z + 1 := Nat.ne_of_lt (Nat.lt_succ_of_lt hLt)
  have W := WalksT.enumerateD (strDraw (G := G) (x := x) (tk := t) (it := z) (A := (B.over (.func iter_escaped_chars_b act.env) []).in1) hR.in1.handled hT) (z + 1) hne (fun hm => hne (List.mem_singleton.mp hm)) (.head _)
  have st := O₄.inv.keeps (h' := h') (t := s₄.toks) hk
  have O₅ := O₄.step st
  have fr4 : ∀ b, z ≤ b → s₄.heap.get? b = none := fun b hb => Heap.get?_none_of_le (by rw [hz4]; exact hb)
  have offN : ∀ b, z ≤ b → Smin G s₂ b = none ∧ NoTab G b := fun b hb => by
    refine ⟨?_, O₄.inv.noTabFresh (fr4 b hb)⟩
    cases q : Smin G s₂ b with
    | none => rfl
    | some o => have := O₄.inv.sub _ _ q; rw [fr4 b hb] at this; exact nomatch this
  refine seg_loop (tk := t) act hA N hcells (fun b hb => ?_) (fun b hb => ?_) (fun b hb => ?_) W hT (fun h hs => ?_) (fun S i c vals hc hv => ?_) (fun i h hs b hb => ?_) pp x.cps.size 0 rfl (Nat.zero_le _) _ _ _ _ _ _ 0 false O₅ ⟨⟨_, rfl, rfl⟩, ⟨_, rfl, rfl⟩, ⟨_, rfl, rfl⟩, trivial⟩ (Has.of rfl) (.refl ..) (fun b hb => ?_) ⟨⟨_, he'⟩, hit⟩ (Nat.le_refl _) ?_
  · rw [hmt] at hb; rw [List.mem_singleton.mp hb]; exact .head _
  · rcases List.mem_cons.mp hb with rfl | hb
    · exact ⟨.tail _ (.head _), fun hm => by rw [hmt] at hm; exact hLz' (List.mem_singleton.mp hm).symm⟩
    · rw [List.mem_singleton.mp hb]
      exact ⟨.tail _ (.tail _ (.head _)), fun hm => by rw [hmt] at hm; exact hLz (List.mem_singleton.mp hm).symm⟩
  · rcases List.mem_cons.mp hb with rfl | hb
    · exact .inl O.mtL
    · exact .inr hb
  · obtain ⟨⟨old, h1⟩, h2⟩ := hs
    exact ⟨old, h1, h2⟩
  · obtain ⟨t', v, ⟨c', u, hc', rfl⟩, rfl⟩ := hv
    rw [hc] at hc'
    obtain rfl := Option.some.inj hc'
    exact .cons (.int ..) (.cons (.str ..) .nil)
  · obtain ⟨⟨old, h1⟩, o, h2, _⟩ := hs
    rcases List.mem_cons.mp hb with rfl | hb
    · exact ⟨_, h1⟩
    · rw [List.mem_singleton.mp hb]; exact ⟨_, h2⟩
  · rcases List.mem_cons.mp hb with rfl | hb
    · obtain ⟨h1, _, h3, h4⟩ := O₅.mt _ O.mtL
      exact ⟨h1, h3, h4⟩
    rcases List.mem_cons.mp hb with rfl | hb
    · exact ⟨(offN _ (Nat.le_succ _)).1, (offN _ (Nat.le_succ _)).2, _, he'⟩
    · rw [List.mem_singleton.mp hb]
      obtain ⟨o, h2, _⟩ := hit
      exact ⟨(offN _ (Nat.le_refl _)).1, (offN _ (Nat.le_refl _)).2, _, h2⟩
  · rw [Nat.sub_self, List.drop_zero, List.drop_zero]
    rfl
theorem bare_push {gens : Array GenState} {c : GenState} (h : AllBare gens) (hc : c.bare = true) : AllBare (gens.push c) := fun y hy => by
  rcases Array.mem_push.mp hy with q | rfl
  · exact h y q
  · exact hc
theorem Src.escaped {sc : Scope} {mc : List Str} {A : Around} {act : Act sc mc} {ρ : LEnv} (hA : Room (n + 4) A) {f : Addr} (Fn : FnAt G mg "_iter_escaped_chars" iter_escaped_chars_p iter_escaped_chars_b iter_escaped_chars_s .none .none f) (N : Names G mg mb) (hen : mg "enumerate" = none) (hbn : mb "enumerate" = some (.type "enumerate"))
    {tgt : Expr} {fx ex : Expr} {pos : Pos} (hf : EvV G A act ρ fx (.ref f)) (he : Ev G A act ρ ex (.str x))
    (hev : eval (.Call fx [ex] [] pos) act.env = (eval fx act.env >>= fun f => callWith pos f [] (backTo pos (starEach [ex] act.env)) (backToKw pos (keywordEach [] act.env))) := by rfl) (hs : ∀ env, starEach [ex] env = (false, eval ex env) :: starEach [] env := by intro _; rfl) :
    Src G A act ρ tgt (.Call fx [ex] [] pos) ((escaped x).map outD) := fun kp adr S s O => by
  rw [hev]
  refine wpAny_bind (wp_seq (hf kp adr S s O) fun S₁ v s₁ st e => ?_)
  subst e
  (refine cps fun ZP zk => ?_; obtain ⟨o, fd, ho, hd, h1, h2, h3, h4, h5, h6, h7, h8, c, oc, cv, t, hc, hoc, hcd, hq⟩ := Fn.obj; refine zk ?_)
  refine call_args (.func ho hd) (Evs.cons he .nil hs) (O.step st) fun S₂ s₂ vs st₂ is => ?_
  obtain ⟨v, rfl, i⟩ := alls1 is
  have I := st₂.inv
  have up : ∀ {a o}, G.base a = some o → s₂.heap.get? a = some o := fun e => I.sub _ _ (I.base _ _ e)
  refine wpAny_call ?_
  refine codeAny_call_generator hA.lt (up ho) hd (by rw [h3]; rfl) (by rw [h3]; rfl) h2 ⟨c, oc, cv, t, hc, up hoc, hcd, hq⟩ ?_
  refine enterEnv N h3 h4 h5 h6 rfl (by decide) (by decide) [("addr", v, .val (.str x))] (by show bindFit iter_escaped_chars_s ["addr"] = true; decide) ?_ I [] (fun _ => 0) (fun a h => nomatch h) (fun b hb => ?_) (fun x y dx dy hx _ _ => ?_) fun act' s₃ O' hk hg hm hmt ⟨hcl, hfr, _⟩ => ?_
  · (refine cps fun ZP zk => ?_; obtain ⟨nm, qn, ps, bd, sc, gl, cl, df, kd, doc, mo, an, cd, ct, bl⟩ := fd; refine zk ?_)
    simp only at h1 h7 h8
    subst h1 h7 h8
    exact BindsTo.of_eq rfl
  · rw [List.mem_singleton.mp hb]
    exact i
  · obtain ⟨b, hbm, e⟩ := List.mem_map.mp (mem_of_lookup hx)
    rw [List.mem_singleton.mp hbm] at e
    cases e
  have hcl' : act'.env.cells = [] := hcl.trans rfl
  have hmt' : act'.mt = [act'.env.locals] := by rw [hmt, hcl']; rfl
  have st₃ : Stp G S₂ s₂ S₂ s₃ := O'.leave I rfl (.refl ..)
  show wpAny G.M A (pyIter (.ref s₃.heap.objs.size)) _ _ _
  generalize hoa : ({ cls := .type "generator", data := .fields #[.int s₃.gens.size 0, .str fd.name s₃.toks, .str fd.qualname (s₃.toks + 1)] } : Obj) = oa
  generalize ha : s₃.heap.objs.size = a
  generalize hgz : s₃.gens.size = g at hoa
  have st₄ : Stp G S₂ s₃ (S₂.put a oa) { s₃ with heap := s₃.heap.push oa, toks := s₃.toks + 1 + 1, gens := s₃.gens.push (.fresh (.func iter_escaped_chars_b act'.env)) } := by
    have q := O'.inv.push oa (t := s₃.toks + 1 + 1) (by rw [← hoa]; rfl) (by rw [← hoa]; exact fun e => nomatch e)
    rw [ha] at q
    exact ⟨⟨q.inv.sub, q.inv.base, q.inv.tab, q.inv.tabS, bare_push q.inv.bare rfl, q.inv.os⟩, q.sub, q.new, q.keep, fun g x e => by
      show (s₃.gens.push _)[g]? = some x
      rw [Array.getElem?_push]
      have := (Array.getElem?_eq_some_iff.mp e).1
      rw [if_neg (by lia)]
      exact e⟩
  generalize hs₄ : ({ s₃ with heap := s₃.heap.push oa, toks := s₃.toks + 1 + 1, gens := s₃.gens.push (.fresh (.func iter_escaped_chars_b act'.env)) } : Shared) = s₄ at st₄ ⊢
  have O₄ := O'.step st₄
  have haS : (S₂.put a oa) a = some oa := Fz.put_self ..
  have isg : ∀ {S' : Fz} {s' : Shared}, Inv G S' s' → Sub (S₂.put a oa) S' → s'.heap.IsGen a g := fun {S' s'} I h => ⟨oa, _, _, I.sub _ _ (h _ _ haS), by rw [← hoa], by rw [← hoa], by rw [← hoa]⟩
  have hgs : s₄.gens[g]? = some (.fresh (.func iter_escaped_chars_b act'.env)) := by
    rw [← hs₄, ← hgz]
    show (s₃.gens.push _)[s₃.gens.size]? = _
    rw [Array.getElem?_push_size]
  have hL := O₄.mt _ O₄.mtL
  have all := (st.trans st₂).trans (st₃.trans st₄)
  refine wpAny_pyIter_gen (isg st₄.inv (Sub.refl _)) ⟨S₂.put a oa, ⟨[act'.env.locals], [g]⟩, all, fun b hb => ?_, fun h hh => ?_, ?_, fun S' s' af Q E h => wpAny_pyIter_gen (isg af.inv af.sub) h⟩
  · rw [List.mem_singleton.mp hb]
    cases q : s.heap.get? act'.env.locals with
    | none => rfl
    | some o =>
      have := (st.trans st₂).keep _ _ hL.2.2.1 q
      rw [hm _ O'.mtL] at this; exact nomatch this
  · rw [List.mem_singleton.mp hh, ← hgz]
    rcases Nat.lt_or_ge s₃.gens.size s.gens.size with q | q
    · have := ((st.trans st₂).trans st₃).gens _ _ (Array.getElem?_eq_getElem q)
      rw [Array.getElem?_eq_some_iff] at this
      exact absurd this.1 (Nat.lt_irrefl _)
    · exact q
  · have := gen_start (tgt := tgt) (X := (Mine.escaped x).map outD) (n := ((Mine.escaped x).map outD).length) (F₀ := [act'.env.locals]) (g := g) (a := a) (S := S₂.put a oa) (s := s₄) (oa := oa) (nm := .str fd.name s₃.toks) (qn := .str fd.qualname (s₃.toks + 1)) hA N (by rw [← hoa]) (by rw [← hoa]) (by rw [← hoa]) (Nat.le_refl _) st₄.inv haS
      (fun b hb => by rw [List.mem_singleton.mp hb]; exact ⟨hL.1, hL.2.2.1, hL.2.2.2⟩) hgs
      (fun s₅ S₅ I₅ same off => gen_first act' hA.in1 N hen hbn hcl' hmt' O₄ I₅ same off)
    rw [Nat.sub_self, List.drop_zero] at this
    exact this
end
end Mine
end

section
namespace Mine
open PySem PySem.Challenge PySem.Calls PyProof.Rows
noncomputable def oD : Option Int → D
  | some i => .int i
  | none => .none
noncomputable abbrev SSt := Int × Option Int × List Str
noncomputable def stripStep (x : Str) (b : SSt) (p : Int × Str) : SSt := if p.2 == "\"" then (match b.2.1 with
    | none => (b.1, some p.1, b.2.2)
    | some o => (p.1 + 1, none, if b.1 != o then b.2.2 ++ [Txt.slice x (some b.1) (some o)] else b.2.2)) else b
noncomputable def stripEnd (x : Str) : SSt := (escaped x).foldl (stripStep x) (0, none, [])
noncomputable def strip (x : Str) : Str := if Txt.contains x "\"" then (let b := stripEnd x; Txt.join "" (if b.1 < x.length then b.2.2 ++ [Txt.slice x (some b.1) none] else b.2.2)) else x
theorem escGo_len : ∀ (l : List Nat) (i p : Int) (e : Bool), (escGo l i p e).length ≤ l.length + (if e then 1 else 0)
  | [], _, _, e => by unfold escGo; cases e <;> simp
  | c :: cs, i, p, e => by
    unfold escGo
    cases e with
    | true => simp only [if_true, List.length_cons]; have := escGo_len cs (i + 1) i false; simp only [Bool.false_eq_true, if_false] at this; lia
    | false =>
      simp only [Bool.false_eq_true, if_false, List.length_cons]
      split
      · have := escGo_len cs (i + 1) i true; simp only [if_true] at this; lia
      · rw [List.length_cons]; have := escGo_len cs (i + 1) i false; simp only [Bool.false_eq_true, if_false] at this; lia
theorem escaped_len (x : Str) : (escaped x).length ≤ x.length := by
  have := escGo_len x.cps.toList 0 0 false
  unfold escaped Str.length
  simpa using this
theorem slice_len (x : Str) (l u : Option Int) : (Txt.slice x l u).length ≤ x.length := by
  unfold Txt.slice
  split
  · exact Nat.le_refl _
  · show (List.toArray _).size ≤ _
    rw [List.size_toArray]
    exact Nat.le_trans (List.length_filterMap_le ..) (sliceIndices_le ..)
noncomputable def SOk (x : Str) (k : Nat) (b : SSt) : Prop := b.2.2.length ≤ k ∧ ∀ y ∈ b.2.2, y.length ≤ x.length
set_option tactic.hygienic true in
theorem stripStep_ok {x : Str} {k : Nat} {b : SSt} (h : SOk x k b) (p : Int × Str) : SOk x (k + 1) (stripStep x b p) := by
  have w : SOk x (k + 1) b := ⟨by have := h.1; lia, h.2⟩
  unfold stripStep
  split
  · split
    · exact w
    · rename_i o _
      refine ⟨?_, ?_⟩
      · show (if (b.1 != o) = true then b.2.2 ++ [Txt.slice x (some b.1) (some o)] else b.2.2).length ≤ _
        have := h.1
        split
        · simp; lia
        · omega
      · show ∀ y ∈ (if (b.1 != o) = true then b.2.2 ++ [Txt.slice x (some b.1) (some o)] else b.2.2), _
        split
        · intro y hy
          rcases List.mem_append.mp hy with q | q
          · exact h.2 y q
          · rw [List.mem_singleton.mp q]; exact slice_len ..
        · exact h.2
  · exact w
theorem strip_fold_ok {x : Str} : ∀ (l : List (Int × Str)) {k : Nat} {b : SSt}, SOk x k b → SOk x (k + l.length) (l.foldl (stripStep x) b)
  | [], k, b, h => h
  | p :: l, k, b, h => by
    have := strip_fold_ok l (stripStep_ok h p)
    rw [List.foldl_cons, List.length_cons]
    rw [show k + (l.length + 1) = k + 1 + l.length by lia]
    exact this
section
variable {G : Gl} {A : Around} {n : Nat} {mg mb : Str → Option Value} {x : Str}
theorem run_strip (hA : Room (n + 4) A) (M : Mod G mg mb) (hx : x.length ≤ 1000) (act : Act strip_quoted_realnames_s (cellNames strip_quoted_realnames_s.names)) :
    Run G A act (execs strip_quoted_realnames_b act.env) (zipEnv ["addr"] [.str x]) fun fd _ => fd = .ret (.str (strip x)) := by
  unfold strip_quoted_realnames_b
  have hsz : x.length ≤ sizeLine := by unfold sizeLine; lia
  refine Run.cons (Run.ite (b := !Txt.contains x "\"") (Te.cmp (Ev.str _) (Ev.name rfl) Cmp.notInS) (fun h => ?_) fun h => Run.nil ?_)
  · refine Run.cons (Run.ret (Ev.name rfl) ?_)
    have h : Txt.contains x "\"" = false := by simpa using h
    unfold strip
    rw [h]; rfl
  have hc : Txt.contains x "\"" = true := by simpa using h
  refine Run.cons (Run.assign (Ev.int 0) (by decide) ?_)
  refine Run.cons (Run.assign Ev.none (by decide) ?_)
  refine Run.cons (Run.assignOwn (EvO.list .nil) (by decide) ?_)
  refine Run.cons (Run.mono (Q := fun fd ρ => fd = .next ∧ Has ρ [("addr", .val (.str x)), ("start", .val (.int (stripEnd x).1)), ("result", .own (.list ((stripEnd x).2.2.map .str)))]) ?_ ?_)
  · refine Run.forL (escaped x) outD (fun b : SSt => [("addr", .val (.str x)), ("start", .val (.int b.1)), ("open_pos", .val (oD b.2.1)), ("result", .own (.list (b.2.2.map .str)))]) (fun done rest b => b = done.foldl (stripStep x) (0, none, [])) (0, none, []) (Src.escaped hA M.f_iter_escaped_chars M.N M.b_enumerate.1 M.b_enumerate.2 (EvV.glob M.N rfl M.f_iter_escaped_chars.named) (Ev.name rfl)) rfl (Has.of rfl)
      (fun p b => bindLs ["pos", "ch"] [.val (.int p.1), .val (.str p.2)] [("addr", .val (.str x)), ("start", .val (.int b.1)), ("open_pos", .val (oD b.2.1)), ("result", .own (.list (b.2.2.map .str)))]) (fun done p rest b e hI => ⟨Takes.tuple hA (.cons (by decide) (.cons (by decide) .nil)) rfl, ?_⟩) (fun b ρ' hI hh => ?_)
    · have hok : SOk x done.length b := by
        rw [hI]
        have := strip_fold_ok (x := x) (k := 0) (b := (0, none, [])) done ⟨Nat.le_refl _, fun y hy => nomatch hy⟩
        rwa [Nat.zero_add] at this
      have hlen : b.2.2.length ≤ sizeLine := by
        have h1 := hok.1
        have h2 := escaped_len x
        rw [e] at h2
        simp at h2
        lia
      have hnext : stripStep x b p = (done ++ [p]).foldl (stripStep x) (0, none, []) := by rw [List.foldl_append, ← hI]; rfl
      refine Run.cons (Run.ite (b := p.2 == "\"") (Te.cmp (Ev.name rfl) (Ev.str _) (Cmp.eqS hA)) (fun h => ?_) fun h => ?_)
      · obtain ⟨st, op, res⟩ := b
        refine Run.cons (Run.ite (b := (oD op).isNone) (Te.cmp (Ev.name rfl) Ev.none Cmp.isNone) (fun h' => ?_) fun h' => ?_)
        · cases op with
          | some o => cases h'
          | none =>
            refine Run.cons (Run.assign (Ev.name rfl) (by decide) (Run.nil (Run.nil (Run.nil ⟨_, hnext, ?_⟩))))
            unfold stripStep
            rw [if_pos h]
            exact Has.of rfl
        · cases op with
          | none => cases h'
          | some o =>
            refine Run.cons (Run.mono (Q := fun fd ρ => fd = .next ∧ Has ρ [("addr", .val (.str x)), ("pos", .val (.int p.1)), ("result", .own (.list ((if st != o then res ++ [Txt.slice x (some st) (some o)] else res).map .str)))]) ?_ ?_)
            · refine Run.ite (b := st != o) (Te.cmp (Ev.name rfl) (Ev.name rfl) Cmp.neI) (fun h'' => ?_) fun h'' => Run.nil ⟨rfl, ?_⟩
              · refine Run.cons (Run.expr (EvX.append rfl (Ev.sliceS (Ev.name rfl) (Bd.at (Ev.name rfl)) (Bd.at (Ev.name rfl)) hsz) (by rw [List.length_map]; exact hlen)) (Run.nil ⟨rfl, ?_⟩))
                rw [if_pos h'', List.map_append]
                exact Has.of rfl
              · rw [h'']
                exact Has.of rfl
            · rintro fd ρ ⟨rfl, hρ⟩
              refine Run.has ?_ hρ
              refine Run.cons (Run.assign (Ev.bin (Ev.name rfl) (Ev.int 1) Op2.add) (by decide) ?_)
              refine Run.cons (Run.assign Ev.none (by decide) (Run.nil (Run.nil (Run.nil ⟨_, hnext, ?_⟩))))
              unfold stripStep
              rw [if_pos h]
              exact Has.of rfl
      · refine Run.nil (Run.nil ⟨_, hnext, ?_⟩)
        unfold stripStep
        rw [h]
        exact Has.of rfl
    · subst hI
      exact ⟨rfl, hh.1, hh.2.1, hh.2.2.2.1, trivial⟩
  rintro fd ρ ⟨rfl, hρ⟩
  refine Run.has ?_ hρ
  have hok : SOk x x.length (stripEnd x) := by
    have := strip_fold_ok (x := x) (k := 0) (b := (0, none, [])) (escaped x) ⟨Nat.le_refl _, fun y hy => nomatch hy⟩
    exact ⟨Nat.le_trans this.1 (by have := escaped_len x; lia), this.2⟩
  have hs : strip x = Txt.join "" (if (stripEnd x).1 < x.length then (stripEnd x).2.2 ++ [Txt.slice x (some (stripEnd x).1) none] else (stripEnd x).2.2) := by
    unfold strip
    rw [hc]; rfl
  rw [hs]
  clear hs
  generalize stripEnd x = b at hok
  obtain ⟨st, op, res⟩ := b
  have hk : ∀ l : List Str, l.length ≤ x.length + 1 → (∀ y ∈ l, y.length ≤ x.length) → (l.map (·.length)).sum + l.length ≤ 1048576 := fun l h1 h2 => by
    have : (l.map (·.length)).sum ≤ l.length * x.length := by
      clear h1
      induction l with
      | nil => simp
      | cons a l ih =>
        have := ih fun y hy => h2 y (.tail _ hy)
        have := h2 a (.head _)
        simp only [List.map_cons, List.sum_cons, List.length_cons]
        rw [Nat.succ_mul]; lia
    have h3 : l.length * x.length ≤ 1001 * 1000 := Nat.mul_le_mul (by lia) hx
    lia
  refine Run.cons (Run.mono (Q := fun fd ρ => fd = .next ∧ Has ρ [("result", .own (.list ((if st < x.length then res ++ [Txt.slice x (some st) none] else res).map .str)))]) ?_ ?_)
  · refine Run.ite (b := decide (st < x.length)) (Te.cmp (Ev.name rfl) (Ev.call (EvV.blt M.N rfl M.b_len.1 M.b_len.2) (.builtin _) (.more (Ev.name rfl) .nil) (CallD.lenS hsz)) Cmp.lt) (fun h => ?_) fun h => Run.nil ⟨rfl, ?_⟩
    · refine Run.cons (Run.expr (EvX.append rfl (Ev.sliceS (Ev.name rfl) (Bd.at (Ev.name rfl)) Bd.non hsz) (by rw [List.length_map]; exact Nat.le_trans hok.1 hsz)) (Run.nil ⟨rfl, ?_⟩))
      rw [if_pos (of_decide_eq_true h), List.map_append]
      exact Has.of rfl
    · rw [if_neg (of_decide_eq_false h)]
      exact Has.of rfl
  rintro fd ρ ⟨rfl, hρ⟩
  refine Run.has ?_ hρ
  refine Run.freeze "result" _ rfl (Run.cons (Run.ret (Ev.join (Ev.str _) (Ev.name rfl) (by decide) (hk _ ?_ ?_)) rfl))
  · have h1 : res.length ≤ x.length := hok.1
    split
    · simp; lia
    · lia
  · split
    · intro y hy
      rcases List.mem_append.mp hy with q | q
      · exact hok.2 y q
      · rw [List.mem_singleton.mp q]; exact slice_len ..
    · exact hok.2
end
end Mine
end

section
namespace Mine
open PySem PySem.Challenge PySem.Calls PyProof.Rows
theorem bindPlain {P : Arguments} {s : Shared} {fd : FuncData} {as : Args} {bs : List (Str × Value)} (h1 : fd.params = P) (h2 : fd.defaults = .none) (h3 : fd.kwdefaults = .none)
    (h : ∀ nm qn bd sc gl cl doc mo an cd ct bl, BindsTo s ⟨nm, qn, P, bd, sc, gl, cl, .none, .none, doc, mo, an, cd, ct, bl⟩ as bs) : BindsTo s fd as bs := by
  obtain ⟨nm, qn, ps, bd, sc, gl, cl, df, kd, doc, mo, an, cd, ct, bl⟩ := fd
  subst h1 h2 h3
  exact h _ _ _ _ _ _ _ _ _ _ _ _
noncomputable def checkGo : List (Int × Str) → Int → Bool
  | [], o => o == 0
  | p :: r, o => if p.2 == "(" then checkGo r (o + 1) else if p.2 == ")" then (if o - 1 < 0 then false else checkGo r (o - 1)) else checkGo r o
noncomputable def check (x : Str) : Bool := checkGo (escaped (strip x)) 0
section
variable {G : Gl} {A : Around} {n : Nat} {mg mb : Str → Option Value} {x : Str}
theorem call_strip (hA : Room (n + 5) A) (M : Mod G mg mb) (hx : x.length ≤ 1000) : CallD G A (.ref 85) [.str x] (.str (strip x)) := by
  refine CallD.fn (n := n + 4) (xs := ["addr"]) M.f_strip_quoted_realnames M.N hA (by decide) (by decide) [] rfl (fun vs fd S s hl h1 h2 h3 I => ?_) (fun S s I => .nil) fun act => (run_strip (hA.deeper act.env) M hx act).mono fun fd _ e => by rw [e]; rfl
  obtain ⟨a0, rfl⟩ := len1 hl
  exact bindPlain h1 h2 h3 fun _ _ _ _ _ _ _ _ _ _ _ _ => .of_eq rfl
theorem run_check (hA : Room (n + 5) A) (M : Mod G mg mb) (hx : x.length ≤ 1000) (act : Act check_parenthesis_s (cellNames check_parenthesis_s.names)) :
    Run G A act (execs check_parenthesis_b act.env) (zipEnv ["addr"] [.str x]) fun fd _ => fd = .ret (.bool (check x)) := by
  unfold check_parenthesis_b
  refine Run.cons (Run.assign (Ev.call (EvV.glob M.N rfl M.f_strip_quoted_realnames.named) (.func (M.f_strip_quoted_realnames.obj.choose_spec.choose_spec).1 (M.f_strip_quoted_realnames.obj.choose_spec.choose_spec).2.1) (.more (Ev.name rfl) .nil) (call_strip hA M hx)) (by decide) ?_)
  refine Run.cons (Run.assign (Ev.int 0) (by decide) ?_)
  have hch : check x = checkGo (escaped (strip x)) 0 := rfl
  generalize strip x = y at hch ⊢
  refine Run.cons (Run.mono (Q := fun fd ρ => (fd = .ret (.bool false) ∧ check x = false) ∨ (fd = .next ∧ ∃ o : Int, check x = (o == 0) ∧ Has ρ [("opens", .val (.int o))])) ?_ ?_)
  · refine Run.forL (escaped y) outD (fun o : Int => [("addr", .val (.str y)), ("opens", .val (.int o))]) (fun done rest o => check x = checkGo rest o) 0 (Src.escaped (n := n + 1) hA M.f_iter_escaped_chars M.N M.b_enumerate.1 M.b_enumerate.2 (EvV.glob M.N rfl M.f_iter_escaped_chars.named) (Ev.name rfl)) hch (Has.of rfl)
      (fun p o => bindLs ["pos", "ch"] [.val (.int p.1), .val (.str p.2)] [("addr", .val (.str y)), ("opens", .val (.int o))]) (fun done p rest o e hI => ⟨Takes.tuple hA (.cons (by decide) (.cons (by decide) .nil)) rfl, ?_⟩) (fun o ρ' hI hh => ?_)
    · unfold checkGo at hI
      refine Run.cons (Run.ite (b := p.2 == "(") (Te.cmp (Ev.name rfl) (Ev.str _) (Cmp.eqS hA)) (fun h => ?_) fun h => ?_)
      · rw [if_pos h] at hI
        exact Run.cons (Run.aug rfl (Ev.int 1) Op2.iadd (by decide) (Run.nil (Run.nil ⟨_, hI, Has.of rfl⟩)))
      · rw [h] at hI
        refine Run.cons (Run.ite (b := p.2 == ")") (Te.cmp (Ev.name rfl) (Ev.str _) (Cmp.eqS hA)) (fun h' => ?_) fun h' => ?_)
        · rw [if_pos h'] at hI
          refine Run.cons (Run.aug rfl (Ev.int 1) Op2.isub (by decide) ?_)
          refine Run.cons (Run.ite (b := decide (o - 1 < 0)) (Te.cmp (Ev.name rfl) (Ev.int 0) Cmp.lt) (fun h'' => ?_) fun h'' => ?_)
          · rw [if_pos (of_decide_eq_true h'')] at hI
            exact Run.cons (Run.ret (Ev.bool _) (.inl ⟨rfl, hI⟩))
          · rw [if_neg (of_decide_eq_false h'')] at hI
            exact Run.nil (Run.nil (Run.nil (Run.nil ⟨_, hI, Has.of rfl⟩)))
        · rw [h'] at hI
          exact Run.nil (Run.nil (Run.nil ⟨_, hI, Has.of rfl⟩))
    · exact .inr ⟨rfl, o, hI, hh.2.1, trivial⟩
  rintro fd ρ (⟨rfl, h⟩ | ⟨rfl, o, h, hρ⟩)
  · rw [h]; rfl
  · rw [h]
    refine Run.has ?_ hρ
    exact Run.cons (Run.ret (Ev.cmp (Ev.name rfl) (Ev.int 0) Cmp.eqI) rfl)
theorem call_check (hA : Room (n + 6) A) (M : Mod G mg mb) (hx : x.length ≤ 1000) : CallD G A (.ref 92) [.str x] (.bool (check x)) := by
  refine CallD.fn (n := n + 5) (xs := ["addr"]) M.f_check_parenthesis M.N hA (by decide) (by decide) [] rfl (fun vs fd S s hl h1 h2 h3 I => ?_) (fun S s I => .nil) fun act => (run_check (hA.deeper act.env) M hx act).mono fun fd _ e => by rw [e]; rfl
  obtain ⟨a0, rfl⟩ := len1 hl
  exact bindPlain h1 h2 h3 fun _ _ _ _ _ _ _ _ _ _ _ _ => .of_eq rfl
end
end Mine
end

section
namespace Mine
open PySem PySem.Challenge PySem.Calls PyProof.Rows
section
variable {α : Type}
noncomputable def aget (k : Ky) : List (Ky × α) → Option α
  | [] => none
  | p :: l => if p.1 = k then some p.2 else aget k l
noncomputable def aput (l : List (Ky × α)) (k : Ky) (v : α) : List (Ky × α) := if k ∈ l.map (·.1) then l.map (fun p => if p.1 = k then (p.1, v) else p) else l ++ [(k, v)]
noncomputable def adict (φ : α → D) (l : List (Ky × α)) : D := .dict (l.map (·.1)) (l.map fun p => φ p.2)
theorem dfind_aget (φ : α → D) {k : Ky} : ∀ {l : List (Ky × α)}, dfind k (l.map (·.1)) (l.map fun p => φ p.2) = (aget k l).map φ
  | [] => rfl
  | p :: l => by
    simp only [List.map_cons, dfind, aget]
    split
    · rfl
    · exact dfind_aget φ
theorem zip_put (φ : α → D) {k : Ky} {v : α} : ∀ l : List (Ky × α), List.zipWith (fun k' d' => if k' = k then φ v else d') (l.map (·.1)) (l.map fun p => φ p.2) = (l.map fun p => if p.1 = k then (p.1, v) else p).map fun p => φ p.2
  | [] => rfl
  | p :: l => by
    simp only [List.map_cons, List.zipWith_cons_cons]
    rw [zip_put φ l]
    congr 1
    split <;> rfl
theorem dput_aput (φ : α → D) {k : Ky} {v : α} {l : List (Ky × α)} : dput (l.map (·.1)) (l.map fun p => φ p.2) k (φ v) = ((aput l k v).map (·.1), (aput l k v).map fun p => φ p.2) := by
  unfold dput aput
  split
  · rw [zip_put]
    congr 1
    rw [List.map_map]
    refine List.map_congr_left fun p hp => ?_
    simp only [Function.comp]
    split <;> rfl
  · rw [List.map_append, List.map_append]; rfl
theorem aput_len {l : List (Ky × α)} {k : Ky} {v : α} : (aput l k v).length ≤ l.length + 1 := by
  unfold aput
  split
  · rw [List.length_map]; lia
  · simp
theorem aget_none {k : Ky} : ∀ {l : List (Ky × α)}, aget k l = none ↔ k ∉ l.map (·.1)
  | [] => by simp [aget]
  | p :: l => by
    unfold aget
    by_cases q : p.1 = k
    · simp [q]
    · rw [if_neg q, aget_none]
      simp only [List.map_cons, List.mem_cons, not_or]
      exact ⟨fun h => ⟨fun e => q e.symm, h⟩, fun h => h.2⟩
theorem itemDs_map (φ : α → D) {l : List (Ky × α)} : itemDs (l.map (·.1)) (l.map fun p => φ p.2) = l.map fun p => pairD p.1 (φ p.2) := by
  unfold itemDs
  induction l with
  | nil => rfl
  | cons p l ih => simp only [List.map_cons, List.zipWith_cons_cons, ih]
noncomputable def acopy (t : List (Ky × α)) : List (Ky × α) := t.foldl (fun q p => aput q p.1 p.2) []
noncomputable def comb (add : α → α → α) : Option α → α → α
  | some v, w => add v w
  | none, w => w
noncomputable def amerge (add : α → α → α) (t s : List (Ky × α)) : List (Ky × α) := s.foldl (fun q p => aput q p.1 (comb add (aget p.1 q) p.2)) (acopy t)
theorem acopy_len (t : List (Ky × α)) : (acopy t).length ≤ t.length := by
  have : ∀ (t q : List (Ky × α)), (t.foldl (fun q p => aput q p.1 p.2) q).length ≤ q.length + t.length := fun t => by
    induction t with
    | nil => intro q; simp
    | cons p t ih => intro q; rw [List.foldl_cons, List.length_cons]; have := ih (aput q p.1 p.2); have := aput_len (l := q) (k := p.1) (v := p.2); lia
  have := this t []
  unfold acopy
  simpa using this
end
section
variable {G : Gl} {A : Around} {n : Nat} {mg mb : Str → Option Value} {x : Str}
theorem run_count (hA : Room (n + 1) A) {l : List (Ky × Int)} (act : Act count_calls_s (cellNames count_calls_s.names)) :
    Run G A act (execs count_calls_b act.env) (zipEnv ["callers"] [adict .int l]) fun fd _ => fd = .ret (.int (l.map (·.2)).sum) := by
  unfold count_calls_b
  refine Run.cons (Run.assign (Ev.int 0) (by decide) ?_)
  refine Run.cons (Run.mono (Q := fun fd ρ => fd = .next ∧ Has ρ [("nc", .val (.int (l.map (·.2)).sum))]) ?_ ?_)
  · refine Run.forL (l.map (·.2)) D.int (fun o : Int => [("nc", .val (.int o))]) (fun done rest o => o + rest.sum = (l.map (·.2)).sum) 0 (Src.of hA (Ev.values (Ev.name rfl)) (by rw [List.map_map]; exact .values _ _)) (Int.zero_add _) (Has.of rfl)
      (fun v o => ("calls", .val (.int v)) :: [("nc", .val (.int o))]) (fun done v rest o e hI => ⟨Takes.name (by decide), ?_⟩) (fun o ρ' hI hh => ?_)
    · refine Run.cons (Run.aug rfl (Ev.name rfl) Op2.iadd (by decide) (Run.nil ⟨_, ?_, Has.of rfl⟩))
      rw [List.sum_cons] at hI
      lia
    · have : o = (l.map (·.2)).sum := by simpa using hI
      rw [← this]
      exact ⟨rfl, hh⟩
  rintro fd ρ ⟨rfl, hρ⟩
  refine Run.has ?_ hρ
  exact Run.cons (Run.ret (Ev.name rfl) rfl)
end
end Mine
end

section
namespace Mine
open PySem PySem.Challenge PySem.Calls PyProof.Rows
section
variable {G : Gl} {A : Around} {n : Nat} {mg mb : Str → Option Value} {x : Str}
theorem amerge_len {α : Type} (add : α → α → α) (t s : List (Ky × α)) : (amerge add t s).length ≤ t.length + s.length := by
  have : ∀ (s q : List (Ky × α)), (s.foldl (fun q p => aput q p.1 (comb add (aget p.1 q) p.2)) q).length ≤ q.length + s.length := fun s => by
    induction s with
    | nil => intro q; simp
    | cons p t ih => intro q; rw [List.foldl_cons, List.length_cons]; have := ih (aput q p.1 (comb add (aget p.1 q) p.2)); have := aput_len (l := q) (k := p.1) (v := (comb add (aget p.1 q) p.2)); lia
  have h1 := this s (acopy t)
  have h2 := acopy_len t
  unfold amerge
  lia
theorem run_add_callers (hA : Room (n + 1) A) (M : Mod G mg mb) {t s : List (Ky × Int)} (ht : t.length + s.length ≤ 1000) (act : Act add_callers_s (cellNames add_callers_s.names)) :
    Run G A act (execs add_callers_b act.env) (zipEnv ["target", "source"] [adict .int t, adict .int s]) fun fd _ => fd = .ret (adict .int (amerge (· + ·) t s)) := by
  unfold add_callers_b
  have big : 1000 ≤ sizeLine := by decide
  refine Run.cons (Run.assignOwn EvO.dict0 (by decide) ?_)
  refine Run.cons (Run.mono (Q := fun fd ρ => fd = .next ∧ Has ρ [("source", .val (adict .int s)), ("new_callers", .own (adict .int (acopy t)))]) ?_ ?_)
  · refine Run.forL t (fun p => pairD p.1 (.int p.2)) (fun q : List (Ky × Int) => [("source", .val (adict .int s)), ("new_callers", .own (adict .int q))]) (fun done rest q => q = done.foldl (fun q p => aput q p.1 p.2) []) []
      (by rw [← itemDs_map D.int]; exact Src.items hA (Ev.items (Ev.name rfl))) rfl (Has.of rfl)
      (fun p q => bindLs ["func", "caller"] [.val p.1.d, .val (.int p.2)] [("source", .val (adict .int s)), ("new_callers", .own (adict .int q))]) (fun done p rest q e hI => ⟨Takes.tuple hA (.cons (by decide) (.cons (by decide) .nil)) rfl, ?_⟩) (fun o ρ' hI hh => ?_)
    · have hq : q.length ≤ sizeLine := by
        have h1 := acopy_len done
        unfold acopy at h1
        rw [← hI] at h1
        have : done.length ≤ t.length := by rw [e]; simp
        lia
      refine Run.cons (Run.setD rfl (Ev.name rfl) (Ev.name rfl) (by rw [List.length_map]; exact hq) (Run.nil ⟨aput q p.1 p.2, by rw [List.foldl_append, ← hI]; rfl, ?_⟩))
      rw [dput_aput]
      exact Has.of rfl
    · subst hI
      exact ⟨rfl, hh⟩
  rintro fd ρ ⟨rfl, hρ⟩
  refine Run.has ?_ hρ
  refine Run.cons (Run.mono (Q := fun fd ρ => fd = .next ∧ Has ρ [("new_callers", .own (adict .int (amerge (· + ·) t s)))]) ?_ ?_)
  · refine Run.forL s (fun p => pairD p.1 (.int p.2)) (fun q : List (Ky × Int) => [("new_callers", .own (adict .int q))]) (fun done rest q => q = amerge (· + ·) t done) (acopy t)
      (by rw [← itemDs_map D.int]; exact Src.items hA (Ev.items (Ev.name rfl))) rfl (Has.of rfl)
      (fun p q => bindLs ["func", "caller"] [.val p.1.d, .val (.int p.2)] [("new_callers", .own (adict .int q))]) (fun done p rest q e hI => ⟨Takes.tuple hA (.cons (by decide) (.cons (by decide) .nil)) rfl, ?_⟩) (fun o ρ' hI hh => ?_)
    · have hq : q.length ≤ sizeLine := by
        have h1 := amerge_len (· + ·) t done
        rw [← hI] at h1
        have : done.length ≤ s.length := by rw [e]; simp
        lia
      have hn : ∀ v, v = aput q p.1 (comb (· + ·) (aget p.1 q) p.2) → v = amerge (· + ·) t (done ++ [p]) := fun v hv => by
        rw [hv, hI]
        unfold amerge
        rw [List.foldl_append]; rfl
      refine Run.cons (Run.ite (b := decide (p.1 ∈ q.map (·.1))) (Te.inOwn rfl (Ev.name rfl)) (fun h => ?_) fun h => ?_)
      · have h := of_decide_eq_true h
        obtain ⟨v₀, hv₀⟩ : ∃ v₀, aget p.1 q = some v₀ := by
          cases z : aget p.1 q with
          | some v => exact ⟨v, rfl⟩
          | none => exact absurd h (aget_none.mp z)
        refine Run.cons (Run.ite (b := false) (Te.of (Ev.isTup (i := p.2) (ds := []) (EvV.blt M.N rfl M.b_isinstance.1 M.b_isinstance.2) (Ev.name rfl) (EvV.blt M.N rfl M.b_tuple.1 M.b_tuple.2) (.inl rfl)) Tru.bool) (fun h => nomatch h) fun _ => ?_)
        refine Run.cons (Run.augD rfl (Ev.name rfl) (d₀ := .int v₀) (by rw [dfind_aget, hv₀]; rfl) (Ev.name rfl) Op2.iadd (by rw [List.length_map]; exact hq) (Run.nil (Run.nil (Run.nil ⟨_, hn _ rfl, ?_⟩))))
        rw [hv₀, dput_aput]
        exact Has.of rfl
      · have h := of_decide_eq_false h
        refine Run.cons (Run.setD rfl (Ev.name rfl) (Ev.name rfl) (by rw [List.length_map]; exact hq) (Run.nil (Run.nil ⟨_, hn _ rfl, ?_⟩)))
        rw [aget_none.mpr h, dput_aput]
        exact Has.of rfl
    · subst hI
      exact ⟨rfl, hh⟩
  rintro fd ρ ⟨rfl, hρ⟩
  refine Run.has ?_ hρ
  exact Run.freeze "new_callers" _ rfl (Run.cons (Run.ret (Ev.name rfl) rfl))
theorem call_add_callers (hA : Room (n + 2) A) (M : Mod G mg mb) {t s : List (Ky × Int)} (ht : t.length + s.length ≤ 1000) : CallD G A (.ref 28) [adict .int t, adict .int s] (adict .int (amerge (· + ·) t s)) := by
  refine CallD.fn (n := n + 1) (xs := ["target", "source"]) M.f_add_callers M.N hA (by decide) (by decide) [] rfl (fun vs fd S s hl h1 h2 h3 I => ?_) (fun S s I => .nil) fun act => (run_add_callers (hA.deeper act.env) M ht act).mono fun fd _ e => by rw [e]; rfl
  obtain ⟨a0, a1, rfl⟩ := len2 hl
  exact bindPlain h1 h2 h3 fun _ _ _ _ _ _ _ _ _ _ _ _ => .of_eq rfl
theorem call_count (hA : Room (n + 2) A) (M : Mod G mg mb) {l : List (Ky × Int)} : CallD G A (.ref 35) [adict .int l] (.int (l.map (·.2)).sum) := by
  refine CallD.fn (n := n + 1) (xs := ["callers"]) M.f_count_calls M.N hA (by decide) (by decide) [] rfl (fun vs fd S s hl h1 h2 h3 I => ?_) (fun S s I => .nil) fun act => (run_count (hA.deeper act.env) act).mono fun fd _ e => by rw [e]; rfl
  obtain ⟨a0, rfl⟩ := len1 hl
  exact bindPlain h1 h2 h3 fun _ _ _ _ _ _ _ _ _ _ _ _ => .of_eq rfl
end
end Mine
end

section
namespace Mine
open PySem PySem.Challenge PySem.Calls PyProof.Rows
structure Stat where
  cc : Int
  nc : Int
  tt : Int
  ct : Int
  by_ : List (Ky × Int)
noncomputable def Stat.d (s : Stat) : D := .tuple [.int s.cc, .int s.nc, .int s.tt, .int s.ct, adict .int s.by_]
noncomputable def Stat.add (t s : Stat) : Stat := ⟨s.cc + t.cc, s.nc + t.nc, s.tt + t.tt, s.ct + t.ct, amerge (· + ·) t.by_ s.by_⟩
section
variable {G : Gl} {A : Around} {n : Nat} {mg mb : Str → Option Value} {x : Str}
theorem run_add_stats (hA : Room (n + 2) A) (M : Mod G mg mb) {t s : Stat} (ht : t.by_.length + s.by_.length ≤ 1000) (act : Act add_func_stats_s (cellNames add_func_stats_s.names)) :
    Run G A act (execs add_func_stats_b act.env) (zipEnv ["target", "source"] [t.d, s.d]) fun fd _ => fd = .ret (t.add s).d := by
  unfold add_func_stats_b
  refine Run.cons (Run.unpack hA (Ev.name (d := s.d) rfl) (xs := ["cc", "nc", "tt", "ct", "callers"]) (.cons (by decide) (.cons (by decide) (.cons (by decide) (.cons (by decide) (.cons (by decide) .nil))))) rfl ?_)
  refine Run.cons (Run.unpack hA (Ev.name (d := t.d) rfl) (xs := ["t_cc", "t_nc", "t_tt", "t_ct", "t_callers"]) (.cons (by decide) (.cons (by decide) (.cons (by decide) (.cons (by decide) (.cons (by decide) .nil))))) rfl ?_)
  refine Run.cons (Run.ret (Ev.tuple (.more (Ev.bin (Ev.name rfl) (Ev.name rfl) Op2.add) (.more (Ev.bin (Ev.name rfl) (Ev.name rfl) Op2.add) (.more (Ev.bin (Ev.name rfl) (Ev.name rfl) Op2.add) (.more (Ev.bin (Ev.name rfl) (Ev.name rfl) Op2.add)
    (.more (Ev.call (EvV.glob M.N rfl M.f_add_callers.named) (.func (M.f_add_callers.obj.choose_spec.choose_spec).1 (M.f_add_callers.obj.choose_spec.choose_spec).2.1) (.more (Ev.name rfl) (.more (Ev.name rfl) .nil)) (call_add_callers hA M ht)) .nil)))))) rfl)
theorem call_add_stats (hA : Room (n + 3) A) (M : Mod G mg mb) {t s : Stat} (ht : t.by_.length + s.by_.length ≤ 1000) : CallD G A (.ref 21) [t.d, s.d] (t.add s).d := by
  refine CallD.fn (n := n + 2) (xs := ["target", "source"]) M.f_add_func_stats M.N hA (by decide) (by decide) [] rfl (fun vs fd S s hl h1 h2 h3 I => ?_) (fun S s I => .nil) fun act => (run_add_stats (hA.deeper act.env) M ht act).mono fun fd _ e => by rw [e]; rfl
  obtain ⟨a0, a1, rfl⟩ := len2 hl
  exact bindPlain h1 h2 h3 fun _ _ _ _ _ _ _ _ _ _ _ _ => .of_eq rfl
end
end Mine
end

section
namespace Mine
open PySem PySem.Challenge PySem.Calls PyProof.Rows
noncomputable def lsums (is : List Int) : List Int := (ri 0 (is.length + 1)).map fun k => (lslice is none (some k) none).sum
section
variable {G : Gl} {A : Around} {n : Nat} {mg mb : Str → Option Value} {x : Str}
theorem run_law_sums (hA : Room (n + 2) A) (M : Mod G mg mb) {is : List Int} (hn : is.length ≤ 1000) (act : Act law_sums_s (cellNames law_sums_s.names)) :
    Run G A act (execs law_sums_b act.env) (zipEnv ["numbers"] [.list (is.map .int)]) fun fd _ => fd = .ret (.list ((lsums is).map .int)) := by
  unfold law_sums_b
  refine Run.cons (Run.ret (EvO.ev (EvO.lc (ri 0 (is.length + 1)) D.int (fun k => ("k", .val (.int k)) :: LEnv.inner _ (zipEnv ["numbers"] [.list (is.map .int)])) (fun _ => true) (fun k => .int (lslice is none (some k) none).sum) ?_ ?_ (fun act' k hk => ⟨Takes.name (by decide), inner_keep1 (by decide), Tests.none, fun _ => ?_⟩) rfl)) ?_)
  · exact Src.of hA (Ev.call (EvV.blt M.N rfl M.b_range.1 M.b_range.2) (.type _) (.more (Ev.bin (Ev.call (EvV.blt M.N rfl M.b_len.1 M.b_len.2) (.builtin _) (.more (Ev.name rfl) .nil) (CallD.lenL (by rw [List.length_map]; exact Nat.le_trans hn (by decide)))) (Ev.int 1) Op2.add) .nil) (by rw [List.length_map]; exact CallD.range1)) (.range (by decide) (by decide) (by lia) (by lia))
  · unfold ri
    rw [List.length_map, List.length_range]
    have : (1001 : Nat) ≤ sizeLine := by decide
    lia
  · have hk0 : 0 ≤ k ∧ k < is.length + 1 := by
      unfold ri at hk
      obtain ⟨i, hi, rfl⟩ := List.mem_map.mp hk
      rw [List.mem_range] at hi
      lia
    refine Ev.call (EvV.blt M.N rfl M.b_sum.1 M.b_sum.2) (.builtin _) (.more (EvO.ev (EvO.sliced (Ev.name rfl) Bd.non (Bd.at (Ev.name rfl)) Bd.non (by rw [List.length_map]; exact Nat.le_trans hn (by decide)) (fun e => nomatch e))) .nil) ?_
    rw [lslice_map]
    exact CallD.sum hA
  · rw [filter_all]
    unfold lsums
    rw [List.map_map]
    rfl
theorem call_law_sums (hA : Room (n + 3) A) (M : Mod G mg mb) {is : List Int} (hn : is.length ≤ 1000) : CallD G A (.ref 107) [.list (is.map .int)] (.list ((lsums is).map .int)) := by
  refine CallD.fn (n := n + 2) (xs := ["numbers"]) M.f_law_sums M.N hA (by decide) (by decide) [] rfl (fun vs fd S s hl h1 h2 h3 I => ?_) (fun S s I => .nil) fun act => (run_law_sums (hA.deeper act.env) M hn act).mono fun fd _ e => by rw [e]; rfl
  obtain ⟨a0, rfl⟩ := len1 hl
  exact bindPlain h1 h2 h3 fun _ _ _ _ _ _ _ _ _ _ _ _ => .of_eq rfl
end
end Mine
end

section
namespace Mine
open PySem PySem.Challenge PySem.Calls PyProof.Rows
section
variable {α : Type}
noncomputable def sget (k : Str) : List (Str × α) → Option α
  | [] => none
  | p :: l => if p.1 = k then some p.2 else sget k l
noncomputable def sdict (φ : α → D) (l : List (Str × α)) : D := .dict (l.map fun p => .s p.1) (l.map fun p => φ p.2)
theorem dfind_sget (φ : α → D) {k : Str} : ∀ {l : List (Str × α)}, dfind (.s k) (l.map fun p => .s p.1) (l.map fun p => φ p.2) = (sget k l).map φ
  | [] => rfl
  | p :: l => by
    simp only [List.map_cons, dfind, sget, Ky.s.injEq]
    split
    · rfl
    · exact dfind_sget φ
end
noncomputable def kids (up pieces : List (Str × Str)) (back : Int) (x : Str) : List Str := lslice ((pieces.map (·.1)).filter fun y => (sget y up).getD "" == x) none none (some back)
noncomputable def lwrite (up pieces : List (Str × Str)) (back : Int) : Nat → Str → Str
  | 0, _ => ""
  | n + 1, x => "(" ++ x ++ (sget x pieces).getD "" ++ Txt.join "" ((kids up pieces back x).map (lwrite up pieces back n)) ++ ")"
noncomputable def fits (up pieces : List (Str × Str)) (back : Int) : Nat → Str → Prop
  | 0, _ => False
  | n + 1, x => (sget x pieces).isSome = true ∧ x.length ≤ 1000 ∧ ((sget x pieces).getD "").length ≤ 1000 ∧ (((kids up pieces back x).map (lwrite up pieces back n)).map (·.length)).sum + (kids up pieces back x).length ≤ 1000 ∧
    (Txt.join "" ((kids up pieces back x).map (lwrite up pieces back n))).length ≤ 1000 ∧ ∀ y ∈ kids up pieces back x, fits up pieces back n y
section
variable {G : Gl} {A : Around} {n : Nat} {mg mb : Str → Option Value} {x : Str}
theorem str_len_append (a b : Str) : (a ++ b).length = a.length + b.length := by
  show (a.cps ++ b.cps).size = _
  rw [Array.size_append]; rfl
theorem run_law_write {up pieces : List (Str × Str)} {back : Int} (hb : back ≠ 0) (hp : pieces.length ≤ 1000) (M : Mod G mg mb) (k : Nat)
    (ih : ∀ y A, fits up pieces back k y → Room (n + 2 + 2 * k) A → CallD G A (.ref 97) [.str y, sdict .str up, sdict .str pieces, .int back] (.str (lwrite up pieces back k y)))
    (hA : Room (n + 2 + 2 * k + 1) A) (hf : fits up pieces back (k + 1) x) (act : Act law_write_s (cellNames law_write_s.names)) :
    Run G A act (execs law_write_b act.env) (zipEnv ["x", "up", "pieces", "back"] [.str x, sdict .str up, sdict .str pieces, .int back]) fun fd _ => fd = .ret (.str (lwrite up pieces back (k + 1) x)) := by
  unfold law_write_b
  have big : 100000 ≤ sizeLine := by decide
  refine Run.cons (Run.assignComp (CompRuns.list (pieces.map (·.1)) D.str (fun y => ("y", .val (.str y)) :: LEnv.inner _ (zipEnv ["x", "up", "pieces", "back"] [.str x, sdict .str up, sdict .str pieces, .int back])) (fun y => (sget y up).getD "" == x) D.str ?_ ?_ (fun act' y hy => ⟨Takes.name (by decide), inner_keep1 (by decide), Tests.one ?_, fun _ => Ev.name rfl⟩) (by decide) (by intro _; rfl)) rfl (by intro _; rfl) (by decide) ?_ _ rfl)
  · have e : (pieces.map (·.1)).map D.str = (pieces.map fun p => Ky.s p.1).map Ky.d := by rw [List.map_map, List.map_map]; rfl
    rw [e]
    exact Src.of hA (Ev.name (d := sdict D.str pieces) rfl) (.dict _ _)
  · rw [List.length_map]; lia
  · exact Te.cmp (Ev.get2 (k := .s y) (e := .str "") (ds := up.map fun p => .str p.2) (ks := up.map fun p => .s p.1) (Ev.name rfl) (Ev.name rfl) (Ev.str _)) (Ev.name rfl) (by
      rw [dfind_sget, show ((sget y up).map D.str).getD (.str "") = .str ((sget y up).getD "") by cases sget y up <;> rfl]
      exact Cmp.eqS hA)
  (refine cps fun ZP zk => ?_; obtain ⟨f1, f2, f3, f4, f5, f6⟩ := hf; refine zk ?_)
  refine Run.freeze "within" _ rfl (Run.cons (Run.ret (Ev.bin (Ev.bin (Ev.bin (Ev.bin (Ev.str _) (Ev.name rfl) (Op2.addS ?_)) (Ev.sub (Ev.name rfl) (Ev.name rfl) (SubD.dict (k := .s x) (d := .str ((sget x pieces).getD "")) ?_)) (Op2.addS ?_)) (Ev.join (ss := (kids up pieces back x).map (lwrite up pieces back k)) (Ev.str _) ?_ ?_ ?_) (Op2.addS ?_)) (Ev.str _) (Op2.addS ?_)) ?_))
  · rw [show (Str.ofString "(").length = 1 from rfl]; lia
  · rw [dfind_sget]
    cases q : sget x pieces with
    | none => rw [q] at f1; cases f1
    | some p => rfl
  · rw [str_len_append, show (Str.ofString "(").length = 1 from rfl]; lia
  · refine EvO.ev (EvO.lc (kids up pieces back x) D.str (fun y => ("y", .val (.str y)) :: LEnv.inner _ _) (fun _ => true) (fun y => .str (lwrite up pieces back k y)) ?_ ?_ (fun act' y hy => ⟨Takes.name (by decide), inner_keep1 (by decide), Tests.none, fun _ => ?_⟩) ?_)
    · unfold kids
      rw [← lslice_map]
      exact Src.of hA (EvO.ev (EvO.sliced (Ev.name rfl) Bd.non Bd.non (Bd.at (Ev.name rfl)) (by rw [List.length_map]; exact Nat.le_trans (List.length_filter_le ..) (by rw [List.length_map]; lia)) (by simpa using hb))) (.list _)
    · have := f4; lia
    · exact Ev.call (EvV.glob M.N rfl M.f_law_write.named) (.func (M.f_law_write.obj.choose_spec.choose_spec).1 (M.f_law_write.obj.choose_spec.choose_spec).2.1) (.more (Ev.name rfl) (.more (Ev.name rfl) (.more (Ev.name rfl) (.more (Ev.name rfl) .nil)))) (ih y A (f6 y hy) ⟨hA.handled, by have := hA.depth; lia, by have := hA.units; lia⟩)
    · rw [filter_all, List.map_map]; rfl
  · decide
  · rw [List.length_map]; lia
  · rw [str_len_append, str_len_append, show (Str.ofString "(").length = 1 from rfl]; lia
  · rw [str_len_append, str_len_append, str_len_append, show (Str.ofString "(").length = 1 from rfl, show (Str.ofString ")").length = 1 from rfl]; lia
  · rfl
theorem call_law_write {up pieces : List (Str × Str)} {back : Int} (hb : back ≠ 0) (hp : pieces.length ≤ 1000) (M : Mod G mg mb) : ∀ (k : Nat) (y : Str) (A : Around), fits up pieces back k y → Room (n + 2 + 2 * k) A →
    CallD G A (.ref 97) [.str y, sdict .str up, sdict .str pieces, .int back] (.str (lwrite up pieces back k y))
  | 0, y, A, h, _ => h.elim
  | k + 1, y, A, h, hA => by
    refine CallD.fn (n := n + 2 + 2 * k + 1) (xs := ["x", "up", "pieces", "back"]) M.f_law_write M.N hA (by decide) (by decide) [] rfl (fun vs fd S s hl h1 h2 h3 I => ?_) (fun S s I => .nil) fun act => (run_law_write hb hp M k (fun y A => call_law_write hb hp M k y A) (hA.deeper act.env) h act).mono fun fd _ e => by rw [e]; rfl
    obtain ⟨a0, a1, a2, a3, rfl⟩ := len4 hl
    exact bindPlain h1 h2 h3 fun _ _ _ _ _ _ _ _ _ _ _ _ => .of_eq rfl
end
end Mine
end

section
namespace Mine
open PySem PySem.Challenge PySem.Calls PyProof.Rows
noncomputable def uAt (us : List Str) (i : Int) : Str := (us[i.toNat]?).getD ""
noncomputable def opensOf (us : List Str) : List Int := (ri 0 us.length).filter fun k => uAt us k == "("
noncomputable def isMate (us : List Str) (i j : Int) : Bool := uAt us j == ")" && check (Txt.join "" (lslice us (some i) (some (j + 1)) none))
noncomputable def mateOf (us : List Str) (i : Int) : Option Int := (ri i us.length).find? (isMate us i)
noncomputable def endsOf (us : List Str) : List (Int × Int) := (opensOf us).filterMap fun i => (mateOf us i).map fun j => (i, j)
noncomputable def edict (l : List (Int × Int)) : D := .dict (l.map fun p => .i p.1) (l.map fun p => .int p.2)
noncomputable def spansOf (us : List Str) : List (Ky × Int × Int) := acopy ((endsOf us).map fun p => (.s (uAt us (p.1 + 1)), p))
noncomputable def aroundOf (us : List Str) : List (Ky × List Str) := acopy ((endsOf us).map fun p => (.s (uAt us (p.1 + 1)), ((endsOf us).filter fun k => decide (k.1 ≤ p.1) && decide (p.2 ≤ k.2)).map fun k => uAt us (k.1 + 1)))
noncomputable def unitsOf (x : Str) : List Str := (escaped (strip x)).map (·.2)
noncomputable def spanD (p : Int × Int) : D := .tuple [.int p.1, .int p.2]
noncomputable def strsD (l : List Str) : D := .list (l.map .str)
theorem ri_nodup (x y : Int) : (ri x y).Nodup := by
  unfold ri
  refine List.Pairwise.map _ (fun a b h => ?_) List.nodup_range
  intro e; exact h (by lia)
theorem mem_ri {x y k : Int} : k ∈ ri x y ↔ x ≤ k ∧ k < y := by
  unfold ri
  constructor
  · intro h
    obtain ⟨i, hi, rfl⟩ := List.mem_map.mp h
    rw [List.mem_range] at hi
    lia
  · rintro ⟨h1, h2⟩
    exact List.mem_map.mpr ⟨(k - x).toNat, by rw [List.mem_range]; lia, by lia⟩
theorem ri_len (x y : Int) : (ri x y).length = (y - x).toNat := by unfold ri; rw [List.length_map, List.length_range]
theorem dput_new {ks : List Ky} {ds : List D} {k : Ky} {d : D} (h : k ∉ ks) : dput ks ds k d = (ks ++ [k], ds ++ [d]) := by unfold dput; rw [if_neg h]
theorem dmk_acopy {α : Type} (φ : α → D) (l : List (Ky × α)) : dmk (l.map fun p => (p.1, φ p.2)) = ((acopy l).map (·.1), (acopy l).map fun p => φ p.2) := by
  have : ∀ (l q : List (Ky × α)), (l.map fun p => (p.1, φ p.2)).foldl (fun q kd => dput q.1 q.2 kd.1 kd.2) (q.map (·.1), q.map fun p => φ p.2) = ((l.foldl (fun q p => aput q p.1 p.2) q).map (·.1), (l.foldl (fun q p => aput q p.1 p.2) q).map fun p => φ p.2) := by
    intro l
    induction l with
    | nil => intro q; rfl
    | cons p l ih =>
      intro q
      rw [List.map_cons, List.foldl_cons, List.foldl_cons]
      show List.foldl _ (dput (q.map (·.1)) (q.map fun p => φ p.2) p.1 (φ p.2)) _ = _
      rw [dput_aput, ih]
  exact this l []
theorem dfind_edict {i j : Int} : ∀ {l : List (Int × Int)}, (i, j) ∈ l → (l.map (·.1)).Nodup → dfind (.i i) (l.map fun p => .i p.1) (l.map fun p => .int p.2) = some (.int j)
  | p :: l, h, nd => by
    rw [List.map_cons, List.nodup_cons] at nd
    simp only [List.map_cons, dfind, Ky.i.injEq]
    rcases List.mem_cons.mp h with rfl | h
    · simp
    · rw [if_neg (fun e => nd.1 (List.mem_map.mpr ⟨_, h, e.symm⟩))]
      exact dfind_edict h nd.2
theorem opens_mem {us : List Str} {i : Int} (h : i ∈ opensOf us) : 0 ≤ i ∧ i < us.length ∧ uAt us i = "(" := by
  unfold opensOf at h
  obtain ⟨h1, h2⟩ := List.mem_filter.mp h
  rw [mem_ri] at h1
  exact ⟨h1.1, h1.2, by simpa using h2⟩
theorem ends_mem {us : List Str} {p : Int × Int} (h : p ∈ endsOf us) : p.1 ∈ opensOf us ∧ mateOf us p.1 = some p.2 := by
  unfold endsOf at h
  obtain ⟨i, hi, e⟩ := List.mem_filterMap.mp h
  cases q : mateOf us i with
  | none => rw [q] at e; cases e
  | some j => rw [q] at e; cases e; exact ⟨hi, q⟩
theorem mate_mem {us : List Str} {i j : Int} (h : mateOf us i = some j) : i ≤ j ∧ j < us.length ∧ uAt us j = ")" := by
  unfold mateOf at h
  have h1 := List.mem_of_find?_eq_some h
  have h2 := List.find?_some h
  rw [mem_ri] at h1
  unfold isMate at h2
  simp only [Bool.and_eq_true, beq_iff_eq] at h2
  exact ⟨h1.1, h1.2, h2.1⟩
theorem ends_in {us : List Str} {p : Int × Int} (h : p ∈ endsOf us) : 0 ≤ p.1 ∧ p.1 + 1 < us.length := by
  obtain ⟨h1, h2⟩ := ends_mem h
  obtain ⟨a, b, c⟩ := opens_mem h1
  obtain ⟨d, e, f⟩ := mate_mem h2
  refine ⟨a, ?_⟩
  by_cases q : p.2 = p.1
  · rw [q, c] at f; exact absurd f (by decide)
  · lia
theorem filterMap_fst {us : List Str} : ∀ (l : List Int), ((l.filterMap fun i => (mateOf us i).map fun j => (i, j)).map (·.1)).Sublist l
  | [] => .slnil
  | i :: l => by
    rw [List.filterMap_cons]
    cases q : mateOf us i with
    | none => exact (filterMap_fst l).cons i
    | some j => exact (filterMap_fst l).cons_cons i
theorem ends_nodup {us : List Str} : ((endsOf us).map (·.1)).Nodup := (filterMap_fst _).nodup ((List.filter_sublist ..).nodup (ri_nodup ..))
theorem uAt_get {us : List Str} {i : Int} (h0 : 0 ≤ i) (h : i < us.length) : (us.map D.str)[i.toNat]? = some (.str (uAt us i)) := by
  have : i.toNat < us.length := by lia
  unfold uAt
  rw [List.getElem?_map, List.getElem?_eq_getElem this]; rfl
end Mine
end

section
namespace Mine
open PySem PySem.Challenge PySem.Calls PyProof.Rows
noncomputable def readD (x : Str) : D := .tuple [adict spanD (spansOf (unitsOf x)), adict strsD (aroundOf (unitsOf x))]
theorem Te.and2 {sc : Scope} {mc : List Str} {G : Gl} {A : Around} {act : Act sc mc} {ρ : LEnv} {x y : Expr} {p q : Bool} {pos : Pos} (h : Te G A act ρ x p) (h' : p = true → Te G A act ρ y q) : Te G A act ρ (.BoolOp .And [x, y] pos) (p && q) :=
  Te.eq (Te.and h fun e => Te.and (h' e) fun _ => Te.and_nil) (by simp)
theorem Te.or2 {sc : Scope} {mc : List Str} {G : Gl} {A : Around} {act : Act sc mc} {ρ : LEnv} {x y : Expr} {p q : Bool} {pos : Pos} (h : Te G A act ρ x p) (h' : p = false → Te G A act ρ y q) : Te G A act ρ (.BoolOp .Or [x, y] pos) (p || q) :=
  Te.eq (Te.or h fun e => Te.or (h' e) fun _ => Te.or_nil) (by simp)
section
variable {G : Gl} {A : Around} {n : Nat} {mg mb : Str → Option Value} {x : Str}
theorem Ev.uAt {sc : Scope} {mc : List Str} {act : Act sc mc} {ρ : LEnv} {us : List Str} {i : Int} {e ix : Expr} {pos : Pos} (he : Ev G A act ρ e (strsD us)) (hi : Ev G A act ρ ix (.int i)) (h0 : 0 ≤ i) (h : i < us.length) (hn : us.length ≤ 1000) : Ev G A act ρ (.Subscript e ix pos) (.str (uAt us i)) :=
  Ev.sub he hi (SubD.list h0 (by lia) (uAt_get h0 h))
theorem join_le (l : List Str) : (Txt.join "" l).length ≤ (l.map (·.length)).sum := Nat.le_of_eq (join_len l)
theorem lslice_sum (us : List Str) (i j : Int) : ((lslice us (some i) (some j) none).map (·.length)).sum ≤ (us.map (·.length)).sum ∧ (lslice us (some i) (some j) none).length ≤ us.length :=
  ⟨sublist_sum ((lslice_sub us _ _).map _), (lslice_sub us _ _).length_le⟩
theorem run_law_read (hA : Room (n + 8) A) (M : Mod G mg mb) (hx : x.length ≤ 1000) (hu : (unitsOf x).length ≤ 900) (hs : ((unitsOf x).map (·.length)).sum ≤ 900) (act : Act law_read_s (cellNames law_read_s.names)) :
    Run G A act (execs law_read_b act.env) (zipEnv ["text"] [.str x]) fun fd _ => fd = .ret (readD x) := by
  unfold law_read_b
  have big : 100000 ≤ sizeLine := by decide
  refine Run.cons (Run.assignComp (CompRuns.list (escaped (strip x)) outD (fun p => bindLs ["p", "u"] [.val (.int p.1), .val (.str p.2)] (LEnv.inner _ (zipEnv ["text"] [.str x]))) (fun _ => true) (fun p => .str p.2) ?_ ?_ (fun act' p hp => ⟨Takes.tuple hA (.cons (by decide) (.cons (by decide) .nil)) rfl, inner_keep2 (by decide) (by decide), Tests.none, fun _ => Ev.name rfl⟩) (by decide) (by intro _; rfl)) rfl (by intro _; rfl) (by decide) ?_ _ rfl)
  · exact Src.escaped (n := n + 4) hA M.f_iter_escaped_chars M.N M.b_enumerate.1 M.b_enumerate.2 (EvV.glob M.N rfl M.f_iter_escaped_chars.named) (Ev.call (EvV.glob M.N rfl M.f_strip_quoted_realnames.named) M.f_strip_quoted_realnames.callee (.more (Ev.name rfl) .nil) (call_strip (n := n + 3) hA M hx))
  · have : (escaped (strip x)).length = (unitsOf x).length := by unfold unitsOf; rw [List.length_map]
    lia
  have e0 : (((escaped (strip x)).filter fun _ => true).map fun p => D.str p.2) = (unitsOf x).map .str := by rw [filter_all]; unfold unitsOf; rw [List.map_map]; rfl
  rw [e0]
  have hread : readD x = .tuple [adict spanD (spansOf (unitsOf x)), adict strsD (aroundOf (unitsOf x))] := rfl
  generalize unitsOf x = us at hu hs hread ⊢
  rw [hread]
  clear hread e0
  refine Run.freeze "units" _ rfl ?_
  refine Run.cons (Run.assignOwn EvO.dict0 (by decide) ?_)
  refine Run.cons (Run.mono (Q := fun fd ρ => fd = .next ∧ Has ρ [("units", .val (strsD us)), ("ends", .own (edict (endsOf us)))]) ?_ ?_)
  · refine Run.forL (opensOf us) D.int (fun q : List (Int × Int) => [("units", .val (strsD us)), ("ends", .own (edict q))]) (fun done rest q => q = done.filterMap fun i => (mateOf us i).map fun j => (i, j)) [] ?_ rfl (Has.of rfl)
      (fun i q => ("i", .val (.int i)) :: [("units", .val (strsD us)), ("ends", .own (edict q))]) (fun done i rest q e hI => ⟨Takes.name (by decide), ?_⟩) (fun q ρ' hI hh => ?_)
    · refine Src.of hA (EvO.ev (EvO.lc (ri 0 us.length) D.int (fun k => ("k", .val (.int k)) :: LEnv.inner _ _) (fun k => uAt us k == "(") D.int ?_ ?_ (fun act' k hk => ⟨Takes.name (by decide), inner_keep1 (by decide), Tests.one ?_, fun _ => Ev.name rfl⟩) rfl)) (.list _)
      · exact Src.of hA (Ev.call (EvV.blt M.N rfl M.b_range.1 M.b_range.2) (.type _) (.more (Ev.call (EvV.blt M.N rfl M.b_len.1 M.b_len.2) (.builtin _) (.more (Ev.name rfl) .nil) (CallD.lenL (by rw [List.length_map]; lia))) .nil) (by rw [List.length_map]; exact CallD.range1)) (.range (by decide) (by decide) (by lia) (by lia))
      · rw [ri_len]; lia
      · rw [mem_ri] at hk
        exact Te.cmp (Ev.uAt (us := us) (Ev.name rfl) (Ev.name rfl) hk.1 hk.2 (by lia)) (Ev.str _) (Cmp.eqS hA)
    · have hi := opens_mem (us := us) (i := i) (by rw [e]; simp)
      have hnd : (done ++ i :: rest).Nodup := e ▸ (List.filter_sublist ..).nodup (ri_nodup ..)
      have hnew : i ∉ q.map (·.1) := fun h => by
        rw [hI] at h
        have := (filterMap_fst (us := us) done).subset h
        exact (List.nodup_append.mp hnd).2.2 i this i (.head _) rfl
      have hq : q.length ≤ 1000 := by
        rw [hI]
        have h1 := List.length_filterMap_le (fun i => (mateOf us i).map fun j => (i, j)) done
        have h2 : done.length ≤ (opensOf us).length := by rw [e]; simp
        have h3 : (opensOf us).length ≤ (ri 0 us.length).length := List.length_filter_le ..
        rw [ri_len] at h3
        lia
      have hstep : (done ++ [i]).filterMap (fun i => (mateOf us i).map fun j => (i, j)) = q ++ ((mateOf us i).map fun j => (i, j)).toList := by
        rw [List.filterMap_append, ← hI]; cases q : mateOf us i <;> simp [q]
      rw [hstep]
      clear hstep hI hnd e
      refine Run.cons (Run.mono (Q := fun fd ρ => fd = .next ∧ Has ρ [("units", .val (strsD us)), ("ends", .own (edict (q ++ ((mateOf us i).map fun j => (i, j)).toList)))]) ?_ ?_)
      rotate_left
      · rintro fd ρ ⟨rfl, hρ⟩
        exact Run.nil ⟨_, rfl, hρ⟩
      refine Run.forL (ri i us.length) D.int (fun _ : Unit => [("i", .val (.int i)), ("units", .val (strsD us)), ("ends", .own (edict q))]) (fun done rest _ => mateOf us i = rest.find? (isMate us i)) () ?_ rfl (Has.of rfl)
        (fun j _ => ("j", .val (.int j)) :: [("i", .val (.int i)), ("units", .val (strsD us)), ("ends", .own (edict q))]) (fun done j rest _ e hI => ⟨Takes.name (by decide), ?_⟩) (fun _ ρ' hI hh => ?_)
      · exact Src.of hA (Ev.call (EvV.blt M.N rfl M.b_range.1 M.b_range.2) (.type _) (.more (Ev.name rfl) (.more (Ev.call (EvV.blt M.N rfl M.b_len.1 M.b_len.2) (.builtin _) (.more (Ev.name rfl) .nil) (CallD.lenL (by rw [List.length_map]; lia))) .nil)) (by rw [List.length_map]; exact CallD.range2)) (.range (by lia) (by lia) (by lia) (by lia))
      · have hj : i ≤ j ∧ j < us.length := mem_ri.mp (by rw [e]; simp)
        rw [List.find?_cons] at hI
        obtain ⟨l1, l2⟩ := lslice_sum us i (j + 1)
        have l3 := join_le (lslice us (some i) (some (j + 1)) none)
        refine Run.cons (Run.ite (b := isMate us i j) ?_ (fun h => ?_) fun h => ?_)
        · refine Te.and2 (Te.cmp (Ev.uAt (us := us) (Ev.name rfl) (Ev.name rfl) (by lia) hj.2 (by lia)) (Ev.str _) (Cmp.eqS hA)) fun _ => ?_
          refine Te.eq (Te.cmp (Ev.call (EvV.glob M.N rfl M.f_check_parenthesis.named) M.f_check_parenthesis.callee (.more (Ev.join (ss := lslice us (some i) (some (j + 1)) none) (Ev.str _) ?_ (by decide) (by lia)) .nil) (call_check (n := n + 2) hA M (by lia))) (Ev.bool _) Cmp.isBool) (by simp)
          rw [← lslice_map]
          exact EvO.ev (EvO.sliced (Ev.name rfl) (Bd.at (Ev.name rfl)) (Bd.at (Ev.bin (Ev.name rfl) (Ev.int 1) Op2.add)) Bd.non (by rw [List.length_map]; lia) (fun e => nomatch e))
        · rw [h] at hI
          refine Run.cons (Run.setD (k := .i i) rfl (Ev.name rfl) (Ev.name rfl) (by rw [List.length_map]; lia) (Run.cons (Run.brk ?_)))
          rw [hI]
          rw [dput_new (by rw [List.mem_map]; rintro ⟨p, hp, e⟩; obtain rfl := Mine.Ky.i.inj e; exact hnew (List.mem_map.mpr ⟨p, hp, rfl⟩))]
          refine ⟨rfl, rfl, ?_, trivial⟩
          simp [edict]
        · rw [h] at hI
          exact Run.nil (Run.nil ⟨(), hI, Has.of rfl⟩)
      · have : mateOf us i = none := hI
        rw [this]
        exact ⟨rfl, by simpa using hh.2⟩
    · rw [hI] at hh
      exact ⟨rfl, hh⟩
  rintro fd ρ ⟨rfl, hρ⟩
  refine Run.has ?_ hρ
  refine Run.freeze "ends" _ rfl (Run.has (ρ₁ := [("units", .val (strsD us)), ("ends", .val (edict (endsOf us)))]) ?_ (Has.of rfl))
  have hlen : (endsOf us).length ≤ 1000 := by
    have h1 := List.length_filterMap_le (fun i => (mateOf us i).map fun j => (i, j)) (opensOf us)
    have h3 : (opensOf us).length ≤ (ri 0 us.length).length := List.length_filter_le ..
    rw [ri_len] at h3
    unfold endsOf
    lia
  have kd : ∀ (l : List (Int × Int)), (l.map fun p => Ky.i p.1).map Ky.d = l.map fun p => D.int p.1 := fun l => by rw [List.map_map]; rfl
  have src : ∀ {sc : Scope} {mc : List Str} {act : Act sc mc} {ρ : LEnv} {tgt : Expr} {np : Pos}, ρ.lookup ("ends" : Str) = some (.val (edict (endsOf us))) → Src G A act ρ tgt (.Name "ends" np) ((endsOf us).map fun p => D.int p.1) := fun h => by
    rw [← kd]
    exact Src.of hA (Ev.name h) (.dict _ _)
  have eat : ∀ {sc : Scope} {mc : List Str} {act : Act sc mc} {ρ : LEnv} {ix : Expr} {np pos : Pos} {p : Int × Int}, ρ.lookup ("ends" : Str) = some (.val (edict (endsOf us))) → p ∈ endsOf us → Ev G A act ρ ix (.int p.1) → Ev G A act ρ (.Subscript (.Name "ends" np) ix pos) (.int p.2) := fun h hp hi =>
    Ev.sub (Ev.name h) hi (SubD.dict (k := .i _) (dfind_edict hp ends_nodup))
  refine Run.cons (Run.assignComp (CompRuns.dict (endsOf us) (fun p => D.int p.1) (fun p => ("i", .val (.int p.1)) :: LEnv.inner _ _) (fun _ => true) (fun p => .s (uAt us (p.1 + 1))) (fun p => strsD (((endsOf us).filter fun k => decide (k.1 ≤ p.1) && decide (p.2 ≤ k.2)).map fun k => uAt us (k.1 + 1)))
    (src rfl) (by lia) (fun act' p hp => ⟨Takes.name (by decide), inner_keep1 (by decide), Tests.none, fun _ => ⟨Ev.uAt (us := us) (Ev.name rfl) (Ev.bin (Ev.name rfl) (Ev.int 1) Op2.add) (by have := ends_in hp; lia) (by have := ends_in hp; lia) (by lia), ?_⟩⟩) (by decide) (by intro _; rfl)) rfl (by intro _; rfl) (by decide) ?_ _ rfl)
  · refine EvO.ev (EvO.lc (endsOf us) (fun p => D.int p.1) (fun k => ("k", .val (.int k.1)) :: LEnv.inner _ _) (fun k => decide (k.1 ≤ p.1) && decide (p.2 ≤ k.2)) (fun k => .str (uAt us (k.1 + 1))) (src rfl) (by omega) (fun act'' k hk => ⟨Takes.name (by decide), inner_keep1 (by decide), Tests.one ?_, fun _ => ?_⟩) ?_)
    · exact Te.and2 (Te.cmp (Ev.name rfl) (Ev.name rfl) Cmp.le) fun _ => Te.cmp (eat rfl hk (Ev.name rfl)) (eat rfl hp (Ev.name rfl)) Cmp.ge
    · exact Ev.uAt (us := us) (Ev.name rfl) (Ev.bin (Ev.name rfl) (Ev.int 1) Op2.add) (by have := ends_in hk; omega) (by have := ends_in hk; omega) (by omega)
    · unfold strsD; rw [List.map_map]; rfl
  rw [filter_all, show ((endsOf us).map fun a => ((Ky.s (uAt us (a.1 + 1)), strsD (((endsOf us).filter fun k => decide (k.1 ≤ a.1) && decide (a.2 ≤ k.2)).map fun k => uAt us (k.1 + 1))) : Ky × D)) =
    ((endsOf us).map fun p => ((Ky.s (uAt us (p.1 + 1)), ((endsOf us).filter fun k => decide (k.1 ≤ p.1) && decide (p.2 ≤ k.2)).map fun k => uAt us (k.1 + 1)) : Ky × List Str)).map (fun p => (p.1, strsD p.2)) by rw [List.map_map]; rfl, dmk_acopy strsD]
  refine Run.freeze "around" _ rfl (Run.has (ρ₁ := [("units", .val (strsD us)), ("ends", .val (edict (endsOf us))), ("around", .val (adict strsD (aroundOf us)))]) ?_ (Has.of rfl))
  refine Run.cons (Run.ret (Ev.tuple (.more (EvO.ev (EvO.dc (endsOf us) (fun p => D.int p.1) (fun p => ("i", .val (.int p.1)) :: LEnv.inner _ _) (fun _ => true) (fun p => .s (uAt us (p.1 + 1))) (fun p => spanD p)
    (src rfl) (by omega) (fun act' p hp => ⟨Takes.name (by decide), inner_keep1 (by decide), Tests.none, fun _ => ⟨Ev.uAt (us := us) (Ev.name rfl) (Ev.bin (Ev.name rfl) (Ev.int 1) Op2.add) (by have := ends_in hp; omega) (by have := ends_in hp; omega) (by omega), Ev.tuple (.more (Ev.name rfl) (.more (eat rfl hp (Ev.name rfl)) .nil))⟩⟩) ?_)) (.more (Ev.name rfl) .nil))) rfl)
  rw [filter_all, show ((endsOf us).map fun a => ((Ky.s (uAt us (a.1 + 1)), spanD a) : Ky × D)) = ((endsOf us).map fun p => ((Ky.s (uAt us (p.1 + 1)), p) : Ky × Int × Int)).map (fun p => (p.1, spanD p.2)) by rw [List.map_map]; rfl, dmk_acopy spanD]
  rfl
theorem call_law_read (hA : Room (n + 9) A) (M : Mod G mg mb) (hx : x.length ≤ 1000) (hu : (unitsOf x).length ≤ 900) (hs : ((unitsOf x).map (·.length)).sum ≤ 900) : CallD G A (.ref 102) [.str x] (readD x) := by
  refine CallD.fn (n := n + 8) (xs := ["text"]) M.f_law_read M.N hA (by decide) (by decide) [] rfl (fun vs fd S s hl h1 h2 h3 I => ?_) (fun S s I => .nil) fun act => (run_law_read (hA.deeper act.env) M hx hu hs act).mono fun fd _ e => by rw [e]; rfl
  obtain ⟨a0, rfl⟩ := len1 hl
  exact bindPlain h1 h2 h3 fun _ _ _ _ _ _ _ _ _ _ _ _ => .of_eq rfl
end
end Mine
end

section
namespace Mine
open PySem PySem.Challenge PySem.Calls PyProof.Rows
noncomputable def Stat.zero : Stat := ⟨0, 0, 0, 0, []⟩
noncomputable def outSteps (ar : Str → List Str) (x y : Str) : List Str := (ar x).reverse.filter fun z => decide (z ∉ ar y)
noncomputable def inSteps (ar : Str → List Str) (x y : Str) : List Str := (ar y).filter fun z => decide (z ∉ ar x)
noncomputable def wayOf (ar : Str → List Str) (ou inn : Str → Stat) (x y : Str) : Stat := (inSteps ar x y).foldl (fun b c => b.add (inn c)) ((outSteps ar x y).foldl (fun b c => b.add (ou c)) Stat.zero)
noncomputable def waysList (ar : Str → List Str) (ou inn : Str → Stat) (xs : List Str) : List (Ky × Stat) := xs.flatMap fun x => xs.map fun y => (.s (x ++ y), wayOf ar ou inn x y)
theorem acopy_snoc {α : Type} (l : List (Ky × α)) (p : Ky × α) : acopy (l ++ [p]) = aput (acopy l) p.1 p.2 := by unfold acopy; rw [List.foldl_append]; rfl
theorem stat_len {b s : Stat} : (b.add s).by_.length ≤ b.by_.length + s.by_.length := amerge_len ..
theorem fold_len {f : Str → Stat} : ∀ (l : List Str) (b : Stat), (∀ c ∈ l, (f c).by_.length ≤ 1) → (l.foldl (fun b c => b.add (f c)) b).by_.length ≤ b.by_.length + l.length
  | [], b, _ => by simp
  | c :: l, b, h => by
    have h1 := fold_len l (b.add (f c)) fun d hd => h d (.tail _ hd)
    have h2 := h c (.head _)
    have h3 := @stat_len b (f c)
    rw [List.foldl_cons, List.length_cons]
    lia
section
variable {G : Gl} {A : Around} {n : Nat} {mg mb : Str → Option Value} {x : Str}
theorem book_loop {act : Act law_ways_s (cellNames law_ways_s.names)} {ρ : LEnv} {rest : LEnv} {l : List Str} {f : Str → Stat} {b₀ : Stat} {dn : Str} {dks : List Ky} {dds : List D} {e : Expr} {p1 p2 p3 p4 p5 p6 p7 p8 p9 : Pos} {Q : FD → LEnv → Prop} (hA : Room (n + 6) A) (M : Mod G mg mb)
    (hsrc : Src G A act ρ (.Name "c" p1) e (l.map .str)) (hl : l.length ≤ 100) (hb : b₀.by_.length ≤ 200) (h1 : ∀ c ∈ l, (f c).by_.length ≤ 1) (hd : ∀ c ∈ l, dfind (.s c) dks dds = some (f c).d)
    (hρ : Has ρ (("book", .val b₀.d) :: rest)) (hdn : rest.lookup dn = some (.val (.dict dks dds))) (hne : dn ≠ "book") (hnc : dn ≠ "c")
    (hkeep : ∀ (c : Str) (b b' : Stat), Has (("book", Loc.val b'.d) :: ("c", .val (.str c)) :: ("book", .val b.d) :: rest) (("book", .val b'.d) :: rest))
    (hd1 : (dn == ("__debug__" : Str)) = false) (hd2 : (dn == ("__classdict__" : Str)) = false) (hf : ∀ x, foldedSetIterable e act.env x = pure x)
    (hsw : ∀ np, swapsWith (.Call (.Name "add_func_stats" p3) [.Name "book" p4, .Subscript (.Name dn p5) (.Name "c" p6) p7] [] p8) (some (.Name "book" np)) p9.line act.env = pure false)
    (he : eval (.Call (.Name "add_func_stats" p3) [.Name "book" p4, .Subscript (.Name dn p5) (.Name "c" p6) p7] [] p8) act.env = (eval (.Name "add_func_stats" p3) act.env >>= fun f => callWith p8 f [] (backTo p8 (starEach [.Name "book" p4, .Subscript (.Name dn p5) (.Name "c" p6) p7] act.env)) (backToKw p8 (keywordEach [] act.env))))
    (hq : ∀ ρ', Has ρ' (("book", .val (l.foldl (fun b c => b.add (f c)) b₀).d) :: rest) → Q .next ρ') {fpos : Pos} :
    Run G A act (exec (.For (.Name "c" p1) e [.Assign [.Name "book" p2] (.Call (.Name "add_func_stats" p3) [.Name "book" p4, .Subscript (.Name dn p5) (.Name "c" p6) p7] [] p8) p9] [] fpos) act.env) ρ Q := by
  refine Run.forL l D.str (fun b : Stat => ("book", .val b.d) :: rest) (fun done r b => b = done.foldl (fun b c => b.add (f c)) b₀) b₀ hsrc rfl hρ
    (fun c b => ("c", .val (.str c)) :: ("book", .val b.d) :: rest) (fun done c r b e hI => ⟨Takes.name (by decide), ?_⟩) (fun b ρ' hI hh => hq ρ' (hI ▸ hh)) hf
  have hc : c ∈ l := by rw [e]; simp
  have hbl : b.by_.length ≤ 300 := by
    have := fold_len done b₀ (f := f) fun d hd => h1 d (by rw [e]; exact List.mem_append_left _ hd)
    have h2 : done.length ≤ l.length := by rw [e]; simp
    rw [← hI] at this
    lia
  refine Run.cons (Run.assign (Ev.call (EvV.glob M.N rfl M.f_add_func_stats.named) M.f_add_func_stats.callee (.more (Ev.name (d := b.d) rfl) (.more (Ev.sub (Ev.name (d := .dict dks dds) ?_ hd1 hd2) (Ev.name (d := .str c) rfl) (SubD.dict (k := .s c) (hd c hc))) .nil)) (call_add_stats (n := n + 3) hA M (by have := h1 c hc; lia)) he) (by decide) (Run.nil ⟨b.add (f c), by rw [List.foldl_append, ← hI]; rfl, hkeep c b _⟩) (hsw _))
  rw [lookup_cons_ne hnc, lookup_cons_ne hne]
  exact hdn
theorem run_law_ways (hA : Room (n + 6) A) (M : Mod G mg mb) {txt : Str} {xs : List Str} {aks oks iks : List Ky} {ads ods ids : List D} {ar : Str → List Str} {ou inn : Str → Stat} (htxt : chars txt = xs.map .str) (hxs : xs.length ≤ 30) (hx1 : ∀ x ∈ xs, x.length = 1)
    (har : ∀ x ∈ xs, dfind (.s x) aks ads = some (strsD (ar x))) (har2 : ∀ x ∈ xs, (ar x).length ≤ 100) (hou : ∀ x ∈ xs, ∀ y ∈ xs, ∀ c ∈ outSteps ar x y, dfind (.s c) oks ods = some (ou c).d ∧ (ou c).by_.length ≤ 1)
    (hin : ∀ x ∈ xs, ∀ y ∈ xs, ∀ c ∈ inSteps ar x y, dfind (.s c) iks ids = some (inn c).d ∧ (inn c).by_.length ≤ 1) (act : Act law_ways_s (cellNames law_ways_s.names)) :
    Run G A act (execs law_ways_b act.env) (zipEnv ["names", "around", "outwards", "inwards"] [.str txt, .dict aks ads, .dict oks ods, .dict iks ids]) fun fd _ => fd = .ret (adict Stat.d (acopy (waysList ar ou inn xs))) := by
  unfold law_ways_b
  have big : 100000 ≤ sizeLine := by decide
  refine Run.cons (Run.assignOwn EvO.dict0 (by decide) ?_)
  let E : LEnv := [("names", .val (.str txt)), ("around", .val (.dict aks ads)), ("outwards", .val (.dict oks ods)), ("inwards", .val (.dict iks ids))]
  have wl : ∀ done : List Str, done.length ≤ 30 → (waysList ar ou inn xs).length ≤ 900 := fun _ _ => by
    unfold waysList
    rw [List.length_flatMap]
    simp only [List.length_map]
    rw [List.map_const', List.sum_replicate_nat]
    exact Nat.le_trans (Nat.mul_le_mul hxs hxs) (by decide)
  refine Run.cons (Run.mono (Q := fun fd ρ => fd = .next ∧ Has ρ [("ways", .own (adict Stat.d (acopy (waysList ar ou inn xs))))]) ?_ ?_)
  · refine Run.forL xs D.str (fun q : List (Ky × Stat) => ("ways", .own (adict Stat.d q)) :: E) (fun done rest q => q = acopy (done.flatMap fun x => xs.map fun y => (.s (x ++ y), wayOf ar ou inn x y))) [] (by rw [← htxt]; exact Src.of hA (Ev.name rfl) (.str _)) rfl (Has.of rfl)
      (fun x q => ("x", .val (.str x)) :: ("ways", .own (adict Stat.d q)) :: E) (fun done x rest q e hI => ⟨Takes.name (by decide), ?_⟩) (fun q ρ' hI hh => ⟨rfl, by rw [hI] at hh; exact ⟨hh.1, trivial⟩⟩)
    have hx : x ∈ xs := by rw [e]; simp
    refine Run.cons (Run.mono (Q := fun fd ρ => fd = .next ∧ Has ρ (("ways", .own (adict Stat.d (acopy ((done ++ [x]).flatMap fun x => xs.map fun y => (.s (x ++ y), wayOf ar ou inn x y))))) :: E)) ?_ ?_)
    rotate_left
    · rintro fd ρ ⟨rfl, hρ⟩
      exact Run.nil ⟨_, rfl, hρ⟩
    refine Run.forL xs D.str (fun q : List (Ky × Stat) => ("x", .val (.str x)) :: ("ways", .own (adict Stat.d q)) :: E) (fun done' rest q => q = acopy ((done.flatMap fun x => xs.map fun y => (.s (x ++ y), wayOf ar ou inn x y)) ++ done'.map fun y => (.s (x ++ y), wayOf ar ou inn x y))) q (by rw [← htxt]; exact Src.of hA (Ev.name rfl) (.str _)) (by rw [hI]; simp) (Has.of rfl)
      (fun y q => ("y", .val (.str y)) :: ("x", .val (.str x)) :: ("ways", .own (adict Stat.d q)) :: E) (fun done' y rest' q e' hI => ⟨Takes.name (by decide), ?_⟩) (fun q ρ' hI hh => ⟨rfl, by
        rw [hI] at hh
        rw [List.flatMap_append]
        simp only [List.flatMap_cons, List.flatMap_nil, List.append_nil]
        exact ⟨hh.2.1, hh.2.2⟩⟩)
    have hy : y ∈ xs := by rw [e']; simp
    have hql : q.length ≤ 1000 := by
      rw [hI]
      refine Nat.le_trans (acopy_len _) ?_
      rw [List.length_append, List.length_flatMap, List.length_map]
      simp only [List.length_map]
      rw [List.map_const', List.sum_replicate_nat]
      have h1 : done.length ≤ 30 := by have := congrArg List.length e; simp at this; lia
      have h2 : done'.length ≤ 30 := by have := congrArg List.length e'; simp at this; lia
      have := Nat.mul_le_mul h1 hxs
      lia
    have l1 : (outSteps ar x y).length ≤ 100 := Nat.le_trans (List.length_filter_le ..) (by rw [List.length_reverse]; exact har2 x hx)
    have l2 : (inSteps ar x y).length ≤ 100 := Nat.le_trans (List.length_filter_le ..) (har2 y hy)
    refine Run.cons (Run.assign (Ev.tuple (.more (Ev.int 0) (.more (Ev.int 0) (.more (Ev.int 0) (.more (Ev.int 0) (.more (EvO.ev EvO.dict0) .nil)))))) (by decide) ?_)
    refine Run.cons (book_loop (rest := ("y", .val (.str y)) :: ("x", .val (.str x)) :: ("ways", .own (adict Stat.d q)) :: E) (l := outSteps ar x y) (f := ou) (b₀ := Stat.zero) (dn := "outwards") hA M ?_ l1 (by decide) (fun c hc => (hou x hx y hy c hc).2) (fun c hc => (hou x hx y hy c hc).1) (Has.of rfl) rfl (by decide) (by decide) (fun c b b' => Has.of rfl) rfl rfl (by intro _; rfl) (by intro _; rfl) rfl fun ρ' hρ' => Run.has ?_ hρ')
    · refine Src.of hA (EvO.ev (EvO.lc (ar x).reverse D.str (fun z => ("z", .val (.str z)) :: LEnv.inner _ _) (fun z => decide (z ∉ ar y)) D.str ?_ (by rw [List.length_reverse]; exact Nat.le_trans (har2 x hx) (by decide)) (fun act' z hz => ⟨Takes.name (by decide), inner_keep1 (by decide), Tests.one (Te.eq (Te.cmp (Ev.name rfl) (Ev.sub (Ev.name rfl) (Ev.name rfl) (SubD.dict (k := .s y) (har y hy))) (Cmp.notInStrs hA)) (by simp)), fun _ => Ev.name rfl⟩) rfl)) (.list _)
      rw [← lslice_rev, ← lslice_map]
      exact Src.of hA (EvO.ev (EvO.sliced (Ev.sub (Ev.name rfl) (Ev.name rfl) (SubD.dict (k := .s x) (har x hx))) Bd.non Bd.non (Bd.at (Ev.neg (Ev.int 1))) (by rw [List.length_map]; exact Nat.le_trans (har2 x hx) (by decide)) (fun e => nomatch e))) (.list _)
    refine Run.cons (book_loop (rest := ("y", .val (.str y)) :: ("x", .val (.str x)) :: ("ways", .own (adict Stat.d q)) :: E) (l := inSteps ar x y) (f := inn) (dn := "inwards") hA M ?_ l2 ?_ (fun c hc => (hin x hx y hy c hc).2) (fun c hc => (hin x hx y hy c hc).1) (Has.of rfl) rfl (by decide) (by decide) (fun c b b' => Has.of rfl) rfl rfl (by intro _; rfl) (by intro _; rfl) rfl fun ρ' hρ' => Run.has ?_ hρ')
    · refine Src.of hA (EvO.ev (EvO.lc (ar y) D.str (fun z => ("z", .val (.str z)) :: LEnv.inner _ _) (fun z => decide (z ∉ ar x)) D.str ?_ (Nat.le_trans (har2 y hy) (by decide)) (fun act' z hz => ⟨Takes.name (by decide), inner_keep1 (by decide), Tests.one (Te.eq (Te.cmp (Ev.name rfl) (Ev.sub (Ev.name rfl) (Ev.name rfl) (SubD.dict (k := .s x) (har x hx))) (Cmp.notInStrs hA)) (by simp)), fun _ => Ev.name rfl⟩) rfl)) (.list _)
      exact Src.of hA (Ev.sub (Ev.name rfl) (Ev.name rfl) (SubD.dict (k := .s y) (har y hy))) (.list _)
    · have := fold_len (outSteps ar x y) Stat.zero (f := ou) fun c hc => (hou x hx y hy c hc).2
      have h0 : Stat.zero.by_.length = 0 := rfl
      lia
    refine Run.cons (Run.setD (k := .s (x ++ y)) rfl (Ev.bin (Ev.name rfl) (Ev.name rfl) (Op2.addS (by rw [hx1 x hx, hx1 y hy]; decide))) (Ev.name rfl) (by rw [List.length_map]; lia) (Run.nil ⟨aput q (.s (x ++ y)) (wayOf ar ou inn x y), ?_, ?_⟩))
    · rw [hI, List.map_append, ← List.append_assoc]
      exact (acopy_snoc _ ((.s (x ++ y), wayOf ar ou inn x y) : Ky × Stat)).symm
    · show Has (("ways", .own (.dict (dput (q.map (·.1)) (q.map fun p => Stat.d p.2) (.s (x ++ y)) (wayOf ar ou inn x y).d).1 (dput (q.map (·.1)) (q.map fun p => Stat.d p.2) (.s (x ++ y)) (wayOf ar ou inn x y).d).2)) :: _) _
      rw [dput_aput Stat.d]
      exact Has.of rfl
  rintro fd ρ ⟨rfl, hρ⟩
  refine Run.has ?_ hρ
  exact Run.freeze "ways" _ rfl (Run.cons (Run.ret (Ev.name rfl) rfl))
theorem call_law_ways (hA : Room (n + 7) A) (M : Mod G mg mb) {txt : Str} {xs : List Str} {aks oks iks : List Ky} {ads ods ids : List D} {ar : Str → List Str} {ou inn : Str → Stat} (htxt : chars txt = xs.map .str) (hxs : xs.length ≤ 30) (hx1 : ∀ x ∈ xs, x.length = 1)
    (har : ∀ x ∈ xs, dfind (.s x) aks ads = some (strsD (ar x))) (har2 : ∀ x ∈ xs, (ar x).length ≤ 100) (hou : ∀ x ∈ xs, ∀ y ∈ xs, ∀ c ∈ outSteps ar x y, dfind (.s c) oks ods = some (ou c).d ∧ (ou c).by_.length ≤ 1)
    (hin : ∀ x ∈ xs, ∀ y ∈ xs, ∀ c ∈ inSteps ar x y, dfind (.s c) iks ids = some (inn c).d ∧ (inn c).by_.length ≤ 1) : CallD G A (.ref 112) [.str txt, .dict aks ads, .dict oks ods, .dict iks ids] (adict Stat.d (acopy (waysList ar ou inn xs))) := by
  refine CallD.fn (n := n + 6) (xs := ["names", "around", "outwards", "inwards"]) M.f_law_ways M.N hA (by decide) (by decide) [] rfl (fun vs fd S s hl h1 h2 h3 I => ?_) (fun S s I => .nil) fun act => (run_law_ways (hA.deeper act.env) M htxt hxs hx1 har har2 hou hin act).mono fun fd _ e => by rw [e]; rfl
  obtain ⟨a0, a1, a2, a3, rfl⟩ := len4 hl
  exact bindPlain h1 h2 h3 fun _ _ _ _ _ _ _ _ _ _ _ _ => .of_eq rfl
end
end Mine
end

section
namespace Mine
open PySem PySem.Challenge PySem.Calls PyProof.Rows
noncomputable def nm (k : Nat) : Str := ⟨#[97 + k]⟩
theorem nm_inj {j k : Nat} (h : nm j = nm k) : j = k := by
  unfold nm at h
  simp only [Str.mk.injEq, Array.mk.injEq, List.cons.injEq, and_true] at h
  lia
theorem nm_ne {j k : Nat} : (nm j == nm k) = (j == k) := by
  by_cases h : j = k
  · subst h; simp
  · rw [beq_eq_false_iff_ne.mpr h, beq_eq_false_iff_ne.mpr fun e => h (nm_inj e)]
theorem nm_mem {k : Nat} {l : List Nat} : nm k ∈ l.map nm ↔ k ∈ l := by
  rw [List.mem_map]
  exact ⟨fun ⟨j, hj, e⟩ => nm_inj e ▸ hj, fun h => ⟨k, h, rfl⟩⟩
theorem nm_lt {j k : Nat} : decide ((nm j).cps.toList < (nm k).cps.toList) = decide (j < k) := by
  refine decide_eq_decide.mpr ?_
  show [97 + j] < [97 + k] ↔ _
  rw [List.cons_lt_cons_iff]
  simp
theorem nm_len (k : Nat) : (nm k).length = 1 := rfl
noncomputable def NN : List Nat := [0, 1, 2, 3, 4, 5]
theorem chars_names : chars "abcdef" = NN.map fun k => D.str (nm k) := by with_unfolding_all rfl
noncomputable def nD (k : Nat) : D := .str (nm k)
noncomputable def nsD (l : List Nat) : D := .list (l.map nD)
theorem nsD_eq (l : List Nat) : nsD l = strsD (l.map nm) := by unfold nsD strsD nD; rw [List.map_map]; rfl
section
variable {α : Type}
noncomputable def nget (k : Nat) : List (Nat × α) → Option α
  | [] => none
  | p :: l => if p.1 = k then some p.2 else nget k l
noncomputable def ndict (φ : α → D) (l : List (Nat × α)) : D := .dict (l.map fun p => .s (nm p.1)) (l.map fun p => φ p.2)
theorem dfind_nget (φ : α → D) {k : Nat} : ∀ {l : List (Nat × α)}, dfind (.s (nm k)) (l.map fun p => .s (nm p.1)) (l.map fun p => φ p.2) = (nget k l).map φ
  | [] => rfl
  | p :: l => by
    simp only [List.map_cons, dfind, nget, Ky.s.injEq]
    by_cases h : p.1 = k
    · rw [if_pos (by rw [h]), if_pos h]; rfl
    · rw [if_neg (fun e => h (nm_inj e)), if_neg h]
      exact dfind_nget φ
theorem nget_map {f : Nat → α} {k : Nat} : ∀ {l : List Nat}, k ∈ l → nget k (l.map fun j => (j, f j)) = some (f k)
  | j :: l, h => by
    simp only [List.map_cons, nget]
    by_cases e : j = k
    · rw [if_pos e, e]
    · rw [if_neg e]
      exact nget_map ((List.mem_cons.mp h).resolve_left fun q => e q.symm)
theorem nget_map_none {f : Nat → α} {k : Nat} : ∀ {l : List Nat}, k ∉ l → nget k (l.map fun j => (j, f j)) = none
  | [], _ => rfl
  | j :: l, h => by
    simp only [List.map_cons, nget]
    rw [if_neg fun e => h (by rw [e]; exact .head _)]
    exact nget_map_none fun q => h (.tail _ q)
theorem dmk_nodup {ks : List Ky} {ds : List D} (h : ks.Nodup) (hl : ks.length = ds.length) : dmk (ks.zip ds) = (ks, ds) := by
  have : ∀ (ks' : List Ky) (ds' : List D) (ks : List Ky) (ds : List D), (ks' ++ ks).Nodup → ks.length = ds.length → (ks.zip ds).foldl (fun q kd => dput q.1 q.2 kd.1 kd.2) (ks', ds') = (ks' ++ ks, ds' ++ ds) := by
    intro ks' ds' ks
    induction ks generalizing ks' ds' with
    | nil => intro ds _ hl; cases ds with
      | nil => simp
      | cons d ds => simp at hl
    | cons k ks ih =>
      intro ds nd hl
      cases ds with
      | nil => simp at hl
      | cons d ds =>
        rw [List.zip_cons_cons, List.foldl_cons]
        show List.foldl _ (dput ks' ds' k d) _ = _
        rw [dput_new (fun hk => (List.nodup_append.mp nd).2.2 k hk k (.head _) rfl), ih _ _ ds (by simpa using nd) (by simpa using hl)]
        simp
  have := this [] [] ks ds (by simpa using h) hl
  unfold dmk
  rw [this]; rfl
theorem dmk_ndict (φ : α → D) {l : List (Nat × α)} (h : (l.map (·.1)).Nodup) : dmk (l.map fun p => (Ky.s (nm p.1), φ p.2)) = (l.map (fun p => .s (nm p.1)), l.map fun p => φ p.2) := by
  have e : (l.map fun p => (Ky.s (nm p.1), φ p.2)) = (l.map fun p => Ky.s (nm p.1)).zip (l.map fun p => φ p.2) := by
    clear h
    induction l with
    | nil => rfl
    | cons p l ih => simp only [List.map_cons, List.zip_cons_cons, ih]
  rw [e, dmk_nodup _ (by simp)]
  have : (l.map fun p => Ky.s (nm p.1)) = (l.map (·.1)).map fun k => Ky.s (nm k) := by rw [List.map_map]; rfl
  rw [this]
  refine List.Pairwise.map _ (fun a b hab e => hab ?_) h
  cases e' : nm a
  have := Ky.s.inj e
  exact nm_inj this
end
section
variable {sc : Scope} {mc : List Str} {G : Gl} {A : Around} {act : Act sc mc} {ρ : LEnv} {e ix : Expr} {pos : Pos} {n : Nat}
theorem Ev.nsub {α : Type} {φ : α → D} {l : List (Nat × α)} {k : Nat} {v : α} (he : Ev G A act ρ e (ndict φ l)) (hi : Ev G A act ρ ix (nD k)) (h : nget k l = some v) : Ev G A act ρ (.Subscript e ix pos) (φ v) :=
  Ev.sub he hi (SubD.dict (k := .s (nm k)) (by rw [dfind_nget, h]; rfl))
theorem Te.nin {l : List Nat} {k : Nat} (hA : Room n A) (hk : Ev G A act ρ ix (nD k)) (he : Ev G A act ρ e (nsD l)) (hm : behindInMarks .In e = false := by with_unfolding_all rfl) : Te G A act ρ (.Compare ix [.In] [e] pos) (decide (k ∈ l)) :=
  Te.eq (Te.cmp (b := strsD (l.map nm)) hk (by rw [← nsD_eq]; exact he) (Cmp.inStrs hA) hm) (by simp only [nm_mem])
theorem Ev.nin {l : List Nat} {k : Nat} (hA : Room n A) (hk : Ev G A act ρ ix (nD k)) (he : Ev G A act ρ e (nsD l)) (hm : behindInMarks .In e = false := by with_unfolding_all rfl) : Ev G A act ρ (.Compare ix [.In] [e] pos) (.bool (decide (k ∈ l))) :=
  Ev.eq (Ev.cmp (b := strsD (l.map nm)) hk (by rw [← nsD_eq]; exact he) (Cmp.inStrs hA) hm) (by simp only [nm_mem])
theorem Src.nnames (hA : Room n A) {tgt : Expr} (he : Ev G A act ρ e (.str "abcdef")) : Src G A act ρ tgt e (NN.map nD) := by
  have := Src.of (tgt := tgt) hA he (.str _)
  rw [chars_names] at this
  exact this
theorem Src.nlist (hA : Room n A) {tgt : Expr} {l : List Nat} (he : Ev G A act ρ e (nsD l)) : Src G A act ρ tgt e (l.map nD) := Src.of hA he (.list _)
theorem Src.ndict (hA : Room n A) {tgt : Expr} {α : Type} {φ : α → D} {l : List (Nat × α)} (he : Ev G A act ρ e (ndict φ l)) : Src G A act ρ tgt e ((l.map (·.1)).map nD) := by
  have := Src.of (tgt := tgt) hA he (.dict _ _)
  rw [List.map_map] at this ⊢
  exact this
end
end Mine
end

section
namespace Mine
open PySem PySem.Challenge PySem.Calls PyProof.Rows
noncomputable def marksL : List Str := ["", "\\(", "\\)", "\")\"", "\"(\\\"(\"", "\\\\"]
noncomputable def cAt (cs : List Int) (k : Nat) : Int := cs.getD k 0
noncomputable def pcOf (cs : List Int) (k : Nat) : Str := marksL.getD (cAt cs k / 60 % 6).toNat ""
noncomputable def tmOf (cs : List Int) (k : Nat) : Int := cAt cs k / 360 * (1 - cAt cs k / 60 % 2 * 2)
noncomputable def upOf (cs : List Int) (k : Nat) : Nat := (cAt cs k % k).toNat
noncomputable def DD : List Nat := [1, 2, 3, 4, 5]
noncomputable def backOf (cs : List Int) : Int := 1 - cAt cs 6 % 2 * 2
noncomputable def drawnOf (up : Nat → Nat) : List (Nat × Nat) := DD.map fun k => (k, up k)
noncomputable def textOf (up : Nat → Nat) (pc : Nat → Str) (back : Int) : Str := lwrite (DD.map fun k => (nm k, nm (up k))) (NN.map fun k => (nm k, pc k)) back 6 "a"
theorem cells_get {cs : List Int} (h : cs.length = 7) {k : Nat} (hk : k < 7) : (cs.map D.int)[(k : Int).toNat]? = some (.int (cAt cs k)) := by
  rw [Int.toNat_natCast, List.getElem?_map, List.getElem?_eq_getElem (by lia)]
  unfold cAt
  rw [List.getD_eq_getElem?_getD, List.getElem?_eq_getElem (by omega)]; rfl
theorem enum_names : enumDs (chars "abcdef") = NN.map fun (k : Nat) => .tuple [.int (k : Int), nD k] := by
  rw [chars_names]; rfl
theorem NN_nodup : NN.Nodup := by decide
theorem DD_nodup : DD.Nodup := by decide
theorem dmk_ndictD {α : Type} (φ : α → D) (f : Nat → α) {l : List Nat} (h : l.Nodup) : dmk ((l.filter fun _ => true).map fun a => ((Ky.s (nm a), φ (f a)) : Ky × D)) = ((l.map fun k => (k, f k)).map (fun p => .s (nm p.1)), (l.map fun k => (k, f k)).map fun p => φ p.2) := by
  rw [filter_all, ← dmk_ndict φ (by rw [List.map_map]; simpa [Function.comp_def] using h), List.map_map]; rfl
section
variable {G : Gl} {A : Around} {n : Nat} {mg mb : Str → Option Value} {sc : Scope} {mc : List Str} {act : Act sc mc} {ρ : LEnv} {e ix : Expr} {pos : Pos} {cs : List Int}
theorem Ev.cell (h : cs.length = 7) {k : Nat} (hk : k < 7) (he : Ev G A act ρ e (.list (cs.map .int))) (hi : Ev G A act ρ ix (.int (k : Int))) : Ev G A act ρ (.Subscript e ix pos) (.int (cAt cs k)) :=
  Ev.sub he hi (SubD.list (by lia) (by lia) (cells_get h hk))
theorem Src.enumNames (hA : Room (n + 1) A) (M : Mod G mg mb) {elts : List Expr} {kk : Nat} {tp : Pos} {fp : Pos} (hk : sc.names.lookup ("enumerate" : Str) = some .globalImplicit) (he : Ev G A act ρ e (.str "abcdef"))
    (hev : eval (.Call (.Name "enumerate" fp) [e] [] pos) act.env = (eval (.Name "enumerate" fp) act.env >>= fun f => callWith pos f [] (backTo pos (starEach [e] act.env)) (backToKw pos (keywordEach [] act.env))) := by rfl) (hs : ∀ env, starEach [e] env = (false, eval e env) :: starEach [] env := by intro _; rfl) :
    Src G A act ρ (.Tuple elts kk tp) (.Call (.Name "enumerate" fp) [e] [] pos) (NN.map fun (k : Nat) => .tuple [.int (k : Int), nD k]) := by
  have := Src.enumS (elts := elts) (kk := kk) (tp := tp) (pos := pos) hA (EvV.blt (act := act) (ρ := ρ) M.N hk M.b_enumerate.1 M.b_enumerate.2) he hev hs
  rw [enum_names] at this
  exact this
end
section
variable {G : Gl} {A : Around} {n : Nat} {mg mb : Str → Option Value} {ns : List Int} {Q : FD → LEnv → Prop}
theorem mem_NN {k : Nat} (h : k ∈ NN) : k < 6 := by
  unfold NN at h; simp at h; lia
set_option maxHeartbeats 4000000 in
theorem run_A (hA : Room (n + 30) A) (M : Mod G mg mb) (hn : ns.length ≤ 63) (act : Act law_s (cellNames law_s.names))
    (next : ∀ cs : List Int, cs.length = 7 → Run G A act (execs (law_b.drop 6) act.env) [("cells", .val (.list (cs.map .int))), ("names", .val (.str "abcdef")), ("pieces", .val (ndict .str (NN.map fun k => (k, pcOf cs k)))), ("times", .val (ndict .int (NN.map fun k => (k, tmOf cs k)))), ("drawn", .val (ndict nD (drawnOf (upOf cs))))] Q) :
    Run G A act (execs law_b act.env) (zipEnv ["script"] [.list (ns.map .int)]) Q := by
  unfold law_b
  refine Run.cons (Run.assignTT hA (xs := ["cells", "names"]) (.cons (by decide) (.cons (by decide) .nil)) (.o (EvO.list (.more (Ev.int 900) (.more (Ev.int 1860) (.more (Ev.int 2640) (.more (Ev.int 601) (.more (Ev.int 1441) (.more (Ev.int 1383) (.more (Ev.int 1) .nil)))))))) (.v (Ev.str _) .nil)) rfl (by decide) (by decide) rfl ?_)
  refine Run.cons (Run.mono (Q := fun fd ρ => fd = .next ∧ ∃ cs : List Int, cs.length = 7 ∧ Has ρ [("cells", .own (.list (cs.map .int))), ("names", .val (.str "abcdef"))]) ?_ ?_)
  · refine Run.forL (enumDs ((ns.take 60).map D.int)) id (fun cs : List Int => [("cells", .own (.list (cs.map .int))), ("names", .val (.str "abcdef"))]) (fun done rest cs => cs.length = 7) [900, 1860, 2640, 601, 1441, 1383, 1] ?_ rfl (Has.of rfl)
      (fun a cs => match a with | .tuple ds => bindLs ["k", "x"] (ds.map .val) [("cells", .own (.list (cs.map .int))), ("names", .val (.str "abcdef"))] | _ => []) (fun done a rest cs e hI => ?_) (fun cs ρ' hI hh => ⟨rfl, cs, hI, hh⟩)
    · rw [List.map_id]
      refine Src.enumL (n := n + 29) hA (EvV.blt M.N rfl M.b_enumerate.1 M.b_enumerate.2) (EvO.ev ?_)
      have : (ns.take 60).map D.int = lslice (ns.map D.int) none (some ((60 : Nat) : Int)) none := by rw [lslice_to, List.map_take]
      rw [this]
      exact EvO.sliced (Ev.name rfl) Bd.non (Bd.at (Ev.int 60)) Bd.non (by rw [List.length_map]; exact Nat.le_trans hn (by decide)) (fun e => nomatch e)
    · have ha : a ∈ enumDs ((ns.take 60).map D.int) := by rw [e]; simp
      obtain ⟨k, v, rfl⟩ : ∃ (k : Nat) (v : Int), a = .tuple [.int k, .int v] := by
        unfold enumDs at ha
        obtain ⟨p, hp, rfl⟩ := List.mem_map.mp ha
        have := List.mem_zipIdx hp
        obtain ⟨_, _, h3⟩ := this
        rw [h3, List.getElem_map]
        exact ⟨_, _, rfl⟩
      refine ⟨Takes.tuple hA (.cons (by decide) (.cons (by decide) .nil)) rfl, ?_⟩
      have h7 : ((k : Int) % 7).toNat < 7 := by lia
      refine Run.cons (Run.augL (ds := cs.map .int) (k := (k : Int) % 7) (d₀ := .int (cAt cs ((k : Int) % 7).toNat)) (d₁ := .int (v % 1000003)) (d := .int (cAt cs ((k : Int) % 7).toNat + v % 1000003)) rfl (Ev.bin (Ev.name rfl) (Ev.int 7) (Op2.mod (by decide))) (by lia) (by lia) ?_ (Ev.bin (Ev.name rfl) (Ev.int 1000003) (Op2.mod (by decide))) Op2.iadd (Run.nil ⟨cs.set ((k : Int) % 7).toNat (cAt cs ((k : Int) % 7).toNat + v % 1000003), by rw [List.length_set]; exact hI, ?_⟩))
      · have := cells_get hI h7
        rw [Int.toNat_natCast] at this
        exact this
      · rw [List.map_set]
        exact (Has.of rfl)
  rintro fd ρ ⟨rfl, cs, hcs, hρ⟩
  refine Run.has ?_ hρ
  refine Run.freeze "cells" _ rfl ?_
  have nx := next cs hcs
  refine Run.cons (Run.assignOwn (EvO.list (.more (Ev.str _) (.more (Ev.str _) (.more (Ev.str _) (.more (Ev.str _) (.more (Ev.str _) (.more (Ev.str _) .nil))))))) (by decide) ?_)
  refine Run.freeze "marks" _ rfl (Run.has (ρ₁ := [("cells", .val (.list (cs.map .int))), ("names", .val (.str "abcdef")), ("marks", .val (.list (marksL.map .str)))]) ?_ (Has.of rfl))
  refine Run.cons (Run.assignComp (CompRuns.dict NN (fun (k : Nat) => .tuple [.int (k : Int), nD k]) (fun k => bindLs ["k", "x"] [.val (.int k), .val (nD k)] (LEnv.inner _ _)) (fun _ => true) (fun k => .s (nm k)) (fun k => .str (pcOf cs k)) (Src.enumNames hA M rfl (Ev.name rfl)) (by decide) (fun act' k hk => ⟨Takes.tuple hA (.cons (by decide) (.cons (by decide) .nil)) rfl, inner_keep2 (by decide) (by decide), Tests.none, fun _ => ⟨Ev.name rfl, ?_⟩⟩) (by decide) (by intro _; rfl)) rfl (by intro _; rfl) (by decide) ?_ _ rfl)
  · have hk := mem_NN hk
    refine Ev.sub (Ev.name rfl) (Ev.bin (Ev.bin (Ev.cell hcs (by lia) (Ev.name rfl) (Ev.name rfl)) (Ev.int 60) (Op2.fdiv (by decide) (by decide))) (Ev.int 6) (Op2.mod (by decide))) (SubD.list (by lia) (by lia) ?_)
    have h6 : (cAt cs k / 60 % 6).toNat < 6 := by lia
    unfold pcOf
    rw [List.getElem?_map, List.getElem?_eq_getElem (by exact h6), List.getD_eq_getElem?_getD, List.getElem?_eq_getElem (by exact h6)]; rfl
  rw [dmk_ndictD D.str (pcOf cs) NN_nodup]
  refine Run.freeze "pieces" _ rfl (Run.has (ρ₁ := [("cells", .val (.list (cs.map .int))), ("names", .val (.str "abcdef")), ("pieces", .val (ndict .str (NN.map fun k => (k, pcOf cs k))))]) ?_ (Has.of rfl))
  refine Run.cons (Run.assignComp (CompRuns.dict NN (fun (k : Nat) => .tuple [.int (k : Int), nD k]) (fun k => bindLs ["k", "x"] [.val (.int k), .val (nD k)] (LEnv.inner _ _)) (fun _ => true) (fun k => .s (nm k)) (fun k => .int (tmOf cs k)) (Src.enumNames hA M rfl (Ev.name rfl)) (by decide) (fun act' k hk => ⟨Takes.tuple hA (.cons (by decide) (.cons (by decide) .nil)) rfl, inner_keep2 (by decide) (by decide), Tests.none, fun _ => ⟨Ev.name rfl, ?_⟩⟩) (by decide) (by intro _; rfl)) rfl (by intro _; rfl) (by decide) ?_ _ rfl)
  · have hk := mem_NN hk
    exact Ev.bin (Ev.bin (Ev.cell hcs (by omega) (Ev.name rfl) (Ev.name rfl)) (Ev.int 360) (Op2.fdiv (by decide) (by decide))) (Ev.bin (Ev.int 1) (Ev.bin (Ev.bin (Ev.bin (Ev.cell hcs (by omega) (Ev.name rfl) (Ev.name rfl)) (Ev.int 60) (Op2.fdiv (by decide) (by decide))) (Ev.int 2) (Op2.mod (by decide))) (Ev.int 2) (Op2.mul (mulOk_right (by decide) (by decide)))) Op2.sub) (Op2.mul (mulOk_right (by lia) (by lia)))
  rw [dmk_ndictD D.int (tmOf cs) NN_nodup]
  refine Run.freeze "times" _ rfl (Run.has (ρ₁ := [("cells", .val (.list (cs.map .int))), ("names", .val (.str "abcdef")), ("pieces", .val (ndict .str (NN.map fun k => (k, pcOf cs k)))), ("times", .val (ndict .int (NN.map fun k => (k, tmOf cs k))))]) ?_ (Has.of rfl))
  refine Run.cons (Run.assignComp (CompRuns.dict DD (fun (k : Nat) => .int (k : Int)) (fun k => ("k", .val (.int k)) :: LEnv.inner _ _) (fun _ => true) (fun k => .s (nm k)) (fun k => nD (upOf cs k)) ?_ (by decide) (fun act' k hk => ⟨Takes.name (by decide), inner_keep1 (by decide), Tests.none, fun _ => ⟨Ev.sub (Ev.name (d := .str "abcdef") rfl) (Ev.name rfl) (SubD.str (c := 97 + k) (by lia) ?_ ?_), ?_⟩⟩) (by decide) (by intro _; rfl)) rfl (by intro _; rfl) (by decide) ?_ _ rfl)
  · exact Src.of hA (Ev.call (EvV.blt M.N rfl M.b_range.1 M.b_range.2) (.type _) (.more (Ev.int 1) (.more (Ev.int 6) .nil)) CallD.range2) (.range (by decide) (by decide) (by decide) (by decide))
  · have : k ≤ 5 := by unfold DD at hk; simp at hk; lia
    lia
  · unfold DD at hk; simp at hk
    rcases hk with rfl | rfl | rfl | rfl | rfl <;> rfl
  · have hk' : 1 ≤ k ∧ k ≤ 5 := by unfold DD at hk; simp at hk; lia
    have hu : upOf cs k < k := by unfold upOf; have := Int.emod_lt_of_pos (cAt cs k) (b := (k : Int)) (by lia); have := Int.emod_nonneg (cAt cs k) (b := (k : Int)) (by lia); lia
    have hu0 : (cAt cs k % k) = ((upOf cs k : Nat) : Int) := by unfold upOf; have := Int.emod_nonneg (cAt cs k) (b := (k : Int)) (by omega); lia
    refine Ev.sub (Ev.name (d := .str "abcdef") rfl) (Ev.bin (Ev.cell hcs (by lia) (Ev.name rfl) (Ev.name rfl)) (Ev.name rfl) (Op2.mod (by omega))) (SubD.str (c := 97 + upOf cs k) ?_ ?_ ?_)
    · rw [hu0]; lia
    · rw [hu0]; lia
    · rw [hu0, Int.toNat_natCast]
      generalize upOf cs k = u at hu
      have : u < 5 := by lia
      have : u = 0 ∨ u = 1 ∨ u = 2 ∨ u = 3 ∨ u = 4 := by lia
      rcases this with rfl | rfl | rfl | rfl | rfl <;> rfl
  rw [dmk_ndictD nD (upOf cs) DD_nodup]
  refine Run.freeze "drawn" _ rfl (Run.has nx (Has.of rfl))
end
end Mine
end

section
namespace Mine
open PySem PySem.Challenge PySem.Calls PyProof.Rows
structure ReadOk (up : Nat → Nat) (pc : Nat → Str) (back : Int) (ord : List Nat) (anc : Nat → List Nat) (sp : Nat → Int × Int) : Prop where
  fits : fits (DD.map fun k => (nm k, nm (up k))) (NN.map fun k => (nm k, pc k)) back 6 "a"
  tlen : (textOf up pc back).length ≤ 500
  ulen : (unitsOf (textOf up pc back)).length ≤ 900
  usum : ((unitsOf (textOf up pc back)).map (·.length)).sum ≤ 900
  spans : spansOf (unitsOf (textOf up pc back)) = ord.map fun k => (.s (nm k), sp k)
  arnd : aroundOf (unitsOf (textOf up pc back)) = ord.map fun k => (.s (nm k), (anc k).map nm)
  chk : check (textOf up pc back) = true
  chk2 : check (")" ++ textOf up pc back ++ "(") = false
  perm : ord.Perm NN
  anc0 : ∀ k ∈ NN, 1 < (anc k).length ↔ k ∈ DD
  ancl : ∀ k ∈ NN, (anc k).length ≤ 6
  anc2 : ∀ k ∈ DD, (anc k)[(anc k).length - 2]? = some (up k)
noncomputable def kid (up : Nat → Nat) (x y : Nat) : Bool := decide (y ∈ DD) && (up y == x)
noncomputable def nearN (up : Nat → Nat) (x : Nat) : List Nat := NN.filter fun y => kid up x y || kid up y x
set_option tactic.hygienic true in
theorem nget_drawn (up : Nat → Nat) (y : Nat) : nget y (drawnOf up) = if y ∈ DD then some (up y) else none := by
  unfold drawnOf
  split
  · rename_i h; exact nget_map h
  · rename_i h; exact nget_map_none h
theorem deqd_all {ks' : List Ky} {vs' : List D} : ∀ {ks : List Ky} {vs : List D}, ks.length = vs.length → (∀ (k : Ky) (v : D), (k, v) ∈ ks.zip vs → ∃ v', dfind k ks' vs' = some v' ∧ deq 8 v v' = some true) → deqd (deq 8) ks' vs' ks vs = some true
  | [], [], _, _ => rfl
  | k :: ks, v :: vs, hl, h => by
    obtain ⟨v', h1, h2⟩ := h k v (.head _)
    rw [deqd, h1]
    simp only [h2, deqd_all (by simpa using hl) fun k v hm => h k v (.tail _ hm)]
    rfl
  | [], _ :: _, hl, _ => by simp at hl
  | _ :: _, [], hl, _ => by simp at hl
theorem deqD_ndict {α β : Type} {φ : α → D} {ψ : β → D} {l : List (Nat × α)} {l' : List (Nat × β)} (hl : l.length = l'.length) (h : ∀ p ∈ l, ∃ b, nget p.1 l' = some b ∧ deq 8 (φ p.2) (ψ b) = some true) :
    deqD (l.map fun p => .s (nm p.1)) (l.map fun p => φ p.2) (l'.map fun p => .s (nm p.1)) (l'.map fun p => ψ p.2) = some true := by
  unfold deqD
  rw [if_pos (by simp [hl])]
  refine deqd_all (by simp) fun k v hm => ?_
  rw [List.zip_map', List.mem_map] at hm
  obtain ⟨p, hp, e⟩ := hm
  obtain ⟨rfl, rfl⟩ := Prod.mk.inj e
  obtain ⟨b, h1, h2⟩ := h p hp
  exact ⟨ψ b, by rw [dfind_nget, h1]; rfl, h2⟩
theorem deq_str (n : Nat) (x : Str) : deq n (.str x) (.str x) = some true := by cases n <;> exact congrArg some (beq_self_eq_true x)
theorem deq_int (n : Nat) (x : Int) : deq n (.int x) (.int x) = some true := by cases n <;> exact congrArg some (beq_self_eq_true x)
theorem deqs_self {f : D → D → Option Bool} : ∀ {l : List D}, (∀ d ∈ l, f d d = some true) → deqs f l l = some true
  | [], _ => rfl
  | d :: l, h => by
    rw [deqs, h d (.head _), deqs_self fun e he => h e (.tail _ he)]; rfl
theorem deq_list (n : Nat) {l : List D} (h : ∀ d ∈ l, deq n d d = some true) : deq (n + 1) (.list l) (.list l) = some true := by
  show (if l.length = l.length then deqs (deq n) l l else some false) = some true
  rw [if_pos rfl]; exact deqs_self h
theorem sorted_letters {l : List Nat} (hp : l.Perm NN) {ss : List Str} (h1 : ss.Perm (l.map nm)) (h2 : sortedS ss = true) : ss = NN.map nm := by
  obtain ⟨ks, hk, rfl⟩ := perm_lift nm h1 rfl
  have hkn := hk.trans hp
  have pw : ∀ (ks : List Nat), sortedS (ks.map nm) = true → ks.Pairwise (fun (a b : Nat) => (a : Int) ≤ (b : Int)) := by
    have go : ∀ (ks : List Nat) (p : Nat), risingS (nm p) (ks.map nm) = true → (∀ k ∈ ks, p ≤ k) ∧ ks.Pairwise (fun (a b : Nat) => (a : Int) ≤ (b : Int)) := by
      intro ks
      induction ks with
      | nil => intro p _; exact ⟨fun k h => (nomatch h), .nil⟩
      | cons k ks ih =>
        intro p h
        rw [List.map_cons, risingS, Bool.and_eq_true] at h
        have h3 : p ≤ k := by
          have : ¬ k < p := by
            have h4 := h.1
            rw [ltCps_eq, nm_lt] at h4
            simpa using h4
          lia
        obtain ⟨h5, h6⟩ := ih k h.2
        refine ⟨fun j hj => ?_, List.pairwise_cons.mpr ⟨fun j hj => by have := h5 j hj; lia, h6⟩⟩
        rcases List.mem_cons.mp hj with rfl | hj
        · exact h3
        · have := h5 j hj; lia
    intro ks h
    cases ks with
    | nil => exact .nil
    | cons k ks =>
      obtain ⟨h1, h2⟩ := go ks k h
      exact List.pairwise_cons.mpr ⟨fun j hj => by have := h1 j hj; lia, h2⟩
  have e := sorted_uniq (f := fun k : Nat => (k : Int)) hkn (by decide) (pw _ h2) (by decide)
  rw [e]
section
variable {G : Gl} {A : Around} {n : Nat} {mg mb : Str → Option Value} {cs : List Int} {Q : FD → LEnv → Prop}
theorem Src.ndictM {sc : Scope} {mc : List Str} {G : Gl} {A : Around} {act : Act sc mc} {ρ : LEnv} {e : Expr} (hA : Room n A) {tgt : Expr} {α : Type} {φ : α → D} {f : Nat → α} {l : List Nat} (he : Ev G A act ρ e (Mine.ndict φ (l.map fun k => (k, f k)))) : Src G A act ρ tgt e (l.map nD) := by
  have := Src.ndict (tgt := tgt) hA he
  rw [List.map_map, List.map_map] at this
  exact this
theorem Te.or3 {sc : Scope} {mc : List Str} {G : Gl} {A : Around} {act : Act sc mc} {ρ : LEnv} {x y z : Expr} {pos : Pos} (h : Te G A act ρ x false) (h' : Te G A act ρ y false) (h'' : Te G A act ρ z false) : Te G A act ρ (.BoolOp .Or [x, y, z] pos) false :=
  Te.eq (Te.or h fun _ => Te.or h' fun _ => Te.or h'' fun _ => Te.or_nil) rfl
noncomputable abbrev envB (cs : List Int) (ord : List Nat) (anc : Nat → List Nat) (sp : Nat → Int × Int) : LEnv := [("cells", .val (.list (cs.map .int))), ("names", .val (.str "abcdef")), ("times", .val (ndict .int (NN.map fun k => (k, tmOf cs k)))), ("drawn", .val (ndict nD (drawnOf (upOf cs)))),
  ("spans", .val (ndict spanD (ord.map fun k => (k, sp k)))), ("around", .val (ndict nsD (ord.map fun k => (k, anc k)))), ("near", .val (ndict nsD (NN.map fun k => (k, nearN (upOf cs) k))))]
set_option maxHeartbeats 4000000 in
theorem run_B {ord : List Nat} {anc : Nat → List Nat} {sp : Nat → Int × Int} (hA : Room (n + 30) A) (M : Mod G mg mb) (hcs : cs.length = 7) (R : ReadOk (upOf cs) (pcOf cs) (backOf cs) ord anc sp) (act : Act law_s (cellNames law_s.names))
    (next : Run G A act (execs (law_b.drop 11) act.env) (envB cs ord anc sp) Q) :
    Run G A act (execs (law_b.drop 6) act.env) [("cells", .val (.list (cs.map .int))), ("names", .val (.str "abcdef")), ("pieces", .val (ndict .str (NN.map fun k => (k, pcOf cs k)))), ("times", .val (ndict .int (NN.map fun k => (k, tmOf cs k)))), ("drawn", .val (ndict nD (drawnOf (upOf cs))))] Q := by
  have hb : backOf cs ≠ 0 := by unfold backOf; lia
  have hns : ∀ x ∈ NN, x ∈ ord := fun x hx => R.perm.mem_iff.mpr hx
  refine Run.cons (Run.assign (Ev.call (EvV.glob M.N rfl M.f_law_write.named) M.f_law_write.callee (.more (Ev.str _) (.more (d := sdict .str (DD.map fun k => (nm k, nm (upOf cs k)))) (Ev.name ?_) (.more (d := sdict .str (NN.map fun k => (nm k, pcOf cs k))) (Ev.name ?_) (.more (Ev.bin (Ev.int 1) (Ev.bin (Ev.bin (Ev.cell (k := 6) hcs (by lia) (Ev.name rfl) (Ev.int 6)) (Ev.int 2) (Op2.mod (by decide))) (Ev.int 2) (Op2.mul (mulOk_right (by decide) (by decide)))) Op2.sub) .nil)))) (call_law_write (n := n) hb (by rw [List.length_map]; decide) M 6 "a" A R.fits (hA.less (by lia)))) (by decide) ?_)
  · have : ndict nD (drawnOf (upOf cs)) = sdict D.str (DD.map fun k => (nm k, nm (upOf cs k))) := by unfold ndict sdict drawnOf; simp only [List.map_map]; rfl
    rw [← this]; rfl
  · have : ndict D.str (NN.map fun k => (k, pcOf cs k)) = sdict D.str (NN.map fun k => (nm k, pcOf cs k)) := by unfold ndict sdict; simp only [List.map_map]; rfl
    rw [← this]; rfl
  refine Run.has (ρ₁ := [("cells", .val (.list (cs.map .int))), ("names", .val (.str "abcdef")), ("times", .val (ndict .int (NN.map fun k => (k, tmOf cs k)))), ("drawn", .val (ndict nD (drawnOf (upOf cs)))), ("text", .val (.str (textOf (upOf cs) (pcOf cs) (backOf cs))))]) ?_ (Has.of rfl)
  have hS : adict spanD (spansOf (unitsOf (textOf (upOf cs) (pcOf cs) (backOf cs)))) = ndict spanD (ord.map fun k => (k, sp k)) := by rw [R.spans]; unfold adict ndict; simp only [List.map_map]; rfl
  have hR : adict strsD (aroundOf (unitsOf (textOf (upOf cs) (pcOf cs) (backOf cs)))) = ndict nsD (ord.map fun k => (k, anc k)) := by
    rw [R.arnd]; unfold adict ndict; simp only [List.map_map]
    congr 1
    refine List.map_congr_left fun k _ => ?_
    exact (nsD_eq _).symm
  refine Run.cons (Run.unpack hA (Ev.call (EvV.glob M.N rfl M.f_law_read.named) M.f_law_read.callee (.more (Ev.name rfl) .nil) (call_law_read (n := n + 21) hA M (Nat.le_trans R.tlen (by decide)) R.ulen R.usum)) (xs := ["spans", "around"]) (.cons (by decide) (.cons (by decide) .nil)) rfl ?_)
  rw [hS, hR]
  have hti : (textOf (upOf cs) (pcOf cs) (backOf cs)).length ≤ 500 := R.tlen
  have c1 := R.chk
  have c2 := R.chk2
  have hold : (ord.map fun k => (k, sp k)).map (fun p => Ky.s (nm p.1)) = (ord.map nm).map Ky.s := by rw [List.map_map, List.map_map]; rfl
  have hl6 : ord.length = 6 := R.perm.length_eq
  refine Run.cons (Run.ite (b := false) (Te.or3 ?_ ?_ ?_) (fun h => nomatch h) fun _ => Run.nil ?_)
  · exact Te.eq (Te.cmp (Ev.call (EvV.glob M.N rfl M.f_check_parenthesis.named) M.f_check_parenthesis.callee (.more (Ev.name rfl) .nil) (call_check (n := n + 24) hA M (Nat.le_trans hti (by decide)))) (Ev.bool _) Cmp.isNotBool) (by rw [c1]; rfl)
  · refine Te.eq (Te.cmp (Ev.call (EvV.glob M.N rfl M.f_check_parenthesis.named) M.f_check_parenthesis.callee (.more (Ev.bin (Ev.bin (Ev.str _) (Ev.name rfl) (Op2.addS ?_)) (Ev.str _) (Op2.addS ?_)) .nil) (call_check (n := n + 24) hA M ?_)) (Ev.bool _) Cmp.isNotBool) (by rw [c2]; rfl)
    · rw [show (Str.ofString ")").length = 1 from rfl]; exact Nat.le_trans (Nat.add_le_add_left hti 1) (by decide)
    · rw [str_len_append, show (Str.ofString ")").length = 1 from rfl, show (Str.ofString "(").length = 1 from rfl]; exact Nat.le_trans (Nat.add_le_add_right (Nat.add_le_add_left hti 1) 1) (by decide)
    · rw [str_len_append, str_len_append, show (Str.ofString ")").length = 1 from rfl, show (Str.ofString "(").length = 1 from rfl]; lia
  · have hd : deq 8 (.list ((NN.map nm).map D.str)) (.list ((NN.map nm).map D.str)) = some true := deq_list 7 fun d hd => by obtain ⟨x, _, rfl⟩ := List.mem_map.mp hd; exact deq_str 7 x
    have es : ndict spanD (ord.map fun k => (k, sp k)) = .dict ((ord.map nm).map Ky.s) ((ord.map fun k => (k, sp k)).map fun p => spanD p.2) := by unfold ndict; rw [hold]
    refine Te.eq (Te.cmp (EvO.ev (EvO.call (EvV.blt M.N rfl M.b_sorted.1 M.b_sorted.2) (.builtin _) (.more (Ev.eq (Ev.name rfl) es) .nil) (CallO.sortedD (n := n + 29) hA (by rw [List.length_map, hl6]; decide) fun ss' h1 h2 => sorted_letters R.perm h1 h2))) (EvO.ev (EvO.call (EvV.blt M.N rfl M.b_list.1 M.b_list.2) (.type _) (.more (Ev.name (d := .str "abcdef") rfl) .nil) (CallO.listS hA (by decide)))) (Cmp.ne hA (r := true) ?_)) rfl
    rw [chars_names]
    rw [List.map_map] at hd
    rw [List.map_map]
    exact hd
  have gAnc : ∀ {sc : Scope} {mc : List Str} {act : Act sc mc} {ρ : LEnv} {e ix : Expr} {pos : Pos} {k : Nat}, k ∈ NN → Ev G A act ρ e (ndict nsD (ord.map fun k => (k, anc k))) → Ev G A act ρ ix (nD k) → Ev G A act ρ (.Subscript e ix pos) (nsD (anc k)) := fun hk he hi => Ev.nsub he hi (nget_map (hns _ hk))
  refine Run.cons (Run.ite (b := false) ?_ (fun h => nomatch h) fun _ => Run.nil ?_)
  · refine Te.eq (Te.cmp (EvO.ev (EvO.dc ord nD (fun k => ("x", .val (nD k)) :: LEnv.inner _ _) (fun k => decide (1 < (anc k).length)) (fun k => .s (nm k)) (fun k => nD (upOf cs k)) ?_ (by rw [hl6]; decide) (fun act' k hk => ⟨Takes.name (by decide), inner_keep1 (by decide), Tests.one (Te.eq (Te.cmp (Ev.call (EvV.blt M.N rfl M.b_len.1 M.b_len.2) (.builtin _) (.more (gAnc (R.perm.mem_iff.mp hk) (Ev.name rfl) (Ev.name rfl)) .nil) (CallD.lenL (by rw [List.length_map]; exact Nat.le_trans (R.ancl k (R.perm.mem_iff.mp hk)) (by decide)))) (Ev.int 1) Cmp.gt) ?_), fun hp => ⟨Ev.name rfl, ?_⟩⟩) rfl)) (Ev.name rfl) (Cmp.neD hA (r := true) ?_)) rfl
    · exact Src.ndictM (f := anc) (φ := nsD) hA (Ev.name rfl)
    · rw [List.length_map]; simp only [decide_eq_decide]; omega
    · have hk' := (R.anc0 k (R.perm.mem_iff.mp hk)).mp (by simpa using hp)
      have h2 := R.anc2 k hk'
      have h1 : 1 < (anc k).length := by simpa using hp
      refine Ev.sub (gAnc (R.perm.mem_iff.mp hk) (Ev.name rfl) (Ev.name rfl)) (Ev.neg (Ev.int 2)) (SubD.listN (by decide) (by decide) (by rw [List.length_map]; lia) ?_)
      rw [List.length_map, List.getElem?_map, show ((-2 : Int) + ((anc k).length : Int)).toNat = (anc k).length - 2 by lia, h2]; rfl
    · have hnd : (ord.filter fun k => decide (1 < (anc k).length)).Nodup := (List.filter_sublist ..).nodup (R.perm.nodup_iff.mpr NN_nodup)
      have e := dmk_ndictD nD (upOf cs) hnd
      rw [filter_all] at e
      rw [e]
      refine deqD_ndict (ψ := nD) (l' := drawnOf (upOf cs)) ?_ fun p hp => ?_
      · have h1 := (R.perm.filter fun k => decide (1 < (anc k).length)).length_eq
        have h2 : NN.filter (fun k => decide (1 < (anc k).length)) = NN.filter (fun k => decide (k ∈ DD)) := List.filter_congr fun k hk => by simp only [decide_eq_decide]; exact R.anc0 k hk
        rw [List.length_map, h1, h2]; rfl
      · obtain ⟨k, hk, rfl⟩ := List.mem_map.mp hp
        obtain ⟨h1, h2⟩ := List.mem_filter.mp hk
        exact ⟨upOf cs k, by rw [nget_drawn, if_pos ((R.anc0 k (R.perm.mem_iff.mp h1)).mp (by simpa using h2))], deq_str ..⟩
  refine Run.cons (Run.assignComp (CompRuns.dict NN nD (fun k => ("x", .val (nD k)) :: LEnv.inner _ _) (fun _ => true) (fun k => .s (nm k)) (fun k => nsD (nearN (upOf cs) k)) (Src.nnames hA (Ev.name rfl)) (by decide) (fun act' x hx => ⟨Takes.name (by decide), inner_keep1 (by decide), Tests.none, fun _ => ⟨Ev.name rfl, ?_⟩⟩) (by decide) (by intro _; rfl)) rfl (by intro _; rfl) (by decide) ?_ _ rfl)
  · have get : ∀ {sc : Scope} {mc : List Str} {act : Act sc mc} {ρ : LEnv} {e₁ e₂ : Expr} {np ap cp pos : Pos} {k : Nat} {x y : Nat}, ρ.lookup ("drawn" : Str) = some (.val (ndict nD (drawnOf (upOf cs)))) → Ev G A act ρ e₁ (nD y) → Ev G A act ρ e₂ (nD x) →
        (starEach [e₁, .Constant (.str "") k cp] act.env = [(false, eval e₁ act.env), (false, eval (.Constant (.str "") k cp) act.env)]) → (attributeBase (.Name "drawn" np) "get" act.env (eval (.Name "drawn" np) act.env) = eval (.Name "drawn" np) act.env) → (ap.endLine == pos.line) = true → ∀ {cpos : Pos}, behindInMarks .Eq e₂ = false →
        Te G A act ρ (.Compare (.Call (.Attribute (.Name "drawn" np) "get" ap) [e₁, .Constant (.str "") k cp] [] pos) [.Eq] [e₂] cpos) (kid (upOf cs) x y) := fun {sc mc act ρ e₁ e₂ np ap cp pos k x y} h h1 h2 h3 h4 h5 {cpos} h6 => by
      refine Te.cmp (Ev.get2 (k := .s (nm y)) (e := .str "") (Ev.name h) h1 (Ev.str _) h4 h3 h5) h2 ?_ h6
      rw [dfind_nget, nget_drawn]
      unfold kid
      by_cases q : y ∈ DD
      · rw [if_pos q, decide_eq_true q]
        show Cmp G A .Eq (.str (nm (upOf cs y))) (.str (nm x)) _
        rw [Bool.true_and, ← nm_ne]
        exact Cmp.eqS hA
      · rw [if_neg q, decide_eq_false q]
        show Cmp G A .Eq (.str "") (.str (nm x)) _
        have : ((Str.ofString "") == nm x) = false := by
          refine beq_eq_false_iff_ne.mpr fun e => ?_
          have := congrArg Str.length e
          exact absurd this (by rw [nm_len]; decide)
        rw [Bool.false_and, ← this]
        exact Cmp.eqS hA
    refine EvO.ev (EvO.lc NN nD (fun k => ("y", .val (nD k)) :: LEnv.inner _ _) (fun y => kid (upOf cs) x y || kid (upOf cs) y x) nD (Src.nnames hA (Ev.name rfl)) (by decide) (fun act'' y hy => ⟨Takes.name (by decide), inner_keep1 (by decide), Tests.one (Te.or2 ?_ fun _ => ?_), fun _ => Ev.name rfl⟩) rfl)
    · exact get rfl (Ev.name rfl) (Ev.name rfl) rfl rfl rfl (by with_unfolding_all rfl)
    · exact get rfl (Ev.name rfl) (Ev.name rfl) rfl rfl rfl (by with_unfolding_all rfl)
  rw [dmk_ndictD nsD (nearN (upOf cs)) NN_nodup]
  exact Run.freeze "near" _ rfl (Run.has next (Has.of rfl))
end
end Mine
end

section
namespace Mine
open PySem PySem.Challenge PySem.Calls PyProof.Rows
section
variable {G : Gl} {A : Around} {n : Nat} {mg mb : Str → Option Value} {d e hiD : D} {lo : Int}
theorem raise_bisect_left4 (M : Mod G mg mb) (hA : Room (n + 1) A) (h : lo < 0) : CallE G A (.ref 71) [d, e, .int lo, hiD] "ValueError" "lo must be non-negative" := by
  obtain ⟨m, tk, ht⟩ := M.d_bisect_left.t
  refine CallE.fn (n := n) (xs := ["a", "x", "lo", "hi", "key"]) M.f_bisect_left M.N hA (by decide) (by decide) [("key", .none, .none)] rfl (fun vs fd S s hl h1 h2 h3 I => ?_) (fun S s I => .cons .none .nil) fun act hf kp adr S s outer base O hfr hst hff => ?_
  · obtain ⟨a0, a1, a2, a3, rfl⟩ := len4 hl
    exact bind_bisect_left4 ht M.d_bisect_left fd h1 h2 h3 I
  · unfold bisect_left_b
    exact raise_neg (hA.deeper act.env) M.N M.b_ValueError O rfl h rfl hf hfr hst hff
theorem raise_bisect_right4 (M : Mod G mg mb) (hA : Room (n + 1) A) (h : lo < 0) : CallE G A (.ref 53) [d, e, .int lo, hiD] "ValueError" "lo must be non-negative" := by
  obtain ⟨m, tk, ht⟩ := M.d_bisect_right.t
  refine CallE.fn (n := n) (xs := ["a", "x", "lo", "hi", "key"]) M.f_bisect_right M.N hA (by decide) (by decide) [("key", .none, .none)] rfl (fun vs fd S s hl h1 h2 h3 I => ?_) (fun S s I => .cons .none .nil) fun act hf kp adr S s outer base O hfr hst hff => ?_
  · obtain ⟨a0, a1, a2, a3, rfl⟩ := len4 hl
    exact bind_bisect_right4 ht M.d_bisect_right fd h1 h2 h3 I
  · unfold bisect_right_b
    exact raise_neg (hA.deeper act.env) M.N M.b_ValueError O rfl h rfl hf hfr hst hff
theorem globRaw {sc : Scope} {mc : List Str} {act : Act sc mc} {kp : Kept} {adr : Str → Addr} {ρ : LEnv} {S : Fz} {s : Shared} (N : Names G mg mb) (O : OK G act kp adr ρ S s) {x : Str} {npos : Pos} {v : Value} (hk : sc.names.lookup x = some .globalImplicit) (hv : mg x = some v) (hd : (x == ("__debug__" : Str)) = false := by decide) :
    wpAny G.M A (eval (.Name x npos) act.env) (fun v' s' => s' = s ∧ v' = v) No s := by
  obtain ⟨o, ho, hn⟩ := N.g
  exact Name_function_global O.fn' (by rw [act.kindOf]; exact hk) (loadGlobal_global (mg := mg) (by rw [O.glob]; exact hn.ns (O.inv.sub _ _ (O.inv.base _ _ ho))) hv ⟨rfl, rfl⟩) hd
theorem raise_insort_left3 (M : Mod G mg mb) (hA : Room (n + 2) A) (h : lo < 0) : CallE G A (.ref 62) [d, e, .int lo] "ValueError" "lo must be non-negative" := by
  obtain ⟨m, tk, ht⟩ := M.d_insort_left.t
  refine CallE.fn (n := n + 1) (xs := ["a", "x", "lo", "hi", "key"]) M.f_insort_left M.N hA (by decide) (by decide) [("hi", .none, .none), ("key", .none, .none)] rfl (fun vs fd S s hl h1 h2 h3 I => ?_) (fun S s I => .cons .none (.cons .none .nil)) fun act hf kp adr S s outer base O hfr hst hff => ?_
  · obtain ⟨a0, a1, a2, rfl⟩ := len3 hl
    exact bind_insort_left3 ht M.d_insort_left fd h1 h2 h3 I
  · unfold insort_left_b
    exact raise_through M.f_bisect_left.callee (raise_bisect_left4 (n := n) (d := d) (e := e) (hiD := .none) M (hA.deeper act.env) h) (globRaw M.N O rfl M.f_bisect_left.named) O rfl rfl rfl rfl rfl hf hfr hst hff
theorem raise_insort_right3 (M : Mod G mg mb) (hA : Room (n + 2) A) (h : lo < 0) : CallE G A (.ref 44) [d, e, .int lo] "ValueError" "lo must be non-negative" := by
  obtain ⟨m, tk, ht⟩ := M.d_insort_right.t
  refine CallE.fn (n := n + 1) (xs := ["a", "x", "lo", "hi", "key"]) M.f_insort_right M.N hA (by decide) (by decide) [("hi", .none, .none), ("key", .none, .none)] rfl (fun vs fd S s hl h1 h2 h3 I => ?_) (fun S s I => .cons .none (.cons .none .nil)) fun act hf kp adr S s outer base O hfr hst hff => ?_
  · obtain ⟨a0, a1, a2, rfl⟩ := len3 hl
    exact bind_insort_right3 ht M.d_insort_right fd h1 h2 h3 I
  · unfold insort_right_b
    exact raise_through M.f_bisect_right.callee (raise_bisect_right4 (n := n) (d := d) (e := e) (hiD := .none) M (hA.deeper act.env) h) (globRaw M.N O rfl M.f_bisect_right.named) O rfl rfl rfl rfl rfl hf hfr hst hff
end
theorem filter_prefix {q : Int → Bool} : ∀ {l : List Int}, l.Pairwise (fun a b => q b = true → q a = true) → ∀ {i : Nat} {y : Int}, l[i]? = some y → (q y = true ↔ i < (l.filter q).length)
  | [], _, i, y, h => by simp at h
  | a :: l, hp, i, y, h => by
    obtain ⟨h1, h2⟩ := List.pairwise_cons.mp hp
    cases i with
    | zero =>
      simp only [List.getElem?_cons_zero, Option.some.injEq] at h
      subst h
      cases e : q a with
      | true => simp [List.filter_cons, e]
      | false =>
        have : l.filter q = [] := List.filter_eq_nil_iff.mpr fun b hb hq => by rw [h1 b hb hq] at e; exact nomatch e
        simp [List.filter_cons, e, this]
    | succ i =>
      simp only [List.getElem?_cons_succ] at h
      have := filter_prefix h2 h
      cases e : q a with
      | true => simp [List.filter_cons, e, this]
      | false =>
        have h0 : l.filter q = [] := List.filter_eq_nil_iff.mpr fun b hb hq => by rw [h1 b hb hq] at e; exact nomatch e
        rw [h0] at this
        simp [List.filter_cons, e, h0, this]
noncomputable def cntL (l : List Int) (v : Int) : Int := (l.filter fun y => decide (y < v)).length
noncomputable def cntR (l : List Int) (v : Int) : Int := (l.filter fun y => decide (y ≤ v)).length
theorem cntL_at {l : List Int} {v : Int} (h : l.Pairwise (· ≤ ·)) {i : Nat} {y : Int} (hy : l[i]? = some y) : decide (y < v) = decide ((i : Int) < cntL l v) := by
  have := filter_prefix (q := fun y => decide (y < v)) (h.imp fun {a b} hab hb => by simp at hb ⊢; lia) hy
  simp only [decide_eq_true_eq] at this
  unfold cntL
  simp only [decide_eq_decide]
  rw [this]; omega
theorem cntR_at {l : List Int} {v : Int} (h : l.Pairwise (· ≤ ·)) {i : Nat} {y : Int} (hy : l[i]? = some y) : decide (v < y) = decide (cntR l v ≤ (i : Int)) := by
  have := filter_prefix (q := fun y => decide (y ≤ v)) (h.imp fun {a b} hab hb => by simp at hb ⊢; lia) hy
  simp only [decide_eq_true_eq] at this
  unfold cntR
  simp only [decide_eq_decide]
  omega
theorem cntL_le (l : List Int) (v : Int) : 0 ≤ cntL l v ∧ cntL l v ≤ l.length := by unfold cntL; have := List.length_filter_le (fun y => decide (y < v)) l; omega
theorem cntR_le (l : List Int) (v : Int) : 0 ≤ cntR l v ∧ cntR l v ≤ l.length := by unfold cntR; have := List.length_filter_le (fun y => decide (y ≤ v)) l; omega
theorem insAt_perm {α : Type} (k : Nat) (x : α) (l : List α) : (insAt k x l).Perm (x :: l) := by
  unfold insAt
  have := List.take_append_drop k l
  conv => rhs; rw [← this]
  exact List.perm_middle
set_option tactic.hygienic true in
theorem insAt_sorted {l : List Int} {v : Int} {k : Nat} (h : l.Pairwise (· ≤ ·)) (h1 : ∀ i y, l[i]? = some y → i < k → y ≤ v) (h2 : ∀ i y, l[i]? = some y → k ≤ i → v ≤ y) : (insAt k v l).Pairwise (· ≤ ·) := by
  unfold insAt
  have hs : (l.take k ++ l.drop k).Pairwise (· ≤ ·) := by rw [List.take_append_drop]; exact h
  obtain ⟨p1, p2, p3⟩ := List.pairwise_append.mp hs
  have a1 : ∀ a ∈ l.take k, a ≤ v := fun a ha => by
    obtain ⟨i, hi⟩ := List.getElem?_of_mem ha
    rw [List.getElem?_take] at hi
    split at hi
    · rename_i hk; exact h1 i a hi hk
    · exact nomatch hi
  have a2 : ∀ a ∈ l.drop k, v ≤ a := fun a ha => by
    obtain ⟨i, hi⟩ := List.getElem?_of_mem ha
    rw [List.getElem?_drop] at hi
    exact h2 _ a hi (by lia)
  refine List.pairwise_append.mpr ⟨p1, List.pairwise_cons.mpr ⟨a2, p2⟩, fun a ha b hb => ?_⟩
  rcases List.mem_cons.mp hb with rfl | hb
  · exact a1 a ha
  · exact p3 a ha b hb
theorem insL_isort {l : List Int} {v : Int} : insAt (cntL (isort l) v).toNat v (isort l) = isort (l ++ [v]) := by
  have hs := isort_le l
  refine isort_uniq ?_ (insAt_sorted hs (fun i y hy hi => ?_) fun i y hy hi => ?_)
  · exact (insAt_perm ..).trans (((isort_perm l).cons v).trans (List.perm_append_comm (l₁ := [v])))
  · have := cntL_at (v := v) hs hy
    have := (cntL_le (isort l) v).1
    simp only [decide_eq_decide] at *
    lia
  · have := cntL_at (v := v) hs hy
    have := (cntL_le (isort l) v).1
    simp only [decide_eq_decide] at *
    lia
theorem insR_isort {l : List Int} {v : Int} : insAt (cntR (isort l) v).toNat v (isort l) = isort (l ++ [v]) := by
  have hs := isort_le l
  refine isort_uniq ?_ (insAt_sorted hs (fun i y hy hi => ?_) fun i y hy hi => ?_)
  · exact (insAt_perm ..).trans (((isort_perm l).cons v).trans (List.perm_append_comm (l₁ := [v])))
  · have := cntR_at (v := v) hs hy
    have := (cntR_le (isort l) v).1
    simp only [decide_eq_decide] at *
    lia
  · have := cntR_at (v := v) hs hy
    have := (cntR_le (isort l) v).1
    simp only [decide_eq_decide] at *
    lia
theorem clamp_c {n c : Int} (h0 : 0 ≤ c) (h : c ≤ n) : clampTo 0 n c = c := by unfold clampTo; lia
section
variable {G : Gl} {A : Around} {n : Nat} {mg mb : Str → Option Value}
theorem insort_left_ints (M : Mod G mg mb) (hA : Room (n + 2) A) {l : List Int} {v : Int} (hn : l.length ≤ 1000) : CallX G A (.ref 62) (.list ((isort l).map .int)) [.int v] (.list ((isort (l ++ [v])).map .int)) := by
  have hl : (isort l).length = l.length := (isort_perm l).length_eq
  have h := call_insort_left2 (ds := (isort l).map .int) (x := .int v) (c := cntL (isort l) v) M hA (by rw [List.length_map]; lia) (by rw [List.length_map]; exact (cntL_le _ _).2) (fun A' i d hd hA' => by
    rw [List.getElem?_map] at hd
    cases q : (isort l)[i]? with
    | none => rw [q] at hd; cases hd
    | some y => rw [q] at hd; cases hd; rw [← cntL_at (isort_le l) q]; exact Cmp.lt)
  rw [List.length_map, clamp_c (cntL_le _ _).1 (cntL_le _ _).2] at h
  rw [← insL_isort]
  unfold insAt at h ⊢
  rw [List.map_append, List.map_cons, List.map_take, List.map_drop]
  exact h
theorem insort_right_ints (M : Mod G mg mb) (hA : Room (n + 2) A) {l : List Int} {v : Int} (hn : l.length ≤ 1000) : CallX G A (.ref 44) (.list ((isort l).map .int)) [.int v] (.list ((isort (l ++ [v])).map .int)) := by
  have hl : (isort l).length = l.length := (isort_perm l).length_eq
  have h := call_insort_right2 (ds := (isort l).map .int) (x := .int v) (c := cntR (isort l) v) M hA (by rw [List.length_map]; lia) (by rw [List.length_map]; exact (cntR_le _ _).2) (fun A' i d hd hA' => by
    rw [List.getElem?_map] at hd
    cases q : (isort l)[i]? with
    | none => rw [q] at hd; cases hd
    | some y => rw [q] at hd; cases hd; rw [← cntR_at (isort_le l) q]; exact Cmp.lt)
  rw [List.length_map, clamp_c (cntR_le _ _).1 (cntR_le _ _).2] at h
  rw [← insR_isort]
  unfold insAt at h ⊢
  rw [List.map_append, List.map_cons, List.map_take, List.map_drop]
  exact h
end
end Mine
end

section
namespace Mine
open PySem PySem.Challenge PySem.Calls PyProof.Rows
structure LawAct (G : Gl) (mg : Str → Option Value) (A : Around) (act : Act law_s (cellNames law_s.names)) : Prop where
  fr : A.frames = some [act.env]
  own : act.env.frame = some act.env.locals
  lam : ∃ T, CodeTab G mg act.env.code (act.env.qual ++ "<lambda>") T { line := 170, col := 30, endLine := 170, endCol := 51 }
noncomputable abbrev firsts (ord : List Nat) (sp : Nat → Int × Int) : List Int := ord.map fun k => (sp k).1
noncomputable def degN (up : Nat → Nat) (x : Nat) : Int := (nearN up x).length
noncomputable def stepsN (up : Nat → Nat) (ord : List Nat) : List Int := lsums (ord.map (degN up))
noncomputable def loadsN (up : Nat → Nat) (tm : Nat → Int) (ord : List Nat) : List Int := lsums (ord.map fun x => degN up x * tm x)
noncomputable abbrev envC (cs : List Int) (ord : List Nat) (anc : Nat → List Nat) (sp : Nat → Int × Int) : LEnv := [("cells", .val (.list (cs.map .int))), ("names", .val (.str "abcdef")), ("times", .val (ndict .int (NN.map fun k => (k, tmOf cs k)))), ("drawn", .val (ndict nD (drawnOf (upOf cs)))),
  ("spans", .val (ndict spanD (ord.map fun k => (k, sp k)))), ("around", .val (ndict nsD (ord.map fun k => (k, anc k)))), ("near", .val (ndict nsD (NN.map fun k => (k, nearN (upOf cs) k)))),
  ("row", .val (.list ((firsts ord sp).map .int))), ("order", .val (nsD ord)), ("steps", .val (.list ((stepsN (upOf cs) ord).map .int))), ("loads", .val (.list ((loadsN (upOf cs) (tmOf cs) ord).map .int)))]
theorem Te.or2f {sc : Scope} {mc : List Str} {G : Gl} {A : Around} {act : Act sc mc} {ρ : LEnv} {x y : Expr} {pos : Pos} (h : Te G A act ρ x false) (h' : Te G A act ρ y false) : Te G A act ρ (.BoolOp .Or [x, y] pos) false :=
  Te.eq (Te.or h fun _ => Te.or h' fun _ => Te.or_nil) rfl
section
variable {G : Gl} {A : Around} {n : Nat} {mg mb : Str → Option Value} {cs : List Int} {Q : FD → LEnv → Prop}
theorem nearN_len (up : Nat → Nat) (x : Nat) : (nearN up x).length ≤ 6 := List.length_filter_le ..
set_option maxHeartbeats 4000000 in
theorem run_C {ord : List Nat} {anc : Nat → List Nat} {sp : Nat → Int × Int} (hA : Room (n + 30) A) (M : Mod G mg mb) (hcs : cs.length = 7) (hp : ord.Perm NN) (hinc : (firsts ord sp).Pairwise (· < ·)) (act : Act law_s (cellNames law_s.names)) (LA : LawAct G mg A act)
    (next : Run G A act (execs (law_b.drop 17) act.env) (envC cs ord anc sp) Q) :
    Run G A act (execs (law_b.drop 11) act.env) (envB cs ord anc sp) Q := by
  have hns : ∀ x ∈ NN, x ∈ ord := fun x hx => hp.mem_iff.mpr hx
  have hl6 : ord.length = 6 := hp.length_eq
  obtain ⟨T, hT⟩ := LA.lam
  have gSp : ∀ {sc : Scope} {mc : List Str} {act : Act sc mc} {ρ : LEnv} {e ix : Expr} {pos p2 p3 : Pos} {k kk : Nat}, k ∈ NN → Ev G A act ρ e (ndict spanD (ord.map fun k => (k, sp k))) → Ev G A act ρ ix (nD k) → Ev G A act ρ (.Subscript (.Subscript e ix pos) (.Constant (.int 0) kk p2) p3) (.int (sp k).1) := fun hk he hi =>
    Ev.sub (Ev.nsub he hi (nget_map (hns _ hk))) (Ev.int 0) (SubD.tuple (by decide) (by decide) rfl)
  refine Run.cons (Run.assignOwn (EvO.list .nil) (by decide) ?_)
  refine Run.cons (Run.mono (Q := fun fd ρ => fd = .next ∧ Has ρ (("row", .own (.list ((isort (NN.map fun k => (sp k).1)).map .int))) :: envB cs ord anc sp)) ?_ ?_)
  · refine Run.forL NN (fun (k : Nat) => .tuple [.int (k : Int), nD k]) (fun l : List Int => ("row", .own (.list ((isort l).map .int))) :: envB cs ord anc sp) (fun done rest l => l = done.map fun k => (sp k).1) [] (Src.enumNames hA M rfl (Ev.name rfl)) rfl (Has.of rfl)
      (fun k l => bindLs ["k", "x"] [.val (.int k), .val (nD k)] (("row", .own (.list ((isort l).map .int))) :: envB cs ord anc sp)) (fun done k rest l e hI => ⟨Takes.tuple hA (.cons (by decide) (.cons (by decide) .nil)) rfl, ?_⟩) (fun l ρ' hI hh => ⟨rfl, hI ▸ hh⟩)
    have hk : k ∈ NN := by rw [e]; simp
    have hll : l.length ≤ 1000 := by rw [hI, List.length_map]; have := congrArg List.length e; simp [NN] at this; lia
    refine Run.cons (Run.expr (ρ' := ("row", .own (.list ((isort (l ++ [(sp k).1])).map .int))) :: bindLs ["k", "x"] [.val (.int k), .val (nD k)] (("row", .own (.list ((isort l).map .int))) :: envB cs ord anc sp)) (EvX.ite (p := decide (((k : Int) + cAt cs 6) % 2 = 0)) (Te.eq (Te.cmp (Ev.bin (Ev.bin (Ev.name rfl) (Ev.cell (k := 6) hcs (by lia) (Ev.name rfl) (Ev.int 6)) Op2.add) (Ev.int 2) (Op2.mod (by decide))) (Ev.int 0) Cmp.eqI) ?_) (fun _ => ?_) fun _ => ?_) (Run.nil ⟨l ++ [(sp k).1], by rw [hI, List.map_append]; rfl, Has.of rfl⟩))
    · rfl
    · exact EvX.call (EvV.glob M.N rfl M.f_insort_left.named) M.f_insort_left.callee rfl (.more (gSp hk (Ev.name rfl) (Ev.name rfl)) .nil) (insort_left_ints (n := n) M (hA.less (by lia)) hll)
    · exact EvX.call (EvV.glob M.N rfl M.f_insort_right.named) M.f_insort_right.callee rfl (.more (gSp hk (Ev.name rfl) (Ev.name rfl)) .nil) (insort_right_ints (n := n) M (hA.less (by omega)) hll)
  rintro fd ρ ⟨rfl, hρ⟩
  refine Run.has ?_ hρ
  have hrow : isort (NN.map fun k => (sp k).1) = firsts ord sp := (isort_uniq (hp.map _) (hinc.imp fun h => Int.le_of_lt h)).symm
  rw [hrow]
  refine Run.freeze "row" _ rfl (Run.has (ρ₁ := ("row", .val (.list ((firsts ord sp).map .int))) :: envB cs ord anc sp) ?_ (Has.of rfl))
  refine Run.cons (Run.tryE hA M.N M.b_ValueError M.b_str (w := "lo must be non-negative") (EvE.ite (p := decide (cAt cs 6 % 2 = 0)) (Te.eq (Te.cmp (Ev.bin (Ev.cell (k := 6) hcs (by lia) (Ev.name rfl) (Ev.int 6)) (Ev.int 2) (Op2.mod (by decide))) (Ev.int 0) Cmp.eqI) rfl) (fun _ => ?_) fun _ => ?_) LA.fr LA.own rfl rfl rfl (by decide) (by decide) rfl ?_)
  · exact EvE.call LA.fr LA.own (EvV.glob M.N rfl M.f_insort_left.named) M.f_insort_left.callee (.more (Ev.name rfl) (.more (Ev.int 0) (.more (Ev.neg (Ev.int 1)) .nil))) (raise_insort_left3 (n := n) M (hA.less (by lia)) (by decide))
  · exact EvE.call LA.fr LA.own (EvV.glob M.N rfl M.f_insort_right.named) M.f_insort_right.callee (.more (Ev.name rfl) (.more (Ev.int 0) (.more (Ev.neg (Ev.int 1)) .nil))) (raise_insort_right3 (n := n) M (hA.less (by omega)) (by decide))
  refine Run.cons (Run.assignSortedKey (n := n + 26) hA M.N M.b_sorted rfl hT (txt := "abcdef") (zs := NN.map fun k => ((sp k).1, nm k)) (es := ord.map fun k => ((sp k).1, nm k)) rfl rfl rfl (by decide) rfl rfl rfl rfl (by decide) (fun v fd h1 h2 h3 => ?_) ?_ (by decide) (fun z hz => ?_) ?_ (hp.map _) ?_ ?_)
  · obtain ⟨nm, qn, ps, bd, sc, gl, cl, df, kd, doc, mo, an, cd, ct, bl⟩ := fd
    simp only at h1 h2 h3
    subst h1 h2 h3
    rfl
  · rw [chars_names, List.map_map]; rfl
  · obtain ⟨k, hk, rfl⟩ := List.mem_map.mp hz
    exact ⟨[.int (sp k).1, .int (sp k).2], by rw [dfind_nget, nget_map (hns k hk)]; rfl, rfl⟩
  · rw [List.map_map]
    refine (hp.map fun k => (sp k).1).nodup_iff.mp (hinc.imp fun h => ?_)
    lia
  · rw [List.pairwise_map] at hinc ⊢
    exact hinc.imp fun h => Int.le_of_lt h
  have eo : ((ord.map fun k => ((sp k).1, nm k)).map fun z => D.str z.2) = ord.map nD := by rw [List.map_map]; rfl
  rw [eo]
  refine Run.freeze "order" _ rfl (Run.has (ρ₁ := ("order", .val (nsD ord)) :: ("words", .val (.str "lo must be non-negative")) :: ("row", .val (.list ((firsts ord sp).map .int))) :: envB cs ord anc sp) ?_ (Has.of rfl))
  refine Run.cons (Run.ite (b := false) (Te.or2f ?_ ?_) (fun h => nomatch h) fun _ => Run.nil ?_)
  · exact Te.eq (Te.cmp (Ev.name rfl) (Ev.str _) (Cmp.ne hA (deq_str ..))) rfl
  · refine Te.eq (Te.cmp (Ev.name rfl) (EvO.ev (EvO.lc ord nD (fun k => ("x", .val (nD k)) :: LEnv.inner _ _) (fun _ => true) (fun k => .int (sp k).1) (Src.nlist hA (Ev.name rfl)) (by rw [hl6]; decide) (fun act' k hk => ⟨Takes.name (by decide), inner_keep1 (by decide), Tests.none, fun _ => gSp (hp.mem_iff.mp hk) (Ev.name rfl) (Ev.name rfl)⟩) rfl)) (Cmp.ne hA (r := true) ?_)) rfl
    rw [filter_all, show (ord.map fun k => D.int (sp k).1) = (firsts ord sp).map .int by rw [List.map_map]; rfl]
    exact deq_list 7 fun d hd => by obtain ⟨x, _, rfl⟩ := List.mem_map.mp hd; exact deq_int 7 x
  have gNear : ∀ {sc : Scope} {mc : List Str} {act : Act sc mc} {ρ : LEnv} {e ix fx : Expr} {pos p2 : Pos} {k : Nat}, k ∈ NN → EvV G A act ρ fx (.builtin "len") → Ev G A act ρ e (ndict nsD (NN.map fun k => (k, nearN (upOf cs) k))) → Ev G A act ρ ix (nD k) →
      (eval (.Call fx [.Subscript e ix pos] [] p2) act.env = (eval fx act.env >>= fun f => callWith p2 f [] (backTo p2 (starEach [.Subscript e ix pos] act.env)) (backToKw p2 (keywordEach [] act.env)))) → (∀ env, starEach [.Subscript e ix pos] env = (false, eval (.Subscript e ix pos) env) :: starEach [] env) → Ev G A act ρ (.Call fx [.Subscript e ix pos] [] p2) (.int (degN (upOf cs) k)) := fun hk hf he hi h1 h2 => by
    refine Ev.eq (Ev.call hf (.builtin _) (.more (Ev.nsub he hi (nget_map hk)) .nil h2) (CallD.lenL (by rw [List.length_map]; exact Nat.le_trans (nearN_len ..) (by decide))) h1) ?_
    rw [List.length_map]; rfl
  have hsl : ∀ f : Nat → Int, ((ord.map f).length ≤ 1000) := fun f => by rw [List.length_map, hl6]; decide
  refine Run.cons (Run.assignTT hA (xs := ["steps", "loads"]) (.cons (by decide) (.cons (by decide) .nil)) (.v (d := .list ((stepsN (upOf cs) ord).map .int)) (Ev.call (EvV.glob M.N rfl M.f_law_sums.named) M.f_law_sums.callee (.more (d := .list ((ord.map (degN (upOf cs))).map .int)) (EvO.ev (EvO.lc ord nD (fun k => ("x", .val (nD k)) :: LEnv.inner _ _) (fun _ => true) (fun k => .int (degN (upOf cs) k)) (Src.nlist hA (Ev.name rfl)) (by rw [hl6]; decide) (fun act' k hk => ⟨Takes.name (by decide), inner_keep1 (by decide), Tests.none, fun _ => gNear (hp.mem_iff.mp hk) (EvV.blt M.N rfl M.b_len.1 M.b_len.2) (Ev.name rfl) (Ev.name rfl) rfl (by intro _; rfl)⟩) (by rw [filter_all, List.map_map]; rfl))) .nil) (call_law_sums (n := n) (hA.less (by lia)) M (hsl _)))
    (.v (d := .list ((loadsN (upOf cs) (tmOf cs) ord).map .int)) (Ev.call (EvV.glob M.N rfl M.f_law_sums.named) M.f_law_sums.callee (.more (d := .list ((ord.map fun x => degN (upOf cs) x * tmOf cs x).map .int)) (EvO.ev (EvO.lc ord nD (fun k => ("x", .val (nD k)) :: LEnv.inner _ _) (fun _ => true) (fun k => .int (degN (upOf cs) k * tmOf cs k)) (Src.nlist hA (Ev.name rfl)) (by rw [hl6]; decide) (fun act' k hk => ⟨Takes.name (by decide), inner_keep1 (by decide), Tests.none, fun _ => Ev.bin (gNear (hp.mem_iff.mp hk) (EvV.blt M.N rfl M.b_len.1 M.b_len.2) (Ev.name rfl) (Ev.name rfl) rfl (by intro _; rfl)) (Ev.nsub (φ := D.int) (Ev.name rfl) (Ev.name rfl) (nget_map (hp.mem_iff.mp hk))) (Op2.mul (mulOk_left ?_ ?_))⟩) (by rw [filter_all, List.map_map]; rfl))) .nil) (call_law_sums (n := n) (hA.less (by omega)) M (hsl _))) .nil)) rfl (by decide) (show 2 ≤ sizeLine by decide) rfl ?_)
  · unfold degN; lia
  · have := nearN_len (upOf cs) k; unfold degN; lia
  exact Run.has next (Has.of rfl)
end
end Mine
end

section
namespace Mine
open PySem PySem.Challenge PySem.Calls PyProof.Rows
structure PosOk (ord : List Nat) (anc : Nat → List Nat) (sp : Nat → Int × Int) (low high : Nat → Nat) : Prop where
  inc : (firsts ord sp).Pairwise (· < ·)
  pL : ∀ c ∈ DD, cntL (firsts ord sp) (sp c).1 = low c
  pR : ∀ c ∈ DD, cntR (firsts ord sp) (sp c).1 = low c + 1
  qL : ∀ c ∈ DD, cntL (firsts ord sp) (sp c).2 = high c
  qR : ∀ c ∈ DD, cntR (firsts ord sp) (sp c).2 = high c
  le : ∀ c ∈ DD, low c < high c ∧ high c ≤ 6
  sl : ∀ c ∈ DD, (ord.take (high c)).drop (low c) = ord.filter fun x => decide (c ∈ anc x)
noncomputable def sAt (l : List Int) (k : Nat) : Int := l.getD k 0
noncomputable def ouStat (st ld : List Int) (low high : Nat → Nat) (c : Nat) : Stat := ⟨1, sAt st (high c) - sAt st (low c), sAt ld (high c) - sAt ld (low c), (high c : Int) - low c, [(.s (nm c), 1)]⟩
noncomputable def inStat (st ld : List Int) (low high : Nat → Nat) (c : Nat) : Stat := ⟨1, sAt st 6 - (ouStat st ld low high c).nc, sAt ld 6 - (ouStat st ld low high c).tt, 6 - (high c : Int) + low c, [(.s (nm c), 1)]⟩
section
variable {G : Gl} {A : Around} {n : Nat} {mg mb : Str → Option Value} {l : List Int} {v lo hi : Int}
theorem ints_get {i : Nat} {d : D} (h : (l.map D.int)[i]? = some d) : ∃ y, l[i]? = some y ∧ d = .int y := by
  rw [List.getElem?_map] at h
  cases q : l[i]? with
  | none => rw [q] at h; cases h
  | some y => rw [q] at h; cases h; exact ⟨y, rfl, rfl⟩
theorem bl2 (M : Mod G mg mb) (hA : Room (n + 1) A) (hn : l.length ≤ 1000) (hs : l.Pairwise (· ≤ ·)) : CallD G A (.ref 71) [.list (l.map .int), .int v] (.int (cntL l v)) := by
  have h := call_bisect_left2 (ds := l.map .int) (x := .int v) (c := cntL l v) M hA (by rw [List.length_map]; exact hn) (by rw [List.length_map]; exact (cntL_le _ _).2) (fun A' i d hd hA' => by obtain ⟨y, hy, rfl⟩ := ints_get hd; rw [← cntL_at hs hy]; exact Cmp.lt)
  rw [List.length_map, clamp_c (cntL_le _ _).1 (cntL_le _ _).2] at h
  exact h
theorem br2 (M : Mod G mg mb) (hA : Room (n + 1) A) (hn : l.length ≤ 1000) (hs : l.Pairwise (· ≤ ·)) : CallD G A (.ref 53) [.list (l.map .int), .int v] (.int (cntR l v)) := by
  have h := call_bisect_right2 (ds := l.map .int) (x := .int v) (c := cntR l v) M hA (by rw [List.length_map]; exact hn) (by rw [List.length_map]; exact (cntR_le _ _).2) (fun A' i d hd hA' => by obtain ⟨y, hy, rfl⟩ := ints_get hd; rw [← cntR_at hs hy]; exact Cmp.lt)
  rw [List.length_map, clamp_c (cntR_le _ _).1 (cntR_le _ _).2] at h
  exact h
theorem bl3 (M : Mod G mg mb) (hA : Room (n + 1) A) (hn : l.length ≤ 1000) (hs : l.Pairwise (· ≤ ·)) (h0 : 0 ≤ lo) : CallD G A (.ref 71) [.list (l.map .int), .int v, .int lo] (.int (clampTo lo l.length (cntL l v))) := by
  have h := call_bisect_left3 (ds := l.map .int) (x := .int v) (c := cntL l v) M hA (by rw [List.length_map]; exact hn) h0 (by rw [List.length_map]; exact (cntL_le _ _).2) (fun A' i d hd hA' => by obtain ⟨y, hy, rfl⟩ := ints_get hd; rw [← cntL_at hs hy]; exact Cmp.lt)
  rw [List.length_map] at h
  exact h
theorem br3 (M : Mod G mg mb) (hA : Room (n + 1) A) (hn : l.length ≤ 1000) (hs : l.Pairwise (· ≤ ·)) (h0 : 0 ≤ lo) : CallD G A (.ref 53) [.list (l.map .int), .int v, .int lo] (.int (clampTo lo l.length (cntR l v))) := by
  have h := call_bisect_right3 (ds := l.map .int) (x := .int v) (c := cntR l v) M hA (by rw [List.length_map]; exact hn) h0 (by rw [List.length_map]; exact (cntR_le _ _).2) (fun A' i d hd hA' => by obtain ⟨y, hy, rfl⟩ := ints_get hd; rw [← cntR_at hs hy]; exact Cmp.lt)
  rw [List.length_map] at h
  exact h
theorem bl4 (M : Mod G mg mb) (hA : Room (n + 1) A) (hn : l.length ≤ 1000) (hs : l.Pairwise (· ≤ ·)) (h0 : 0 ≤ lo) (h1 : hi ≤ l.length) : CallD G A (.ref 71) [.list (l.map .int), .int v, .int lo, .int hi] (.int (clampTo lo hi (cntL l v))) :=
  call_bisect_left4 (ds := l.map .int) (x := .int v) (c := cntL l v) M hA (by rw [List.length_map]; exact hn) h0 (.inl rfl) (by rw [List.length_map]; exact h1) (by rw [List.length_map]; exact (cntL_le _ _).2) (fun A' i d hd hA' => by obtain ⟨y, hy, rfl⟩ := ints_get hd; rw [← cntL_at hs hy]; exact Cmp.lt)
theorem br4 (M : Mod G mg mb) (hA : Room (n + 1) A) (hn : l.length ≤ 1000) (hs : l.Pairwise (· ≤ ·)) (h0 : 0 ≤ lo) (h1 : hi ≤ l.length) : CallD G A (.ref 53) [.list (l.map .int), .int v, .int lo, .int hi] (.int (clampTo lo hi (cntR l v))) :=
  call_bisect_right4 (ds := l.map .int) (x := .int v) (c := cntR l v) M hA (by rw [List.length_map]; exact hn) h0 (.inl rfl) (by rw [List.length_map]; exact h1) (by rw [List.length_map]; exact (cntR_le _ _).2) (fun A' i d hd hA' => by obtain ⟨y, hy, rfl⟩ := ints_get hd; rw [← cntR_at hs hy]; exact Cmp.lt)
noncomputable def one1 (i : Int) : D := .list [.int i]
theorem layL (M : Mod G mg mb) (hA : Room (n + 2) A) (hn : l.length ≤ 1000) (hs : l.Pairwise (· ≤ ·)) {us : List Value} {u : Value} (hu : us.length = (l.map one1).length) :
    CallX G A (.ref 62) (.list (List.zipWith D.at us (l.map one1))) [.at u (one1 v)] (.list (insAt (cntL l v).toNat (.at u (one1 v)) (List.zipWith D.at us (l.map one1)))) := by
  rw [List.length_map] at hu
  have hl : (List.zipWith D.at us (l.map one1)).length = l.length := by rw [List.length_zipWith, List.length_map, hu, Nat.min_self]
  have h := call_insort_left2 (ds := List.zipWith D.at us (l.map one1)) (x := .at u (one1 v)) (c := cntL l v) M hA (by rw [hl]; exact hn) (by rw [hl]; exact (cntL_le _ _).2) (fun A' i d hd hA' => by
    obtain ⟨u', e, rfl, he⟩ := zipWith_at_get hd
    rw [List.getElem?_map] at he
    cases q : l[i]? with
    | none => rw [q] at he; cases he
    | some y => rw [q] at he; cases he; rw [← cntL_at hs q]; exact Cmp.at (Cmp.lt1 hA'))
  rw [hl, clamp_c (cntL_le _ _).1 (cntL_le _ _).2] at h
  exact h
theorem layR (M : Mod G mg mb) (hA : Room (n + 2) A) (hn : l.length ≤ 1000) (hs : l.Pairwise (· ≤ ·)) {us : List Value} {u : Value} (hu : us.length = (l.map one1).length) :
    CallX G A (.ref 44) (.list (List.zipWith D.at us (l.map one1))) [.at u (one1 v)] (.list (insAt (cntR l v).toNat (.at u (one1 v)) (List.zipWith D.at us (l.map one1)))) := by
  rw [List.length_map] at hu
  have hl : (List.zipWith D.at us (l.map one1)).length = l.length := by rw [List.length_zipWith, List.length_map, hu, Nat.min_self]
  have h := call_insort_right2 (ds := List.zipWith D.at us (l.map one1)) (x := .at u (one1 v)) (c := cntR l v) M hA (by rw [hl]; exact hn) (by rw [hl]; exact (cntR_le _ _).2) (fun A' i d hd hA' => by
    obtain ⟨u', e, rfl, he⟩ := zipWith_at_get hd
    rw [List.getElem?_map] at he
    cases q : l[i]? with
    | none => rw [q] at he; cases he
    | some y => rw [q] at he; cases he; rw [← cntR_at hs q]; exact Cmp.at (Cmp.lt1 hA'))
  rw [hl, clamp_c (cntR_le _ _).1 (cntR_le _ _).2] at h
  exact h
theorem lsums_len (is : List Int) : (lsums is).length = is.length + 1 := by unfold lsums; rw [List.length_map, ri_len]; lia
theorem sAt_get {k : Nat} (h : k < l.length) : (l.map D.int)[((k : Nat) : Int).toNat]? = some (.int (sAt l k)) := by
  rw [Int.toNat_natCast, List.getElem?_map, List.getElem?_eq_getElem h]
  unfold sAt
  rw [List.getD_eq_getElem?_getD, List.getElem?_eq_getElem h]; rfl
end
end Mine
end

section
namespace Mine
open PySem PySem.Challenge PySem.Calls PyProof.Rows
noncomputable abbrev envD (cs : List Int) (ord : List Nat) (anc : Nat → List Nat) (sp : Nat → Int × Int) (O I : List (Nat × Stat)) : LEnv := ("outwards", .own (ndict Stat.d O)) :: ("inwards", .own (ndict Stat.d I)) :: envC cs ord anc sp
noncomputable abbrev forBody : List Stmt → List Stmt
  | .For _ _ b _ _ :: _ => b
  | _ => []
noncomputable def spanL (p : Int × Int) : D := .list [.int p.1, .int p.2]
theorem place_eq (low : Nat) : ((low : Int) + (low : Int) % 2) = ((low + low % 2 : Nat) : Int) := by lia
section
variable {G : Gl} {A : Around} {n : Nat} {mg mb : Str → Option Value} {cs : List Int} {Q : FD → LEnv → Prop}
theorem dict_one {sc : Scope} {mc : List Str} {act : Act sc mc} {ρ : LEnv} {kx : Expr} {c kk : Nat} {p pos : Pos} (h : Ev G A act ρ kx (nD c)) (hsh : ∀ env, (evalEachOpt [some kx] env).zip ((evalEach [.Constant (.int 1) kk p] env).map fun v => do let x ← v; standAt pos; pure x) = [(some (eval kx env), (do let x ← eval (.Constant (.int 1) kk p) env; standAt pos; pure x))]) : Ev G A act ρ (.Dict [some kx] [.Constant (.int 1) kk p] pos) (adict .int [(.s (nm c), 1)]) :=
  EvO.ev (EvO.dict1 (k := .s (nm c)) h (Ev.int 1) hsh)
set_option maxHeartbeats 4000000 in
theorem turn_D {ord : List Nat} {anc : Nat → List Nat} {sp : Nat → Int × Int} {low high : Nat → Nat} (hA : Room (n + 30) A) (M : Mod G mg mb) (hp : ord.Perm NN) (P : PosOk ord anc sp low high) (act : Act law_s (cellNames law_s.names)) {c : Nat} (hc : c ∈ DD) {done : List Nat} (hdone : c ∉ done) (hdl : done.length ≤ 5) (ou inn : Nat → Stat)
    (hou : ou c = ouStat (stepsN (upOf cs) ord) (loadsN (upOf cs) (tmOf cs) ord) low high c) (hin : inn c = inStat (stepsN (upOf cs) ord) (loadsN (upOf cs) (tmOf cs) ord) low high c) :
    Run G A act (execs (forBody (law_b.drop 18)) act.env) (("c", .val (nD c)) :: envD cs ord anc sp (done.map fun c => (c, ou c)) (done.map fun c => (c, inn c)))
      (fun fd ρ => fd = .next ∧ Has ρ (envD cs ord anc sp ((done ++ [c]).map fun c => (c, ou c)) ((done ++ [c]).map fun c => (c, inn c)))) := by
  have hcN : c ∈ NN := by unfold DD at hc; unfold NN; simp at hc ⊢; lia
  have hco : c ∈ ord := hp.mem_iff.mpr hcN
  have hl6 : ord.length = 6 := hp.length_eq
  have hrl : (firsts ord sp).length = 6 := by rw [List.length_map]; exact hl6
  have hrl' : (firsts ord sp).length ≤ 1000 := by lia
  have hsr : (firsts ord sp).Pairwise (· ≤ ·) := P.inc.imp fun h => Int.le_of_lt h
  obtain ⟨hlt, h6⟩ := P.le c hc
  have st7 : (stepsN (upOf cs) ord).length = 7 := by unfold stepsN; rw [lsums_len, List.length_map, hl6]
  have ld7 : (loadsN (upOf cs) (tmOf cs) ord).length = 7 := by unfold loadsN; rw [lsums_len, List.length_map, hl6]
  have pL := P.pL c hc
  have pR := P.pR c hc
  have qL := P.qL c hc
  have qR := P.qR c hc
  show Run G A act (execs (_ :: _) act.env) _ _
  refine Run.cons (Run.unpack hA (Ev.nsub (φ := spanD) (Ev.name rfl) (Ev.name rfl) (nget_map hco)) (xs := ["first", "last"]) (.cons (by decide) (.cons (by decide) .nil)) rfl ?_)
  refine Run.cons (Run.assignTT hA (xs := ["low", "high"]) (.cons (by decide) (.cons (by decide) .nil)) (.v (d := .int (low c)) (Ev.eq (Ev.call (EvV.glob M.N rfl M.f_bisect_left.named) M.f_bisect_left.callee (.more (Ev.name rfl) (.more (Ev.name rfl) .nil)) (bl2 (n := n) M (hA.less (by lia)) hrl' hsr)) (by rw [pL]))
    (.v (d := .int (high c)) (Ev.eq (Ev.call (EvV.glob M.N rfl M.f_bisect_right.named) M.f_bisect_right.callee (.more (Ev.name rfl) (.more (Ev.name rfl) .nil)) (br2 (n := n) M (hA.less (by omega)) hrl' hsr)) (by rw [qR])) .nil)) rfl (by decide) (show 2 ≤ sizeLine by decide) rfl ?_)
  let E0 : LEnv := ("c", .val (nD c)) :: ("first", .val (.int (sp c).1)) :: ("last", .val (.int (sp c).2)) :: ("low", .val (.int (low c))) :: ("high", .val (.int (high c))) :: envD cs ord anc sp (done.map fun c => (c, ou c)) (done.map fun c => (c, inn c))
  refine Run.has (ρ₁ := E0) ?_ (Has.of rfl)
  have e66 : ∀ x : Int, 0 ≤ x → x ≤ 6 → clampTo 6 ((firsts ord sp).length : Int) x = 6 := fun x h0 h => by rw [hrl]; unfold clampTo; lia
  refine Run.cons (Run.assignOwn (d := .list ([(high c : Int), low c + 1, 6, 6].map .int)) (EvO.list (.more (Ev.eq (Ev.call (EvV.glob M.N rfl M.f_bisect_left.named) M.f_bisect_left.callee (.more (Ev.name rfl) (.more (Ev.name rfl) .nil)) (bl2 (n := n) M (hA.less (by omega)) hrl' hsr)) (by rw [qL]))
    (.more (Ev.eq (Ev.call (EvV.glob M.N rfl M.f_bisect_right.named) M.f_bisect_right.callee (.more (Ev.name rfl) (.more (Ev.name rfl) .nil)) (br2 (n := n) M (hA.less (by omega)) hrl' hsr)) (by rw [pR]))
    (.more (Ev.eq (Ev.call (EvV.glob M.N rfl M.f_bisect_left.named) M.f_bisect_left.callee (.more (Ev.name rfl) (.more (Ev.name rfl) (.more (Ev.int 6) .nil))) (bl3 (n := n) M (hA.less (by omega)) hrl' hsr (by decide))) (by rw [e66 _ (by lia) (by lia)]))
    (.more (Ev.eq (Ev.call (EvV.glob M.N rfl M.f_bisect_right.named) M.f_bisect_right.callee (.more (Ev.name rfl) (.more (Ev.name rfl) (.more (Ev.int 6) .nil))) (br3 (n := n) M (hA.less (by omega)) hrl' hsr (by decide))) (by rw [e66 _ (by lia) (by lia)])) .nil))))) (by decide) ?_)
  have eL : ∀ x : Int, x = high c → clampTo 0 (low c) x = low c := fun x h => by unfold clampTo; lia
  refine Run.cons (Run.expr (EvX.extend rfl (EvO.list (es := _) (ds := [.int (low c), .int (low c)]) (.more (Ev.eq (Ev.call (EvV.glob M.N rfl M.f_bisect_left.named) M.f_bisect_left.callee (.more (Ev.name rfl) (.more (Ev.name rfl) (.more (Ev.int 0) (.more (Ev.name rfl) .nil)))) (bl4 (n := n) M (hA.less (by omega)) hrl' hsr (by decide) (by lia))) (by rw [eL _ qL]))
    (.more (Ev.eq (Ev.call (EvV.glob M.N rfl M.f_bisect_right.named) M.f_bisect_right.callee (.more (Ev.name rfl) (.more (Ev.name rfl) (.more (Ev.int 0) (.more (Ev.name rfl) .nil)))) (br4 (n := n) M (hA.less (by omega)) hrl' hsr (by decide) (by omega))) (by rw [eL _ qR])) .nil))) (show 6 ≤ sizeLine by decide)) ?_)
  refine Run.freeze "told" (.list ([(high c : Int), low c + 1, 6, 6, low c, low c].map .int)) rfl ?_
  refine Run.has (ρ₁ := ("told", .val (.list ([(high c : Int), low c + 1, 6, 6, low c, low c].map .int))) :: E0) ?_ (Has.of rfl)
  refine Run.cons (Run.ite (b := false) (Te.or2f ?_ ?_) (fun h => nomatch h) fun _ => Run.nil ?_)
  · refine Te.eq (Te.cmp (Ev.name rfl) (EvO.ev (EvO.list (.more (Ev.name rfl) (.more (Ev.bin (Ev.name rfl) (Ev.int 1) Op2.add) (.more (Ev.int 6) (.more (Ev.int 6) (.more (Ev.name rfl) (.more (Ev.name rfl) .nil)))))))) (Cmp.ne hA (r := true) ?_)) rfl
    exact deq_list 7 fun d hd => by obtain ⟨x, _, rfl⟩ := List.mem_map.mp hd; exact deq_int 7 x
  · refine Te.eq (Te.cmp (EvO.ev (EvO.sliced (Ev.name rfl) (Bd.at (Ev.name rfl)) (Bd.at (Ev.name rfl)) Bd.non (by rw [List.length_map, hl6]; decide) (fun e => nomatch e))) (EvO.ev (EvO.lc ord nD (fun k => ("x", .val (nD k)) :: LEnv.inner _ _) (fun x => decide (c ∈ anc x)) nD (Src.nlist hA (Ev.name rfl)) (by rw [hl6]; decide) (fun act' k hk => ⟨Takes.name (by decide), inner_keep1 (by decide), Tests.one (Te.nin hA (Ev.name rfl) (Ev.nsub (φ := nsD) (Ev.name rfl) (Ev.name rfl) (nget_map hk))), fun _ => Ev.name rfl⟩) rfl)) (Cmp.ne hA (r := true) ?_)) rfl
    rw [lslice_map, lslice_mid _ _ _ (Nat.le_of_lt hlt) (by lia), P.sl c hc]
    exact deq_list 7 fun d hd => by obtain ⟨x, _, rfl⟩ := List.mem_map.mp hd; exact deq_str 7 _
  refine Run.has (ρ₁ := E0) ?_ (Has.of rfl)
  -- the list that is laid
  refine Run.cons (Run.assignTT hA (xs := ["probe", "laid", "place"]) (.cons (by decide) (.cons (by decide) (.cons (by decide) .nil))) (.o (EvO.list (.more (Ev.name rfl) .nil)) (.o (d := .list ((firsts ord sp).map one1)) (EvO.lc (firsts ord sp) D.int (fun i => ("i", .val (.int i)) :: LEnv.inner _ _) (fun _ => true) one1 (Src.of hA (Ev.name rfl) (.list _)) (by rw [hrl]; decide) (fun act' k hk => ⟨Takes.name (by decide), inner_keep1 (by decide), Tests.none, fun _ => EvO.ev (EvO.list (.more (Ev.name rfl) .nil))⟩) (by rw [filter_all]))
    (.v (Ev.eq (Ev.bin (Ev.name rfl) (Ev.bin (Ev.name rfl) (Ev.int 2) (Op2.mod (by decide))) Op2.add) (congrArg D.int (place_eq (low c)))) .nil))) rfl (by decide) (show 3 ≤ sizeLine by decide) rfl ?_)
  let E1 : LEnv := ("probe", .own (one1 (sp c).1)) :: ("laid", .own (.list ((firsts ord sp).map one1))) :: ("place", .val (.int ((low c + low c % 2 : Nat) : Int))) :: E0
  refine Run.has (ρ₁ := E1) ?_ (Has.of rfl)
  have hlayL : low c % 2 = 0 → ∀ us v, us.length = ((firsts ord sp).map one1).length → CallX G A (.ref 62) (.list (List.zipWith D.at us ((firsts ord sp).map one1))) [.at v (one1 (sp c).1)] (.list (insAt (low c + low c % 2) (.at v (one1 (sp c).1)) (List.zipWith D.at us ((firsts ord sp).map one1)))) := fun h0 us v hu => by
    have := layL (n := n) M (hA.less (by lia)) hrl' hsr (us := us) (u := v) (v := (sp c).1) hu
    rw [pL] at this
    rw [h0]
    exact this
  have hlayR : low c % 2 ≠ 0 → ∀ us v, us.length = ((firsts ord sp).map one1).length → CallX G A (.ref 44) (.list (List.zipWith D.at us ((firsts ord sp).map one1))) [.at v (one1 (sp c).1)] (.list (insAt (low c + low c % 2) (.at v (one1 (sp c).1)) (List.zipWith D.at us ((firsts ord sp).map one1)))) := fun h0 us v hu => by
    have := layR (n := n) M (hA.less (by omega)) hrl' hsr (us := us) (u := v) (v := (sp c).1) hu
    rw [pR, show ((low c : Int) + 1).toNat = low c + low c % 2 by lia] at this
    exact this
  refine Run.lay2 (x := "laid") (y := "probe") (k := low c + low c % 2) (ds := (firsts ord sp).map one1) (d' := spanL (sp c)) (by decide) (EvXA.ite (p := decide (((low c : Nat) : Int) % 2 = 0)) (fun adr => Te.eq (Te.cmp (Ev.bin (Ev.name rfl) (Ev.int 2) (Op2.mod (by decide))) (Ev.int 0) Cmp.eqI) rfl) (fun h => ?_) fun h => ?_) (fun a => ?_) ?_
  · exact EvXA.lay (fun adr => EvV.glob M.N rfl M.f_insort_left.named) M.f_insort_left.callee (fun adr => rfl) (fun adr => rfl) (by decide) (fun adr => .nil) (hlayL (by have := of_decide_eq_true h; lia))
  · exact EvXA.lay (fun adr => EvV.glob M.N rfl M.f_insort_right.named) M.f_insort_right.callee (fun adr => rfl) (fun adr => rfl) (by decide) (fun adr => .nil) (hlayR (by have := of_decide_eq_false h; lia))
  · exact EvX.append (d := .int (sp c).2) (ds := [.int (sp c).1]) rfl (Ev.name rfl) (show 1 ≤ sizeLine by decide)
  let pl := low c + low c % 2
  have hpl : pl ≤ 6 := by show low c + low c % 2 ≤ 6; lia
  refine Run.freeze "laid" (.list (insAt pl (spanL (sp c)) ((firsts ord sp).map one1))) rfl ?_
  refine Run.has (ρ₁ := ("laid", .val (.list (insAt pl (spanL (sp c)) ((firsts ord sp).map one1)))) :: ("place", .val (.int (pl : Int))) :: E0) ?_ (Has.of rfl)
  refine Run.cons (Run.ite (b := false) ?_ (fun h => nomatch h) fun _ => Run.nil ?_)
  · have hs1 : ∀ (xs : List Int), ((xs.filter fun _ => true).map one1) = xs.map one1 := fun xs => by rw [filter_all]
    refine Te.eq (Te.cmp (Ev.name rfl) (EvO.ev (EvO.bin (EvO.ev (EvO.bin (EvO.ev (EvO.lc ((firsts ord sp).take pl) D.int (fun i => ("i", .val (.int i)) :: LEnv.inner _ _) (fun _ => true) one1 ?_ (by rw [List.length_take, hrl]; exact Nat.le_trans (Nat.min_le_right _ _) (by decide)) (fun act' k hk => ⟨Takes.name (by decide), inner_keep1 (by decide), Tests.none, fun _ => EvO.ev (EvO.list (.more (Ev.name rfl) .nil))⟩) (by rw [filter_all]))) (EvO.ev (EvO.list (ds := [spanL (sp c)]) (.more (EvO.ev (EvO.list (.more (Ev.name rfl) (.more (Ev.name rfl) .nil)))) .nil))) (Op2O.addL ?_)))
      (EvO.ev (EvO.lc ((firsts ord sp).drop pl) D.int (fun i => ("i", .val (.int i)) :: LEnv.inner _ _) (fun _ => true) one1 ?_ (by rw [List.length_drop, hrl]; exact Nat.le_trans (Nat.sub_le _ _) (by decide)) (fun act' k hk => ⟨Takes.name (by decide), inner_keep1 (by decide), Tests.none, fun _ => EvO.ev (EvO.list (.more (Ev.name rfl) .nil))⟩) (by rw [filter_all]))) (Op2O.addL ?_))) (Cmp.ne hA (r := true) ?_)) rfl
    · rw [List.map_take, ← lslice_to]
      exact Src.of hA (EvO.ev (EvO.sliced (Ev.name rfl) Bd.non (Bd.at (Ev.name rfl)) Bd.non (by rw [List.length_map, hrl]; decide) (fun e => nomatch e))) (.list _)
    · rw [List.length_map, List.length_take, List.length_singleton]; exact Nat.le_trans (show min pl _ + 1 ≤ 7 by lia) (by decide)
    · rw [List.map_drop, ← lslice_from]
      exact Src.of hA (EvO.ev (EvO.sliced (Ev.name rfl) (Bd.at (Ev.name rfl)) Bd.non Bd.non (by rw [List.length_map, hrl]; decide) (fun e => nomatch e))) (.list _)
    · rw [List.length_append, List.length_map, List.length_map, List.length_take, List.length_drop, List.length_singleton]; exact Nat.le_trans (show min pl _ + 1 + _ ≤ 13 by lia) (by decide)
    · have : ((firsts ord sp).take pl).map one1 ++ [spanL (sp c)] ++ ((firsts ord sp).drop pl).map one1 = insAt pl (spanL (sp c)) ((firsts ord sp).map one1) := by
        unfold insAt; rw [List.map_take, List.map_drop, List.append_assoc]; rfl
      rw [this]
      refine deq_list 7 fun d hd => ?_
      rcases List.mem_cons.mp ((insAt_perm ..).mem_iff.mp hd) with rfl | hd
      · exact deq_list 6 fun d hd => by simp only [List.mem_cons, List.not_mem_nil, or_false] at hd; rcases hd with rfl | rfl <;> exact deq_int 6 _
      · obtain ⟨x, _, rfl⟩ := List.mem_map.mp hd
        exact deq_list 6 fun d hd => by rw [List.mem_singleton.mp hd]; exact deq_int 6 _
  have gi : ∀ {l : List Int} {k : Nat} {e ix : Expr} {pos : Pos} {ρ : LEnv}, l.length = 7 → k ≤ 6 → Ev G A act ρ e (.list (l.map .int)) → Ev G A act ρ ix (.int (k : Int)) → Ev G A act ρ (.Subscript e ix pos) (.int (sAt l k)) := fun hl hk he hi => Ev.sub he hi (SubD.list (by lia) (by lia) (sAt_get (by lia)))
  have hnew : ∀ f : Nat → Stat, Ky.s (nm c) ∉ (done.map fun c => (c, f c)).map fun p => Ky.s (nm p.1) := fun f h => by
    rw [List.map_map] at h
    obtain ⟨j, hj, e⟩ := List.mem_map.mp h
    have := Ky.s.inj e
    exact hdone (nm_inj this ▸ hj)
  have hln : ∀ f : Nat → Stat, ((done.map fun c => (c, f c)).map fun p => Ky.s (nm p.1)).length ≤ sizeLine := fun f => by rw [List.length_map, List.length_map]; exact Nat.le_trans hdl (by decide)
  have hput : ∀ f : Nat → Stat, (D.dict (dput ((done.map fun c => (c, f c)).map fun p => Ky.s (nm p.1)) ((done.map fun c => (c, f c)).map fun p => Stat.d p.2) (.s (nm c)) (f c).d).1 (dput ((done.map fun c => (c, f c)).map fun p => Ky.s (nm p.1)) ((done.map fun c => (c, f c)).map fun p => Stat.d p.2) (.s (nm c)) (f c).d).2) = ndict Stat.d ((done ++ [c]).map fun c => (c, f c)) := fun f => by
    rw [dput_new (hnew f)]
    unfold ndict
    simp only [List.map_append, List.map_cons, List.map_nil]
  refine Run.cons (Run.setD (k := .s (nm c)) (d := (ou c).d) rfl (Ev.name rfl) ?_ (hln ou) ?_)
  · rw [hou]
    exact Ev.tuple (.more (Ev.int 1) (.more (Ev.bin (gi st7 (by lia) (Ev.name rfl) (Ev.name rfl)) (gi st7 (by lia) (Ev.name rfl) (Ev.name rfl)) Op2.sub) (.more (Ev.bin (gi ld7 (by omega) (Ev.name rfl) (Ev.name rfl)) (gi ld7 (by omega) (Ev.name rfl) (Ev.name rfl)) Op2.sub) (.more (Ev.bin (Ev.name rfl) (Ev.name rfl) Op2.sub) (.more (dict_one (Ev.name rfl) (by intro _; rfl)) .nil)))))
  rw [hput ou]
  refine Run.has (ρ₁ := ("c", .val (nD c)) :: ("low", .val (.int (low c))) :: ("high", .val (.int (high c))) :: envD cs ord anc sp ((done ++ [c]).map fun c => (c, ou c)) (done.map fun c => (c, inn c))) ?_ (Has.of rfl)
  have gou : ∀ {ix : Expr} {np p1 p2 p3 : Pos} {kk : Nat} {k : Int} {d : D} {ρ : LEnv}, ρ.lookup ("outwards" : Str) = some (.own (ndict Stat.d ((done ++ [c]).map fun c => (c, ou c)))) → Ev G A act ρ ix (nD c) → 0 ≤ k → k < 1000 → [D.int (ou c).cc, .int (ou c).nc, .int (ou c).tt, .int (ou c).ct, adict .int (ou c).by_][k.toNat]? = some d → Ev G A act ρ (.Subscript (.Subscript (.Name "outwards" np) ix p1) (.Constant (.int k) kk p2) p3) d := fun h hi h0 h1 hd =>
    Ev.sub (a := (ou c).d) (Ev.subOwn (k := .s (nm c)) h hi (by rw [dfind_nget, nget_map (by simp)]; rfl)) (Ev.int _) (SubD.tuple h0 h1 hd)
  refine Run.cons (Run.setD (k := .s (nm c)) (d := (inn c).d) rfl (Ev.name rfl) ?_ (hln inn) (Run.nil ⟨rfl, ?_⟩))
  · rw [hin]
    have e1 : (inStat (stepsN (upOf cs) ord) (loadsN (upOf cs) (tmOf cs) ord) low high c).d = .tuple [.int 1, .int (sAt (stepsN (upOf cs) ord) 6 - (ou c).nc), .int (sAt (loadsN (upOf cs) (tmOf cs) ord) 6 - (ou c).tt), .int (6 - (high c : Int) + low c), adict .int [(.s (nm c), 1)]] := by rw [hou]; rfl
    rw [e1]
    exact Ev.tuple (.more (Ev.int 1) (.more (Ev.bin (gi (k := 6) st7 (by lia) (Ev.name rfl) (Ev.int 6)) (gou (k := 1) rfl (Ev.name rfl) (by decide) (by decide) rfl) Op2.sub) (.more (Ev.bin (gi (k := 6) ld7 (by omega) (Ev.name rfl) (Ev.int 6)) (gou (k := 2) rfl (Ev.name rfl) (by decide) (by decide) rfl) Op2.sub) (.more (Ev.bin (Ev.bin (Ev.int 6) (Ev.name rfl) Op2.sub) (Ev.name rfl) Op2.add) (.more (dict_one (Ev.name rfl) (by intro _; rfl)) .nil)))))
  rw [hput inn]
  exact Has.of rfl
end
end Mine
end

section
namespace Mine
open PySem PySem.Challenge PySem.Calls PyProof.Rows
noncomputable def un (x : Str) : Nat := x.cps.toList.headD 0 - 97
theorem un_nm (k : Nat) : un (nm k) = k := by unfold un nm; show (97 + k) - 97 = k; lia
noncomputable def outN (anc : Nat → List Nat) (x y : Nat) : List Nat := (anc x).reverse.filter fun z => decide (z ∉ anc y)
noncomputable def inN (anc : Nat → List Nat) (x y : Nat) : List Nat := (anc y).filter fun z => decide (z ∉ anc x)
noncomputable def wayN (anc : Nat → List Nat) (ou inn : Nat → Stat) (x y : Nat) : Stat := (inN anc x y).foldl (fun b c => b.add (inn c)) ((outN anc x y).foldl (fun b c => b.add (ou c)) Stat.zero)
noncomputable def apartN (anc : Nat → List Nat) (x y : Nat) : List Nat := DD.filter fun c => decide (c ∈ anc x) != decide (c ∈ anc y)
noncomputable def farN (anc : Nat → List Nat) (x y : Nat) : Int := (apartN anc x y).length
noncomputable def mineN (anc : Nat → List Nat) (ou inn : Nat → Stat) (x c : Nat) : Stat := if c ∈ anc x then ou c else inn c
noncomputable def goalN (anc : Nat → List Nat) (ou inn : Nat → Stat) (x c : Nat) : Int := 10 - (mineN anc ou inn x c).nc
noncomputable def Stat.ints (s : Stat) : List Int := [s.cc, s.nc, s.tt, s.ct]
noncomputable def sumN (anc : Nat → List Nat) (ou inn : Nat → Stat) (x k : Nat) : Int := (DD.map fun c => sAt (mineN anc ou inn x c).ints k * goalN anc ou inn x c).sum
noncomputable def longsN (ou inn : Nat → Stat) : Int := (DD.map fun c => (ou c).nc * (inn c).nc).sum
noncomputable def partN (up : Nat → Nat) (anc : Nat → List Nat) (ou inn : Nat → Stat) (x y : Nat) : Stat :=
  ⟨degN up y * farN anc x y, degN up y * (wayN anc ou inn x y).nc, degN up y * (wayN anc ou inn x y).tt, degN up y * (wayN anc ou inn x y).ct, acopy ((wayN anc ou inn x y).by_.map fun p => (p.1, degN up y))⟩
noncomputable def totN (up : Nat → Nat) (anc : Nat → List Nat) (ou inn : Nat → Stat) (x : Nat) : Stat := NN.foldl (fun t y => t.add (partN up anc ou inn x y)) Stat.zero
structure Final (up : Nat → Nat) (tm : Nat → Int) (anc : Nat → List Nat) (ou inn : Nat → Stat) (L6 : Int) : Prop where
  by1 : ∀ c, (ou c).by_.length ≤ 1 ∧ (inn c).by_.length ≤ 1
  ancs : ∀ x ∈ NN, ∀ y ∈ NN, ∀ z ∈ anc x, z ∉ anc y → z ∈ DD
  ancl : ∀ x ∈ NN, (anc x).length ≤ 6
  ouB : ∀ c ∈ DD, 0 ≤ (ou c).nc ∧ (ou c).nc ≤ 100 ∧ 0 ≤ (inn c).nc ∧ (inn c).nc ≤ 100
  f1 : ∀ x ∈ NN, ∀ y ∈ NN, (wayN anc ou inn x y).cc = farN anc x y ∧ ((wayN anc ou inn x y).by_.map (·.2)).sum = farN anc x y ∧ (wayN anc ou inn x y).nc = 2 * (wayN anc ou inn x y).ct - farN anc x y
  f2 : ∀ x ∈ NN, ∀ y ∈ NN, x ≠ y → degN up x * (wayN anc ou inn x y).nc = degN up x + ((nearN up x).map fun z => (wayN anc ou inn z y).nc).sum ∧
    degN up x * (wayN anc ou inn x y).tt = degN up x * tm x + ((nearN up x).map fun z => (wayN anc ou inn z y).tt).sum
  f2' : ∀ x ∈ NN, degN up x * (wayN anc ou inn x x).nc = 0 ∧ degN up x * (wayN anc ou inn x x).tt = 0
  f3 : ∀ x ∈ NN, ∀ y ∈ NN, x < y → ((wayN anc ou inn x y).add (wayN anc ou inn y x)).cc = 2 * farN anc x y ∧ ((wayN anc ou inn x y).add (wayN anc ou inn y x)).nc = 10 * farN anc x y ∧
    ((wayN anc ou inn x y).add (wayN anc ou inn y x)).tt = L6 * farN anc x y ∧ ((wayN anc ou inn x y).add (wayN anc ou inn y x)).ct = 6 * farN anc x y ∧
    deqD (((wayN anc ou inn x y).add (wayN anc ou inn y x)).by_.map (·.1)) (((wayN anc ou inn x y).add (wayN anc ou inn y x)).by_.map fun p => .int p.2) ((apartN anc x y).map fun c => .s (nm c)) ((apartN anc x y).map fun _ => .int 2) = some true ∧
    ((wayN anc ou inn x y).add (wayN anc ou inn y x)).by_.map (·.1) = (wayN anc ou inn x y).by_.map (·.1)
  f4 : ∀ x ∈ NN, (totN up anc ou inn x).cc = sumN anc ou inn x 0 ∧ (totN up anc ou inn x).nc = longsN ou inn ∧ (totN up anc ou inn x).tt = sumN anc ou inn x 2 ∧ (totN up anc ou inn x).ct = sumN anc ou inn x 3 ∧
    deqD ((totN up anc ou inn x).by_.map (·.1)) ((totN up anc ou inn x).by_.map fun p => .int p.2) (DD.map fun c => .s (nm c)) (DD.map fun c => .int (goalN anc ou inn x c)) = some true ∧
    ((totN up anc ou inn x).by_.map (·.2)).sum = sumN anc ou inn x 0
theorem mem_DN {c : Nat} (h : c ∈ DD) : c ∈ NN := by unfold DD at h; unfold NN; simp at h ⊢; lia
theorem foldl_map_nm {f : Str → Stat} {g : Nat → Stat} (h : ∀ c, f (nm c) = g c) : ∀ (l : List Nat) (b : Stat), (l.map nm).foldl (fun b c => b.add (f c)) b = l.foldl (fun b c => b.add (g c)) b
  | [], b => rfl
  | c :: l, b => by rw [List.map_cons, List.foldl_cons, List.foldl_cons, h, foldl_map_nm h l]
section
variable {up : Nat → Nat} {anc : Nat → List Nat} {ou inn : Nat → Stat} {x y : Nat}
noncomputable def arS (anc : Nat → List Nat) (x : Str) : List Str := (anc (un x)).map nm
theorem arS_nm : arS anc (nm x) = (anc x).map nm := by unfold arS; rw [un_nm]
theorem outSteps_nm : outSteps (arS anc) (nm x) (nm y) = (outN anc x y).map nm := by
  unfold outSteps outN
  rw [arS_nm, arS_nm, ← List.map_reverse, List.filter_map]
  congr 1
  refine List.filter_congr fun z _ => ?_
  simp only [Function.comp, decide_eq_decide, nm_mem]
theorem inSteps_nm : inSteps (arS anc) (nm x) (nm y) = (inN anc x y).map nm := by
  unfold inSteps inN
  rw [arS_nm, arS_nm, List.filter_map]
  congr 1
  refine List.filter_congr fun z _ => ?_
  simp only [Function.comp, decide_eq_decide, nm_mem]
theorem wayOf_nm : wayOf (arS anc) (fun s => ou (un s)) (fun s => inn (un s)) (nm x) (nm y) = wayN anc ou inn x y := by
  unfold wayOf wayN
  rw [outSteps_nm, inSteps_nm, foldl_map_nm (f := fun s => inn (un s)) (g := inn) (fun c => by rw [un_nm]), foldl_map_nm (f := fun s => ou (un s)) (g := ou) (fun c => by rw [un_nm])]
theorem aget_aput {α : Type} {k k' : Ky} {v : α} : ∀ {l : List (Ky × α)}, aget k (aput l k' v) = if k = k' then some v else aget k l := by
  intro l
  by_cases h : k' ∈ l.map (·.1)
  · unfold aput
    rw [if_pos h]
    induction l with
    | nil => exact nomatch h
    | cons p l ih =>
      simp only [List.map_cons, aget]
      by_cases e : p.1 = k'
      · simp only [e, if_true]
        by_cases q : k = k'
        · simp [q]
        · rw [if_neg (fun h => q h.symm), if_neg q, if_neg (fun h => q h.symm)]
          clear ih h
          induction l with
          | nil => rfl
          | cons r l ih =>
            simp only [List.map_cons, aget]
            by_cases er : r.1 = k'
            · simp only [er, if_true]; rw [if_neg (fun h => q h.symm), if_neg (fun h => q h.symm), ih]
            · simp only [er, if_false]; rw [ih]
      · simp only [e, if_false]
        by_cases q : p.1 = k
        · rw [if_pos q, if_pos q, if_neg (fun h => e (by rw [q, h]))]
        · rw [if_neg q, if_neg q]
          simp only [List.map_cons, List.mem_cons] at h
          exact ih (h.resolve_left fun h => e h.symm)
  · unfold aput
    rw [if_neg h]
    induction l with
    | nil =>
      simp only [List.nil_append, aget]
      by_cases q : k = k'
      · simp [q]
      · rw [if_neg (fun h => q h.symm), if_neg q]
    | cons p l ih =>
      simp only [List.map_cons, List.mem_cons, not_or] at h
      simp only [List.cons_append, aget]
      by_cases q : p.1 = k
      · rw [if_pos q, if_pos q, if_neg (fun e => h.1 (by rw [← e, q]))]
      · rw [if_neg q, if_neg q]
        exact ih h.2
theorem aget_acopy {α : Type} {k : Ky} {v : α} : ∀ {l : List (Ky × α)}, (∀ p ∈ l, p.1 = k → p.2 = v) → (∃ p ∈ l, p.1 = k) → aget k (acopy l) = some v := by
  have go : ∀ (l q : List (Ky × α)), (∀ p ∈ l, p.1 = k → p.2 = v) → (aget k q = some v ∨ ∃ p ∈ l, p.1 = k) → aget k (l.foldl (fun q p => aput q p.1 p.2) q) = some v := by
    intro l
    induction l with
    | nil => intro q _ h; rcases h with h | ⟨p, hp, _⟩; exact h; exact nomatch hp
    | cons p l ih =>
      intro q h1 h2
      rw [List.foldl_cons]
      refine ih _ (fun r hr => h1 r (.tail _ hr)) ?_
      rw [aget_aput]
      by_cases e : k = p.1
      · rw [if_pos e]; exact .inl (by rw [h1 p (.head _) e.symm])
      · rw [if_neg e]
        rcases h2 with h | ⟨r, hr, er⟩
        · exact .inl h
        · rcases List.mem_cons.mp hr with rfl | hr
          · exact absurd er.symm e
          · exact .inr ⟨r, hr, er⟩
  intro l h1 h2
  exact go l [] h1 (.inr h2)
theorem nm2_inj {a b c d : Nat} (h : nm a ++ nm b = nm c ++ nm d) : a = c ∧ b = d := by
  have : ((nm a).cps ++ (nm b).cps) = ((nm c).cps ++ (nm d).cps) := congrArg Str.cps h
  have := congrArg Array.toList this
  simp [nm] at this
  lia
noncomputable def waysD (anc : Nat → List Nat) (ou inn : Nat → Stat) : List (Ky × Stat) := acopy (waysList (arS anc) (fun s => ou (un s)) (fun s => inn (un s)) (NN.map nm))
theorem ways_get (hx : x ∈ NN) (hy : y ∈ NN) : aget (.s (nm x ++ nm y)) (waysD anc ou inn) = some (wayN anc ou inn x y) := by
  refine aget_acopy (fun p hp e => ?_) ?_
  · unfold waysList at hp
    obtain ⟨a, ha, hp⟩ := List.mem_flatMap.mp hp
    obtain ⟨b, hb, rfl⟩ := List.mem_map.mp hp
    obtain ⟨i, _, rfl⟩ := List.mem_map.mp ha
    obtain ⟨j, _, rfl⟩ := List.mem_map.mp hb
    obtain ⟨rfl, rfl⟩ := nm2_inj (Ky.s.inj e)
    exact wayOf_nm
  · exact ⟨_, List.mem_flatMap.mpr ⟨nm x, List.mem_map.mpr ⟨x, hx, rfl⟩, List.mem_map.mpr ⟨nm y, List.mem_map.mpr ⟨y, hy, rfl⟩, rfl⟩⟩, rfl⟩
end
end Mine
end

section
namespace Mine
open PySem PySem.Challenge PySem.Calls PyProof.Rows
theorem fold_lenN {f : Nat → Stat} : ∀ (l : List Nat) (b : Stat), (∀ c ∈ l, (f c).by_.length ≤ 1) → (l.foldl (fun b c => b.add (f c)) b).by_.length ≤ b.by_.length + l.length
  | [], b, _ => by simp
  | c :: l, b, h => by
    have h1 := fold_lenN l (b.add (f c)) fun d hd => h d (.tail _ hd)
    have h2 := h c (.head _)
    have h3 := @stat_len b (f c)
    rw [List.foldl_cons, List.length_cons]
    lia
theorem way_len {up : Nat → Nat} {tm : Nat → Int} {anc : Nat → List Nat} {ou inn : Nat → Stat} {L6 : Int} (F : Final up tm anc ou inn L6) {x y : Nat} (hx : x ∈ NN) (hy : y ∈ NN) : (wayN anc ou inn x y).by_.length ≤ 12 := by
  unfold wayN
  have h1 := fold_lenN (outN anc x y) Stat.zero (f := ou) fun c _ => (F.by1 c).1
  have h2 := fold_lenN (inN anc x y) ((outN anc x y).foldl (fun b c => b.add (ou c)) Stat.zero) (f := inn) fun c _ => (F.by1 c).2
  have h3 : (outN anc x y).length ≤ 6 := Nat.le_trans (List.length_filter_le ..) (by rw [List.length_reverse]; exact F.ancl x hx)
  have h4 : (inN anc x y).length ≤ 6 := Nat.le_trans (List.length_filter_le ..) (F.ancl y hy)
  have h0 : Stat.zero.by_.length = 0 := rfl
  lia
theorem part_len {up : Nat → Nat} {tm : Nat → Int} {anc : Nat → List Nat} {ou inn : Nat → Stat} {L6 : Int} (F : Final up tm anc ou inn L6) {x y : Nat} (hx : x ∈ NN) (hy : y ∈ NN) : (partN up anc ou inn x y).by_.length ≤ 12 := by
  unfold partN
  refine Nat.le_trans (acopy_len _) ?_
  rw [List.length_map]
  exact way_len F hx hy
noncomputable abbrev envE (up : Nat → Nat) (tm : Nat → Int) (ord : List Nat) (anc : Nat → List Nat) (ou inn : Nat → Stat) : LEnv := [("names", .val (.str "abcdef")), ("times", .val (ndict .int (NN.map fun k => (k, tm k)))), ("drawn", .val (ndict nD (drawnOf up))), ("around", .val (ndict nsD (ord.map fun k => (k, anc k)))),
  ("near", .val (ndict nsD (NN.map fun k => (k, nearN up k)))), ("loads", .val (.list ((loadsN up tm ord).map .int))), ("outwards", .val (ndict Stat.d (DD.map fun c => (c, ou c)))), ("inwards", .val (ndict Stat.d (DD.map fun c => (c, inn c)))), ("ways", .val (adict Stat.d (waysD anc ou inn))), ("longs", .val (.int (longsN ou inn)))]
noncomputable abbrev envX (up : Nat → Nat) (tm : Nat → Int) (ord : List Nat) (anc : Nat → List Nat) (ou inn : Nat → Stat) (x : Nat) : LEnv := ("x", .val (nD x)) :: ("mine", .val (ndict Stat.d (DD.map fun c => (c, mineN anc ou inn x c)))) :: ("n", .val (.int (degN up x))) :: envE up tm ord anc ou inn
theorem allEq_ints4 {a b c d : Int} {ks ks' : List Ky} {ds ds' : List D} (h : deqD ks ds ks' ds' = some true) : AllEq [.int a, .int b, .int c, .int d, .dict ks ds] [.int a, .int b, .int c, .int d, .dict ks' ds'] :=
  .cons (deq_int ..) (.cons (deq_int ..) (.cons (deq_int ..) (.cons (deq_int ..) (.cons h .nil))))
theorem deq_ky (k : Ky) (n : Nat) : deq n k.d k.d = some true := by cases k; exact deq_int ..; exact deq_str ..
theorem deq_tuple (n : Nat) {l : List D} (h : ∀ d ∈ l, deq n d d = some true) : deq (n + 1) (.tuple l) (.tuple l) = some true := by
  show (if l.length = l.length then deqs (deq n) l l else none) = some true
  rw [if_pos rfl]; exact deqs_self h
noncomputable abbrev innerBody : List Stmt := forBody ((forBody (law_b.drop 21)).drop 1)
section
variable {G : Gl} {A : Around} {n : Nat} {mg mb : Str → Option Value} {Q : FD → LEnv → Prop}
theorem Ev.way {sc : Scope} {mc : List Str} {act : Act sc mc} {ρ : LEnv} {e ix iy : Expr} {pos p2 : Pos} {anc : Nat → List Nat} {ou inn : Nat → Stat} {x y : Nat} (hx : x ∈ NN) (hy : y ∈ NN) (he : Ev G A act ρ e (adict Stat.d (waysD anc ou inn))) (h1 : Ev G A act ρ ix (nD x)) (h2 : Ev G A act ρ iy (nD y)) :
    Ev G A act ρ (.Subscript e (.BinOp ix .Add iy p2) pos) (wayN anc ou inn x y).d :=
  Ev.sub he (Ev.bin h1 h2 (Op2.addS (by rw [nm_len, nm_len]; decide))) (SubD.dict (k := .s (nm x ++ nm y)) (by rw [dfind_aget, ways_get hx hy]; rfl))
theorem Ev.field {sc : Scope} {mc : List Str} {act : Act sc mc} {ρ : LEnv} {e ix : Expr} {pos : Pos} {s : Stat} {k : Int} {d : D} (he : Ev G A act ρ e s.d) (hi : Ev G A act ρ ix (.int k)) (h0 : 0 ≤ k) (h1 : k < 1000) (hd : [D.int s.cc, .int s.nc, .int s.tt, .int s.ct, adict .int s.by_][k.toNat]? = some d) : Ev G A act ρ (.Subscript e ix pos) d :=
  Ev.sub (a := s.d) he hi (SubD.tuple h0 h1 hd)
theorem Src.keys {sc : Scope} {mc : List Str} {act : Act sc mc} {ρ : LEnv} {tgt e : Expr} {l : List (Ky × Int)} (hA : Room n A) (he : Ev G A act ρ e (adict .int l)) : Src G A act ρ tgt e (l.map fun p => p.1.d) := by
  have := Src.of (tgt := tgt) hA he (.dict _ _)
  rw [List.map_map] at this
  exact this
set_option maxHeartbeats 8000000 in
theorem turn_E {up : Nat → Nat} {tm : Nat → Int} {ord : List Nat} {anc : Nat → List Nat} {ou inn : Nat → Stat} (hA : Room (n + 30) A) (M : Mod G mg mb) (hp : ord.Perm NN) (hL : (loadsN up tm ord).length = 7) (F : Final up tm anc ou inn (sAt (loadsN up tm ord) 6)) (act : Act law_s (cellNames law_s.names)) {x y : Nat} (hx : x ∈ NN) (hy : y ∈ NN) {t : Stat} (ht : t.by_.length ≤ 500) :
    Run G A act (execs innerBody act.env) (("y", .val (nD y)) :: ("total", .val t.d) :: envX up tm ord anc ou inn x)
      (fun fd ρ => fd = .next ∧ Has ρ (("total", .val (t.add (partN up anc ou inn x y)).d) :: envX up tm ord anc ou inn x)) := by
  have hns : ∀ x ∈ NN, x ∈ ord := fun x hx => hp.mem_iff.mpr hx
  have hwl := way_len F hx hy
  have hwl' := way_len F hy hx
  have gAnc : ∀ {sc : Scope} {mc : List Str} {act : Act sc mc} {ρ : LEnv} {e ix : Expr} {pos : Pos} {k : Nat}, k ∈ NN → Ev G A act ρ e (ndict nsD (ord.map fun k => (k, anc k))) → Ev G A act ρ ix (nD k) → Ev G A act ρ (.Subscript e ix pos) (nsD (anc k)) := fun hk he hi => Ev.nsub he hi (nget_map (hns _ hk))
  have gNear : ∀ {sc : Scope} {mc : List Str} {act : Act sc mc} {ρ : LEnv} {e ix : Expr} {pos : Pos} {k : Nat}, k ∈ NN → Ev G A act ρ e (ndict nsD (NN.map fun k => (k, nearN up k))) → Ev G A act ρ ix (nD k) → Ev G A act ρ (.Subscript e ix pos) (nsD (nearN up k)) := fun hk he hi => Ev.nsub he hi (nget_map hk)
  have hdeg : ∀ k, 0 ≤ degN up k ∧ degN up k ≤ 6 := fun k => by have := nearN_len up k; unfold degN; lia
  have hfar : 0 ≤ farN anc x y ∧ farN anc x y ≤ 5 := by unfold farN; have : (apartN anc x y).length ≤ DD.length := List.length_filter_le ..; have : DD.length = 5 := rfl; lia
  have mulL : ∀ {a b : Int}, 0 ≤ a → a ≤ 100 → IntMulOk a b := fun h0 h => mulOk_left (by lia) (by lia)
  have mulR : ∀ {a b : Int}, 0 ≤ b → b ≤ 100 → IntMulOk a b := fun h0 h => mulOk_right (by omega) (by omega)
  show Run G A act (execs (_ :: _) act.env) _ _
  have hap : ((DD.filter fun c => decide (c ∈ anc x) != decide (c ∈ anc y)).map nD) = (apartN anc x y).map nD := rfl
  refine Run.cons (Run.assignTT hA (xs := ["one", "m", "apart"]) (.cons (by decide) (.cons (by decide) (.cons (by decide) .nil))) (.v (Ev.way hx hy (Ev.name rfl) (Ev.name rfl) (Ev.name rfl)) (.v (d := .int (degN up y)) (Ev.eq (Ev.call (EvV.blt M.N rfl M.b_len.1 M.b_len.2) (.builtin _) (.more (gNear hy (Ev.name rfl) (Ev.name rfl)) .nil) (CallD.lenL (by rw [List.length_map]; exact Nat.le_trans (nearN_len ..) (by decide)))) (by rw [List.length_map]; rfl))
    (.o (d := nsD (apartN anc x y)) (EvO.lc DD nD (fun k => ("c", .val (nD k)) :: LEnv.inner _ _) (fun c => decide (c ∈ anc x) != decide (c ∈ anc y)) nD (Src.ndictM (f := up) (φ := nD) hA (Ev.name rfl)) (by decide) (fun act' c hc => ⟨Takes.name (by decide), inner_keep1 (by decide), Tests.one (Te.eq (Te.cmp (Ev.nin hA (Ev.name rfl) (gAnc hx (Ev.name rfl) (Ev.name rfl))) (Ev.nin hA (Ev.name rfl) (gAnc hy (Ev.name rfl) (Ev.name rfl))) (Cmp.ne hA rfl)) rfl), fun _ => Ev.name rfl⟩) rfl) .nil))) rfl (by decide) (show 3 ≤ sizeLine by decide) rfl ?_)
  refine Run.freeze "apart" (nsD (apartN anc x y)) rfl ?_
  let W := wayN anc ou inn x y
  have hWl : W.by_.length ≤ 12 := hwl
  let E0 : LEnv := ("y", .val (nD y)) :: ("one", .val W.d) :: ("m", .val (.int (degN up y))) :: ("apart", .val (nsD (apartN anc x y))) :: ("total", .val t.d) :: envX up tm ord anc ou inn x
  refine Run.has (ρ₁ := E0) ?_ (Has.of rfl)
  refine Run.cons (Run.assign (d := .int (farN anc x y)) (Ev.eq (Ev.call (EvV.blt M.N rfl M.b_len.1 M.b_len.2) (.builtin _) (.more (Ev.name rfl) .nil) (CallD.lenL (by rw [List.length_map]; exact Nat.le_trans (show _ ≤ 5 from List.length_filter_le ..) (by decide)))) (by rw [List.length_map]; rfl)) (by decide) ?_)
  refine Run.has (ρ₁ := ("far", .val (.int (farN anc x y))) :: E0) ?_ (Has.of rfl)
  obtain ⟨g1, g2, g3⟩ := F.f1 x hx y hy
  refine Run.cons (Run.ite (b := false) ?_ (fun h => nomatch h) fun _ => Run.nil ?_)
  · refine Te.eq (Te.cmp (a := .list [.int (farN anc x y), .int (farN anc x y), .int (2 * W.ct - farN anc x y)]) (EvO.ev (EvO.list (.more (Ev.eq (Ev.field (k := 0) (Ev.name rfl) (Ev.int 0) (by decide) (by decide) rfl) (by rw [g1])) (.more (Ev.eq (Ev.call (EvV.glob M.N rfl M.f_count_calls.named) M.f_count_calls.callee (.more (Ev.field (k := 4) (Ev.name rfl) (Ev.int 4) (by decide) (by decide) rfl) .nil) (call_count (n := n) (hA.less (by lia)) M)) (by rw [g2])) (.more (Ev.eq (Ev.field (k := 1) (Ev.name rfl) (Ev.int 1) (by decide) (by decide) rfl) (by rw [g3])) .nil)))))
      (EvO.ev (EvO.list (.more (Ev.name rfl) (.more (Ev.name rfl) (.more (Ev.bin (Ev.bin (Ev.int 2) (Ev.field (k := 3) (Ev.name rfl) (Ev.int 3) (by decide) (by decide) rfl) (Op2.mul (mulL (by decide) (by decide)))) (Ev.name rfl) Op2.sub) .nil))))) (Cmp.ne hA (r := true) ?_)) rfl
    exact deq_list 7 fun d hd => by simp only [List.mem_cons, List.not_mem_nil, or_false] at hd; rcases hd with rfl | rfl | rfl <;> exact deq_int 7 _
  have srcNear : ∀ {sc : Scope} {mc : List Str} {act : Act sc mc} {ρ : LEnv} {tgt e ix : Expr} {pos : Pos}, Ev G A act ρ e (ndict nsD (NN.map fun k => (k, nearN up k))) → Ev G A act ρ ix (nD x) → Src G A act ρ tgt (.Subscript e ix pos) ((nearN up x).map nD) := fun he hi => Src.nlist hA (gNear hx he hi)
  have near_mem : ∀ {z : Nat}, z ∈ nearN up x → z ∈ NN := fun hz => (List.mem_filter.mp hz).1
  have near_sz : (nearN up x).length ≤ sizeLine := Nat.le_trans (nearN_len ..) (by decide)
  refine Run.cons (Run.assign (d := .tuple [.int (degN up x + ((nearN up x).map fun z => (wayN anc ou inn z y).nc).sum), .int (degN up x * tm x + ((nearN up x).map fun z => (wayN anc ou inn z y).tt).sum)]) (Ev.tuple
    (.more (Ev.bin (Ev.name rfl) (Ev.call (EvV.blt M.N rfl M.b_sum.1 M.b_sum.2) (.builtin _) (.more (d := .list (((nearN up x).map fun z => (wayN anc ou inn z y).nc).map .int)) (EvO.ev (EvO.lc (nearN up x) nD (fun z => ("z", .val (nD z)) :: LEnv.inner _ _) (fun _ => true) (fun z => .int (wayN anc ou inn z y).nc) (srcNear (Ev.name rfl) (Ev.name rfl)) near_sz (fun act' z hz => ⟨Takes.name (by decide), inner_keep1 (by decide), Tests.none, fun _ => Ev.field (k := 1) (Ev.way (near_mem hz) hy (Ev.name rfl) (Ev.name rfl) (Ev.name rfl)) (Ev.int 1) (by decide) (by decide) rfl⟩) (by rw [filter_all, List.map_map]; rfl))) .nil) (CallD.sum hA)) Op2.add)
    (.more (Ev.bin (Ev.bin (Ev.name rfl) (Ev.nsub (φ := D.int) (Ev.name rfl) (Ev.name rfl) (nget_map hx)) (Op2.mul (mulL (hdeg x).1 (by have := (hdeg x).2; lia)))) (Ev.call (EvV.blt M.N rfl M.b_sum.1 M.b_sum.2) (.builtin _) (.more (d := .list (((nearN up x).map fun z => (wayN anc ou inn z y).tt).map .int)) (EvO.ev (EvO.lc (nearN up x) nD (fun z => ("z", .val (nD z)) :: LEnv.inner _ _) (fun _ => true) (fun z => .int (wayN anc ou inn z y).tt) (srcNear (Ev.name rfl) (Ev.name rfl)) near_sz (fun act' z hz => ⟨Takes.name (by decide), inner_keep1 (by decide), Tests.none, fun _ => Ev.field (k := 2) (Ev.way (near_mem hz) hy (Ev.name rfl) (Ev.name rfl) (Ev.name rfl)) (Ev.int 2) (by decide) (by decide) rfl⟩) (by rw [filter_all, List.map_map]; rfl))) .nil) (CallD.sum hA)) Op2.add) .nil))) (by decide) ?_)
  let W2 : D := .tuple [.int (degN up x * W.nc), .int (degN up x * W.tt)]
  refine Run.cons (Run.ite (b := false) ?_ (fun h => nomatch h) fun _ => Run.nil ?_)
  · refine Te.eq (Te.cmp (a := W2) (Ev.tuple (.more (Ev.bin (Ev.name rfl) (Ev.field (k := 1) (Ev.name rfl) (Ev.int 1) (by decide) (by decide) rfl) (Op2.mul (mulL (hdeg x).1 (by have := (hdeg x).2; omega)))) (.more (Ev.bin (Ev.name rfl) (Ev.field (k := 2) (Ev.name rfl) (Ev.int 2) (by decide) (by decide) rfl) (Op2.mul (mulL (hdeg x).1 (by have := (hdeg x).2; omega)))) .nil)))
      (Ev.ite (p := !decide (x = y)) (d := W2) (Te.eq (Te.cmp (Ev.name rfl) (Ev.name rfl) (Cmp.ne hA (r := decide (x = y)) (by show some (nm x == nm y) = _; rw [nm_ne]; rfl))) rfl) (fun h => ?_) fun h => ?_) (Cmp.ne hA (r := true) (deq_tuple 7 fun d hd => by simp only [List.mem_cons, List.not_mem_nil, or_false] at hd; rcases hd with rfl | rfl <;> exact deq_int 7 _))) rfl
    · obtain ⟨q1, q2⟩ := F.f2 x hx y hy (by simpa using h)
      refine Ev.eq (Ev.name rfl) ?_
      show D.tuple _ = D.tuple _
      rw [← q1, ← q2]
    · have hxy : x = y := by simpa using h
      obtain ⟨q1, q2⟩ := F.f2' x hx
      refine Ev.eq (Ev.tuple (.more (Ev.int 0) (.more (Ev.int 0) .nil))) ?_
      show D.tuple _ = D.tuple _
      show D.tuple [.int 0, .int 0] = D.tuple [.int (degN up x * (wayN anc ou inn x y).nc), .int (degN up x * (wayN anc ou inn x y).tt)]
      rw [← hxy, q1, q2]
  let E1 : LEnv := ("y", .val (nD y)) :: ("one", .val W.d) :: ("m", .val (.int (degN up y))) :: ("far", .val (.int (farN anc x y))) :: ("apart", .val (nsD (apartN anc x y))) :: ("total", .val t.d) :: envX up tm ord anc ou inn x
  refine Run.has (ρ₁ := E1) ?_ (Has.of rfl)
  refine Run.cons (Run.mono (Q := fun fd ρ => fd = .next ∧ Has ρ E1) (Run.ite (b := decide (x < y)) (Te.eq (Te.cmp (Ev.name rfl) (Ev.name rfl) Cmp.ltS) nm_lt) (fun h => ?_) fun _ => Run.nil ⟨rfl, Has.of rfl⟩) ?_)
  · obtain ⟨b1, b2, b3, b4, b5, b6⟩ := F.f3 x hx y hy (by simpa using h)
    refine Run.cons (Run.assign (d := (W.add (wayN anc ou inn y x)).d) (Ev.call (EvV.glob M.N rfl M.f_add_func_stats.named) M.f_add_func_stats.callee (.more (Ev.name rfl) (.more (Ev.way hy hx (Ev.name rfl) (Ev.name rfl) (Ev.name rfl)) .nil)) (call_add_stats (n := n) (hA.less (by lia)) M (by lia))) (by decide) ?_)
    have ebd : (W.add (wayN anc ou inn y x)).d = .tuple [.int (2 * farN anc x y), .int (10 * farN anc x y), .int (sAt (loadsN up tm ord) 6 * farN anc x y), .int (6 * farN anc x y), adict .int (W.add (wayN anc ou inn y x)).by_] := by
      show D.tuple [_, _, _, _, _] = _
      rw [b1, b2, b3, b4]
    have hapl : (apartN anc x y).Nodup := (List.filter_sublist ..).nodup DD_nodup
    have ead : dmk ((apartN anc x y).map fun a => ((Ky.s (nm a), D.int 2) : Ky × D)) = ((apartN anc x y).map (fun c => .s (nm c)), (apartN anc x y).map fun _ => .int 2) := by
      have := dmk_ndictD D.int (fun _ => (2 : Int)) hapl
      rw [filter_all, List.map_map, List.map_map] at this
      exact this
    refine Run.cons (Run.ite (b := false) (Te.or2f ?_ ?_) (fun h => nomatch h) fun _ => Run.nil (Run.nil ⟨rfl, Has.of rfl⟩))
    · refine Te.cmp (Ev.eq (Ev.name rfl) ebd) (Ev.tuple (.more (Ev.bin (Ev.int 2) (Ev.name rfl) (Op2.mul (mulL (by decide) (by decide)))) (.more (Ev.bin (Ev.int 10) (Ev.name rfl) (Op2.mul (mulL (by decide) (by decide)))) (.more (Ev.bin (Ev.sub (Ev.name rfl) (Ev.int 6) (SubD.list (by decide) (by decide) (sAt_get (k := 6) (by lia)))) (Ev.name rfl) (Op2.mul (mulR hfar.1 (by lia)))) (.more (Ev.bin (Ev.int 6) (Ev.name rfl) (Op2.mul (mulL (by decide) (by decide))))
        (.more (EvO.ev (EvO.dc (apartN anc x y) nD (fun c => ("c", .val (nD c)) :: LEnv.inner _ _) (fun _ => true) (fun c => .s (nm c)) (fun _ => .int 2) (Src.nlist hA (Ev.name rfl)) (Nat.le_trans (show _ ≤ 5 from List.length_filter_le ..) (by decide)) (fun act' c hc => ⟨Takes.name (by decide), inner_keep1 (by decide), Tests.none, fun _ => ⟨Ev.name rfl, Ev.int 2⟩⟩) rfl)) .nil)))))) (Cmp.neT hA (allEq_ints4 ?_))
      rw [filter_all, ead]
      exact b5
    · refine Te.eq (Te.cmp (EvO.ev (EvO.call (EvV.blt M.N rfl M.b_list.1 M.b_list.2) (.type _) (.more (Ev.field (k := 4) (Ev.name rfl) (Ev.int 4) (by decide) (by decide) rfl) .nil) (CallO.listD hA ?_))) (EvO.ev (EvO.call (EvV.blt M.N rfl M.b_list.1 M.b_list.2) (.type _) (.more (Ev.field (k := 4) (Ev.name rfl) (Ev.int 4) (by decide) (by decide) rfl) .nil) (CallO.listD hA ?_))) (Cmp.ne hA (r := true) ?_)) rfl
      · rw [b6, List.length_map]; exact Nat.le_trans hwl (by decide)
      · rw [List.length_map]; exact Nat.le_trans hwl (by decide)
      · rw [b6]
        exact deq_list 7 fun d hd => by obtain ⟨k, _, rfl⟩ := List.mem_map.mp hd; exact deq_ky ..
  rintro fd ρ ⟨rfl, hρ⟩
  refine Run.has ?_ hρ
  have hpl := part_len F hx hy
  refine Run.cons (Run.assign (d := (t.add (partN up anc ou inn x y)).d) (Ev.call (EvV.glob M.N rfl M.f_add_func_stats.named) M.f_add_func_stats.callee (.more (Ev.name rfl) (.more (d := (partN up anc ou inn x y).d) (Ev.tuple
    (.more (Ev.bin (Ev.name rfl) (Ev.name rfl) (Op2.mul (mulL (hdeg y).1 (by have := (hdeg y).2; lia)))) (.more (Ev.bin (Ev.name rfl) (Ev.field (k := 1) (Ev.name rfl) (Ev.int 1) (by decide) (by decide) rfl) (Op2.mul (mulL (hdeg y).1 (by have := (hdeg y).2; omega)))) (.more (Ev.bin (Ev.name rfl) (Ev.field (k := 2) (Ev.name rfl) (Ev.int 2) (by decide) (by decide) rfl) (Op2.mul (mulL (hdeg y).1 (by have := (hdeg y).2; omega)))) (.more (Ev.bin (Ev.name rfl) (Ev.field (k := 3) (Ev.name rfl) (Ev.int 3) (by decide) (by decide) rfl) (Op2.mul (mulL (hdeg y).1 (by have := (hdeg y).2; omega))))
    (.more (EvO.ev (EvO.dc W.by_ (fun p => p.1.d) (fun p => ("c", .val p.1.d) :: LEnv.inner _ _) (fun _ => true) (fun p => p.1) (fun _ => .int (degN up y)) ?_ (Nat.le_trans hwl (by decide)) (fun act' c hc => ⟨Takes.name (by decide), inner_keep1 (by decide), Tests.none, fun _ => ⟨Ev.name rfl, Ev.name rfl⟩⟩) ?_)) .nil)))))) .nil)) (call_add_stats (n := n) (hA.less (by omega)) M (by lia))) (by decide) (Run.nil ⟨rfl, Has.of rfl⟩))
  · exact Src.keys hA (Ev.field (s := W) (k := 4) (Ev.name rfl) (Ev.int 4) (by decide) (by decide) rfl)
  · rw [filter_all]
    have := dmk_acopy D.int (W.by_.map fun p => (p.1, degN up y))
    rw [List.map_map] at this
    show D.dict _ _ = D.dict (dmk _).1 (dmk _).2
    have e : (W.by_.map fun a => ((a.1, D.int (degN up y)) : Ky × D)) = W.by_.map ((fun p => (p.1, D.int p.2)) ∘ fun p => (p.1, degN up y)) := rfl
    rw [e, this]
    rfl
end
end Mine
end

section
namespace Mine
open PySem PySem.Challenge PySem.Calls PyProof.Rows
section
variable {G : Gl} {A : Around} {n : Nat} {mg mb : Str → Option Value} {Q : FD → LEnv → Prop}
theorem tot_len {up : Nat → Nat} {tm : Nat → Int} {anc : Nat → List Nat} {ou inn : Nat → Stat} {L6 : Int} (F : Final up tm anc ou inn L6) {x : Nat} (hx : x ∈ NN) : ∀ (l : List Nat) (b : Stat), (∀ y ∈ l, y ∈ NN) → (l.foldl (fun t y => t.add (partN up anc ou inn x y)) b).by_.length ≤ b.by_.length + 12 * l.length
  | [], b, _ => by simp
  | y :: l, b, h => by
    have h1 := tot_len F hx l (b.add (partN up anc ou inn x y)) fun d hd => h d (.tail _ hd)
    have h2 := part_len F hx (h y (.head _))
    have h3 := @stat_len b (partN up anc ou inn x y)
    rw [List.foldl_cons, List.length_cons]
    lia
set_option maxHeartbeats 8000000 in
theorem turn_X {up : Nat → Nat} {tm : Nat → Int} {ord : List Nat} {anc : Nat → List Nat} {ou inn : Nat → Stat} (hA : Room (n + 30) A) (M : Mod G mg mb) (hp : ord.Perm NN) (hL : (loadsN up tm ord).length = 7) (F : Final up tm anc ou inn (sAt (loadsN up tm ord) 6)) (act : Act law_s (cellNames law_s.names)) {x : Nat} (hx : x ∈ NN) :
    Run G A act (execs (forBody (law_b.drop 21)) act.env) (("x", .val (nD x)) :: envE up tm ord anc ou inn) (fun fd ρ => fd = .next ∧ Has ρ (envE up tm ord anc ou inn)) := by
  have hns : ∀ x ∈ NN, x ∈ ord := fun x hx => hp.mem_iff.mpr hx
  have gAnc : ∀ {sc : Scope} {mc : List Str} {act : Act sc mc} {ρ : LEnv} {e ix : Expr} {pos : Pos} {k : Nat}, k ∈ NN → Ev G A act ρ e (ndict nsD (ord.map fun k => (k, anc k))) → Ev G A act ρ ix (nD k) → Ev G A act ρ (.Subscript e ix pos) (nsD (anc k)) := fun hk he hi => Ev.nsub he hi (nget_map (hns _ hk))
  have gNear : ∀ {sc : Scope} {mc : List Str} {act : Act sc mc} {ρ : LEnv} {e ix : Expr} {pos : Pos} {k : Nat}, k ∈ NN → Ev G A act ρ e (ndict nsD (NN.map fun k => (k, nearN up k))) → Ev G A act ρ ix (nD k) → Ev G A act ρ (.Subscript e ix pos) (nsD (nearN up k)) := fun hk he hi => Ev.nsub he hi (nget_map hk)
  have dm : ∀ f : Nat → Stat, dmk (DD.map fun a => ((Ky.s (nm a), (f a).d) : Ky × D)) = ((DD.map fun c => (c, f c)).map (fun p => .s (nm p.1)), (DD.map fun c => (c, f c)).map fun p => Stat.d p.2) := fun f => by
    have := dmk_ndictD Stat.d f DD_nodup
    rw [filter_all] at this
    exact this
  show Run G A act (execs (_ :: _) act.env) _ _
  refine Run.cons (Run.assignTT hA (xs := ["mine", "total", "n"]) (.cons (by decide) (.cons (by decide) (.cons (by decide) .nil))) (.o (d := ndict Stat.d (DD.map fun c => (c, mineN anc ou inn x c))) (EvO.dc DD nD (fun k => ("c", .val (nD k)) :: LEnv.inner _ _) (fun _ => true) (fun c => .s (nm c)) (fun c => (mineN anc ou inn x c).d) (Src.ndictM (f := up) (φ := nD) hA (Ev.name rfl)) (by decide) (fun act' c hc => ⟨Takes.name (by decide), inner_keep1 (by decide), Tests.none, fun _ => ⟨Ev.name rfl, ?_⟩⟩) ?_)
    (.v (d := Stat.zero.d) (Ev.tuple (.more (Ev.int 0) (.more (Ev.int 0) (.more (Ev.int 0) (.more (Ev.int 0) (.more (EvO.ev EvO.dict0) .nil)))))) (.v (d := .int (degN up x)) (Ev.eq (Ev.call (EvV.blt M.N rfl M.b_len.1 M.b_len.2) (.builtin _) (.more (gNear hx (Ev.name rfl) (Ev.name rfl)) .nil) (CallD.lenL (by rw [List.length_map]; exact Nat.le_trans (nearN_len ..) (by decide)))) (by rw [List.length_map]; rfl)) .nil))) rfl (by decide) (show 3 ≤ sizeLine by decide) rfl ?_)
  · refine Ev.ite (p := decide (c ∈ anc x)) (Te.nin hA (Ev.name rfl) (gAnc hx (Ev.name rfl) (Ev.name rfl))) (fun h => ?_) fun h => ?_
    · have h := of_decide_eq_true h
      unfold mineN
      rw [if_pos h]
      exact Ev.nsub (φ := Stat.d) (Ev.name rfl) (Ev.name rfl) (nget_map (f := ou) hc)
    · have h := of_decide_eq_false h
      unfold mineN
      rw [if_neg h]
      exact Ev.nsub (φ := Stat.d) (Ev.name rfl) (Ev.name rfl) (nget_map (f := inn) hc)
  · rw [filter_all, dm]; rfl
  refine Run.freeze "mine" (ndict Stat.d (DD.map fun c => (c, mineN anc ou inn x c))) rfl (Run.has (ρ₁ := ("total", .val Stat.zero.d) :: envX up tm ord anc ou inn x) ?_ (Has.of rfl))
  refine Run.cons (Run.mono (Q := fun fd ρ => fd = .next ∧ Has ρ (("total", .val (totN up anc ou inn x).d) :: envX up tm ord anc ou inn x)) ?_ ?_)
  · refine Run.forL NN nD (fun t : Stat => ("total", .val t.d) :: envX up tm ord anc ou inn x) (fun done rest t => t = done.foldl (fun t y => t.add (partN up anc ou inn x y)) Stat.zero) Stat.zero (Src.nnames hA (Ev.name rfl)) rfl (Has.of rfl)
      (fun y t => ("y", .val (nD y)) :: ("total", .val t.d) :: envX up tm ord anc ou inn x) (fun done y rest t e hI => ⟨Takes.name (by decide), ?_⟩) (fun t ρ' hI hh => ⟨rfl, by rw [hI] at hh; exact hh⟩)
    have hy : y ∈ NN := by rw [e]; simp
    have htl : t.by_.length ≤ 500 := by
      have := tot_len F hx done Stat.zero fun z hz => by rw [e]; exact List.mem_append_left _ hz
      rw [← hI] at this
      have h2 := congrArg List.length e
      simp [NN] at h2
      have h0 : Stat.zero.by_.length = 0 := rfl
      lia
    refine (turn_E hA M hp hL F act hx hy htl).mono fun fd ρ' ⟨e1, e2⟩ => ?_
    subst e1
    exact ⟨_, by rw [List.foldl_append, ← hI]; rfl, e2⟩
  rintro fd ρ ⟨rfl, hρ⟩
  refine Run.has ?_ hρ
  have gMine : ∀ {sc : Scope} {mc : List Str} {act : Act sc mc} {ρ : LEnv} {e ix : Expr} {pos : Pos} {c : Nat}, c ∈ DD → Ev G A act ρ e (ndict Stat.d (DD.map fun c => (c, mineN anc ou inn x c))) → Ev G A act ρ ix (nD c) → Ev G A act ρ (.Subscript e ix pos) (mineN anc ou inn x c).d := fun hc he hi => Ev.nsub (φ := Stat.d) he hi (nget_map (f := mineN anc ou inn x) hc)
  refine Run.cons (Run.assignComp (CompRuns.dict DD nD (fun k => ("c", .val (nD k)) :: LEnv.inner _ _) (fun _ => true) (fun c => .s (nm c)) (fun c => .int (goalN anc ou inn x c)) (Src.ndictM (f := up) (φ := nD) hA (Ev.name rfl)) (by decide) (fun act' c hc => ⟨Takes.name (by decide), inner_keep1 (by decide), Tests.none, fun _ => ⟨Ev.name rfl, Ev.bin (Ev.int 10) (Ev.field (k := 1) (gMine hc (Ev.name rfl) (Ev.name rfl)) (Ev.int 1) (by decide) (by decide) rfl) Op2.sub⟩⟩) (by decide) (by intro _; rfl)) rfl (by intro _; rfl) (by decide) ?_ _ rfl)
  rw [dmk_ndictD D.int (goalN anc ou inn x) DD_nodup]
  refine Run.freeze "goal" (ndict D.int (DD.map fun c => (c, goalN anc ou inn x c))) rfl (Run.has (ρ₁ := ("goal", .val (ndict D.int (DD.map fun c => (c, goalN anc ou inn x c)))) :: ("total", .val (totN up anc ou inn x).d) :: envX up tm ord anc ou inn x) ?_ (Has.of rfl))
  have hgoal : ∀ c ∈ DD, -100 ≤ goalN anc ou inn x c ∧ goalN anc ou inn x c ≤ 100 := fun c hc => by
    obtain ⟨a, b, c, d⟩ := F.ouB c hc
    unfold goalN mineN
    split <;> lia
  refine Run.cons (Run.assignComp (CompRuns.list [0, 1, 2, 3] (fun (k : Nat) => .int (k : Int)) (fun k => ("k", .val (.int k)) :: LEnv.inner _ _) (fun _ => true) (fun k => .int (sumN anc ou inn x k)) ?_ (by decide) (fun act' k hk => ⟨Takes.name (by decide), inner_keep1 (by decide), Tests.none, fun _ => ?_⟩) (by decide) (by intro _; rfl)) rfl (by intro _; rfl) (by decide) ?_ _ rfl)
  · exact Src.of hA (Ev.call (EvV.blt M.N rfl M.b_range.1 M.b_range.2) (.type _) (.more (Ev.int 4) .nil) CallD.range1) (.range (by decide) (by decide) (by decide) (by decide))
  · have hk4 : k < 4 := by simp at hk; lia
    refine Ev.call (EvV.blt M.N rfl M.b_sum.1 M.b_sum.2) (.builtin _) (.more (d := .list ((DD.map fun c => sAt (mineN anc ou inn x c).ints k * goalN anc ou inn x c).map .int)) (EvO.ev (EvO.lc DD nD (fun z => ("c", .val (nD z)) :: LEnv.inner _ _) (fun _ => true) (fun c => .int (sAt (mineN anc ou inn x c).ints k * goalN anc ou inn x c)) (Src.ndictM (f := up) (φ := nD) hA (Ev.name rfl)) (by decide) (fun act'' c hc => ⟨Takes.name (by decide), inner_keep1 (by decide), Tests.none, fun _ => Ev.bin (Ev.field (gMine hc (Ev.name rfl) (Ev.name rfl)) (Ev.name rfl) (by lia) (by lia) ?_) (Ev.nsub (φ := D.int) (Ev.name rfl) (Ev.name rfl) (nget_map (f := goalN anc ou inn x) hc)) (Op2.mul (mulOk_right ?_ ?_))⟩) (by rw [filter_all, List.map_map]; rfl))) .nil) (CallD.sum hA)
    · rw [Int.toNat_natCast]
      have : k = 0 ∨ k = 1 ∨ k = 2 ∨ k = 3 := by lia
      rcases this with rfl | rfl | rfl | rfl <;> rfl
    · have := hgoal c hc; omega
    · have := hgoal c hc; lia
  rw [filter_all]
  refine Run.freeze "sums" (.list ([0, 1, 2, 3].map fun k => .int (sumN anc ou inn x k))) rfl (Run.has (ρ₁ := ("sums", .val (.list ([0, 1, 2, 3].map fun k => .int (sumN anc ou inn x k)))) :: ("goal", .val (ndict D.int (DD.map fun c => (c, goalN anc ou inn x c)))) :: ("total", .val (totN up anc ou inn x).d) :: envX up tm ord anc ou inn x) ?_ (Has.of rfl))
  (refine cps fun ZP zk => ?_; obtain ⟨q1, q2, q3, q4, q5, q6⟩ := F.f4 x hx; refine zk ?_)
  have etd : (totN up anc ou inn x).d = .tuple [.int (sumN anc ou inn x 0), .int (longsN ou inn), .int (sumN anc ou inn x 2), .int (sumN anc ou inn x 3), adict .int (totN up anc ou inn x).by_] := by
    show D.tuple [_, _, _, _, _] = _
    rw [q1, q2, q3, q4]
  have gs : ∀ {ix : Expr} {np pos : Pos} {k : Nat} {ρ : LEnv}, k < 4 → ρ.lookup ("sums" : Str) = some (.val (.list ([0, 1, 2, 3].map fun k => .int (sumN anc ou inn x k)))) → Ev G A act ρ ix (.int (k : Int)) → Ev G A act ρ (.Subscript (.Name "sums" np) ix pos) (.int (sumN anc ou inn x k)) := fun {ix np pos k ρ} hk h hi => by
    refine Ev.sub (Ev.name h) hi (SubD.list (by lia) (by lia) ?_)
    rw [Int.toNat_natCast]
    have : k = 0 ∨ k = 1 ∨ k = 2 ∨ k = 3 := by lia
    rcases this with rfl | rfl | rfl | rfl <;> rfl
  refine Run.cons (Run.ite (b := false) (Te.or2f ?_ ?_) (fun h => nomatch h) fun _ => Run.nil (Run.nil ⟨rfl, Has.of rfl⟩))
  · refine Te.cmp (Ev.eq (Ev.name rfl) etd) (Ev.tuple (.more (gs (k := 0) (by decide) rfl (Ev.int 0)) (.more (Ev.name rfl) (.more (gs (k := 2) (by decide) rfl (Ev.int 2)) (.more (gs (k := 3) (by decide) rfl (Ev.int 3)) (.more (Ev.name rfl) .nil)))))) (Cmp.neT hA (allEq_ints4 ?_))
    exact q5
  · refine Te.eq (Te.cmp (Ev.eq (Ev.call (EvV.glob M.N rfl M.f_count_calls.named) M.f_count_calls.callee (.more (Ev.field (k := 4) (Ev.name rfl) (Ev.int 4) (by decide) (by decide) rfl) .nil) (call_count (n := n) (hA.less (by lia)) M)) (by rw [q6])) (gs (k := 0) (by decide) rfl (Ev.int 0)) (Cmp.ne hA (deq_int ..))) rfl
end
end Mine
end

section
namespace Mine
open PySem PySem.Challenge PySem.Calls PyProof.Rows
section
variable {G : Gl} {A : Around} {n : Nat} {mg mb : Str → Option Value} {cs : List Int} {Q : FD → LEnv → Prop}
noncomputable abbrev ouOf (cs : List Int) (ord : List Nat) (low high : Nat → Nat) (c : Nat) : Stat := ouStat (stepsN (upOf cs) ord) (loadsN (upOf cs) (tmOf cs) ord) low high c
noncomputable abbrev innOf (cs : List Int) (ord : List Nat) (low high : Nat → Nat) (c : Nat) : Stat := inStat (stepsN (upOf cs) ord) (loadsN (upOf cs) (tmOf cs) ord) low high c
theorem outN_mem {anc : Nat → List Nat} {x y z : Nat} (h : z ∈ outN anc x y) : z ∈ anc x ∧ z ∉ anc y := by
  unfold outN at h
  obtain ⟨h1, h2⟩ := List.mem_filter.mp h
  exact ⟨List.mem_reverse.mp h1, of_decide_eq_true h2⟩
theorem inN_mem {anc : Nat → List Nat} {x y z : Nat} (h : z ∈ inN anc x y) : z ∈ anc y ∧ z ∉ anc x := by
  unfold inN at h
  obtain ⟨h1, h2⟩ := List.mem_filter.mp h
  exact ⟨h1, of_decide_eq_true h2⟩
set_option maxHeartbeats 8000000 in
theorem run_D {ord : List Nat} {anc : Nat → List Nat} {sp : Nat → Int × Int} {low high : Nat → Nat} (hA : Room (n + 30) A) (M : Mod G mg mb) (hp : ord.Perm NN) (P : PosOk ord anc sp low high)
    (F : Final (upOf cs) (tmOf cs) anc (ouOf cs ord low high) (innOf cs ord low high) (sAt (loadsN (upOf cs) (tmOf cs) ord) 6)) (act : Act law_s (cellNames law_s.names)) :
    Run G A act (execs (law_b.drop 17) act.env) (envC cs ord anc sp) fun fd _ => fd = .ret (.bool true) := by
  have hns : ∀ x ∈ NN, x ∈ ord := fun x hx => hp.mem_iff.mpr hx
  have hl6 : ord.length = 6 := hp.length_eq
  have ld7 : (loadsN (upOf cs) (tmOf cs) ord).length = 7 := by unfold loadsN; rw [lsums_len, List.length_map, hl6]
  show Run G A act (execs (_ :: _) act.env) _ _
  refine Run.cons (Run.assignTT hA (xs := ["outwards", "inwards"]) (.cons (by decide) (.cons (by decide) .nil)) (.o EvO.dict0 (.o EvO.dict0 .nil)) rfl (by decide) (show 2 ≤ sizeLine by decide) rfl ?_)
  refine Run.has (ρ₁ := envD cs ord anc sp [] []) ?_ (Has.of rfl)
  refine Run.cons (Run.mono (Q := fun fd ρ => fd = .next ∧ Has ρ (envD cs ord anc sp (DD.map fun c => (c, ouOf cs ord low high c)) (DD.map fun c => (c, innOf cs ord low high c)))) ?_ ?_)
  · refine Run.forL DD nD (fun done : List Nat => envD cs ord anc sp (done.map fun c => (c, ouOf cs ord low high c)) (done.map fun c => (c, innOf cs ord low high c))) (fun done rest d => d = done) [] (Src.ndictM (f := upOf cs) (φ := nD) hA (Ev.name rfl)) rfl (Has.of rfl)
      (fun c done => ("c", .val (nD c)) :: envD cs ord anc sp (done.map fun c => (c, ouOf cs ord low high c)) (done.map fun c => (c, innOf cs ord low high c))) (fun done c rest d e hI => ⟨Takes.name (by decide), ?_⟩) (fun d ρ' hI hh => ⟨rfl, hI ▸ hh⟩)
    subst hI
    have hc : c ∈ DD := by rw [e]; simp
    have hnd : (d ++ c :: rest).Nodup := e ▸ DD_nodup
    have hcd : c ∉ d := fun h => (List.nodup_append.mp hnd).2.2 c h c (.head _) rfl
    have hdl : d.length ≤ 5 := by have := congrArg List.length e; simp [DD] at this; lia
    refine (turn_D hA M hp P act hc hcd hdl (ouOf cs ord low high) (innOf cs ord low high) rfl rfl).mono fun fd ρ' ⟨e1, e2⟩ => ?_
    subst e1
    exact ⟨_, rfl, e2⟩
  rintro fd ρ ⟨rfl, hρ⟩
  refine Run.has ?_ hρ
  refine Run.freeze "outwards" _ rfl (Run.freeze "inwards" _ rfl ?_)
  generalize hou : ouOf cs ord low high = ou at F
  generalize hin : innOf cs ord low high = inn at F
  have hDN : ∀ {x : Str}, x ∈ NN.map nm → ∃ k, k ∈ NN ∧ nm k = x := fun h => List.mem_map.mp h
  refine Run.cons (Run.assign (d := adict Stat.d (waysD anc ou inn)) ?_ (by decide) ?_)
  · skip
    refine Ev.call (EvV.glob M.N rfl M.f_law_ways.named) M.f_law_ways.callee (.more (Ev.name rfl) (.more (Ev.name rfl) (.more (Ev.name rfl) (.more (Ev.name rfl) .nil)))) (call_law_ways (n := n) (hA.less (by lia)) M (xs := NN.map nm) (ar := arS anc) (ou := fun s => ou (un s)) (inn := fun s => inn (un s)) ?_ (by decide) (fun x hx => ?_) (fun x hx => ?_) (fun x hx => ?_) (fun x hx y hy c hc => ?_) fun x hx y hy c hc => ?_)
    · rw [chars_names, List.map_map]; rfl
    · obtain ⟨k, _, rfl⟩ := hDN hx; rfl
    · obtain ⟨k, hk, rfl⟩ := hDN hx
      rw [dfind_nget, nget_map (hns k hk), arS_nm, ← nsD_eq]; rfl
    · obtain ⟨k, hk, rfl⟩ := hDN hx
      rw [arS_nm, List.length_map]
      exact Nat.le_trans (F.ancl k hk) (by decide)
    · obtain ⟨j, hj, rfl⟩ := hDN hx
      obtain ⟨k, hk, rfl⟩ := hDN hy
      rw [outSteps_nm] at hc
      obtain ⟨c, hc', rfl⟩ := List.mem_map.mp hc
      have hc := outN_mem hc'
      rw [dfind_nget, nget_map (F.ancs j hj k hk c hc.1 hc.2)]
      exact ⟨by simp only [un_nm]; rfl, (F.by1 _).1⟩
    · obtain ⟨j, hj, rfl⟩ := hDN hx
      obtain ⟨k, hk, rfl⟩ := hDN hy
      rw [inSteps_nm] at hc
      obtain ⟨c, hc', rfl⟩ := List.mem_map.mp hc
      have hc := inN_mem hc'
      rw [dfind_nget, nget_map (F.ancs k hk j hj c hc.1 hc.2)]
      exact ⟨by simp only [un_nm]; rfl, (F.by1 _).2⟩
  have gou : ∀ {sc : Scope} {mc : List Str} {act : Act sc mc} {ρ : LEnv} {e ix : Expr} {pos p2 p3 : Pos} {c kk : Nat} {f : Nat → Stat}, c ∈ DD → Ev G A act ρ e (ndict Stat.d (DD.map fun c => (c, f c))) → Ev G A act ρ ix (nD c) → Ev G A act ρ (.Subscript (.Subscript e ix pos) (.Constant (.int 1) kk p2) p3) (.int (f c).nc) := fun {sc mc act ρ e ix pos p2 p3 c kk f} hc he hi =>
    Ev.field (s := f c) (k := 1) (Ev.nsub (φ := Stat.d) he hi (nget_map hc)) (Ev.int 1) (by decide) (by decide) rfl
  refine Run.cons (Run.assign (d := .int (longsN ou inn)) (Ev.call (EvV.blt M.N rfl M.b_sum.1 M.b_sum.2) (.builtin _) (.more (d := .list ((DD.map fun c => (ou c).nc * (inn c).nc).map .int)) (EvO.ev (EvO.lc DD nD (fun z => ("c", .val (nD z)) :: LEnv.inner _ _) (fun _ => true) (fun c => .int ((ou c).nc * (inn c).nc)) (Src.ndictM (f := upOf cs) (φ := nD) hA (Ev.name rfl)) (by decide) (fun act' c hc => ⟨Takes.name (by decide), inner_keep1 (by decide), Tests.none, fun _ => Ev.bin (gou hc (Ev.name rfl) (Ev.name rfl)) (gou hc (Ev.name rfl) (Ev.name rfl)) (Op2.mul (mulOk_left (by have := F.ouB c hc; omega) (by have := F.ouB c hc; omega)))⟩) (by rw [filter_all, List.map_map]; rfl))) .nil) (CallD.sum hA)) (by decide) ?_)
  refine Run.has (ρ₁ := envE (upOf cs) (tmOf cs) ord anc ou inn) ?_ (Has.of rfl)
  refine Run.cons (Run.mono (Q := fun fd ρ => fd = .next) ?_ ?_)
  · refine Run.forL NN nD (fun _ : Unit => envE (upOf cs) (tmOf cs) ord anc ou inn) (fun _ _ _ => True) () (Src.nnames hA (Ev.name rfl)) trivial (Has.of rfl)
      (fun x _ => ("x", .val (nD x)) :: envE (upOf cs) (tmOf cs) ord anc ou inn) (fun done x rest t e hI => ⟨Takes.name (by decide), ?_⟩) (fun t ρ' hI hh => rfl)
    have hx : x ∈ NN := by rw [e]; simp
    refine (turn_X hA M hp ld7 F act hx).mono fun fd ρ' ⟨e1, e2⟩ => ?_
    subst e1
    exact ⟨(), trivial, e2⟩
  rintro fd ρ rfl
  exact Run.cons (Run.ret (Ev.bool _) rfl)
end
end Mine
end

section
namespace Mine
open PySem
set_option tactic.hygienic true in
theorem slice_cps (x : Str) {a b : Nat} (hab : a ≤ b) (hb : b ≤ x.length) : (Txt.slice x (some (a : Int)) (some (b : Int))).cps.toList = (x.cps.toList.take b).drop a := by
  have h := StrLaws.sliced_plain x hab hb
  unfold Txt.slice
  split
  · rename_i q
    have q : (Builtin.Str.strSliceIndices (some (a : Int)) (some (b : Int)) 1 x.length).length = x.length := by simpa using q
    rw [StrLaws.strSliceIndices_plain hab hb, List.length_map, List.length_range] at q
    obtain rfl : a = 0 := by lia
    obtain rfl : b = x.length := by lia
    rw [List.drop_zero]
    exact (List.take_of_length_le (Nat.le_refl _)).symm
  · show (List.filterMap _ _).toArray.toList = _
    rw [List.toList_toArray, h, List.drop_take]
theorem slice_cps' (x : Str) {a : Nat} (ha : a ≤ x.length) : (Txt.slice x (some (a : Int)) none).cps.toList = x.cps.toList.drop a := by
  have e : Builtin.Str.strSliceIndices (some (a : Int)) none 1 x.length = Builtin.Str.strSliceIndices (some (a : Int)) (some (x.length : Int)) 1 x.length := by
    show sliceRange _ (x.length : Int) _ = sliceRange _ (max 0 (min (if (x.length : Int) < 0 then (x.length : Int) + x.length else x.length) (x.length : Int))) _
    congr 1
    split <;> lia
  have h : Txt.slice x (some (a : Int)) none = Txt.slice x (some (a : Int)) (some (x.length : Int)) := by
    unfold Txt.slice; rw [e]
  rw [h, slice_cps x ha (Nat.le_refl _)]
  congr 1
  exact List.take_of_length_le (Nat.le_refl _)
theorem contains_one {x : Str} {c : Nat} (h : Txt.contains x ⟨#[c]⟩ = false) : c ∉ x.cps.toList := by
  intro hc
  obtain ⟨i, hi⟩ := List.mem_iff_getElem?.mp hc
  have hat := (StrLaws.subAt_one x c i).mpr hi
  unfold Txt.contains at h
  rcases PyProof.Rows.find_whole x ⟨#[c]⟩ with ⟨h1, h2⟩ | ⟨j, h1, h2, h3⟩
  · exact h2 i hat
  · unfold Txt.find at h1
    cases q : Builtin.Str.occurrences x ⟨#[c]⟩ 0 x.length 1 with
    | nil => rw [q] at h1; simp at h1
    | cons a r => rw [q] at h; simp at h
noncomputable def unitsC : List Nat → Bool → List (List Nat)
  | [], e => if e then [[92]] else []
  | c :: cs, e => if e then [92, c] :: unitsC cs false else if c = 92 then unitsC cs true else [c] :: unitsC cs false
theorem escGo_units : ∀ (l : List Nat) (i p : Int) (e : Bool), (escGo l i p e).map (fun q => q.2.cps.toList) = unitsC l e
  | [], i, p, e => by unfold escGo unitsC; cases e <;> rfl
  | c :: cs, i, p, e => by
    unfold escGo unitsC
    split
    · rw [List.map_cons, escGo_units]
    · split
      · rw [escGo_units]
      · rw [List.map_cons, escGo_units]
theorem escGo_any (l : List Nat) (i p q : Int) : escGo l i p false = escGo l i q false := by cases l <;> rfl
structure Plain (c : List Nat) : Prop where
  no : 34 ∉ c
  un : ∀ rest, unitsC (c ++ rest) false = unitsC c false ++ unitsC rest false
  st : ∀ x rest b, ∀ i : Int, (escGo (c ++ rest) i 0 false).foldl (stripStep x) b = (escGo rest (i + c.length) 0 false).foldl (stripStep x) b
structure Quoted (c : List Nat) : Prop where
  st : ∀ x rest s (r : List Str), ∀ i : Int, (escGo (c ++ rest) i 0 false).foldl (stripStep x) (s, none, r) = (escGo rest (i + c.length) 0 false).foldl (stripStep x) (i + c.length, none, if s != i then r ++ [Txt.slice x (some s) (some i)] else r)
noncomputable def stripFin (x : Str) (b : SSt) : Str := Txt.join "" (if b.1 < x.length then b.2.2 ++ [Txt.slice x (some b.1) none] else b.2.2)
theorem strip_go (x : Str) (keep : List Nat → List Nat) : ∀ (cs : List (List Nat)) (pre : List Nat) (a : Nat) (r : List Str) (kept : List Nat),
    (∀ c ∈ cs, (Plain c ∧ keep c = c) ∨ (Quoted c ∧ keep c = [])) → x.cps.toList = pre ++ cs.flatten → a ≤ pre.length → (r.map (·.cps.toList)).flatten ++ pre.drop a = kept →
    (stripFin x ((escGo cs.flatten pre.length 0 false).foldl (stripStep x) ((a : Int), none, r))).cps.toList = kept ++ (cs.map keep).flatten
  | [], pre, a, r, kept, _, hx, ha, hk => by
    have hl : x.length = pre.length := by
      rw [List.flatten_nil, List.append_nil] at hx
      show x.cps.size = _
      rw [← Array.length_toList, hx]
    show (Txt.join "" (if (a : Int) < x.length then r ++ [Txt.slice x (some (a : Int)) none] else r)).cps.toList = _
    rw [List.map_nil, List.flatten_nil, List.append_nil, ← hk, join_cps]
    have hx' : x.cps.toList = pre := by rw [hx]; simp
    split
    · rw [List.map_append, List.flatten_append, List.map_cons, List.map_nil, List.flatten_cons, List.flatten_nil, List.append_nil, slice_cps' x (by lia), hx']
    · rw [List.drop_eq_nil_iff.mpr (by lia), List.append_nil]
  | c :: cs, pre, a, r, kept, h, hx, ha, hk => by
    have hx2 : x.cps.toList = (pre ++ c) ++ cs.flatten := by rw [hx, List.flatten_cons, List.append_assoc]
    have hp : ((pre.length : Int) + c.length) = ((pre ++ c).length : Nat) := by rw [List.length_append]; lia
    rw [List.map_cons, List.flatten_cons (l := keep c), ← List.append_assoc kept]
    rcases h c (.head _) with ⟨P, e⟩ | ⟨P, e⟩
    · show (stripFin x ((escGo (c ++ cs.flatten) pre.length 0 false).foldl (stripStep x) ((a : Int), none, r))).cps.toList = _
      rw [P.st, hp, e]
      refine strip_go x keep cs (pre ++ c) a r _ (fun d hd => h d (.tail _ hd)) hx2 (by rw [List.length_append]; lia) ?_
      rw [List.drop_append_of_le_length ha, ← List.append_assoc, hk]
    · show (stripFin x ((escGo (c ++ cs.flatten) pre.length 0 false).foldl (stripStep x) ((a : Int), none, r))).cps.toList = _
      rw [P.st, hp, e]
      refine strip_go x keep cs (pre ++ c) (pre ++ c).length _ _ (fun d hd => h d (.tail _ hd)) hx2 (Nat.le_refl _) ?_
      rw [List.drop_length, List.append_nil, List.append_nil, ← hk]
      by_cases q : a = pre.length
      · subst q
        rw [if_neg (by simp), List.drop_length, List.append_nil]
      · rw [if_pos (by simpa using fun e => q (by lia)), List.map_append, List.flatten_append, List.map_cons, List.map_nil, List.flatten_cons, List.flatten_nil, List.append_nil, slice_cps x ha (by
          show _ ≤ x.cps.size
          rw [← Array.length_toList, hx, List.length_append]; lia), hx, List.take_left']
        rfl
theorem str_cps {x y : Str} (h : x.cps.toList = y.cps.toList) : x = y := by
  cases x; cases y
  simp only [Str.mk.injEq]
  exact Array.toList_inj.mp h
set_option tactic.hygienic true in
theorem strip_cps {x : Str} {cs : List (List Nat)} (keep : List Nat → List Nat) (hx : x.cps.toList = cs.flatten) (h : ∀ c ∈ cs, (Plain c ∧ keep c = c) ∨ (Quoted c ∧ 34 ∈ c ∧ keep c = [])) : (strip x).cps.toList = (cs.map keep).flatten := by
  unfold strip
  split
  · unfold stripEnd escaped
    rw [hx]
    have := strip_go x keep cs [] 0 [] [] (fun c hc => (h c hc).imp_right fun q => ⟨q.1, q.2.2⟩) (by rw [hx]; rfl) (Nat.le_refl _) rfl
    exact this
  · rename_i q
    have hn := contains_one (c := 34) (x := x) (eq_false_of_ne_true q)
    rw [hx] at hn ⊢
    congr 1
    refine (List.map_id _).symm.trans (List.map_congr_left fun c hc => ?_)
    rcases h c hc with ⟨_, e⟩ | ⟨_, e, _⟩
    · exact e.symm
    · exact absurd (List.mem_flatten.mpr ⟨c, hc, e⟩) hn
theorem units_plain : ∀ (cs : List (List Nat)), (∀ c ∈ cs, Plain c) → unitsC cs.flatten false = cs.flatMap fun c => unitsC c false
  | [], _ => rfl
  | c :: cs, h => by rw [List.flatten_cons, (h c (.head _)).un, units_plain cs fun d hd => h d (.tail _ hd)]; rfl
end Mine
end

section
namespace Mine
open PySem
theorem str_one_ne {a b : Nat} (h : a ≠ b) : ((⟨#[a]⟩ : Str) == ⟨#[b]⟩) = false := by
  refine beq_eq_false_iff_ne.mpr fun e => h ?_
  simpa using congrArg (fun s : Str => s.cps.toList) e
theorem str_two_ne {a b c : Nat} : ((⟨#[a, b]⟩ : Str) == ⟨#[c]⟩) = false := by
  refine beq_eq_false_iff_ne.mpr fun e => ?_
  have := congrArg (fun s : Str => s.cps.toList) e
  simp at this
theorem plain0 : Plain [] := ⟨by simp, fun _ => rfl, fun x rest b i => by simp⟩
theorem plain1 {c : Nat} (h : c ≠ 34) (h' : c ≠ 92) : Plain [c] where
  no := by simpa using fun e => h e.symm
  un rest := by simp [unitsC, h']
  st x rest b i := by
    have : escGo ([c] ++ rest) i 0 false = (i, ⟨#[c]⟩) :: escGo rest (i + 1) i false := by rw [List.singleton_append, escGo]; simp [h']
    rw [this, List.foldl_cons, escGo_any rest _ i 0]
    have e : stripStep x b (i, ⟨#[c]⟩) = b := by
      unfold stripStep
      rw [if_neg]
      intro q
      exact absurd q (by rw [show ((⟨#[c]⟩ : Str) == "\"") = false from str_one_ne (b := 34) h]; decide)
    rw [e]; rfl
theorem plain2 {c : Nat} (h : c ≠ 34) : Plain [92, c] where
  no := by simpa using fun e => h e.symm
  un rest := by simp [unitsC]
  st x rest b i := by
    have : escGo ([92, c] ++ rest) i 0 false = (i + 1, ⟨#[92, c]⟩) :: escGo rest (i + 1 + 1) (i + 1) false := rfl
    rw [this, List.foldl_cons, escGo_any rest _ _ 0]
    have e : stripStep x b (i + 1, ⟨#[92, c]⟩) = b := by
      unfold stripStep
      rw [if_neg]
      intro q
      exact absurd q (by rw [show ((⟨#[92, c]⟩ : Str) == "\"") = false from str_two_ne (c := 34)]; decide)
    rw [e, show i + 1 + 1 = i + (([92, c] : List Nat).length : Nat) by simp; lia]
theorem step_no {x u : Str} {b : SSt} {i : Int} (h : (u == "\"") = false) : stripStep x b (i, u) = b := by
  unfold stripStep
  rw [if_neg]
  intro q
  exact absurd q (by rw [h]; decide)
theorem quoted1 : Quoted [34, 41, 34] where
  st x rest s r i := by
    have : escGo ([34, 41, 34] ++ rest) i 0 false = (i, ⟨#[34]⟩) :: (i + 1, ⟨#[41]⟩) :: (i + 1 + 1, ⟨#[34]⟩) :: escGo rest (i + 1 + 1 + 1) (i + 1 + 1) false := rfl
    rw [this, List.foldl_cons, List.foldl_cons, List.foldl_cons, escGo_any rest _ _ 0, step_no (u := ⟨#[41]⟩) (str_one_ne (b := 34) (by decide))]
    have e : (i + 1 + 1 + 1 : Int) = i + (([34, 41, 34] : List Nat).length : Nat) := by simp; lia
    rw [← e]
    rfl
theorem quoted2 : Quoted [34, 40, 92, 34, 40, 34] where
  st x rest s r i := by
    have : escGo ([34, 40, 92, 34, 40, 34] ++ rest) i 0 false = (i, ⟨#[34]⟩) :: (i + 1, ⟨#[40]⟩) :: (i + 1 + 1 + 1, ⟨#[92, 34]⟩) :: (i + 1 + 1 + 1 + 1, ⟨#[40]⟩) :: (i + 1 + 1 + 1 + 1 + 1, ⟨#[34]⟩) :: escGo rest (i + 1 + 1 + 1 + 1 + 1 + 1) (i + 1 + 1 + 1 + 1 + 1) false := rfl
    rw [this, List.foldl_cons, List.foldl_cons, List.foldl_cons, List.foldl_cons, List.foldl_cons, escGo_any rest _ _ 0, step_no (u := ⟨#[40]⟩) (str_one_ne (b := 34) (by decide)), step_no (u := ⟨#[40]⟩) (str_one_ne (b := 34) (by decide)), step_no (u := ⟨#[92, 34]⟩) (str_two_ne (c := 34))]
    have e : (i + 1 + 1 + 1 + 1 + 1 + 1 : Int) = i + (([34, 40, 92, 34, 40, 34] : List Nat).length : Nat) := by simp; lia
    rw [← e]
    rfl
noncomputable def keepC (c : List Nat) : List Nat := if 34 ∈ c then [] else c
theorem keepC_plain {c : List Nat} (h : Plain c) : keepC c = c := if_neg h.no
noncomputable def Chunk (c : List Nat) : Prop := (Plain c ∧ keepC c = c) ∨ (Quoted c ∧ 34 ∈ c ∧ keepC c = [])
theorem chunk_plain {c : List Nat} (h : Plain c) : Chunk c := .inl ⟨h, keepC_plain h⟩
theorem keep_chunk {c : List Nat} (h : Chunk c) : Plain (keepC c) := by
  rcases h with ⟨h, e⟩ | ⟨_, _, e⟩
  · rw [e]; exact h
  · rw [e]; exact plain0
structure Piece (p : Str) : Prop where
  chunk : Chunk p.cps.toList
  units : unitsC (keepC p.cps.toList) false = [] ∨ ∃ c, c ≠ 34 ∧ keepC p.cps.toList = [92, c]
  len : p.length ≤ 6
theorem marks_piece : ∀ p ∈ marksL, Piece p := by
  intro p hp
  unfold marksL at hp
  simp only [List.mem_cons, List.not_mem_nil, or_false] at hp
  rcases hp with rfl | rfl | rfl | rfl | rfl | rfl
  · exact ⟨chunk_plain plain0, .inl rfl, by decide⟩
  · exact ⟨chunk_plain (plain2 (c := 40) (by decide)), .inr ⟨40, by decide, rfl⟩, by decide⟩
  · exact ⟨chunk_plain (plain2 (c := 41) (by decide)), .inr ⟨41, by decide, rfl⟩, by decide⟩
  · exact ⟨.inr ⟨quoted1, by decide, rfl⟩, .inl rfl, by decide⟩
  · exact ⟨.inr ⟨quoted2, by decide, rfl⟩, .inl rfl, by decide⟩
  · exact ⟨chunk_plain (plain2 (c := 92) (by decide)), .inr ⟨92, by decide, rfl⟩, by decide⟩
theorem strip_chunks {x : Str} {cs : List (List Nat)} (hx : x.cps.toList = cs.flatten) (h : ∀ c ∈ cs, Chunk c) : (escaped (strip x)).map (fun q => q.2.cps.toList) = cs.flatMap fun c => unitsC (keepC c) false := by
  unfold escaped
  rw [escGo_units, strip_cps keepC hx h, units_plain _ fun c hc => ?_, List.flatMap_map]
  obtain ⟨d, hd, rfl⟩ := List.mem_map.mp hc
  exact keep_chunk (h d hd)
noncomputable def checkU : List (List Nat) → Int → Bool
  | [], o => o == 0
  | u :: r, o => if u = [40] then checkU r (o + 1) else if u = [41] then (if o - 1 < 0 then false else checkU r (o - 1)) else checkU r o
theorem str_beq {x : Str} {c : Nat} : (x == (⟨#[c]⟩ : Str)) = decide (x.cps.toList = [c]) := by
  by_cases h : x = ⟨#[c]⟩
  · subst h; simp
  · rw [beq_eq_false_iff_ne.mpr h, decide_eq_false fun e => h (str_cps e)]
theorem checkGo_units : ∀ (l : List (Int × Str)) (o : Int), checkGo l o = checkU (l.map fun q => q.2.cps.toList) o
  | [], o => rfl
  | p :: l, o => by
    unfold checkGo
    rw [List.map_cons, checkU]
    have h1 : (p.2 == "(") = decide (p.2.cps.toList = [40]) := str_beq (c := 40)
    have h2 : (p.2 == ")") = decide (p.2.cps.toList = [41]) := str_beq (c := 41)
    rw [h1, h2]
    simp only [decide_eq_true_eq, checkGo_units l]
theorem check_chunks {x : Str} {cs : List (List Nat)} (hx : x.cps.toList = cs.flatten) (h : ∀ c ∈ cs, Chunk c) : check x = checkU (cs.flatMap fun c => unitsC (keepC c) false) 0 := by
  unfold check
  rw [checkGo_units, strip_chunks hx h]
end Mine
end

section
namespace Mine
open PySem
inductive Tok where
  | op
  | nm (k : Nat)
  | pc (k : Nat)
  | cl
deriving DecidableEq
noncomputable def kidsN (up : Nat → Nat) (rev : Bool) (k : Nat) : List Nat := if rev then (NN.filter fun y => kid up k y).reverse else NN.filter fun y => kid up k y
noncomputable def shape (up : Nat → Nat) (rev : Bool) : Nat → Nat → List Tok
  | 0, _ => []
  | n + 1, k => .op :: .nm k :: .pc k :: ((kidsN up rev k).flatMap (shape up rev n) ++ [.cl])
noncomputable def rtok (pc : Nat → Str) : Tok → List Nat
  | .op => [40]
  | .nm k => [97 + k]
  | .pc k => (pc k).cps.toList
  | .cl => [41]
noncomputable def backR (rev : Bool) : Int := if rev then -1 else 1
theorem sget_nm {α : Type} {f : Nat → α} {k : Nat} : ∀ {l : List Nat}, sget (nm k) (l.map fun j => (nm j, f j)) = if k ∈ l then some (f k) else none
  | [] => rfl
  | j :: l => by
    simp only [List.map_cons, sget]
    by_cases e : j = k
    · subst e; simp
    · rw [if_neg (fun h => e (nm_inj h)), sget_nm]
      have : (k ∈ j :: l) ↔ k ∈ l := by simp [Ne.symm e]
      simp only [this]
theorem kids_nm (up : Nat → Nat) (pc : Nat → Str) (rev : Bool) (k : Nat) : kids (DD.map fun k => (nm k, nm (up k))) (NN.map fun k => (nm k, pc k)) (backR rev) (nm k) = (kidsN up rev k).map nm := by
  have e : ((NN.map fun k => (nm k, pc k)).map (·.1)).filter (fun y => (sget y (DD.map fun k => (nm k, nm (up k)))).getD "" == nm k) = (NN.filter fun y => kid up k y).map nm := by
    rw [List.map_map, show ((fun p : Str × Str => p.1) ∘ fun k => (nm k, pc k)) = nm from rfl, List.filter_map]
    congr 1
    refine List.filter_congr fun y _ => ?_
    show (((sget (nm y) (DD.map fun k => (nm k, nm (up k)))).getD (Str.ofString "") : Str) == nm k) = kid up k y
    rw [sget_nm (f := fun k => nm (up k))]
    unfold kid
    by_cases q : y ∈ DD
    · rw [if_pos q, decide_eq_true q, Bool.true_and, ← nm_ne]; rfl
    · rw [if_neg q, decide_eq_false q, Bool.false_and]
      refine beq_eq_false_iff_ne.mpr fun e => ?_
      have := congrArg Str.length e
      exact absurd this (by rw [nm_len]; decide)
  unfold kids
  rw [e]
  unfold kidsN backR
  cases rev
  · exact lslice_one _
  · rw [if_pos rfl, if_pos rfl, lslice_rev, List.map_reverse]
theorem kids_mem {up : Nat → Nat} {rev : Bool} {k y : Nat} (h : y ∈ kidsN up rev k) : y ∈ NN ∧ y ∈ DD ∧ up y = k := by
  have h' : y ∈ NN.filter fun y => kid up k y := by
    unfold kidsN at h
    split at h
    · exact List.mem_reverse.mp h
    · exact h
  obtain ⟨h1, h2⟩ := List.mem_filter.mp h'
  unfold kid at h2
  simp only [Bool.and_eq_true, decide_eq_true_eq, beq_iff_eq] at h2
  exact ⟨h1, h2.1, h2.2⟩
theorem kids_len {up : Nat → Nat} {rev : Bool} {k : Nat} : (kidsN up rev k).length ≤ 6 := by
  have h : (NN.filter fun y => kid up k y).length ≤ 6 := List.length_filter_le ..
  unfold kidsN
  split
  · rw [List.length_reverse]; exact h
  · exact h
theorem nm_cps (k : Nat) : (nm k).cps.toList = [97 + k] := rfl
theorem cps_append (a b : Str) : (a ++ b).cps.toList = a.cps.toList ++ b.cps.toList := Array.toList_append
theorem write_cps (up : Nat → Nat) (pc : Nat → Str) (rev : Bool) : ∀ (n k : Nat), k ∈ NN → (lwrite (DD.map fun k => (nm k, nm (up k))) (NN.map fun k => (nm k, pc k)) (backR rev) n (nm k)).cps.toList = (shape up rev n k).flatMap (rtok pc)
  | 0, k, _ => rfl
  | n + 1, k, hk => by
    unfold lwrite shape
    rw [kids_nm, cps_append, cps_append, cps_append, cps_append, join_cps, sget_nm, if_pos hk, Option.getD_some, List.map_map, List.map_map, nm_cps]
    simp only [List.flatMap_cons, List.flatMap_append, List.flatMap_nil, List.append_nil, List.flatMap_assoc, rtok, List.append_assoc]
    have e : ((kidsN up rev k).map (((fun x => x.cps.toList) ∘ lwrite (DD.map fun k => (nm k, nm (up k))) (NN.map fun k => (nm k, pc k)) (backR rev) n) ∘ nm)).flatten = (kidsN up rev k).flatMap fun y => (shape up rev n y).flatMap (rtok pc) := by
      rw [List.flatMap_def]
      congr 1
      exact List.map_congr_left fun y hy => write_cps up pc rev n y (kids_mem hy).1
    rw [e]
    rfl
theorem flatMap_len_le {α β : Type} {f : α → List β} {c : Nat} : ∀ {l : List α}, (∀ a ∈ l, (f a).length ≤ c) → (l.flatMap f).length ≤ c * l.length
  | [], _ => by simp
  | a :: l, h => by
    rw [List.flatMap_cons, List.length_append, List.length_cons]
    have h1 := h a (.head _)
    have h2 := flatMap_len_le fun b hb => h b (.tail _ hb)
    have h3 : c * (l.length + 1) = c * l.length + c := rfl
    lia
theorem write_len {up : Nat → Nat} {pc : Nat → Str} {rev : Bool} (hp : ∀ k, (pc k).length ≤ 6) {n k : Nat} (hk : k ∈ NN) : (lwrite (DD.map fun k => (nm k, nm (up k))) (NN.map fun k => (nm k, pc k)) (backR rev) n (nm k)).length ≤ 6 * (shape up rev n k).length := by
  show Array.size _ ≤ _
  rw [← Array.length_toList, write_cps up pc rev n k hk]
  refine flatMap_len_le fun t _ => ?_
  cases t with
  | op => show 1 ≤ 6; decide
  | cl => show 1 ≤ 6; decide
  | nm k => show 1 ≤ 6; decide
  | pc k => exact hp k
theorem sum_len_le {up : Nat → Nat} {pc : Nat → Str} {rev : Bool} (hp : ∀ k, (pc k).length ≤ 6) {n : Nat} : ∀ (l : List Nat), (∀ y ∈ l, y ∈ NN) → (((l.map nm).map (lwrite (DD.map fun k => (nm k, nm (up k))) (NN.map fun k => (nm k, pc k)) (backR rev) n)).map (·.length)).sum ≤ 6 * (l.flatMap (shape up rev n)).length
  | [], _ => by simp
  | y :: l, h => by
    have h1 := write_len (up := up) (rev := rev) (n := n) hp (h y (.head _))
    have h2 := sum_len_le (up := up) (rev := rev) (n := n) hp l fun z hz => h z (.tail _ hz)
    simp only [List.map_cons, List.sum_cons, List.flatMap_cons, List.length_append]
    lia
theorem fits_shape {up : Nat → Nat} {pc : Nat → Str} {rev : Bool} (hu : ∀ k ∈ DD, up k < k) (hp : ∀ k, (pc k).length ≤ 6) : ∀ (n k : Nat), k ∈ NN → 6 ≤ n + k → (shape up rev n k).length ≤ 24 → fits (DD.map fun k => (nm k, nm (up k))) (NN.map fun k => (nm k, pc k)) (backR rev) n (nm k)
  | 0, k, hk, h, _ => by have := mem_NN hk; lia
  | n + 1, k, hk, h, hs => by
    unfold shape at hs
    simp only [List.length_cons, List.length_append, List.length_nil] at hs
    have h2 := sum_len_le (up := up) (rev := rev) (n := n) hp (kidsN up rev k) fun y hy => (kids_mem hy).1
    have h3 := @kids_len up rev k
    unfold fits
    rw [kids_nm, sget_nm, if_pos hk, Option.getD_some, List.length_map, join_len]
    refine ⟨rfl, by rw [nm_len]; decide, Nat.le_trans (hp k) (by decide), by lia, by lia, fun y hy => ?_⟩
    obtain ⟨z, hz, rfl⟩ := List.mem_map.mp hy
    have hm := kids_mem hz
    refine fits_shape hu hp n z hm.1 (by have := hu z hm.2.1; lia) ?_
    have : (shape up rev n z).length ≤ ((kidsN up rev k).flatMap (shape up rev n)).length := by
      rw [List.flatMap_def]
      exact (List.sublist_flatten_of_mem (List.mem_map.mpr ⟨z, hz, rfl⟩)).length_le
    lia
end Mine
end

section
namespace Mine
open PySem
noncomputable def utok (pc : Nat → Str) (t : Tok) : List (List Nat) := unitsC (keepC (rtok pc t)) false
noncomputable def pos (pc : Nat → Str) (l : List Tok) : Nat := (l.flatMap (utok pc)).length
structure IsUnit (c : List Nat) : Prop where
  plain : Plain c
  one : unitsC c false = [c]
theorem isUnit1 {c : Nat} (h : c ≠ 34) (h' : c ≠ 92) : IsUnit [c] := ⟨plain1 h h', by simp [unitsC, h']⟩
theorem isUnit2 {c : Nat} (h : c ≠ 34) : IsUnit [92, c] := ⟨plain2 h, by simp [unitsC]⟩
noncomputable def Tiny (t : Tok) : Prop := ∀ k, t = .nm k → k < 6
section
variable {pc : Nat → Str} (hp : ∀ k, Piece (pc k))
theorem utok_op : utok pc .op = [[40]] := rfl
theorem utok_cl : utok pc .cl = [[41]] := rfl
theorem utok_nm {k : Nat} (h : k < 6) : utok pc (.nm k) = [[97 + k]] := by
  have : k = 0 ∨ k = 1 ∨ k = 2 ∨ k = 3 ∨ k = 4 ∨ k = 5 := by lia
  rcases this with rfl | rfl | rfl | rfl | rfl | rfl <;> rfl
include hp in
theorem utok_pc {k : Nat} : utok pc (.pc k) = [] ∨ ∃ c, c ≠ 34 ∧ utok pc (.pc k) = [[92, c]] := by
  rcases (hp k).units with h | ⟨c, h, e⟩
  · exact .inl h
  · exact .inr ⟨c, h, by show unitsC (keepC (pc k).cps.toList) false = _; rw [e]; simp [unitsC]⟩
include hp in
theorem rtok_chunk {t : Tok} (h : Tiny t) : Chunk (rtok pc t) := by
  cases t with
  | op => exact chunk_plain (plain1 (by decide) (by decide))
  | cl => exact chunk_plain (plain1 (by decide) (by decide))
  | nm k => have := h k rfl; exact chunk_plain (plain1 (by lia) (by lia))
  | pc k => exact (hp k).chunk
include hp in
theorem utok_unit {t : Tok} (h : Tiny t) : ∀ c ∈ utok pc t, IsUnit c := by
  intro c hc
  cases t with
  | op => rw [utok_op] at hc; rw [List.mem_singleton.mp hc]; exact isUnit1 (by decide) (by decide)
  | cl => rw [utok_cl] at hc; rw [List.mem_singleton.mp hc]; exact isUnit1 (by decide) (by decide)
  | nm k =>
    have := h k rfl
    rw [utok_nm this] at hc; rw [List.mem_singleton.mp hc]; exact isUnit1 (by lia) (by lia)
  | pc k =>
    rcases utok_pc hp (k := k) with e | ⟨d, hd, e⟩
    · rw [e] at hc; exact nomatch hc
    · rw [e] at hc; rw [List.mem_singleton.mp hc]; exact isUnit2 hd
end
noncomputable def mateI : List Tok → Nat → Nat → Option Nat
  | [], _, _ => none
  | .op :: r, d, j => mateI r (d + 1) (j + 1)
  | .cl :: r, d, j => if d = 1 then some j else if d = 0 then none else mateI r (d - 1) (j + 1)
  | .nm _ :: r, d, j => mateI r d (j + 1)
  | .pc _ :: r, d, j => mateI r d (j + 1)
noncomputable def endsI : List Tok → Nat → Option (List (Nat × Nat × Nat))
  | [], _ => some []
  | .op :: r, i => match r, mateI r 1 (i + 1), endsI r (i + 1) with
    | .nm k :: _, some j, some l => some ((k, i, j) :: l)
    | _, _, _ => none
  | .cl :: r, i => endsI r (i + 1)
  | .nm _ :: r, i => endsI r (i + 1)
  | .pc _ :: r, i => endsI r (i + 1)
theorem ri_cons {x y : Int} (h : x < y) : ri x y = x :: ri (x + 1) y := by
  unfold ri
  have : (y - x).toNat = (y - (x + 1)).toNat + 1 := by lia
  rw [this, List.range_succ_eq_map, List.map_cons, List.map_map]
  congr 1
  · simp
  · exact List.map_congr_left fun k _ => by simp only [Function.comp]; lia
section
variable {us : List Str} {UL : List (List Nat)} (hUL : us.map (·.cps.toList) = UL)
include hUL in
theorem uAt_cps (i : Nat) : (uAt us (i : Int)).cps.toList = (UL[i]?).getD [] := by
  unfold uAt
  rw [Int.toNat_natCast, ← hUL, List.getElem?_map]
  cases us[i]? <;> rfl
include hUL in
theorem uAt_is (i c : Nat) : (uAt us (i : Int) == ⟨#[c]⟩) = decide ((UL[i]?).getD [] = [c]) := by
  rw [str_beq, uAt_cps hUL]
include hUL in
theorem us_len : us.length = UL.length := by rw [← hUL, List.length_map]
theorem check_units {l : List Str} (h : ∀ c ∈ l.map (·.cps.toList), IsUnit c) : check (Txt.join "" l) = checkU (l.map (·.cps.toList)) 0 := by
  rw [check_chunks (cs := l.map (·.cps.toList)) (join_cps l) fun c hc => chunk_plain (h c hc).plain]
  congr 1
  have : ∀ (m : List (List Nat)), (∀ c ∈ m, IsUnit c) → (m.flatMap fun c => unitsC (keepC c) false) = m := by
    intro m
    induction m with
    | nil => intro _; rfl
    | cons c m ih =>
      intro hm
      rw [List.flatMap_cons, keepC_plain (hm c (.head _)).plain, (hm c (.head _)).one, ih fun d hd => hm d (.tail _ hd)]
      rfl
  exact this _ h
variable (hu : ∀ c ∈ UL, IsUnit c)
include hUL hu in
theorem isMate_units {X Q R : List (List Nat)} {u : List Nat} (e : UL = X ++ (Q ++ u :: R)) : isMate us (X.length : Int) ((X ++ Q).length : Int) = (decide (u = [41]) && checkU (Q ++ [u]) 0) := by
  unfold isMate
  have h1 : (uAt us ((X ++ Q).length : Int) == ")") = decide (u = [41]) := by
    have := uAt_is hUL (X ++ Q).length 41
    rw [e, ← List.append_assoc, List.getElem?_append_right (Nat.le_refl _), Nat.sub_self] at this
    exact this
  have hl : (X ++ Q).length + 1 ≤ us.length := by rw [us_len hUL, e]; simp; lia
  have h2 : lslice us (some (X.length : Int)) (some (((X ++ Q).length : Int) + 1)) none = (us.take ((X ++ Q).length + 1)).drop X.length := by
    have := lslice_mid us X.length ((X ++ Q).length + 1) (by rw [List.length_append]; lia) hl
    exact this
  have h3 : ((us.take ((X ++ Q).length + 1)).drop X.length).map (·.cps.toList) = Q ++ [u] := by
    rw [List.map_drop, List.map_take, hUL, e, ← List.append_assoc, List.append_cons, List.take_left' (by simp; lia), List.append_assoc X, List.drop_left]
  rw [h1, h2, check_units ?_, h3]
  rw [h3]
  intro c hc
  refine hu c ?_
  rw [e]
  refine List.mem_append_right _ ?_
  rcases List.mem_append.mp hc with hc | hc
  · exact List.mem_append_left _ hc
  · rw [List.mem_singleton.mp hc]; exact List.mem_append_right _ (.head _)
end
theorem checkU_app {u : List Nat} {Q : List (List Nat)} {d d' : Int} (h : ∀ l, checkU (Q ++ l) 0 = checkU l d) (h' : ∀ l, checkU (u :: l) d = checkU l d') : ∀ l, checkU (Q ++ [u] ++ l) 0 = checkU l d' := fun l => by
  rw [List.append_assoc, h, List.singleton_append, h']
section
variable {pc : Nat → Str} (hp : ∀ k, Piece (pc k)) {us : List Str} {UL : List (List Nat)} (hUL : us.map (·.cps.toList) = UL) (hu : ∀ c ∈ UL, IsUnit c)
include hUL hu hp in
theorem mate_go : ∀ (r pre : List Tok) (X Q : List (List Nat)) (d b : Nat), (∀ t ∈ r, Tiny t) → X ++ Q = pre.flatMap (utok pc) → UL = (pre ++ r).flatMap (utok pc) → (∀ l, checkU (Q ++ l) 0 = checkU l (d : Int)) → mateI r d pre.length = some b →
    (ri (pos pc pre) us.length).find? (isMate us (X.length : Int)) = some ((pos pc ((pre ++ r).take b) : Nat) : Int)
  | [], pre, X, Q, d, b, _, _, _, _, hm => nomatch hm
  | t :: r, pre, X, Q, d, b, ht, hX, hL, hd, hm => by
    have eL : UL = (pre ++ [t] ++ r).flatMap (utok pc) := by rw [hL, List.append_assoc]; rfl
    have lp : (pre ++ [t]).length = pre.length + 1 := by simp
    have next := fun Q' d' => mate_go r (pre ++ [t]) X Q' d' b (fun t h => ht t (.tail _ h))
    rw [List.append_assoc, List.singleton_append, lp] at next
    -- a token of one unit that is no mate
    have skip : ∀ u d', utok pc t = [u] → (decide (u = [41]) && checkU [u] (d : Int)) = false → (∀ l, checkU (u :: l) (d : Int) = checkU l ((d' : Nat) : Int)) → mateI r d' (pre.length + 1) = some b →
        (ri (pos pc pre) us.length).find? (isMate us (X.length : Int)) = some ((pos pc ((pre ++ t :: r).take b) : Nat) : Int) := fun u d' e h1 h2 h3 => by
      have e1 : UL = X ++ (Q ++ u :: r.flatMap (utok pc)) := by
        rw [hL, ← List.append_assoc, hX, List.flatMap_append, List.flatMap_cons, e]; rfl
      have hpos : pos pc pre = (X ++ Q).length := by unfold pos; rw [hX]
      have hlt : ((pos pc pre : Nat) : Int) < us.length := by rw [us_len hUL, e1, hpos]; simp; lia
      have hp1 : pos pc (pre ++ [t]) = pos pc pre + 1 := by unfold pos; rw [List.flatMap_append, List.length_append, List.flatMap_cons, e]; rfl
      rw [ri_cons hlt, List.find?_cons_of_neg]
      · have := next (Q ++ [u]) d' (by rw [List.flatMap_append, ← hX, List.flatMap_cons, e]; simp) (by rw [hL]) (checkU_app hd h2) h3
        rw [hp1] at this
        exact this
      · have := isMate_units hUL hu e1
        rw [hd, h1, ← hpos] at this
        rw [this]; decide
    cases t with
    | op => exact skip [40] (d + 1) rfl rfl (fun l => rfl) hm
    | nm k =>
      have hk := ht _ (.head _) k rfl
      refine skip [97 + k] d (utok_nm hk) ?_ (fun l => ?_) hm
      · rw [decide_eq_false (by simp; lia)]; rfl
      · rw [checkU, if_neg (by simp; lia), if_neg (by simp; omega)]
    | pc k =>
      rcases utok_pc hp (k := k) with e | ⟨c, hc, e⟩
      · have h := next Q d (by rw [List.flatMap_append, ← hX, List.flatMap_cons, e]; simp) (by rw [hL]) hd hm
        have : pos pc (pre ++ [.pc k]) = pos pc pre := by unfold pos; rw [List.flatMap_append, List.length_append, List.flatMap_cons, e]; rfl
        rw [this] at h
        exact h
      · refine skip [92, c] d e ?_ (fun l => ?_) hm
        · rw [decide_eq_false (by simp)]; rfl
        · rw [checkU, if_neg (by simp), if_neg (by simp)]
    | cl =>
      unfold mateI at hm
      by_cases h1 : d = 1
      · rw [if_pos h1] at hm
        obtain rfl : pre.length = b := by simpa using hm
        have e1 : UL = X ++ (Q ++ [41] :: r.flatMap (utok pc)) := by
          rw [hL, ← List.append_assoc, hX, List.flatMap_append, List.flatMap_cons]; rfl
        have hpos : pos pc pre = (X ++ Q).length := by unfold pos; rw [hX]
        have hlt : ((pos pc pre : Nat) : Int) < us.length := by rw [us_len hUL, e1, hpos]; simp; lia
        rw [List.take_left, ri_cons hlt, List.find?_cons_of_pos]
        have := isMate_units hUL hu e1
        rw [hd, ← hpos, h1] at this
        rw [this]; decide
      · rw [if_neg h1] at hm
        by_cases h0 : d = 0
        · rw [if_pos h0] at hm; exact nomatch hm
        · rw [if_neg h0] at hm
          have q : ∀ l, checkU ([41] :: l) (d : Int) = checkU l ((d - 1 : Nat) : Int) := fun l => by
            rw [checkU, if_neg (by decide), if_pos rfl, if_neg (by lia)]
            congr 1; lia
          refine skip [41] (d - 1) rfl ?_ q hm
          rw [q []]
          show (decide (([41] : List Nat) = [41]) && (((d - 1 : Nat) : Int) == 0)) = false
          rw [decide_eq_true rfl, Bool.true_and]
          refine beq_eq_false_iff_ne.mpr ?_
          lia
end
end Mine
end

section
namespace Mine
open PySem
theorem find_pos {pc : Nat → Str} {l : List Tok} {t : Tok} : pos pc (l ++ [t]) = pos pc l + (utok pc t).length := by
  unfold pos; rw [List.flatMap_append, List.length_append, List.flatMap_cons, List.flatMap_nil, List.append_nil]
theorem take_snoc {α : Type} {l : List α} {i : Nat} {a : α} (h : l[i]? = some a) : l.take (i + 1) = l.take i ++ [a] := by
  rw [List.take_add_one, h]; rfl
theorem pos_mono {pc : Nat → Str} {sh : List Tok} {i j : Nat} (h : i ≤ j) : pos pc (sh.take i) ≤ pos pc (sh.take j) := by
  unfold pos
  have : sh.take j = sh.take i ++ (sh.take j).drop i := by
    have h1 : sh.take i = (sh.take j).take i := by rw [List.take_take, Nat.min_eq_left h]
    rw [h1, List.take_append_drop]
  rw [this, List.flatMap_append, List.length_append]
  lia
noncomputable def one1T (sh : List Tok) (i : Nat) : Prop := sh[i]? = some .op ∨ sh[i]? = some .cl
theorem pos_lt {pc : Nat → Str} {sh : List Tok} {i j : Nat} (h : one1T sh i) (hij : i < j) : pos pc (sh.take i) < pos pc (sh.take j) := by
  have h1 : pos pc (sh.take (i + 1)) = pos pc (sh.take i) + 1 := by
    rcases h with h | h
    · rw [take_snoc h, find_pos]; rfl
    · rw [take_snoc h, find_pos]; rfl
  have h2 := @pos_mono pc sh (i + 1) j hij
  lia
theorem pos_lt_iff {pc : Nat → Str} {sh : List Tok} {i j : Nat} (h : one1T sh i) : pos pc (sh.take i) < pos pc (sh.take j) ↔ i < j :=
  ⟨fun q => Nat.lt_of_not_le fun h' => by have := @pos_mono pc sh j i h'; lia, pos_lt h⟩
theorem pos_le_iff {pc : Nat → Str} {sh : List Tok} {i j : Nat} (h : one1T sh j) : pos pc (sh.take i) ≤ pos pc (sh.take j) ↔ i ≤ j := by
  have := @pos_lt_iff pc sh j i h
  lia
theorem mateI_cl : ∀ {r pre : List Tok} {d b : Nat}, mateI r d pre.length = some b → pre.length ≤ b ∧ (pre ++ r)[b]? = some .cl
  | [], pre, d, b, h => nomatch h
  | t :: r, pre, d, b, h => by
    have next : ∀ d', mateI r d' (pre.length + 1) = some b → pre.length ≤ b ∧ (pre ++ t :: r)[b]? = some .cl := fun d' h' => by
      have := @mateI_cl r (pre ++ [t]) d' b (by rw [List.length_append]; exact h')
      rw [List.length_append, List.append_assoc] at this
      exact ⟨Nat.le_of_succ_le this.1, this.2⟩
    cases t with
    | op => exact next _ h
    | nm k => exact next _ h
    | pc k => exact next _ h
    | cl =>
      unfold mateI at h
      split at h
      · obtain rfl : pre.length = b := by simpa using h
        exact ⟨Nat.le_refl _, by simp⟩
      · split at h
        · exact nomatch h
        · exact next _ h
section
variable {pc : Nat → Str} (hp : ∀ k, Piece (pc k)) {us : List Str} {UL : List (List Nat)} (hUL : us.map (·.cps.toList) = UL) (hu : ∀ c ∈ UL, IsUnit c)
noncomputable def endAt (us : List Str) (i : Int) : Option (Int × Int) := if uAt us i == "(" then (mateOf us i).map fun j => (i, j) else none
theorem endsOf_eq (us : List Str) : endsOf us = (ri 0 us.length).filterMap (endAt us) := by
  unfold endsOf opensOf
  rw [List.filterMap_filter]
  rfl
noncomputable def posP (pc : Nat → Str) (sh : List Tok) (p : Nat × Nat × Nat) : Int × Int := ((pos pc (sh.take p.2.1) : Nat), (pos pc (sh.take p.2.2) : Nat))
structure EndOk (pc : Nat → Str) (us : List Str) (sh : List Tok) (p : Nat × Nat × Nat) : Prop where
  op : sh[p.2.1]? = some .op
  cl : sh[p.2.2]? = some .cl
  at1 : uAt us ((pos pc (sh.take p.2.1) : Nat) + 1 : Int) = nm p.1
theorem endsI_op {k : Nat} {r : List Tok} {i : Nat} {l : List (Nat × Nat × Nat)} (h : endsI (.op :: .nm k :: r) i = some l) : ∃ j l', mateI (.nm k :: r) 1 (i + 1) = some j ∧ endsI (.nm k :: r) (i + 1) = some l' ∧ l = (k, i, j) :: l' := by
  have h : (match (Tok.nm k :: r), mateI (.nm k :: r) 1 (i + 1), endsI (.nm k :: r) (i + 1) with
    | .nm k :: _, some j, some l => some ((k, i, j) :: l)
    | _, _, _ => none) = some l := h
  generalize mateI (.nm k :: r) 1 (i + 1) = p at h ⊢
  generalize endsI (.nm k :: r) (i + 1) = q at h ⊢
  cases p with
  | none => cases q <;> exact nomatch h
  | some j => cases q with
    | none => exact nomatch h
    | some l' => exact ⟨j, l', rfl, rfl, (Option.some.inj h).symm⟩
include hp hUL hu in
theorem ends_go : ∀ (r pre : List Tok) (l : List (Nat × Nat × Nat)), (∀ t ∈ r, Tiny t) → UL = (pre ++ r).flatMap (utok pc) → endsI r pre.length = some l →
    (ri (pos pc pre) us.length).filterMap (endAt us) = l.map (posP pc (pre ++ r)) ∧ ∀ p ∈ l, EndOk pc us (pre ++ r) p
  | [], pre, l, _, hL, h => by
    obtain rfl : [] = l := Option.some.inj h
    have : us.length = pos pc pre := by rw [us_len hUL, hL, List.append_nil]; rfl
    rw [this]
    refine ⟨?_, fun p hp => nomatch hp⟩
    unfold ri; simp
  | t :: r, pre, l, ht, hL, h => by
    have lp : (pre ++ [t]).length = pre.length + 1 := by simp
    have next := fun l' => ends_go r (pre ++ [t]) l' (fun t h => ht t (.tail _ h))
    rw [List.append_assoc, List.singleton_append, lp] at next
    have at0 : ∀ u, utok pc t = [u] → ((pos pc pre : Nat) : Int) < us.length ∧ (UL[pos pc pre]?).getD [] = u := fun u e => by
      have e1 : UL = pre.flatMap (utok pc) ++ u :: r.flatMap (utok pc) := by rw [hL, List.flatMap_append, List.flatMap_cons, e]; rfl
      refine ⟨?_, ?_⟩
      · rw [us_len hUL, e1, List.length_append]
        show (((pre.flatMap (utok pc)).length : Nat) : Int) < _
        simp; lia
      · rw [e1, List.getElem?_append_right (by show (pre.flatMap (utok pc)).length ≤ (pre.flatMap (utok pc)).length; exact Nat.le_refl _)]
        show ((u :: _)[pos pc pre - pos pc pre]?).getD [] = u
        rw [Nat.sub_self]; rfl
    have skip : ∀ u, utok pc t = [u] → u ≠ [40] → endsI r (pre.length + 1) = some l →
        (ri (pos pc pre) us.length).filterMap (endAt us) = l.map (posP pc (pre ++ t :: r)) ∧ ∀ p ∈ l, EndOk pc us (pre ++ t :: r) p := fun u e h1 h2 => by
      obtain ⟨hlt, hat⟩ := at0 u e
      have := next l hL h2
      rw [find_pos, e] at this
      rw [ri_cons hlt, List.filterMap_cons_none ?_]
      · exact this
      · unfold endAt
        have q := uAt_is hUL (pos pc pre) 40
        rw [hat, decide_eq_false h1] at q
        rw [if_neg]
        intro h
        exact absurd (q.symm.trans h) (by decide)
    cases t with
    | nm k =>
      have hk := ht _ (.head _) k rfl
      exact skip _ (utok_nm hk) (by simp; lia) h
    | cl => exact skip _ rfl (by decide) h
    | pc k =>
      rcases utok_pc hp (k := k) with e | ⟨c, hc, e⟩
      · have := next l hL h
        rw [find_pos, e] at this
        exact this
      · exact skip _ e (by simp) h
    | op =>
      cases r with
      | nil => exact nomatch h
      | cons t2 r =>
        cases t2 with
        | op => exact nomatch h
        | cl => exact nomatch h
        | pc k => exact nomatch h
        | nm k =>
          obtain ⟨j, l', hm, he, rfl⟩ := endsI_op h
          have hk := ht (.nm k) (.tail _ (.head _)) k rfl
          obtain ⟨hlt, hat⟩ := at0 [40] rfl
          obtain ⟨n1, n2⟩ := next l' hL he
          have e1 : pos pc (pre ++ [.op]) = pos pc pre + 1 := find_pos
          rw [e1] at n1
          have hmg := mate_go hp hUL hu (.nm k :: r) (pre ++ [.op]) (pre.flatMap (utok pc)) [[40]] 1 j (fun t h => ht t (.tail _ h)) (by rw [List.flatMap_append]; rfl) (by rw [hL]; simp) (fun l => rfl) (by rw [lp]; exact hm)
          rw [e1, List.append_assoc, List.singleton_append] at hmg
          have hmate : mateOf us ((pos pc pre : Nat) : Int) = some ((pos pc ((pre ++ .op :: .nm k :: r).take j) : Nat) : Int) := by
            unfold mateOf
            rw [ri_cons hlt, List.find?_cons_of_neg]
            · exact hmg
            · have e2 : UL = pre.flatMap (utok pc) ++ ([] ++ [40] :: (Tok.nm k :: r).flatMap (utok pc)) := by rw [hL, List.flatMap_append]; rfl
              have := isMate_units hUL hu e2
              rw [List.append_nil] at this
              unfold pos
              rw [this]; decide
          have q := uAt_is hUL (pos pc pre) 40
          rw [hat, decide_eq_true rfl] at q
          have hend : endAt us ((pos pc pre : Nat) : Int) = some (((pos pc pre : Nat) : Int), ((pos pc ((pre ++ .op :: .nm k :: r).take j) : Nat) : Int)) := by
            unfold endAt
            rw [if_pos (show (uAt us ((pos pc pre : Nat) : Int) == "(") = true from q), hmate]; rfl
          have htake : (pre ++ .op :: .nm k :: r).take pre.length = pre := List.take_left' rfl
          refine ⟨?_, fun p hp' => ?_⟩
          · rw [ri_cons hlt, List.filterMap_cons_some hend, List.map_cons]
            congr 1
            unfold posP
            rw [htake]
          · rcases List.mem_cons.mp hp' with rfl | hp'
            · refine ⟨by simp, ?_, ?_⟩
              · have := (@mateI_cl (.nm k :: r) (pre ++ [.op]) 1 j (by rw [lp]; exact hm)).2
                rw [List.append_assoc, List.singleton_append] at this
                exact this
              · show uAt us (((pos pc ((pre ++ .op :: .nm k :: r).take pre.length) : Nat) : Int) + 1) = nm k
                rw [htake]
                refine str_cps ?_
                have := uAt_cps hUL (pos pc pre + 1)
                rw [show ((pos pc pre + 1 : Nat) : Int) = ((pos pc pre : Nat) : Int) + 1 by lia] at this
                rw [this, hL, List.flatMap_append, List.getElem?_append_right (by show pos pc pre ≤ _; lia)]
                show (((Tok.op :: Tok.nm k :: r).flatMap (utok pc))[pos pc pre + 1 - pos pc pre]?).getD [] = _
                rw [show pos pc pre + 1 - pos pc pre = 1 by lia, List.flatMap_cons, List.flatMap_cons, utok_nm hk]
                rfl
            · exact n2 p hp'
end
end Mine
end

section
namespace Mine
open PySem
noncomputable def ancF (up : Nat → Nat) : Nat → Nat → List Nat
  | 0, k => [k]
  | n + 1, k => if k = 0 then [0] else ancF up n (up k) ++ [k]
noncomputable def ancU (up : Nat → Nat) (k : Nat) : List Nat := ancF up 5 k
noncomputable def cntLt (l : List (Nat × Nat × Nat)) (x : Nat) : Nat := (l.filter fun q => decide (q.2.1 < x)).length
noncomputable def cntLe (l : List (Nat × Nat × Nat)) (x : Nat) : Nat := (l.filter fun q => decide (q.2.1 ≤ x)).length
noncomputable def depT : List Tok → Nat → Bool
  | [], d => d == 0
  | .op :: r, d => depT r (d + 1)
  | .cl :: r, d => if d = 0 then false else depT r (d - 1)
  | .nm _ :: r, d => depT r d
  | .pc _ :: r, d => depT r d
noncomputable def aroundI (l : List (Nat × Nat × Nat)) (p : Nat × Nat × Nat) : List Nat := (l.filter fun q => decide (q.2.1 ≤ p.2.1) && decide (p.2.2 ≤ q.2.2)).map (·.1)
noncomputable def incI : List (Nat × Nat × Nat) → Bool
  | [] => true
  | p :: l => l.all (fun q => decide (p.2.1 < q.2.1)) && incI l
noncomputable def tinyB : Tok → Bool
  | .nm k => decide (k < 6)
  | _ => true
noncomputable def cutOk (up : Nat → Nat) (l : List (Nat × Nat × Nat)) (p : Nat × Nat × Nat) : Bool :=
  p.1 == 0 || (cntLe l p.2.1 == cntLt l p.2.1 + 1 && cntLe l p.2.2 == cntLt l p.2.2 && decide (cntLt l p.2.1 < cntLt l p.2.2) && decide (cntLt l p.2.2 ≤ 6) &&
    (((l.map (·.1)).take (cntLt l p.2.2)).drop (cntLt l p.2.1) == (l.map (·.1)).filter fun x => (ancU up x).elem p.1))
noncomputable def permOk (l : List Nat) : Bool := l.isPerm NN
noncomputable def shapeOk (up : Nat → Nat) (rev : Bool) : Bool := match endsI (shape up rev 6 0) 0 with
  | none => false
  | some l => permOk (l.map (·.1)) && decide ((shape up rev 6 0).length ≤ 24) && (shape up rev 6 0).all tinyB && depT (shape up rev 6 0) 0 && incI l && l.all fun p => aroundI l p == ancU up p.1 && cutOk up l p
noncomputable def upL (a b c d : Nat) : Nat → Nat
  | 2 => a
  | 3 => b
  | 4 => c
  | 5 => d
  | _ => 0
theorem shapes0 : ∀ a < 2, ∀ b < 3, ∀ c < 4, ∀ rev : Bool, shapeOk (upL a b c 0) rev = true := by decide +kernel
theorem shapes1 : ∀ a < 2, ∀ b < 3, ∀ c < 4, ∀ rev : Bool, shapeOk (upL a b c 1) rev = true := by decide +kernel
theorem shapes2 : ∀ a < 2, ∀ b < 3, ∀ c < 4, ∀ rev : Bool, shapeOk (upL a b c 2) rev = true := by decide +kernel
theorem shapes3 : ∀ a < 2, ∀ b < 3, ∀ c < 4, ∀ rev : Bool, shapeOk (upL a b c 3) rev = true := by decide +kernel
theorem shapes4 : ∀ a < 2, ∀ b < 3, ∀ c < 4, ∀ rev : Bool, shapeOk (upL a b c 4) rev = true := by decide +kernel
theorem shapes_ok {a b c d : Nat} (ha : a < 2) (hb : b < 3) (hc : c < 4) (hd : d < 5) (rev : Bool) : shapeOk (upL a b c d) rev = true := by
  have : d = 0 ∨ d = 1 ∨ d = 2 ∨ d = 3 ∨ d = 4 := by lia
  rcases this with rfl | rfl | rfl | rfl | rfl
  · exact shapes0 a ha b hb c hc rev
  · exact shapes1 a ha b hb c hc rev
  · exact shapes2 a ha b hb c hc rev
  · exact shapes3 a ha b hb c hc rev
  · exact shapes4 a ha b hb c hc rev
structure Shape (up : Nat → Nat) (rev : Bool) (l : List (Nat × Nat × Nat)) : Prop where
  ends : endsI (shape up rev 6 0) 0 = some l
  perm : (l.map (·.1)).Perm NN
  len : (shape up rev 6 0).length ≤ 24
  tiny : ∀ t ∈ shape up rev 6 0, Tiny t
  dep : depT (shape up rev 6 0) 0 = true
  inc : l.Pairwise fun p q => p.2.1 < q.2.1
  around : ∀ p ∈ l, aroundI l p = ancU up p.1
  cut : ∀ p ∈ l, p.1 ≠ 0 → cntLe l p.2.1 = cntLt l p.2.1 + 1 ∧ cntLe l p.2.2 = cntLt l p.2.2 ∧ cntLt l p.2.1 < cntLt l p.2.2 ∧ cntLt l p.2.2 ≤ 6 ∧ ((l.map (·.1)).take (cntLt l p.2.2)).drop (cntLt l p.2.1) = (l.map (·.1)).filter fun x => decide (p.1 ∈ ancU up x)
theorem incI_pw : ∀ {l : List (Nat × Nat × Nat)}, incI l = true → l.Pairwise fun p q => p.2.1 < q.2.1
  | [], _ => .nil
  | p :: l, h => by
    unfold incI at h
    simp only [Bool.and_eq_true, List.all_eq_true, decide_eq_true_eq] at h
    exact .cons h.1 (incI_pw h.2)
theorem shape_of {up : Nat → Nat} {rev : Bool} (h : shapeOk up rev = true) : ∃ l, Shape up rev l := by
  unfold shapeOk at h
  cases e : endsI (shape up rev 6 0) 0 with
  | none => rw [e] at h; exact nomatch h
  | some l =>
    rw [e] at h
    simp only [Bool.and_eq_true, List.all_eq_true, decide_eq_true_eq, beq_iff_eq] at h
    obtain ⟨⟨⟨⟨⟨h1, h2⟩, h3⟩, h4⟩, h5⟩, h6⟩ := h
    refine ⟨l, e, List.isPerm_iff.mp h1, h2, fun t ht k hk => ?_, h4, incI_pw h5, fun p hp => (h6 p hp).1, fun p hp h0 => ?_⟩
    · have := h3 t ht
      rw [hk] at this
      exact of_decide_eq_true this
    · have := (h6 p hp).2
      unfold cutOk at this
      simp only [Bool.or_eq_true, Bool.and_eq_true, beq_iff_eq, decide_eq_true_eq] at this
      rcases this with h | ⟨⟨⟨⟨q1, q2⟩, q3⟩, q4⟩, q5⟩
      · exact absurd h h0
      · refine ⟨q1, q2, q3, q4, q5.trans (List.filter_congr fun x _ => ?_)⟩
        rw [List.elem_eq_mem]
end Mine
end

section
namespace Mine
open PySem
theorem acopy_nodup {α : Type} {l : List (Ky × α)} (h : (l.map (·.1)).Nodup) : acopy l = l := by
  have go : ∀ (l q : List (Ky × α)), ((q ++ l).map (·.1)).Nodup → l.foldl (fun q p => aput q p.1 p.2) q = q ++ l := by
    intro l
    induction l with
    | nil => intro q _; simp
    | cons p l ih =>
      intro q hq
      rw [List.foldl_cons]
      have hp : p.1 ∉ q.map (·.1) := fun hm => by
        rw [List.map_append, List.nodup_append] at hq
        exact hq.2.2 p.1 hm p.1 (by simp) rfl
      have e : aput q p.1 p.2 = q ++ [p] := by unfold aput; rw [if_neg hp]
      rw [e, ih _ (by simpa using hq)]
      simp
  exact go l [] (by simpa using h)
theorem keys_nodup {l : List Nat} (h : l.Nodup) : (l.map fun k => Ky.s (nm k)).Nodup :=
  List.Pairwise.map _ (fun a b hab e => hab (nm_inj (Ky.s.inj e))) h
section
variable {up : Nat → Nat} {rev : Bool} {l : List (Nat × Nat × Nat)} (S : Shape up rev l)
noncomputable abbrev ordL (l : List (Nat × Nat × Nat)) : List Nat := l.map (·.1)
include S in
theorem Shape.nodup : (ordL l).Nodup := S.perm.nodup_iff.mpr NN_nodup
theorem nget_self {α : Type} : ∀ {l : List (Nat × α)}, (l.map (·.1)).Nodup → ∀ p ∈ l, nget p.1 l = some p.2
  | q :: l, h, p, hp => by
    rw [List.map_cons, List.nodup_cons] at h
    unfold nget
    rcases List.mem_cons.mp hp with rfl | hp
    · rw [if_pos rfl]
    · rw [if_neg (fun e : q.1 = p.1 => h.1 (List.mem_map.mpr ⟨p, hp, e.symm⟩))]
      exact nget_self h.2 p hp
noncomputable def spL (pc : Nat → Str) (sh : List Tok) (l : List (Nat × Nat × Nat)) (k : Nat) : Int × Int := posP pc sh (k, (nget k l).getD (0, 0))
noncomputable def lowL (l : List (Nat × Nat × Nat)) (k : Nat) : Nat := cntLt l ((nget k l).getD (0, 0)).1
noncomputable def highL (l : List (Nat × Nat × Nat)) (k : Nat) : Nat := cntLt l ((nget k l).getD (0, 0)).2
include S in
theorem sp_at {pc : Nat → Str} {sh : List Tok} {p : Nat × Nat × Nat} (h : p ∈ l) : spL pc sh l p.1 = posP pc sh p := by
  unfold spL
  rw [nget_self S.nodup p h]; rfl
set_option tactic.hygienic true in
theorem ancF_last (up : Nat → Nat) : ∀ n k, ∃ q, ancF up n k = q ++ [k]
  | 0, k => ⟨[], rfl⟩
  | n + 1, k => by
    unfold ancF
    split
    · rename_i h; exact ⟨[], by rw [h]; rfl⟩
    · exact ⟨_, rfl⟩
theorem ancF_len (up : Nat → Nat) : ∀ n k, (ancF up n k).length ≤ n + 1
  | 0, k => by simp [ancF]
  | n + 1, k => by
    unfold ancF
    split
    · simp
    · rw [List.length_append]; have := ancF_len up n (up k); simp; lia
theorem ancU_pos {k : Nat} (h : k ≠ 0) : ∃ q, ancU up k = q ++ [up k] ++ [k] := by
  obtain ⟨q, e⟩ := ancF_last up 4 (up k)
  exact ⟨q, by unfold ancU; rw [ancF, if_neg h, e]⟩
theorem DD_pos {k : Nat} (hk : k ∈ NN) : k ∈ DD ↔ k ≠ 0 := by
  have := mem_NN hk
  unfold DD; simp; lia
theorem dep_units {pc : Nat → Str} (hp : ∀ k, Piece (pc k)) : ∀ (r : List Tok) (d : Nat), (∀ t ∈ r, Tiny t) → checkU (r.flatMap (utok pc)) (d : Int) = depT r d
  | [], d, _ => by
    show ((d : Int) == 0) = (d == 0)
    by_cases h : d = 0
    · subst h; rfl
    · rw [beq_eq_false_iff_ne.mpr h, beq_eq_false_iff_ne.mpr (by lia)]
  | t :: r, d, h => by
    have ih := fun d => dep_units hp r d fun t ht => h t (.tail _ ht)
    rw [List.flatMap_cons]
    cases t with
    | op => rw [utok_op, List.singleton_append, checkU, if_pos rfl]; exact ih (d + 1)
    | cl =>
      rw [utok_cl, List.singleton_append, checkU, if_neg (by decide), if_pos rfl, depT]
      by_cases h0 : d = 0
      · rw [if_pos h0, if_pos (by lia)]
      · rw [if_neg h0, if_neg (by lia), ← ih (d - 1)]; congr 1; lia
    | nm k =>
      have := h _ (.head _) k rfl
      rw [utok_nm this, List.singleton_append, checkU, if_neg (by simp; lia), if_neg (by simp; lia)]; exact ih d
    | pc k =>
      rcases utok_pc hp (k := k) with e | ⟨c, hc, e⟩
      · rw [e]; exact ih d
      · rw [e, List.singleton_append, checkU, if_neg (by simp), if_neg (by simp)]; exact ih d
theorem utok_small {pc : Nat → Str} (hp : ∀ k, Piece (pc k)) {t : Tok} (h : Tiny t) : (utok pc t).length ≤ 1 ∧ ∀ u ∈ utok pc t, u.length ≤ 2 := by
  cases t with
  | op => rw [utok_op]; exact ⟨by decide, by decide⟩
  | cl => rw [utok_cl]; exact ⟨by decide, by decide⟩
  | nm k => rw [utok_nm (h k rfl)]; exact ⟨Nat.le_refl 1, fun u hu => by rw [List.mem_singleton.mp hu]; simp⟩
  | pc k =>
    rcases utok_pc hp (k := k) with e | ⟨c, hc, e⟩
    · rw [e]; exact ⟨by decide, fun u hu => nomatch hu⟩
    · rw [e]; exact ⟨Nat.le_refl 1, fun u hu => by rw [List.mem_singleton.mp hu]; simp⟩
theorem sum_le {l : List Nat} {c : Nat} (h : ∀ x ∈ l, x ≤ c) : l.sum ≤ c * l.length := by
  induction l with
  | nil => simp
  | cons a l ih =>
    have := ih fun x hx => h x (.tail _ hx)
    have := h a (.head _)
    rw [List.sum_cons, List.length_cons, Nat.mul_succ]
    lia
include S in
theorem read_ok {pc : Nat → Str} (hp : ∀ k, Piece (pc k)) (hu : ∀ k ∈ DD, up k < k) :
    ReadOk up pc (backR rev) (ordL l) (ancU up) (spL pc (shape up rev 6 0) l) ∧ PosOk (ordL l) (ancU up) (spL pc (shape up rev 6 0) l) (lowL l) (highL l) := by
  let sh := shape up rev 6 0
  have hsh : shape up rev 6 0 = sh := rfl
  let x := textOf up pc (backR rev)
  have ha : (Str.ofString "a") = nm 0 := by with_unfolding_all rfl
  have hx : x.cps.toList = (sh.map (rtok pc)).flatten := by
    show (lwrite _ _ _ 6 (Str.ofString "a")).cps.toList = _
    rw [ha, write_cps up pc rev 6 0 (by decide), List.flatMap_def]
  have hch : ∀ c ∈ sh.map (rtok pc), Chunk c := fun c hc => by
    obtain ⟨t, ht, rfl⟩ := List.mem_map.mp hc
    exact rtok_chunk hp (S.tiny t ht)
  have hUL : (unitsOf x).map (·.cps.toList) = sh.flatMap (utok pc) := by
    unfold unitsOf
    rw [List.map_map]
    refine (strip_chunks hx hch).trans ?_
    rw [List.flatMap_map]; rfl
  have hunit : ∀ c ∈ sh.flatMap (utok pc), IsUnit c := fun c hc => by
    obtain ⟨t, ht, hc⟩ := List.mem_flatMap.mp hc
    exact utok_unit hp (S.tiny t ht) c hc
  have hlen : (unitsOf x).length ≤ 24 := by
    rw [us_len hUL]
    refine Nat.le_trans (flatMap_len_le (c := 1) fun t ht => (utok_small hp (S.tiny t ht)).1) ?_
    rw [Nat.one_mul]; exact S.len
  obtain ⟨he, hok⟩ := ends_go hp hUL hunit sh [] l S.tiny rfl S.ends
  have hends : endsOf (unitsOf x) = l.map (posP pc sh) := by rw [endsOf_eq]; exact he
  have hpl : x.length ≤ 6 * 24 := by
    have := write_len (up := up) (rev := rev) (n := 6) (k := 0) (fun k => (hp k).len) (by decide)
    rw [← ha] at this
    exact Nat.le_trans this (Nat.mul_le_mul_left 6 S.len)
  have o1 : ∀ p ∈ l, one1T sh p.2.1 := fun p hp' => .inl (hok p hp').op
  have o2 : ∀ p ∈ l, one1T sh p.2.2 := fun p hp' => .inr (hok p hp').cl
  have hmap : (ordL l).map (fun k => ((Ky.s (nm k), spL pc sh l k) : Ky × Int × Int)) = l.map fun p => (.s (nm p.1), posP pc sh p) := by
    rw [List.map_map]
    exact List.map_congr_left fun p hp' => by simp only [Function.comp, sp_at S hp']
  have hnames : (l.map fun p => Ky.s (nm p.1)) = (ordL l).map fun k => Ky.s (nm k) := by rw [List.map_map]; rfl
  have hfirsts : firsts (ordL l) (spL pc sh l) = l.map fun p => ((pos pc (sh.take p.2.1) : Nat) : Int) := by
    show (ordL l).map _ = _
    rw [List.map_map]
    exact List.map_congr_left fun p hp' => by simp only [Function.comp, sp_at S hp']; rfl
  have cL : ∀ i, one1T sh i → cntL (firsts (ordL l) (spL pc sh l)) ((pos pc (sh.take i) : Nat) : Int) = (cntLt l i : Nat) := fun i hi => by
    unfold cntL cntLt
    rw [hfirsts, List.filter_map, List.length_map]
    congr 2
    refine List.filter_congr fun p hp' => ?_
    have := @pos_lt_iff pc sh p.2.1 i (o1 p hp')
    simp only [Function.comp, decide_eq_decide, Int.ofNat_lt]
    exact this
  have cR : ∀ i, one1T sh i → cntR (firsts (ordL l) (spL pc sh l)) ((pos pc (sh.take i) : Nat) : Int) = (cntLe l i : Nat) := fun i hi => by
    unfold cntR cntLe
    rw [hfirsts, List.filter_map, List.length_map]
    congr 2
    refine List.filter_congr fun p hp' => ?_
    have := @pos_le_iff pc sh p.2.1 i hi
    simp only [Function.comp, decide_eq_decide, Int.ofNat_le]
    exact this
  have hc : ∀ c ∈ DD, ∃ p ∈ l, p.1 = c ∧ p.1 ≠ 0 := fun c hc => by
    obtain ⟨p, hp', e⟩ := List.mem_map.mp (S.perm.mem_iff.mpr (mem_DN hc))
    exact ⟨p, hp', e, by rw [e]; exact (DD_pos (mem_DN hc)).mp hc⟩
  have hget : ∀ p ∈ l, lowL l p.1 = cntLt l p.2.1 ∧ highL l p.1 = cntLt l p.2.2 := fun p hp' => by
    unfold lowL highL; rw [nget_self S.nodup p hp']; exact ⟨rfl, rfl⟩
  refine ⟨⟨?_, Nat.le_trans hpl (by decide), Nat.le_trans hlen (by decide), ?_, ?_, ?_, ?_, ?_, S.perm, ?_, ?_, ?_⟩, ⟨?_, ?_, ?_, ?_, ?_, ?_, ?_⟩⟩
  · rw [ha]; exact fits_shape hu (fun k => (hp k).len) 6 0 (by decide) (by decide) S.len
  · have e : (unitsOf x).map (·.length) = ((unitsOf x).map (·.cps.toList)).map (·.length) := by rw [List.map_map]; rfl
    show ((unitsOf x).map (·.length)).sum ≤ 900
    rw [e]
    refine Nat.le_trans (sum_le (c := 2) fun y hy => ?_) ?_
    · obtain ⟨u, hu', rfl⟩ := List.mem_map.mp hy
      rw [hUL] at hu'
      obtain ⟨t, ht, hu'⟩ := List.mem_flatMap.mp hu'
      exact (utok_small hp (S.tiny t ht)).2 u hu'
    · rw [List.length_map, List.length_map]; lia
  · show spansOf (unitsOf x) = _
    unfold spansOf
    rw [hends, List.map_map, hmap]
    have e : (l.map ((fun p : Int × Int => ((Ky.s (uAt (unitsOf x) (p.1 + 1)), p) : Ky × Int × Int)) ∘ posP pc sh)) = l.map fun p => (Ky.s (nm p.1), posP pc sh p) := List.map_congr_left fun p hp' => by
      simp only [Function.comp]
      rw [show uAt (unitsOf x) ((posP pc sh p).1 + 1) = nm p.1 from (hok p hp').at1]
    rw [e]
    refine acopy_nodup ?_
    rw [List.map_map]
    show (l.map fun p => Ky.s (nm p.1)).Nodup
    rw [hnames]
    exact keys_nodup S.nodup
  · show aroundOf (unitsOf x) = _
    unfold aroundOf
    rw [hends, List.map_map]
    have e : (l.map ((fun p : Int × Int => ((Ky.s (uAt (unitsOf x) (p.1 + 1)), ((l.map (posP pc sh)).filter fun k => decide (k.1 ≤ p.1) && decide (p.2 ≤ k.2)).map fun k => uAt (unitsOf x) (k.1 + 1)) : Ky × List Str)) ∘ posP pc sh)) = l.map fun p => (Ky.s (nm p.1), (ancU up p.1).map nm) := List.map_congr_left fun p hp' => by
      simp only [Function.comp]
      rw [show uAt (unitsOf x) ((posP pc sh p).1 + 1) = nm p.1 from (hok p hp').at1, ← S.around p hp', List.filter_map, List.map_map]
      unfold aroundI
      rw [List.map_map]
      congr 1
      have e2 : l.filter ((fun k : Int × Int => decide (k.1 ≤ (posP pc sh p).1) && decide ((posP pc sh p).2 ≤ k.2)) ∘ posP pc sh) = l.filter fun q => decide (q.2.1 ≤ p.2.1) && decide (p.2.2 ≤ q.2.2) := List.filter_congr fun q hq => by
        have h1 := @pos_le_iff pc sh q.2.1 p.2.1 (o1 p hp')
        have h2 := @pos_le_iff pc sh p.2.2 q.2.2 (o2 q hq)
        simp only [Function.comp]
        congr 1
        · rw [decide_eq_decide]; exact Int.ofNat_le.trans h1
        · rw [decide_eq_decide]; exact Int.ofNat_le.trans h2
      rw [e2]
      exact List.map_congr_left fun q hq => (hok q (List.mem_filter.mp hq).1).at1
    rw [e, acopy_nodup (by rw [List.map_map]; show (l.map fun p => Ky.s (nm p.1)).Nodup; rw [hnames]; exact keys_nodup S.nodup), List.map_map]
    rfl
  · show check x = true
    rw [check_chunks hx hch, List.flatMap_map]
    show checkU (sh.flatMap (utok pc)) ((0 : Nat) : Int) = true
    rw [dep_units hp sh 0 S.tiny]
    exact S.dep
  · have hx2 : (")" ++ x ++ "(" : Str).cps.toList = ([41] :: (sh.map (rtok pc) ++ [[40]])).flatten := by
      rw [cps_append, cps_append, hx, List.flatten_cons, List.flatten_append]; simp; rfl
    show check (")" ++ x ++ "(") = false
    rw [check_chunks hx2 ?_]
    · rfl
    · intro c hc
      rcases List.mem_cons.mp hc with rfl | hc
      · exact chunk_plain (plain1 (by decide) (by decide))
      · rcases List.mem_append.mp hc with hc | hc
        · exact hch c hc
        · rw [List.mem_singleton.mp hc]; exact chunk_plain (plain1 (by decide) (by decide))
  · intro k hk
    rw [DD_pos hk]
    by_cases h : k = 0
    · subst h
      exact ⟨fun h => absurd h (by show ¬ 1 < (ancF up 5 0).length; rw [ancF, if_pos rfl]; decide), fun h => absurd rfl h⟩
    · obtain ⟨q, e⟩ := @ancU_pos up k h
      rw [e]; simp [h]
  · intro k _; exact ancF_len up 5 k
  · intro k hk
    obtain ⟨q, e⟩ := @ancU_pos up k ((DD_pos (mem_DN hk)).mp hk)
    rw [e]
    simp
  · rw [hfirsts, List.pairwise_map]
    have : ∀ {l' : List (Nat × Nat × Nat)}, (∀ p ∈ l', one1T sh p.2.1) → l'.Pairwise (fun p q => p.2.1 < q.2.1) → l'.Pairwise fun p q => ((pos pc (sh.take p.2.1) : Nat) : Int) < ((pos pc (sh.take q.2.1) : Nat) : Int) := by
      intro l' h1 h2
      induction h2 with
      | nil => exact .nil
      | cons h _ ih => exact .cons (fun q hq => Int.ofNat_lt.mpr (pos_lt (h1 _ (.head _)) (h q hq))) (ih fun p hp' => h1 p (.tail _ hp'))
    exact this o1 S.inc
  · intro c hcD
    obtain ⟨p, hp', rfl, h0⟩ := hc c hcD
    rw [sp_at S hp', (hget p hp').1]; exact cL _ (o1 p hp')
  · intro c hcD
    obtain ⟨p, hp', rfl, h0⟩ := hc c hcD
    rw [sp_at S hp', (hget p hp').1]
    refine (cR _ (o1 p hp')).trans ?_
    rw [(S.cut p hp' h0).1]; rfl
  · intro c hcD
    obtain ⟨p, hp', rfl, h0⟩ := hc c hcD
    rw [sp_at S hp', (hget p hp').2]; exact cL _ (o2 p hp')
  · intro c hcD
    obtain ⟨p, hp', rfl, h0⟩ := hc c hcD
    rw [sp_at S hp', (hget p hp').2]
    refine (cR _ (o2 p hp')).trans ?_
    rw [(S.cut p hp' h0).2.1]
  · intro c hcD
    obtain ⟨p, hp', rfl, h0⟩ := hc c hcD
    rw [(hget p hp').1, (hget p hp').2]
    exact ⟨(S.cut p hp' h0).2.2.1, (S.cut p hp' h0).2.2.2.1⟩
  · intro c hcD
    obtain ⟨p, hp', rfl, h0⟩ := hc c hcD
    rw [(hget p hp').1, (hget p hp').2]
    exact (S.cut p hp' h0).2.2.2.2
end
end Mine
end

section
namespace Mine
open PySem
noncomputable def sm (l : List Nat) (f : Nat → Int) : Int := (l.map f).sum
section
variable {l m : List Nat} {f g : Nat → Int} {k : Int}
theorem sm_nil : sm [] f = 0 := rfl
theorem sm_cons {a : Nat} : sm (a :: l) f = f a + sm l f := by unfold sm; rw [List.map_cons, List.sum_cons]
theorem sm_congr (h : ∀ c ∈ l, f c = g c) : sm l f = sm l g := by unfold sm; rw [List.map_congr_left h]
theorem sm_add : sm l (fun c => f c + g c) = sm l f + sm l g := by
  induction l with
  | nil => rfl
  | cons a l ih => rw [sm_cons, sm_cons, sm_cons, ih]; lia
theorem sm_sub : sm l (fun c => f c - g c) = sm l f - sm l g := by
  induction l with
  | nil => rfl
  | cons a l ih => rw [sm_cons, sm_cons, sm_cons, ih]; lia
theorem sm_mul : sm l (fun c => k * f c) = k * sm l f := by
  induction l with
  | nil => simp [sm]
  | cons a l ih => rw [sm_cons, sm_cons, ih, Int.mul_add]
theorem sm_const : sm l (fun _ => k) = l.length * k := by
  induction l with
  | nil => simp [sm]
  | cons a l ih => rw [sm_cons, ih, List.length_cons, show ((l.length + 1 : Nat) : Int) = 1 + (l.length : Int) by lia, Int.add_mul, Int.one_mul]
theorem sm_zero : sm l (fun _ => 0) = 0 := by rw [sm_const]; simp
theorem sm_swap {f : Nat → Nat → Int} : sm l (fun a => sm m fun b => f a b) = sm m fun b => sm l fun a => f a b := by
  induction l with
  | nil => rw [sm_nil]; exact (sm_zero (l := m)).symm
  | cons a l ih =>
    rw [sm_cons, ih, ← sm_add]
    exact sm_congr fun b _ => (sm_cons (f := fun a => f a b)).symm
theorem sm_perm (h : l.Perm m) : sm l f = sm m f := by
  induction h with
  | nil => rfl
  | cons a _ ih => rw [sm_cons, sm_cons, ih]
  | swap a b l => rw [sm_cons, sm_cons, sm_cons, sm_cons]; lia
  | trans _ _ h1 h2 => exact h1.trans h2
theorem sm_filter {p : Nat → Bool} : sm (l.filter p) f = sm l fun c => if p c = true then f c else 0 := by
  induction l with
  | nil => rfl
  | cons a l ih =>
    rw [List.filter_cons, sm_cons]
    split
    · rw [sm_cons, ih]
    · rw [ih]; lia
theorem nodup_filter {p : Nat → Bool} (h : l.Nodup) : (l.filter p).Nodup := (List.filter_sublist ..).nodup h
theorem sm_in (hl : l.Nodup) (hm : m.Nodup) (h : ∀ c ∈ l, c ∈ m) : sm l f = sm m fun c => if c ∈ l then f c else 0 := by
  have hp : l.Perm (m.filter fun c => decide (c ∈ l)) := (List.perm_ext_iff_of_nodup hl (nodup_filter hm)).mpr fun a => by
    rw [List.mem_filter]
    exact ⟨fun ha => ⟨h a ha, decide_eq_true ha⟩, fun ha => of_decide_eq_true ha.2⟩
  rw [sm_perm hp, sm_filter]
  exact sm_congr fun c _ => by simp only [decide_eq_true_eq]
theorem sm_single {e : Nat} (h : e ∈ l) (hn : l.Nodup) : sm l (fun c => if c = e then k else 0) = k := by
  have := sm_in (l := [e]) (m := l) (f := fun _ => k) (by simp) hn (fun c hc => by rw [List.mem_singleton.mp hc]; exact h)
  simp only [List.mem_singleton] at this
  rw [← this]
  simp [sm]
end
noncomputable def edgeN (up : Nat → Nat) (x z : Nat) : Nat := if kid up x z then z else x
noncomputable def insB (up : Nat → Nat) (c w : Nat) : Bool := (ancU up w).elem c
noncomputable def nodupB : List Nat → Bool
  | [] => true
  | a :: l => !(l.elem a) && nodupB l
noncomputable def treeOk (up : Nat → Nat) : Bool :=
  (NN.all fun x => nodupB (ancU up x) && (ancU up x).all (fun z => NN.elem z) && insB up 0 x) && ((NN.map fun x => (nearN up x).length).sum == 10) &&
  (DD.all fun c => ((NN.filter fun x => insB up c x).map fun x => (nearN up x).length).sum + 1 == 2 * (NN.filter fun x => insB up c x).length) &&
  (NN.all fun x => (nearN up x).all fun z => DD.elem (edgeN up x z) && DD.all fun c => (insB up c z == insB up c x) == !(c == edgeN up x z)) &&
  (NN.all fun x => NN.all fun w => ((nearN up x).filter fun z => insB up (edgeN up x z) w == insB up (edgeN up x z) z).length == if w == x then 0 else 1)
theorem trees0 : ∀ a < 2, ∀ b < 3, ∀ c < 4, treeOk (upL a b c 0) = true := by decide +kernel
theorem trees1 : ∀ a < 2, ∀ b < 3, ∀ c < 4, treeOk (upL a b c 1) = true := by decide +kernel
theorem trees2 : ∀ a < 2, ∀ b < 3, ∀ c < 4, treeOk (upL a b c 2) = true := by decide +kernel
theorem trees3 : ∀ a < 2, ∀ b < 3, ∀ c < 4, treeOk (upL a b c 3) = true := by decide +kernel
theorem trees4 : ∀ a < 2, ∀ b < 3, ∀ c < 4, treeOk (upL a b c 4) = true := by decide +kernel
theorem trees_ok {a b c d : Nat} (ha : a < 2) (hb : b < 3) (hc : c < 4) (hd : d < 5) : treeOk (upL a b c d) = true := by
  have : d = 0 ∨ d = 1 ∨ d = 2 ∨ d = 3 ∨ d = 4 := by lia
  rcases this with rfl | rfl | rfl | rfl | rfl
  · exact trees0 a ha b hb c hc
  · exact trees1 a ha b hb c hc
  · exact trees2 a ha b hb c hc
  · exact trees3 a ha b hb c hc
  · exact trees4 a ha b hb c hc
structure Tree (up : Nat → Nat) : Prop where
  nd : ∀ x ∈ NN, (ancU up x).Nodup
  sub : ∀ x ∈ NN, ∀ z ∈ ancU up x, z ∈ NN
  zero : ∀ x ∈ NN, 0 ∈ ancU up x
  deg : sm NN (degN up) = 10
  wid : ∀ c ∈ DD, sm (NN.filter fun x => decide (c ∈ ancU up x)) (degN up) = 2 * ((NN.filter fun x => decide (c ∈ ancU up x)).length : Int) - 1
  edge : ∀ x ∈ NN, ∀ z ∈ nearN up x, edgeN up x z ∈ DD ∧ ∀ c ∈ DD, (decide (c ∈ ancU up z) = decide (c ∈ ancU up x)) ↔ c ≠ edgeN up x z
  cut : ∀ x ∈ NN, ∀ w ∈ NN, sm (nearN up x) (fun z => if decide (edgeN up x z ∈ ancU up w) = decide (edgeN up x z ∈ ancU up z) then 1 else 0) = if w = x then 0 else 1
theorem nodupB_nd : ∀ {l : List Nat}, nodupB l = true → l.Nodup
  | [], _ => .nil
  | a :: l, h => by
    unfold nodupB at h
    simp only [Bool.and_eq_true, Bool.not_eq_true', List.elem_eq_mem, decide_eq_false_iff_not] at h
    exact List.nodup_cons.mpr ⟨h.1, nodupB_nd h.2⟩
theorem insB_dec (up : Nat → Nat) (c w : Nat) : insB up c w = decide (c ∈ ancU up w) := by unfold insB; rw [List.elem_eq_mem]
theorem sm_nat {l : List Nat} {f : Nat → Nat} : sm l (fun x => (f x : Int)) = ((l.map f).sum : Nat) := by
  induction l with
  | nil => rfl
  | cons a l ih => rw [sm_cons, ih, List.map_cons, List.sum_cons]; lia
theorem tree_of {up : Nat → Nat} (h : treeOk up = true) : Tree up := by
  unfold treeOk at h
  simp only [Bool.and_eq_true, List.all_eq_true, beq_iff_eq, insB_dec, List.elem_eq_mem, decide_eq_true_eq] at h
  obtain ⟨⟨⟨⟨h1, h2⟩, h3⟩, h4⟩, h5⟩ := h
  refine ⟨fun x hx => nodupB_nd (h1 x hx).1.1, fun x hx => (h1 x hx).1.2, fun x hx => (h1 x hx).2, ?_, fun c hc => ?_, fun x hx z hz => ⟨(h4 x hx z hz).1, fun c hc => ?_⟩, fun x hx w hw => ?_⟩
  · have : sm NN (degN up) = _ := sm_nat (l := NN) (f := fun x => (nearN up x).length)
    rw [this, h2]; rfl
  · have : sm (NN.filter fun x => decide (c ∈ ancU up x)) (degN up) = _ := sm_nat (l := NN.filter fun x => decide (c ∈ ancU up x)) (f := fun x => (nearN up x).length)
    have h3 := h3 c hc
    rw [this]
    lia
  · have := (h4 x hx z hz).2 c hc
    by_cases e : c = edgeN up x z
    · rw [e] at this ⊢
      simp only [beq_self_eq_true, Bool.not_true, beq_eq_false_iff_ne] at this
      exact ⟨fun q => absurd q this, fun q => absurd rfl q⟩
    · have e' : (c == edgeN up x z) = false := beq_eq_false_iff_ne.mpr e
      rw [e'] at this
      simp only [Bool.not_false, beq_iff_eq] at this
      exact ⟨fun _ => e, fun _ => this⟩
  · have := h5 x hx w hw
    have e : sm (nearN up x) (fun z => if decide (edgeN up x z ∈ ancU up w) = decide (edgeN up x z ∈ ancU up z) then 1 else 0) = sm ((nearN up x).filter fun z => decide (edgeN up x z ∈ ancU up w) == decide (edgeN up x z ∈ ancU up z)) fun _ => 1 := by
      rw [sm_filter]
      exact sm_congr fun z _ => by simp only [beq_iff_eq]
    rw [e, sm_const, this]
    by_cases q : w = x
    · rw [if_pos q, if_pos q]; rfl
    · rw [if_neg q, if_neg q]; rfl
end Mine
end

section
namespace Mine
open PySem
section
variable {up : Nat → Nat} {tm : Nat → Int} {l : List (Nat × Nat × Nat)} {rev : Bool}
theorem int_take_sum {l : List Int} {a b : Nat} (h : a ≤ b) : (l.take b).sum - (l.take a).sum = ((l.take b).drop a).sum := by
  have h1 : l.take a = (l.take b).take a := by rw [List.take_take, Nat.min_eq_left h]
  have h2 := List.take_append_drop a (l.take b)
  have h3 : ((l.take b).take a).sum + ((l.take b).drop a).sum = (l.take b).sum := by rw [← List.sum_append, h2]
  rw [h1]; lia
theorem lsums_at {is : List Int} {k : Nat} (h : k ≤ is.length) : sAt (lsums is) k = (is.take k).sum := by
  unfold sAt lsums
  rw [List.getD_eq_getElem?_getD, List.getElem?_map]
  have e : (ri 0 (is.length + 1))[k]? = some (k : Int) := by
    unfold ri
    rw [List.getElem?_map, List.getElem?_range (by lia)]
    simp
  rw [e]
  show (lslice is none (some (k : Int)) none).sum = _
  rw [lslice_to]
theorem cut_sum {ord : List Nat} {anc : Nat → List Nat} {lo hi c : Nat} {f : Nat → Int} (hp : ord.Perm NN) (h : lo ≤ hi) (h6 : hi ≤ 6) (hs : (ord.take hi).drop lo = ord.filter fun x => decide (c ∈ anc x)) :
    sAt (lsums (ord.map f)) hi - sAt (lsums (ord.map f)) lo = sm (NN.filter fun x => decide (c ∈ anc x)) f := by
  have hl : (ord.map f).length = 6 := by rw [List.length_map]; exact hp.length_eq
  rw [lsums_at (by lia), lsums_at (by lia), int_take_sum h, ← List.map_take, ← List.map_drop, hs]
  exact sm_perm (hp.filter _)
theorem all_sum {ord : List Nat} {f : Nat → Int} (hp : ord.Perm NN) : sAt (lsums (ord.map f)) 6 = sm NN f := by
  have hl : (ord.map f).length = 6 := by rw [List.length_map]; exact hp.length_eq
  rw [lsums_at (by lia), List.take_of_length_le (by lia)]
  exact sm_perm hp
noncomputable def sideN (up : Nat → Nat) (g : Nat → Int) (x c : Nat) : Int := sm NN fun w => if decide (c ∈ ancU up w) = decide (c ∈ ancU up x) then g w else 0
noncomputable abbrev loadN (up : Nat → Nat) (tm : Nat → Int) (x : Nat) : Int := degN up x * tm x
structure Steps (up : Nat → Nat) (tm : Nat → Int) (ou inn : Nat → Stat) : Prop where
  byO : ∀ c, (ou c).by_ = [(.s (nm c), 1)]
  byI : ∀ c, (inn c).by_ = [(.s (nm c), 1)]
  cc : ∀ x ∈ NN, ∀ c ∈ DD, (mineN (ancU up) ou inn x c).cc = 1
  nc : ∀ x ∈ NN, ∀ c ∈ DD, (mineN (ancU up) ou inn x c).nc = sideN up (degN up) x c
  tt : ∀ x ∈ NN, ∀ c ∈ DD, (mineN (ancU up) ou inn x c).tt = sideN up (loadN up tm) x c
  ct : ∀ x ∈ NN, ∀ c ∈ DD, (mineN (ancU up) ou inn x c).ct = sideN up (fun _ => 1) x c
  nc2 : ∀ c ∈ DD, (ou c).nc + (inn c).nc = 10
theorem side_in {g : Nat → Int} {x c : Nat} (h : c ∈ ancU up x) : sideN up g x c = sm (NN.filter fun w => decide (c ∈ ancU up w)) g := by
  unfold sideN
  rw [sm_filter]
  refine sm_congr fun w _ => ?_
  rw [decide_eq_true h]
theorem side_out {g : Nat → Int} {x c : Nat} (h : c ∉ ancU up x) : sideN up g x c = sm NN g - sm (NN.filter fun w => decide (c ∈ ancU up w)) g := by
  unfold sideN
  rw [sm_filter, ← sm_sub]
  refine sm_congr fun w _ => ?_
  rw [decide_eq_false h]
  by_cases q : c ∈ ancU up w
  · rw [decide_eq_true q]; simp
  · rw [decide_eq_false q]; simp
theorem side_both {g : Nat → Int} {x y c : Nat} (h : decide (c ∈ ancU up x) ≠ decide (c ∈ ancU up y)) : sideN up g x c + sideN up g y c = sm NN g := by
  by_cases hx : c ∈ ancU up x
  · have hy : c ∉ ancU up y := fun q => h (by rw [decide_eq_true hx, decide_eq_true q])
    rw [side_in hx, side_out hy]; lia
  · have hy : c ∈ ancU up y := Classical.byContradiction fun q => h (by rw [decide_eq_false hx, decide_eq_false q])
    rw [side_out hx, side_in hy]; lia
set_option tactic.hygienic true in
theorem steps_of (S : Shape up rev l) (T : Tree up) : Steps up tm (ouStat (stepsN up (ordL l)) (loadsN up tm (ordL l)) (lowL l) (highL l)) (inStat (stepsN up (ordL l)) (loadsN up tm (ordL l)) (lowL l) (highL l)) := by
  have hc : ∀ c ∈ DD, lowL l c ≤ highL l c ∧ highL l c ≤ 6 ∧ ((ordL l).take (highL l c)).drop (lowL l c) = (ordL l).filter fun x => decide (c ∈ ancU up x) := fun c hc => by
    obtain ⟨p, hp', e⟩ := List.mem_map.mp (S.perm.mem_iff.mpr (mem_DN hc))
    have h0 : p.1 ≠ 0 := by rw [e]; exact (DD_pos (mem_DN hc)).mp hc
    (refine cps fun ZP zk => ?_; obtain ⟨q1, q2, q3, q4, q5⟩ := S.cut p hp' h0; refine zk ?_)
    have e1 : lowL l c = cntLt l p.2.1 := by unfold lowL; rw [← e, nget_self S.nodup p hp']; rfl
    have e2 : highL l c = cntLt l p.2.2 := by unfold highL; rw [← e, nget_self S.nodup p hp']; rfl
    rw [e1, e2, ← e]
    exact ⟨Nat.le_of_lt q3, q4, q5⟩
  have W : ∀ (f : Nat → Int), ∀ c ∈ DD, sAt (lsums ((ordL l).map f)) (highL l c) - sAt (lsums ((ordL l).map f)) (lowL l c) = sm (NN.filter fun x => decide (c ∈ ancU up x)) f := fun f c h =>
    cut_sum S.perm (hc c h).1 (hc c h).2.1 (hc c h).2.2
  have sz : ∀ c ∈ DD, (highL l c : Int) - lowL l c = sm (NN.filter fun x => decide (c ∈ ancU up x)) fun _ => 1 := fun c h => by
    obtain ⟨h1, h2, h3⟩ := hc c h
    have hl : (ordL l).length = 6 := S.perm.length_eq
    have := congrArg List.length h3
    rw [List.length_drop, List.length_take, (S.perm.filter _).length_eq] at this
    rw [sm_const, ← this]
    lia
  have a6 : ∀ (f : Nat → Int), sAt (lsums ((ordL l).map f)) 6 = sm NN f := fun f => all_sum S.perm
  have n6 : sm NN (fun _ => 1) = 6 := by decide
  refine ⟨fun c => rfl, fun c => rfl, fun x hx c hc => ?_, fun x hx c hc => ?_, fun x hx c hc => ?_, fun x hx c hc => ?_, fun c hc => ?_⟩
  · unfold mineN; split <;> rfl
  · unfold mineN
    split
    · rename_i h; rw [side_in h]; exact W _ c hc
    · rename_i h; rw [side_out h, ← a6, ← W _ c hc]; rfl
  · unfold mineN
    split
    · rename_i h; rw [side_in h]; exact W _ c hc
    · rename_i h; rw [side_out h, ← a6, ← W _ c hc]; rfl
  · unfold mineN
    split
    · rename_i h; rw [side_in h, ← sz c hc]; rfl
    · rename_i h; rw [side_out h, ← sz c hc, n6]
      show (6 - (highL l c : Int) + lowL l c) = _
      lia
  · have e : (inStat (stepsN up (ordL l)) (loadsN up tm (ordL l)) (lowL l) (highL l) c).nc = sAt (stepsN up (ordL l)) 6 - (ouStat (stepsN up (ordL l)) (loadsN up tm (ordL l)) (lowL l) (highL l) c).nc := rfl
    have := a6 (degN up)
    rw [e, show sAt (stepsN up (ordL l)) 6 = 10 from this.trans T.deg]
    lia
end
end Mine
end

section
namespace Mine
open PySem
section
variable {up : Nat → Nat} {tm : Nat → Int} {ou inn : Nat → Stat}
noncomputable abbrev apartB (up : Nat → Nat) (x y c : Nat) : Prop := decide (c ∈ ancU up x) ≠ decide (c ∈ ancU up y)
structure Fld (φ : Stat → Int) : Prop where
  zero : φ Stat.zero = 0
  add : ∀ b s, φ (Stat.add b s) = φ s + φ b
theorem fld_cc : Fld Stat.cc := ⟨rfl, fun _ _ => rfl⟩
theorem fld_nc : Fld Stat.nc := ⟨rfl, fun _ _ => rfl⟩
theorem fld_tt : Fld Stat.tt := ⟨rfl, fun _ _ => rfl⟩
theorem fld_ct : Fld Stat.ct := ⟨rfl, fun _ _ => rfl⟩
theorem fld_fold {φ : Stat → Int} (H : Fld φ) {f : Nat → Stat} : ∀ (l : List Nat) (b : Stat), φ (l.foldl (fun b c => b.add (f c)) b) = φ b + sm l fun c => φ (f c)
  | [], b => by simp [sm]
  | c :: l, b => by rw [List.foldl_cons, fld_fold H l, H.add, sm_cons]; lia
theorem mem_out {x y z : Nat} : z ∈ outN (ancU up) x y ↔ z ∈ ancU up x ∧ z ∉ ancU up y := by
  unfold outN
  rw [List.mem_filter, List.mem_reverse, decide_eq_true_eq]
theorem mem_inn {x y z : Nat} : z ∈ inN (ancU up) x y ↔ z ∈ ancU up y ∧ z ∉ ancU up x := by
  unfold inN
  rw [List.mem_filter, decide_eq_true_eq]
variable (T : Tree up)
include T in
theorem anc_DD {x y z : Nat} (hx : x ∈ NN) (hy : y ∈ NN) (h : z ∈ ancU up x) (h' : z ∉ ancU up y) : z ∈ DD :=
  (DD_pos (T.sub x hx z h)).mpr fun e => h' (e ▸ T.zero y hy)
include T in
theorem out_nodup {x y : Nat} (hx : x ∈ NN) : (outN (ancU up) x y).Nodup := nodup_filter (List.pairwise_reverse.mpr ((T.nd x hx).imp fun h => h.symm))
include T in
theorem inn_nodup {x y : Nat} (hy : y ∈ NN) : (inN (ancU up) x y).Nodup := nodup_filter (T.nd y hy)
include T in
theorem way_fld {φ : Stat → Int} (H : Fld φ) {x y : Nat} (hx : x ∈ NN) (hy : y ∈ NN) : φ (wayN (ancU up) ou inn x y) = sm DD fun c => if apartB up x y c then φ (mineN (ancU up) ou inn x c) else 0 := by
  unfold wayN
  rw [fld_fold H, fld_fold H, H.zero, sm_in (out_nodup T hx) DD_nodup fun c hc => anc_DD T hx hy (mem_out.mp hc).1 (mem_out.mp hc).2, sm_in (inn_nodup T hy) DD_nodup fun c hc => anc_DD T hy hx (mem_inn.mp hc).1 (mem_inn.mp hc).2, Int.zero_add, ← sm_add]
  refine sm_congr fun c _ => ?_
  simp only [mem_out, mem_inn]
  unfold mineN
  by_cases h1 : c ∈ ancU up x <;> by_cases h2 : c ∈ ancU up y <;> simp [h1, h2]
variable (S : Steps up tm ou inn)
include T S in
theorem way_side {φ : Stat → Int} (H : Fld φ) {g : Nat → Int} (hg : ∀ x ∈ NN, ∀ c ∈ DD, φ (mineN (ancU up) ou inn x c) = sideN up g x c) {x y : Nat} (hx : x ∈ NN) (hy : y ∈ NN) : φ (wayN (ancU up) ou inn x y) = sm DD fun c => if apartB up x y c then sideN up g x c else 0 := by
  rw [way_fld T H hx hy]
  exact sm_congr fun c hc => by rw [hg x hx c hc]
theorem far_sum {x y : Nat} : farN (ancU up) x y = sm DD fun c => if apartB up x y c then 1 else 0 := by
  unfold farN apartN
  have : ((DD.filter fun c => decide (c ∈ ancU up x) != decide (c ∈ ancU up y)).length : Int) = sm (DD.filter fun c => decide (c ∈ ancU up x) != decide (c ∈ ancU up y)) fun _ => 1 := by rw [sm_const]; lia
  rw [this, sm_filter]
  exact sm_congr fun c _ => by simp only [bne_iff_ne]
include T S in
theorem way_cc {x y : Nat} (hx : x ∈ NN) (hy : y ∈ NN) : (wayN (ancU up) ou inn x y).cc = farN (ancU up) x y := by
  have := way_fld (ou := ou) (inn := inn) T fld_cc hx hy
  rw [this, far_sum]
  exact sm_congr fun c hc => by rw [S.cc x hx c hc]
theorem near_sym {x z : Nat} (hx : x ∈ NN) (h : z ∈ nearN up x) : x ∈ nearN up z ∧ z ∈ NN := by
  unfold nearN at h ⊢
  obtain ⟨h1, h2⟩ := List.mem_filter.mp h
  exact ⟨List.mem_filter.mpr ⟨hx, by rw [Bool.or_comm]; exact h2⟩, h1⟩
include T S in
theorem way_walk {φ : Stat → Int} (H : Fld φ) {g : Nat → Int} (hg : ∀ x ∈ NN, ∀ c ∈ DD, φ (mineN (ancU up) ou inn x c) = sideN up g x c) {x y : Nat} (hx : x ∈ NN) (hy : y ∈ NN) (hxy : x ≠ y) :
    degN up x * φ (wayN (ancU up) ou inn x y) = g x + sm (nearN up x) fun z => φ (wayN (ancU up) ou inn z y) := by
  have step : ∀ z ∈ nearN up x, φ (wayN (ancU up) ou inn z y) = φ (wayN (ancU up) ou inn x y) - sm NN g * (if decide (edgeN up x z ∈ ancU up y) = decide (edgeN up x z ∈ ancU up z) then 1 else 0) + sideN up g z (edgeN up x z) := fun z hz => by
    have hz' := (near_sym hx hz).2
    obtain ⟨he, hc⟩ := T.edge x hx z hz
    have hne : decide (edgeN up x z ∈ ancU up z) ≠ decide (edgeN up x z ∈ ancU up x) := fun q => (hc _ he).mp q rfl
    have hT := side_both (g := g) hne
    rw [way_side T S H hg hz' hy, way_side T S H hg hx hy]
    have : (sm DD fun c => if apartB up z y c then sideN up g z c else 0) - (sm DD fun c => if apartB up x y c then sideN up g x c else 0) = sm DD fun c => if c = edgeN up x z then (sideN up g z (edgeN up x z) - sm NN g * (if decide (edgeN up x z ∈ ancU up y) = decide (edgeN up x z ∈ ancU up z) then 1 else 0)) else 0 := by
      rw [← sm_sub]
      refine sm_congr fun c hcD => ?_
      by_cases e : c = edgeN up x z
      · rw [if_pos e, e]
        unfold apartB
        by_cases q : decide (edgeN up x z ∈ ancU up y) = decide (edgeN up x z ∈ ancU up z)
        · rw [if_pos q, if_neg (by rw [q]; simp), if_pos (by rw [q]; exact fun h => hne h.symm)]
          lia
        · have q2 : decide (edgeN up x z ∈ ancU up y) = decide (edgeN up x z ∈ ancU up x) := by
            revert q hne
            cases decide (edgeN up x z ∈ ancU up y) <;> cases decide (edgeN up x z ∈ ancU up x) <;> cases decide (edgeN up x z ∈ ancU up z) <;> simp
          rw [if_neg q, if_pos (fun h => q h.symm), if_neg (by rw [q2]; simp)]
          lia
      · rw [if_neg e]
        have h := (hc c hcD).mpr e
        have hs : sideN up g z c = sideN up g x c := by unfold sideN; rw [h]
        unfold apartB
        rw [h, hs]; lia
    rw [sm_single he DD_nodup] at this
    lia
  have hsum : sm (nearN up x) (fun z => φ (wayN (ancU up) ou inn z y)) = degN up x * φ (wayN (ancU up) ou inn x y) - sm NN g + (sm NN g - g x) := by
    rw [sm_congr step, sm_add, sm_sub, sm_const, sm_mul, T.cut x hx y hy, if_neg fun e => hxy e.symm, Int.mul_one]
    congr 1
    have e1 : (sm (nearN up x) fun z => sideN up g z (edgeN up x z)) = sm NN fun w => sm (nearN up x) fun z => if decide (edgeN up x z ∈ ancU up w) = decide (edgeN up x z ∈ ancU up z) then g w else 0 := sm_swap
    have e2 : ∀ w ∈ NN, (sm (nearN up x) fun z => if decide (edgeN up x z ∈ ancU up w) = decide (edgeN up x z ∈ ancU up z) then g w else 0) = g w - if w = x then g x else 0 := fun w hw => by
      have : (sm (nearN up x) fun z => if decide (edgeN up x z ∈ ancU up w) = decide (edgeN up x z ∈ ancU up z) then g w else 0) = g w * sm (nearN up x) fun z => if decide (edgeN up x z ∈ ancU up w) = decide (edgeN up x z ∈ ancU up z) then 1 else 0 := by
        rw [← sm_mul]
        exact sm_congr fun z _ => by split <;> simp
      rw [this, T.cut x hx w hw]
      by_cases q : w = x
      · rw [if_pos q, if_pos q, q]; simp
      · rw [if_neg q, if_neg q]; simp
    rw [e1, sm_congr e2, sm_sub, sm_single hx NN_nodup]
  rw [hsum]; lia
include T S in
theorem way_self {φ : Stat → Int} (H : Fld φ) {x : Nat} (hx : x ∈ NN) : φ (wayN (ancU up) ou inn x x) = 0 := by
  rw [way_fld T H hx hx]
  have : ∀ c ∈ DD, (if apartB up x x c then φ (mineN (ancU up) ou inn x c) else 0) = 0 := fun c _ => if_neg fun h => h rfl
  rw [sm_congr this, sm_zero]
include T S in
theorem way_both {φ : Stat → Int} (H : Fld φ) {k : Int} {x y : Nat} (hx : x ∈ NN) (hy : y ∈ NN) (hk : ∀ c ∈ DD, apartB up x y c → φ (mineN (ancU up) ou inn x c) + φ (mineN (ancU up) ou inn y c) = k) : φ ((wayN (ancU up) ou inn x y).add (wayN (ancU up) ou inn y x)) = k * farN (ancU up) x y := by
  rw [H.add, way_fld T H hx hy, way_fld T H hy hx, ← sm_add, far_sum, ← sm_mul]
  refine sm_congr fun c hc => ?_
  have e : apartB up y x c ↔ apartB up x y c := ⟨fun h q => h q.symm, fun h q => h q.symm⟩
  by_cases q : apartB up x y c
  · rw [if_pos q, if_pos q, if_pos (e.mpr q), ← hk c hc q]; lia
  · rw [if_neg q, if_neg q, if_neg fun h => q (e.mp h)]; lia
theorem goal_sum {x c : Nat} (T : Tree up) : (sm NN fun y => if apartB up x y c then degN up y else 0) = 10 - sideN up (degN up) x c := by
  unfold sideN
  rw [← T.deg, ← sm_sub]
  refine sm_congr fun y _ => ?_
  unfold apartB
  by_cases h : decide (c ∈ ancU up y) = decide (c ∈ ancU up x)
  · rw [if_pos h, if_neg fun q => q h.symm]; lia
  · rw [if_neg h, if_pos fun q => h q.symm]; lia
include T S in
theorem tot_fld {φ : Stat → Int} (H : Fld φ) {x : Nat} (hx : x ∈ NN) (hφ : ∀ y ∈ NN, φ (partN up (ancU up) ou inn x y) = degN up y * sm DD fun c => if apartB up x y c then φ (mineN (ancU up) ou inn x c) else 0) :
    φ (totN up (ancU up) ou inn x) = sm DD fun c => φ (mineN (ancU up) ou inn x c) * goalN (ancU up) ou inn x c := by
  unfold totN
  rw [fld_fold H, H.zero, Int.zero_add]
  have e : ∀ y ∈ NN, φ (partN up (ancU up) ou inn x y) = sm DD fun c => φ (mineN (ancU up) ou inn x c) * if apartB up x y c then degN up y else 0 := fun y hy => by
    rw [hφ y hy, ← sm_mul]
    refine sm_congr fun c _ => ?_
    split
    · exact Int.mul_comm ..
    · simp
  rw [sm_congr e, sm_swap]
  refine sm_congr fun c hc => ?_
  rw [sm_mul, goal_sum T]
  unfold goalN
  rw [S.nc x hx c hc]
end
end Mine
end

section
namespace Mine
open PySem
noncomputable def kd (l : List Nat) (v : Nat → Int) : List (Ky × Int) := l.map fun c => (.s (nm c), v c)
section
variable {l s : List Nat} {v w : Nat → Int} {c0 : Nat} {a : Int}
theorem kd_congr (h : ∀ c ∈ l, v c = w c) : kd l v = kd l w := List.map_congr_left fun c hc => by rw [h c hc]
theorem kd_keys : (kd l v).map (·.1) = l.map fun c => Ky.s (nm c) := by unfold kd; rw [List.map_map]; rfl
theorem kd_mem : Ky.s (nm c0) ∈ (kd l v).map (·.1) ↔ c0 ∈ l := by
  rw [kd_keys, List.mem_map]
  exact ⟨fun ⟨c, hc, e⟩ => nm_inj (Ky.s.inj e) ▸ hc, fun h => ⟨c0, h, rfl⟩⟩
theorem kd_get : aget (.s (nm c0)) (kd l v) = if c0 ∈ l then some (v c0) else none := by
  induction l with
  | nil => rfl
  | cons c l ih =>
    show aget _ ((.s (nm c), v c) :: kd l v) = _
    unfold aget
    by_cases h : c = c0
    · rw [if_pos (by rw [h]), if_pos (by rw [h]; exact .head _), h]
    · rw [if_neg (fun e => h (nm_inj (Ky.s.inj e))), ih]
      have : c0 ∈ c :: l ↔ c0 ∈ l := by simp [Ne.symm h]
      simp only [this]
theorem kd_put : aput (kd l v) (.s (nm c0)) a = kd (if c0 ∈ l then l else l ++ [c0]) fun c => if c = c0 then a else v c := by
  unfold aput
  by_cases h : c0 ∈ l
  · rw [if_pos (kd_mem.mpr h), if_pos h]
    unfold kd
    rw [List.map_map]
    refine List.map_congr_left fun c hc => ?_
    simp only [Function.comp]
    by_cases e : c = c0
    · rw [if_pos (by rw [e]), if_pos e]
    · rw [if_neg (fun q => e (nm_inj (Ky.s.inj q))), if_neg e]
  · rw [if_neg (fun q => h (kd_mem.mp q)), if_neg h]
    unfold kd
    rw [List.map_append]
    congr 1
    · refine List.map_congr_left fun c hc => ?_
      show _ = (Ky.s (nm c), if c = c0 then a else v c)
      rw [if_neg (fun e : c = c0 => h (e ▸ hc))]
    · simp
theorem kd_merge : ∀ (s l : List Nat) (v : Nat → Int), s.Nodup → (∀ c, c ∉ l → v c = 0) → (kd s w).foldl (fun q p => aput q p.1 (comb (· + ·) (aget p.1 q) p.2)) (kd l v) = kd (l ++ s.filter fun c => decide (c ∉ l)) fun c => v c + if c ∈ s then w c else 0
  | [], l, v, _, _ => by
    show kd l v = _
    rw [List.filter_nil, List.append_nil]
    exact kd_congr fun c _ => by simp
  | c0 :: s, l, v, hs, hv => by
    rw [List.nodup_cons] at hs
    show (kd s w).foldl _ (aput (kd l v) (.s (nm c0)) (comb (· + ·) (aget (.s (nm c0)) (kd l v)) (w c0))) = _
    have e : comb (· + ·) (aget (.s (nm c0)) (kd l v)) (w c0) = v c0 + w c0 := by
      rw [kd_get]
      by_cases h : c0 ∈ l
      · rw [if_pos h]; rfl
      · rw [if_neg h, hv c0 h]; show w c0 = _; lia
    rw [e, kd_put, kd_merge s _ _ hs.2 fun c hc => ?_]
    · have el : (if c0 ∈ l then l else l ++ [c0]) ++ s.filter (fun c => decide (c ∉ if c0 ∈ l then l else l ++ [c0])) = l ++ (c0 :: s).filter fun c => decide (c ∉ l) := by
        by_cases h : c0 ∈ l
        · rw [if_pos h, List.filter_cons, if_neg (by simpa using h)]
        · rw [if_neg h, List.filter_cons, if_pos (by simpa using h), List.append_assoc, List.singleton_append]
          congr 2
          refine List.filter_congr fun c hc => ?_
          have : c ≠ c0 := fun e => hs.1 (e ▸ hc)
          simp [this]
      rw [el]
      refine kd_congr fun c _ => ?_
      by_cases q : c = c0
      · subst q; simp [hs.1]
      · simp [q]
    · by_cases h : c0 ∈ l
      · rw [if_pos h] at hc
        rw [if_neg (fun e : c = c0 => hc (e ▸ h)), hv c hc]
      · rw [if_neg h, List.mem_append, not_or] at hc
        rw [if_neg (by simpa using hc.2), hv c hc.1]
theorem kd_nodup (h : l.Nodup) : acopy (kd l v) = kd l v := acopy_nodup (by rw [kd_keys]; exact keys_nodup h)
theorem kd_amerge (hl : l.Nodup) (hs : s.Nodup) (hv : ∀ c, c ∉ l → v c = 0) : amerge (· + ·) (kd l v) (kd s w) = kd (l ++ s.filter fun c => decide (c ∉ l)) fun c => v c + if c ∈ s then w c else 0 := by
  unfold amerge
  rw [kd_nodup hl]
  exact kd_merge s l v hs hv
theorem kd_deq {m : List Nat} (hl : l.length = m.length) (h : ∀ c ∈ l, c ∈ m ∧ v c = w c) : deqD ((kd l v).map (·.1)) ((kd l v).map fun p => .int p.2) (m.map fun c => .s (nm c)) (m.map fun c => .int (w c)) = some true := by
  have := deqD_ndict (φ := D.int) (ψ := D.int) (l := l.map fun c => (c, v c)) (l' := m.map fun c => (c, w c)) (by rw [List.length_map, List.length_map, hl]) fun p hp => by
    obtain ⟨c, hc, rfl⟩ := List.mem_map.mp hp
    exact ⟨w c, nget_map (h c hc).1, by rw [(h c hc).2]; exact deq_int ..⟩
  unfold kd
  rw [List.map_map, List.map_map] at this ⊢
  rw [List.map_map, List.map_map] at this
  exact this
theorem kd_sum : ((kd l v).map (·.2)).sum = sm l v := by unfold kd sm; rw [List.map_map]; rfl
end
section
variable {up : Nat → Nat} {tm : Nat → Int} {ou inn : Nat → Stat} (T : Tree up) (S : Steps up tm ou inn)
noncomputable abbrev stepsL (up : Nat → Nat) (x y : Nat) : List Nat := outN (ancU up) x y ++ inN (ancU up) x y
theorem mem_steps {x y c : Nat} : c ∈ stepsL up x y ↔ apartB up x y c := by
  unfold stepsL apartB
  rw [List.mem_append, mem_out, mem_inn]
  by_cases h1 : c ∈ ancU up x <;> by_cases h2 : c ∈ ancU up y <;> simp [h1, h2]
include T in
theorem steps_nodup {x y : Nat} (hx : x ∈ NN) (hy : y ∈ NN) : (stepsL up x y).Nodup := by
  unfold stepsL
  rw [List.nodup_append]
  exact ⟨out_nodup T hx, inn_nodup T hy, fun a ha b hb e => (mem_inn.mp hb).2 (e ▸ (mem_out.mp ha).1)⟩
theorem by_fold {f : Nat → Stat} (hf : ∀ c, (f c).by_ = [(.s (nm c), 1)]) : ∀ (p l : List Nat) (b : Stat), (l ++ p).Nodup → b.by_ = kd l (fun c => if c ∈ l then 1 else 0) → (p.foldl (fun b c => b.add (f c)) b).by_ = kd (l ++ p) fun c => if c ∈ l ++ p then 1 else 0
  | [], l, b, _, h => by rw [List.append_nil]; exact h
  | c :: p, l, b, hn, h => by
    rw [List.foldl_cons, by_fold hf p (l ++ [c]) (b.add (f c)) (by rw [List.append_assoc]; exact hn) ?_, List.append_assoc]
    · rfl
    · have hc : c ∉ l := fun q => (List.nodup_append.mp hn).2.2 c q c (.head _) rfl
      have e : (f c).by_ = kd [c] fun _ => 1 := hf c
      show amerge (· + ·) b.by_ (f c).by_ = _
      rw [h, e, kd_amerge (List.nodup_append.mp hn).1 (by simp) fun c hc => if_neg hc]
      have : ([c].filter fun d => decide (d ∉ l)) = [c] := by rw [List.filter_cons, if_pos (by simpa using hc)]; rfl
      rw [this]
      refine kd_congr fun d hd => ?_
      rcases List.mem_append.mp hd with q | q
      · have : d ≠ c := fun e => hc (e ▸ q)
        simp [q, this]
      · obtain rfl := List.mem_singleton.mp q
        simp [hc]
include T S in
theorem way_by {x y : Nat} (hx : x ∈ NN) (hy : y ∈ NN) : (wayN (ancU up) ou inn x y).by_ = kd (stepsL up x y) fun _ => 1 := by
  have hn := steps_nodup T hx hy
  unfold wayN
  have h1 := by_fold S.byO (outN (ancU up) x y) [] Stat.zero (by simpa using (List.nodup_append.mp hn).1) rfl
  have h2 := by_fold S.byI (inN (ancU up) x y) (outN (ancU up) x y) _ hn h1
  rw [h2]
  exact kd_congr fun c hc => if_pos hc
include T in
theorem steps_apart {x y : Nat} (hx : x ∈ NN) (hy : y ∈ NN) : (stepsL up x y).Perm (apartN (ancU up) x y) := by
  refine (List.perm_ext_iff_of_nodup (steps_nodup T hx hy) (nodup_filter DD_nodup)).mpr fun c => ?_
  rw [mem_steps, List.mem_filter, bne_iff_ne]
  refine ⟨fun h => ⟨?_, h⟩, fun h => h.2⟩
  rcases List.mem_append.mp (mem_steps.mpr h) with q | q
  · exact anc_DD T hx hy (mem_out.mp q).1 (mem_out.mp q).2
  · exact anc_DD T hy hx (mem_inn.mp q).1 (mem_inn.mp q).2
theorem apart_symm {x y c : Nat} : apartB up y x c ↔ apartB up x y c := ⟨fun h q => h q.symm, fun h q => h q.symm⟩
include T S in
theorem both_by {x y : Nat} (hx : x ∈ NN) (hy : y ∈ NN) : ((wayN (ancU up) ou inn x y).add (wayN (ancU up) ou inn y x)).by_ = kd (stepsL up x y) fun _ => 2 := by
  show amerge (· + ·) (wayN (ancU up) ou inn x y).by_ (wayN (ancU up) ou inn y x).by_ = _
  rw [way_by T S hx hy, way_by T S hy hx, kd_congr (l := stepsL up x y) (v := fun _ => (1 : Int)) (w := fun c => if c ∈ stepsL up x y then 1 else 0) fun c hc => (if_pos hc).symm]
  rw [kd_amerge (steps_nodup T hx hy) (steps_nodup T hy hx) fun c hc => if_neg hc]
  have : ((stepsL up y x).filter fun c => decide (c ∉ stepsL up x y)) = [] := by
    rw [List.filter_eq_nil_iff]
    intro c hc
    rw [decide_eq_true_eq]
    exact fun q => q (mem_steps.mpr (apart_symm.mp (mem_steps.mp hc)))
  rw [this, List.append_nil]
  refine kd_congr fun c hc => ?_
  rw [if_pos hc, if_pos (mem_steps.mpr (apart_symm.mpr (mem_steps.mp hc)))]; rfl
include T S in
theorem part_by {x y : Nat} (hx : x ∈ NN) (hy : y ∈ NN) : (partN up (ancU up) ou inn x y).by_ = kd (stepsL up x y) fun _ => degN up y := by
  show acopy ((wayN (ancU up) ou inn x y).by_.map fun p => (p.1, degN up y)) = _
  rw [way_by T S hx hy]
  have : ((kd (stepsL up x y) fun _ => 1).map fun p => (p.1, degN up y)) = kd (stepsL up x y) fun _ => degN up y := by unfold kd; rw [List.map_map]; rfl
  rw [this, kd_nodup (steps_nodup T hx hy)]
include T S in
theorem tot_by_go {x : Nat} (hx : x ∈ NN) : ∀ (ys l : List Nat) (v : Nat → Int) (b : Stat), (∀ y ∈ ys, y ∈ NN) → b.by_ = kd l v → l.Nodup → (∀ c, c ∉ l → v c = 0) →
    ∃ l', l'.Nodup ∧ (∀ c, c ∈ l' ↔ c ∈ l ∨ ∃ y ∈ ys, apartB up x y c) ∧ (ys.foldl (fun t y => t.add (partN up (ancU up) ou inn x y)) b).by_ = kd l' fun c => v c + sm ys fun y => if apartB up x y c then degN up y else 0
  | [], l, v, b, _, hb, hl, hv => ⟨l, hl, fun c => by simp, by rw [List.foldl_nil, hb]; exact kd_congr fun c _ => by rw [sm_nil]; lia⟩
  | y :: ys, l, v, b, hy, hb, hl, hv => by
    have hyN := hy y (.head _)
    have hn := steps_nodup T hx hyN
    have e : (b.add (partN up (ancU up) ou inn x y)).by_ = kd (l ++ (stepsL up x y).filter fun c => decide (c ∉ l)) fun c => v c + if c ∈ stepsL up x y then degN up y else 0 := by
      show amerge (· + ·) b.by_ (partN up (ancU up) ou inn x y).by_ = _
      rw [hb, part_by T S hx hyN, kd_amerge hl hn hv]
    have hmem : ∀ c, c ∈ l ++ (stepsL up x y).filter (fun c => decide (c ∉ l)) ↔ c ∈ l ∨ c ∈ stepsL up x y := fun c => by
      rw [List.mem_append, List.mem_filter, decide_eq_true_eq]
      by_cases h : c ∈ l <;> simp [h]
    obtain ⟨l', h1, h2, h3⟩ := tot_by_go hx ys _ _ _ (fun z hz => hy z (.tail _ hz)) e (by
      rw [List.nodup_append]
      refine ⟨hl, nodup_filter hn, fun a ha b hb e => ?_⟩
      have := of_decide_eq_true (List.mem_filter.mp hb).2
      exact this (e ▸ ha)) fun c hc => by
        rw [hmem, not_or] at hc
        rw [hv c hc.1, if_neg hc.2]; rfl
    refine ⟨l', h1, fun c => ?_, ?_⟩
    · rw [h2, hmem, mem_steps]
      simp [or_assoc]
    · rw [List.foldl_cons, h3]
      refine kd_congr fun c _ => ?_
      rw [sm_cons]
      have : (if c ∈ stepsL up x y then degN up y else 0) = if apartB up x y c then degN up y else 0 := ite_congr (propext mem_steps) (fun _ => rfl) (fun _ => rfl)
      rw [this]; lia
include T S in
theorem tot_by {x : Nat} (hx : x ∈ NN) : ∃ l, l.Perm DD ∧ (totN up (ancU up) ou inn x).by_ = kd l fun c => 10 - sideN up (degN up) x c := by
  obtain ⟨l, h1, h2, h3⟩ := tot_by_go T S hx NN [] (fun _ => 0) Stat.zero (fun y h => h) rfl (by simp) fun c _ => rfl
  refine ⟨l, (List.perm_ext_iff_of_nodup h1 DD_nodup).mpr fun c => ?_, ?_⟩
  · rw [h2]
    constructor
    · rintro (h | ⟨y, hy, h⟩)
      · exact nomatch h
      · exact (List.mem_filter.mp ((steps_apart T hx hy).mem_iff.mp (mem_steps.mpr h))).1
    · intro hc
      right
      by_cases q : c ∈ ancU up x
      · refine ⟨0, by decide, ?_⟩
        have : c ∉ ancU up 0 := by
          have e : ancU up 0 = [0] := by unfold ancU; rw [ancF, if_pos rfl]
          rw [e, List.mem_singleton]
          exact (DD_pos (mem_DN hc)).mp hc
        unfold apartB
        rw [decide_eq_true q, decide_eq_false this]; decide
      · refine ⟨c, mem_DN hc, ?_⟩
        have : c ∈ ancU up c := by
          obtain ⟨r, e⟩ := ancF_last up 5 c
          unfold ancU; rw [e]; simp
        unfold apartB
        rw [decide_eq_false q, decide_eq_true this]; decide
  · show (NN.foldl _ Stat.zero).by_ = _
    rw [h3]
    exact kd_congr fun c _ => by rw [goal_sum T]; lia
end
end Mine
end

section
namespace Mine
open PySem
section
variable {up : Nat → Nat} {tm : Nat → Int} {ou inn : Nat → Stat} (T : Tree up) (S : Steps up tm ou inn)
theorem anc_self (up : Nat → Nat) (c : Nat) : c ∈ ancU up c := by
  obtain ⟨r, e⟩ := ancF_last up 5 c
  unfold ancU; rw [e]; simp
theorem anc_root {c : Nat} (hc : c ∈ DD) : c ∉ ancU up 0 := by
  have e : ancU up 0 = [0] := by unfold ancU; rw [ancF, if_pos rfl]
  rw [e, List.mem_singleton]
  exact (DD_pos (mem_DN hc)).mp hc
theorem sm_nonneg {l : List Nat} {f : Nat → Int} (h : ∀ c ∈ l, 0 ≤ f c) : 0 ≤ sm l f := by
  induction l with
  | nil => exact Int.le_refl _
  | cons a l ih =>
    rw [sm_cons]
    have := h a (.head _)
    have := ih fun c hc => h c (.tail _ hc)
    lia
theorem side_nonneg {x c : Nat} : 0 ≤ sideN up (degN up) x c := by
  unfold sideN
  refine sm_nonneg fun w _ => ?_
  split
  · unfold degN; lia
  · exact Int.le_refl _
include T in
theorem side_two {x c : Nat} (hc : c ∈ DD) : sideN up (degN up) x c = 2 * sideN up (fun _ => 1) x c - 1 := by
  have h := T.wid c hc
  have e : sm (NN.filter fun w => decide (c ∈ ancU up w)) (fun _ => 1) = ((NN.filter fun x => decide (c ∈ ancU up x)).length : Int) := by rw [sm_const]; lia
  have n6 : sm NN (fun _ => 1) = 6 := by decide
  by_cases q : c ∈ ancU up x
  · rw [side_in q, side_in q, h, e]
  · rw [side_out q, side_out q, h, e, T.deg, n6]; lia
theorem mine_ou {x c : Nat} (h : c ∈ ancU up x) : mineN (ancU up) ou inn x c = ou c := if_pos h
theorem mine_inn {x c : Nat} (h : c ∉ ancU up x) : mineN (ancU up) ou inn x c = inn c := if_neg h
include T S in
theorem final_of : Final up tm (ancU up) ou inn (sm NN (loadN up tm)) := by
  have way_sum : ∀ x ∈ NN, ∀ y ∈ NN, ((wayN (ancU up) ou inn x y).by_.map (·.2)).sum = farN (ancU up) x y := fun x hx y hy => by
    rw [way_by T S hx hy, kd_sum, sm_const]
    unfold farN
    rw [(steps_apart T hx hy).length_eq]; lia
  refine ⟨fun c => ⟨by rw [S.byO]; exact Nat.le_refl _, by rw [S.byI]; exact Nat.le_refl _⟩, fun x hx y hy z h h' => anc_DD T hx hy h h', fun x _ => ancF_len up 5 x, fun c hc => ?_, fun x hx y hy => ⟨way_cc T S hx hy, way_sum x hx y hy, ?_⟩, fun x hx y hy hxy => ⟨?_, ?_⟩, fun x hx => ⟨?_, ?_⟩, fun x hx y hy hxy => ⟨?_, ?_, ?_, ?_, ?_, ?_⟩, fun x hx => ?_⟩
  · have h1 := S.nc c (mem_DN hc) c hc
    have h2 := S.nc 0 (by decide) c hc
    rw [mine_ou (anc_self up c)] at h1
    rw [mine_inn (anc_root hc)] at h2
    have h3 := @side_nonneg up c c
    have h4 := @side_nonneg up 0 c
    have h5 := S.nc2 c hc
    lia
  · rw [way_side T S fld_nc S.nc hx hy, way_side T S fld_ct S.ct hx hy, far_sum, ← sm_mul, ← sm_sub]
    refine sm_congr fun c hc => ?_
    split
    · exact side_two T hc
    · rfl
  · exact way_walk T S fld_nc S.nc hx hy hxy
  · exact way_walk T S fld_tt S.tt hx hy hxy
  · rw [way_self T S fld_nc hx]; lia
  · rw [way_self T S fld_tt hx]; omega
  · exact way_both T S fld_cc hx hy fun c hc _ => by rw [S.cc x hx c hc, S.cc y hy c hc]; rfl
  · exact way_both T S fld_nc hx hy fun c hc h => by rw [S.nc x hx c hc, S.nc y hy c hc, side_both h, T.deg]
  · exact way_both T S fld_tt hx hy fun c hc h => by rw [S.tt x hx c hc, S.tt y hy c hc, side_both h]
  · exact way_both T S fld_ct hx hy fun c hc h => by rw [S.ct x hx c hc, S.ct y hy c hc, side_both h]; decide
  · rw [both_by T S hx hy]
    exact kd_deq (w := fun _ => 2) (steps_apart T hx hy).length_eq fun c hc => ⟨(steps_apart T hx hy).mem_iff.mp hc, rfl⟩
  · rw [both_by T S hx hy, way_by T S hx hy, kd_keys, kd_keys]
  · have k0 : (totN up (ancU up) ou inn x).cc = sumN (ancU up) ou inn x 0 := tot_fld T S fld_cc hx fun y hy => by
      show degN up y * farN (ancU up) x y = _
      rw [← way_cc T S hx hy, way_fld T fld_cc hx hy]
    have kn : (totN up (ancU up) ou inn x).nc = _ := tot_fld T S fld_nc hx fun y hy => by
      show degN up y * (wayN (ancU up) ou inn x y).nc = _
      rw [way_fld T fld_nc hx hy]
    have kt : (totN up (ancU up) ou inn x).tt = _ := tot_fld T S fld_tt hx fun y hy => by
      show degN up y * (wayN (ancU up) ou inn x y).tt = _
      rw [way_fld T fld_tt hx hy]
    have kc : (totN up (ancU up) ou inn x).ct = _ := tot_fld T S fld_ct hx fun y hy => by
      show degN up y * (wayN (ancU up) ou inn x y).ct = _
      rw [way_fld T fld_ct hx hy]
    obtain ⟨l, hl, hb⟩ := tot_by T S hx
    have hg : ∀ c ∈ DD, 10 - sideN up (degN up) x c = goalN (ancU up) ou inn x c := fun c hc => by unfold goalN; rw [S.nc x hx c hc]
    refine ⟨k0, ?_, kt, kc, ?_, ?_⟩
    · rw [kn]
      show _ = sm DD fun c => (ou c).nc * (inn c).nc
      refine sm_congr fun c hc => ?_
      have h5 := S.nc2 c hc
      unfold goalN
      by_cases q : c ∈ ancU up x
      · rw [mine_ou q, show 10 - (ou c).nc = (inn c).nc by lia]
      · rw [mine_inn q, show 10 - (inn c).nc = (ou c).nc by lia, Int.mul_comm]
    · rw [hb]
      exact kd_deq hl.length_eq fun c hc => ⟨hl.mem_iff.mp hc, hg c (hl.mem_iff.mp hc)⟩
    · rw [hb, kd_sum, sm_perm hl]
      show _ = sm DD fun c => (mineN (ancU up) ou inn x c).cc * goalN (ancU up) ou inn x c
      refine sm_congr fun c hc => ?_
      rw [S.cc x hx c hc, Int.one_mul]
      exact hg c hc
end
theorem final_law {up : Nat → Nat} {tm : Nat → Int} {rev : Bool} {l : List (Nat × Nat × Nat)} (S : Shape up rev l) (T : Tree up) :
    Final up tm (ancU up) (ouStat (stepsN up (ordL l)) (loadsN up tm (ordL l)) (lowL l) (highL l)) (inStat (stepsN up (ordL l)) (loadsN up tm (ordL l)) (lowL l) (highL l)) (sAt (loadsN up tm (ordL l)) 6) := by
  have e : sAt (loadsN up tm (ordL l)) 6 = sm NN (loadN up tm) := all_sum S.perm
  rw [e]
  exact final_of T (steps_of S T)
end Mine
end

section
namespace Mine
open PySem PySem.Challenge PySem.Calls PyProof.Rows
theorem kid_congr {up up' : Nat → Nat} (h : ∀ k ∈ DD, up k = up' k) : kid up = kid up' := by
  funext x y
  unfold kid
  by_cases q : y ∈ DD
  · rw [h y q]
  · rw [decide_eq_false q]; rfl
theorem near_congr {up up' : Nat → Nat} (h : ∀ k ∈ DD, up k = up' k) : nearN up = nearN up' := by
  funext x
  unfold nearN
  rw [kid_congr h]
theorem text_congr {up up' : Nat → Nat} (h : ∀ k ∈ DD, up k = up' k) (pc : Nat → Str) (back : Int) : textOf up pc back = textOf up' pc back := by
  unfold textOf
  rw [List.map_congr_left fun k hk => by rw [h k hk]]
theorem ReadOk.congr {up up' : Nat → Nat} {pc : Nat → Str} {back : Int} {ord : List Nat} {anc : Nat → List Nat} {sp : Nat → Int × Int} (h : ∀ k ∈ DD, up k = up' k) (R : ReadOk up' pc back ord anc sp) : ReadOk up pc back ord anc sp := by
  have ht := text_congr h pc back
  have hm : (DD.map fun k => (nm k, nm (up k))) = DD.map fun k => (nm k, nm (up' k)) := List.map_congr_left fun k hk => by rw [h k hk]
  exact ⟨by rw [hm]; exact R.fits, by rw [ht]; exact R.tlen, by rw [ht]; exact R.ulen, by rw [ht]; exact R.usum, by rw [ht]; exact R.spans, by rw [ht]; exact R.arnd, by rw [ht]; exact R.chk, by rw [ht]; exact R.chk2, R.perm, R.anc0, R.ancl, fun k hk => by rw [h k hk]; exact R.anc2 k hk⟩
theorem deg_congr {up up' : Nat → Nat} (hn : nearN up = nearN up') : degN up = degN up' := by funext x; unfold degN; rw [hn]
theorem Final.congr {up up' : Nat → Nat} {tm : Nat → Int} {anc : Nat → List Nat} {ou inn : Nat → Stat} {L6 : Int} (hn : nearN up = nearN up') (F : Final up' tm anc ou inn L6) : Final up tm anc ou inn L6 := by
  have hd := deg_congr hn
  have hp : partN up = partN up' := by unfold partN; rw [hd]
  have ht : totN up = totN up' := by unfold totN; rw [hp]
  exact ⟨F.by1, F.ancs, F.ancl, F.ouB, F.f1, fun x hx y hy h => by rw [hd, hn]; exact F.f2 x hx y hy h, fun x hx => by rw [hd]; exact F.f2' x hx, F.f3, fun x hx => by rw [ht]; exact F.f4 x hx⟩
theorem up_lt (cs : List Int) {k : Nat} (hk : k ∈ DD) : upOf cs k < k := by
  have : 1 ≤ k := by unfold DD at hk; simp at hk; lia
  unfold upOf
  have := Int.emod_lt_of_pos (cAt cs k) (b := (k : Int)) (by lia)
  have := Int.emod_nonneg (cAt cs k) (b := (k : Int)) (by lia)
  lia
theorem piece_of (cs : List Int) (k : Nat) : Piece (pcOf cs k) := by
  have h6 : (cAt cs k / 60 % 6).toNat < marksL.length := by
    have : marksL.length = 6 := rfl
    lia
  refine marks_piece _ ?_
  unfold pcOf
  rw [List.getD_eq_getElem?_getD, List.getElem?_eq_getElem h6]
  exact List.getElem_mem h6
theorem back_of (cs : List Int) : ∃ rev, backOf cs = backR rev := by
  unfold backOf backR
  have : cAt cs 6 % 2 = 0 ∨ cAt cs 6 % 2 = 1 := by lia
  rcases this with h | h
  · exact ⟨false, by rw [h]; rfl⟩
  · exact ⟨true, by rw [h]; rfl⟩
section
variable {G : Gl} {A : Around} {n : Nat} {mg mb : Str → Option Value} {ns : List Int}
theorem run_law (hA : Room (n + 30) A) (M : Mod G mg mb) (hn : ns.length ≤ 63) (act : Act law_s (cellNames law_s.names)) (LA : LawAct G mg A act) :
    Run G A act (execs law_b act.env) (zipEnv ["script"] [.list (ns.map .int)]) fun fd _ => fd = .ret (.bool true) := by
  refine run_A (ns := ns) (Q := fun fd _ => fd = .ret (.bool true)) hA M hn act ?_
  intro cs hcs
  obtain ⟨rev, hb⟩ := back_of cs
  let u : Nat → Nat := upL (upOf cs 2) (upOf cs 3) (upOf cs 4) (upOf cs 5)
  have h0 : ∀ k ∈ DD, upOf cs k = u k := fun k hk => by
    have h1 := up_lt cs (k := 1) (by decide)
    unfold DD at hk; simp at hk
    rcases hk with rfl | rfl | rfl | rfl | rfl
    · show upOf cs 1 = 0; lia
    · rfl
    · rfl
    · rfl
    · rfl
  have hlt : ∀ k ∈ DD, u k < k := fun k hk => by rw [← h0 k hk]; exact up_lt cs hk
  have a2 := up_lt cs (k := 2) (by decide)
  have a3 := up_lt cs (k := 3) (by decide)
  have a4 := up_lt cs (k := 4) (by decide)
  have a5 := up_lt cs (k := 5) (by decide)
  obtain ⟨l, S⟩ := shape_of (shapes_ok a2 a3 a4 a5 rev)
  have T := tree_of (trees_ok a2 a3 a4 a5)
  obtain ⟨R, P⟩ := read_ok S (piece_of cs) hlt
  have hnear : nearN (upOf cs) = nearN u := near_congr h0
  have F : Final u (tmOf cs) (ancU u) _ _ _ := final_law S T
  have hsteps : stepsN (upOf cs) (ordL l) = stepsN u (ordL l) := by unfold stepsN; rw [deg_congr hnear]
  have hloads : loadsN (upOf cs) (tmOf cs) (ordL l) = loadsN u (tmOf cs) (ordL l) := by unfold loadsN; rw [deg_congr hnear]
  refine run_B (ord := ordL l) (anc := ancU u) (sp := spL (pcOf cs) (shape u rev 6 0) l) hA M hcs (by rw [hb]; exact ReadOk.congr h0 R) act (run_C hA M hcs R.perm P.inc act LA (run_D (low := lowL l) (high := highL l) hA M R.perm P ?_ act))
  have F' := Final.congr hnear F
  unfold ouOf innOf
  rw [hsteps, hloads]
  exact F'
end
end Mine
end

section
namespace Mine
open PySem PySem.Challenge PySem.Calls PyProof.Rows
section
variable {G : Gl} {A : Around} {n : Nat} {mg mb : Str → Option Value} {nm : Str} {params : Arguments} {body : List Stmt} {scope : Scope} {dflt kwd : Value} {fa : Addr} {ds : List D} {d : D}
theorem CallD.fnC {xs : List Str} (F : FnAt G mg nm params body scope dflt kwd fa) (N : Names G mg mb) (hA : Room (n + 1) A) (hfit : scopeFit scope = true) (hb : bindFit scope xs = true) (hl : xs.length = ds.length)
    (hbind : ∀ vs fd S s, vs.length = ds.length → fd.params = params → fd.defaults = dflt → fd.kwdefaults = kwd → Inv G S s → BindsTo s fd ⟨vs, []⟩ (xs.zip vs))
    (run : ∀ act : Act scope (cellNames scope.names), act.env.frame = some act.env.locals → (∃ o fd, G.base fa = some o ∧ o.data = .func fd ∧ act.env.code = fd.code ∧ act.env.qual = fd.qualname ++ ".<locals>.") → Run G (A.deeper act.env) act (execs body act.env) (zipEnv xs ds) fun fd _ => fd.val = d) : CallD G A (.ref fa) ds d := fun S s vs I r => by
  refine wpAny_call ?_
  (refine cps fun ZP zk => ?_; obtain ⟨o, fd, ho, hd, h1, h2, h3, h4, h5, h6, h7, h8, c, oc, cv, t, hc, hoc, hcd, hq⟩ := F.obj; refine zk ?_)
  have up : ∀ {a o}, G.base a = some o → s.heap.get? a = some o := fun e => I.sub _ _ (I.base _ _ e)
  simp only [scopeFit, Bool.and_eq_true, beq_iff_eq, Bool.not_eq_true', decide_eq_true_eq, List.all_eq_true, bne_iff_ne, ne_eq] at hfit
  (refine cps fun ZP zk => ?_; obtain ⟨⟨⟨⟨f1, f2⟩, f3⟩, f4⟩, f5⟩ := hfit; refine zk ?_)
  refine codeAny_call_function hA.lt (up ho) hd (by rw [h3]; exact f2) (by rw [h3]; exact f3) h2 ⟨c, oc, cv, t, hc, up hoc, hcd, hq⟩ ?_
  refine enterEnv N h3 h4 h5 h6 f1 f4 f5 (zipArgs xs vs ds) (by rw [zipArgs_keys r hl]; exact hb) (by rw [zipArgs_bind r hl]; exact hbind vs fd S s r.length h1 h7 h8 I) I [] (fun _ => 0)
    (fun a h => nomatch h) (fun b hbm => ?_) (fun x y dx dy hx _ _ => ?_) fun act s₀ O hk hg hm hmt hcl => ?_
  · obtain ⟨d, e, i⟩ := zipArgs_is r hbm
    unfold EntArg
    rw [e]; exact i
  · obtain ⟨b, hbm, e⟩ := List.mem_map.mp (mem_of_lookup hx)
    obtain ⟨d, e', _⟩ := zipArgs_is r hbm
    obtain ⟨_, _, l⟩ := b
    have e' : l = .val d := e'
    subst e'
    cases e
  · obtain ⟨q1, q2, q3, q4⟩ := hcl
    rw [zipArgs_env r] at O
    refine codeAny_func (wpAny_mono (run act q2 ⟨o, fd, ho, hd, q3, q4⟩ _ _ S s₀ O) (fun fl s' ⟨S', adr', ρ', fd, g, O', i, q⟩ => ?_) fun _ _ e => False.elim e)
    have st := O'.leave I rfl g
    refine ⟨S', st, ?_⟩
    cases fl <;> cases fd <;> first | exact i.elim | (subst q; exact .none) | skip
    subst q
    exact i
end
theorem Run.val {sc : Scope} {mc : List Str} {G : Gl} {A : Around} {act : Act sc mc} {m : Sem Flow} {ρ : LEnv} {d : D} (h : Run G A act m ρ fun fd _ => fd = .ret d) : Run G A act m ρ fun fd _ => fd.val = d := h.mono fun fd _ e => by rw [e]; rfl
structure LawFn (G : Gl) (mg : Str → Option Value) : Prop where
  code : ∃ o fd T, G.base 117 = some o ∧ o.data = .func fd ∧ CodeTab G mg fd.code (fd.qualname ++ ".<locals>." ++ "<lambda>") T { line := 170, col := 30, endLine := 170, endCol := 51 }
section
variable {G : Gl} {A : Around} {n : Nat} {mg mb : Str → Option Value} {ns : List Int}
theorem call_law (hA : Room (n + 31) A) (hfr : A.frames = some []) (M : Mod G mg mb) (L : LawFn G mg) (hn : ns.length ≤ 63) : CallD G A (.ref 117) [.list (ns.map .int)] (.bool true) := by
  refine CallD.fnC (n := n + 30) (xs := ["script"]) M.f_law M.N hA (by decide) (by decide) rfl (fun vs fd S s hl h1 h2 h3 I => ?_) fun act hf hc => ?_
  · obtain ⟨v, rfl⟩ := len1 hl
    exact bindPlain h1 h2 h3 fun _ _ _ _ _ _ _ _ _ _ _ _ => .of_eq rfl
  · obtain ⟨o, fd, ho, hd, q3, q4⟩ := hc
    obtain ⟨o', fd', T, ho', hd', C⟩ := L.code
    obtain rfl : o = o' := by rw [ho] at ho'; exact Option.some.inj ho'
    obtain rfl : fd = fd' := by rw [hd] at hd'; exact Data.func.inj hd'
    have LA : LawAct G mg (A.deeper act.env) act := ⟨by show A.frames.map (act.env :: ·) = _; rw [hfr]; rfl, hf, T, by rw [q3, q4]; exact C⟩
    have hR : Room (n + 30) (A.deeper act.env) := hA.deeper act.env
    have hr := @run_law G (A.deeper act.env) n mg mb ns @hR @M @hn @act @LA
    exact @Run.val law_s (cellNames law_s.names) G (A.deeper act.env) act _ (zipEnv ["script"] [.list (ns.map .int)]) (.bool true) @hr
end
end Mine
end

section
set_option tactic.hygienic true
set_option maxRecDepth 100000
set_option maxHeartbeats 0
set_option linter.unusedVariables false
set_option Elab.async false
namespace Mine
open PySem PySem.W PySem.Challenge PySem.Calls PyProof.Rows
noncomputable abbrev qv : Program := view pw_xh0025_02 [1, 2, 3, 10, 11, 12, 14, 15, 16, 17, 18]
noncomputable def gNames : List Str := ["_iter_escaped_chars", "_strip_quoted_realnames", "_check_parenthesis", "insort_right", "bisect_right", "insort_left", "bisect_left", "add_func_stats", "add_callers", "count_calls", "_law_write", "_law_read", "_law_sums", "_law_ways", "law", "__builtins__", "len", "range", "list", "dict", "sorted", "sum", "max", "min", "int", "isinstance", "tuple", "str", "enumerate", "zip", "ValueError"]
noncomputable def gVals : List (Option Value) := [some (.ref 78), some (.ref 85), some (.ref 92), some (.ref 44), some (.ref 53), some (.ref 62), some (.ref 71), some (.ref 21), some (.ref 28), some (.ref 35), some (.ref 97), some (.ref 102), some (.ref 107), some (.ref 112), some (.ref 117), some (.ref 4), none, none, none, none, none, none, none, none, none, none, none, none, none, none, none]
noncomputable def fAt : List (Addr × Addr) := [(78, 77), (85, 84), (92, 91), (44, 43), (53, 52), (62, 61), (71, 70), (21, 20), (28, 27), (35, 34), (97, 96), (102, 101), (107, 106), (112, 111), (117, 116)]
noncomputable def dAt : List (Addr × PySem.Tok) := [(36, 229), (45, 242), (54, 256), (63, 269)]
noncomputable def fGood : List (Option FnLook × Option Bool) := [
  (some (iter_escaped_chars_p, .stmts iter_escaped_chars_b, iter_escaped_chars_s, mainGlobals, builtinsNs, [], .none, .none, .ref 77, "_iter_escaped_chars"), some true),
  (some (strip_quoted_realnames_p, .stmts strip_quoted_realnames_b, strip_quoted_realnames_s, mainGlobals, builtinsNs, [], .none, .none, .ref 84, "_strip_quoted_realnames"), some true),
  (some (check_parenthesis_p, .stmts check_parenthesis_b, check_parenthesis_s, mainGlobals, builtinsNs, [], .none, .none, .ref 91, "_check_parenthesis"), some true),
  (some (insort_right_p, .stmts insort_right_b, insort_right_s, mainGlobals, builtinsNs, [], .ref 36, .ref 37, .ref 43, "insort_right"), some true),
  (some (bisect_right_p, .stmts bisect_right_b, bisect_right_s, mainGlobals, builtinsNs, [], .ref 45, .ref 46, .ref 52, "bisect_right"), some true),
  (some (insort_left_p, .stmts insort_left_b, insort_left_s, mainGlobals, builtinsNs, [], .ref 54, .ref 55, .ref 61, "insort_left"), some true),
  (some (bisect_left_p, .stmts bisect_left_b, bisect_left_s, mainGlobals, builtinsNs, [], .ref 63, .ref 64, .ref 70, "bisect_left"), some true),
  (some (add_func_stats_p, .stmts add_func_stats_b, add_func_stats_s, mainGlobals, builtinsNs, [], .none, .none, .ref 20, "add_func_stats"), some true),
  (some (add_callers_p, .stmts add_callers_b, add_callers_s, mainGlobals, builtinsNs, [], .none, .none, .ref 27, "add_callers"), some true),
  (some (count_calls_p, .stmts count_calls_b, count_calls_s, mainGlobals, builtinsNs, [], .none, .none, .ref 34, "count_calls"), some true),
  (some (law_write_p, .stmts law_write_b, law_write_s, mainGlobals, builtinsNs, [], .none, .none, .ref 96, "_law_write"), some true),
  (some (law_read_p, .stmts law_read_b, law_read_s, mainGlobals, builtinsNs, [], .none, .none, .ref 101, "_law_read"), some true),
  (some (law_sums_p, .stmts law_sums_b, law_sums_s, mainGlobals, builtinsNs, [], .none, .none, .ref 106, "_law_sums"), some true),
  (some (law_ways_p, .stmts law_ways_b, law_ways_s, mainGlobals, builtinsNs, [], .none, .none, .ref 111, "_law_ways"), some true),
  (some (law_p, .stmts law_b, law_s, mainGlobals, builtinsNs, [], .none, .none, .ref 116, "law"), some true)]
noncomputable def tupO (t : PySem.Tok) : Obj := { cls := .type "tuple", data := .seq #[.int 0 t, .none] 0 }
noncomputable def dictO (w : World) (t : PySem.Tok) : Obj := { cls := .type "dict", data := .dict #[{ hash := PyData.keyHash w.params "key", key := .str "key" t, val := .none }] 1 }
noncomputable abbrev Looks := Nat × Bool × Option (List (Option Value)) × Option Obj × Option Obj × Option (Value × Option Value × Value × Bool × Bool × Bool × Bool) × List (Option Obj) × List (Option Obj) × List (Option FnLook × Option Bool)
noncomputable def looks (s : Shared) : Looks := (s.heap.objs.size, (s.heap.get? 0).isSome && (s.heap.get? 1).isSome && (s.heap.get? 2).isSome && (s.heap.get? 3).isSome, nmLook s.heap gNames, s.heap.get? 4, s.heap.get? 114, cdLook s.heap 116, dAt.map (fun a => s.heap.get? a.1), dAt.map (fun a => s.heap.get? (a.1 + 1)), fAt.map (fun a => fnLook s.heap a.1 a.2))
noncomputable def looked (w : World) : Looks := (118, true, some gVals, some { cls := .type "module", dict := some 0 }, some (tabObj #[]), some (.type "code", some (.ref 114), .ref 114, true, true, true, true), dAt.map (fun a => some (tupO a.2)), dAt.map (fun a => some (dictO w (a.2 + 1))), fGood)
end Mine
namespace Mine
open PySem PySem.W PySem.Challenge PySem.Calls PyProof.Rows
theorem hl_ok : LeftO pw_xh0025_02 qv ["insort_right", "bisect_right", "insort_left", "bisect_left"] (fun s => xlAt qv [] s && recOk (RowW.records (OpenRow.toRowW rw_xh0025_02.row)) s) looks looked 1186 := by
  intro w
  kernel_rfl
theorem said_ok : OpenLaw.wellSaid rw_xh0025_02 = true := (congrFun PySem.W.Fast.te9446332074065402090 _).trans (by kernel_rfl)
noncomputable def lamQ : Str := "law" ++ ".<locals>." ++ "<lambda>"
noncomputable def tabL : Tab where
  P := 114
  ps₀ := #[]
  line := 170
  col := 30
  good := fun o => ∃ vs t, o.data = .fields vs ∧ vs[1]? = some (.str lamQ t)
  isCode := fun o ⟨vs, _, h, _⟩ => ⟨vs, h⟩
section
variable {w : World} {s₀ s₁ : Shared} {mg mb : Str → Option Value} {G : Gl}
theorem nm_of (y : looks s₀ = looked w) (keeps : ∀ b o, s₀.heap.get? b = some o → s₁.heap.get? b = some o) (hg : s₁.heap.Ns mainGlobals mg) (i : Nat) {x : Str} {v : Option Value} (h1 : gNames[i]? = some x) (h2 : gVals[i]? = some v) : mg x = v :=
  at_of (nmLook_of keeps (congrArg (fun x : Looks => x.2.2.1) y) hg) i h1 h2
theorem tab_of (y : looks s₀ = looked w) : s₀.heap.get? 114 = some (tabObj #[]) := congrArg (fun x : Looks => x.2.2.2.2.1) y
theorem some_of (y : looks s₀ = looked w) : (((s₀.heap.get? 0).isSome = true ∧ (s₀.heap.get? 1).isSome = true) ∧ (s₀.heap.get? 2).isSome = true) ∧ (s₀.heap.get? 3).isSome = true := by
  have e : (_ && _ && _ && _) = true := congrArg (fun x : Looks => x.2.1) y
  simpa only [Bool.and_eq_true] using e
theorem f_of (y : looks s₀ = looked w) (hG : G.base = baseOf s₀.heap 114) {nm : Str} {a c : Addr} (hn : mg nm = some (.ref a)) (ha : a ≠ 114 ∧ c ≠ 114) (i : Nat) {P : Arguments} {B : List Stmt} {S : Scope} {d k : Value} {q : Str} (h1 : fAt[i]? = some (a, c)) (h2 : fGood[i]? = some (some (P, .stmts B, S, mainGlobals, builtinsNs, [], d, k, .ref c, q), some true)) : FnAt G mg nm P B S d k a :=
  fnAt_of hG hn ha (at_of (congrArg (fun x : Looks => x.2.2.2.2.2.2.2.2) y) i h1 h2)
theorem d_of (y : looks s₀ = looked w) (hG : G.base = baseOf s₀.heap 114) (i : Nat) {a : Addr} {t : PySem.Tok} (ha : a ≠ 114 ∧ a + 1 ≠ 114) (h1 : dAt[i]? = some (a, t)) : Dfl G a (a + 1) :=
  ⟨⟨0, t, base_at hG (at_of (congrArg (fun x : Looks => x.2.2.2.2.2.2.1) y) i h1 ((List.getElem?_map ..).trans (congrArg (Option.map fun a => some (tupO a.2)) h1))) ha.1⟩, ⟨_, t + 1, 1, base_at hG (at_of (congrArg (fun x : Looks => x.2.2.2.2.2.2.2.1) y) i h1 ((List.getElem?_map ..).trans (congrArg (Option.map fun a => some (dictO w (a.2 + 1))) h1))) ha.2⟩⟩
theorem mod_of (y : looks s₀ = looked w) (keeps : ∀ b o, s₀.heap.get? b = some o → s₁.heap.get? b = some o) (hg : s₁.heap.Ns mainGlobals mg) (hb : s₁.heap.Ns builtinsNs mb) (hlim : ∃ m, s₁.heap.Ns cStatics m ∧ m "sys.recursionlimit" = none) (hblt : ∀ x : Str, x ≠ "__name__" → mb x = bootBuiltins x) (hG : G.base = baseOf s₀.heap 114) : Mod G mg mb := by
  have n {x : Str} {v : Option Value} (i : Nat) (h1 : gNames[i]? = some x) (h2 : gVals[i]? = some v) : mg x = v := nm_of y keeps hg i h1 h2
  obtain ⟨⟨⟨q0, q1⟩, q2⟩, q3⟩ := some_of y
  obtain ⟨m, l1, l2⟩ := hlim
  refine ⟨⟨nsObj_at hG keeps q3 (by decide) hg, nsObj_at hG keeps q0 (by decide) hb, let ⟨o, e, x⟩ := nsObj_at hG keeps q2 (by decide) l1; ⟨o, m, e, x, l2⟩⟩, ⟨n 16 rfl rfl, (hblt _ (by decide)).trans (by decide +kernel)⟩, ⟨n 17 rfl rfl, (hblt _ (by decide)).trans (by decide +kernel)⟩, ⟨n 18 rfl rfl, (hblt _ (by decide)).trans (by decide +kernel)⟩, ⟨n 19 rfl rfl, (hblt _ (by decide)).trans (by decide +kernel)⟩, ⟨n 20 rfl rfl, (hblt _ (by decide)).trans (by decide +kernel)⟩, ⟨n 21 rfl rfl, (hblt _ (by decide)).trans (by decide +kernel)⟩, ⟨n 22 rfl rfl, (hblt _ (by decide)).trans (by decide +kernel)⟩, ⟨n 23 rfl rfl, (hblt _ (by decide)).trans (by decide +kernel)⟩, ⟨n 24 rfl rfl, (hblt _ (by decide)).trans (by decide +kernel)⟩, ⟨n 25 rfl rfl, (hblt _ (by decide)).trans (by decide +kernel)⟩, ⟨n 26 rfl rfl, (hblt _ (by decide)).trans (by decide +kernel)⟩, ⟨n 27 rfl rfl, (hblt _ (by decide)).trans (by decide +kernel)⟩, ⟨n 28 rfl rfl, (hblt _ (by decide)).trans (by decide +kernel)⟩, ⟨n 29 rfl rfl, (hblt _ (by decide)).trans (by decide +kernel)⟩, ⟨n 30 rfl rfl, (hblt _ (by decide)).trans (by decide +kernel)⟩, f_of y hG (n 0 rfl rfl) (by decide) 0 rfl rfl, f_of y hG (n 1 rfl rfl) (by decide) 1 rfl rfl, f_of y hG (n 2 rfl rfl) (by decide) 2 rfl rfl, f_of y hG (n 3 rfl rfl) (by decide) 3 rfl rfl, f_of y hG (n 4 rfl rfl) (by decide) 4 rfl rfl, f_of y hG (n 5 rfl rfl) (by decide) 5 rfl rfl, f_of y hG (n 6 rfl rfl) (by decide) 6 rfl rfl, f_of y hG (n 7 rfl rfl) (by decide) 7 rfl rfl, f_of y hG (n 8 rfl rfl) (by decide) 8 rfl rfl, f_of y hG (n 9 rfl rfl) (by decide) 9 rfl rfl, f_of y hG (n 10 rfl rfl) (by decide) 10 rfl rfl, f_of y hG (n 11 rfl rfl) (by decide) 11 rfl rfl, f_of y hG (n 12 rfl rfl) (by decide) 12 rfl rfl, f_of y hG (n 13 rfl rfl) (by decide) 13 rfl rfl, f_of y hG (n 14 rfl rfl) (by decide) 14 rfl rfl, d_of y hG 0 (by decide) rfl, d_of y hG 1 (by decide) rfl, d_of y hG 2 (by decide) rfl, d_of y hG 3 (by decide) rfl⟩
theorem cd_of (y : looks s₀ = looked w) {h : Heap} (keeps : ∀ b o, s₀.heap.get? b = some o → h.get? b = some o) : PySem.W.CodeHd h 116 114 := cdLook_of (congrArg (fun x : Looks => x.2.2.2.2.2.1) y) (by decide) keeps
theorem lawFn_of (y : looks s₀ = looked w) (keeps : ∀ b o, s₀.heap.get? b = some o → s₁.heap.get? b = some o) (hg : s₁.heap.Ns mainGlobals mg) (hG : G.base = baseOf s₀.heap 114) (ht : G.tabs = [tabL]) : LawFn G mg := by
  obtain ⟨o, fd, oc, vs, t, h1, h2, h3, h4, h5, h6⟩ := fnLook_of (at_of (congrArg (fun x : Looks => x.2.2.2.2.2.2.2.2) y) 14 (x := (117, 116)) rfl rfl)
  have hm : s₀.heap.get? 4 = some { cls := .type "module", dict := some 0 } := congrArg (fun x : Looks => x.2.2.2.1) y
  have cdh : ∀ h : Heap, (∀ a o, G.base a = some o → h.get? a = some o) → PySem.W.CodeHd h 116 114 := fun h hh => by
    obtain ⟨o', vs', file, tf, flags, tg, inF, text, tt, c1, r⟩ := cd_of y (h := s₀.heap) fun _ _ e => e
    exact ⟨o', vs', file, tf, flags, tg, inF, text, tt, hh _ _ (base_at hG c1 (by decide)), r⟩
  exact ⟨o, fd, tabL, base_at hG h1 (by decide), h2, ⟨⟨116, congrArg (fun x : FnLook => x.2.2.2.2.2.2.2.2.1) h3, cdh⟩, trivial, rfl, rfl, rfl, fun h hh => ⟨4, _, nm_of y keeps hg 15 rfl rfl, by decide, by decide, by decide, hh _ _ (base_at hG hm (by decide)), rfl, rfl, rfl⟩, by decide, ht, by rw [show fd.qualname = "law" from congrArg (fun x : FnLook => x.2.2.2.2.2.2.2.2.2) h3]; rfl⟩⟩
end
end Mine
open PySem PySem.W PySem.W.X PyProof.Rows
set_option maxRecDepth 100000 in
set_option maxHeartbeats 0 in
theorem PySem.Challenge.cw_xh0025_02_holds : PySem.Challenge.rw_xh0025_02.Holds := by
  refine holds_law Mine.said_ok fun said => ?_
  refine holds_openX (q := Mine.qv) (loose := ["insort_right", "bisect_right", "insort_left", "bisect_left"]) (Xt := fun s => xlAt Mine.qv [] s && recOk (RowW.records (OpenRow.toRowW PySem.Challenge.rw_xh0025_02.row)) s) (XP := XL Mine.qv []) (Yf := Mine.looks) (Ya := Mine.looked) (N := 1186) Mine.hl_ok (fun s e => xl_of s (Bool.and_eq_true_iff.mp e).1) XL.keeps (by rfl) (by rfl) (by rfl) (fun s e => recFacts_of (Bool.and_eq_true_iff.mp e).2) rfl (by first | assumption | decide +kernel) (by decide +kernel) ⟨rfl, rfl, rfl, rfl, rfl, by decide +kernel⟩ ?hw ?hc
  (case hw => w_witness2)
  intro w s₀ s₁ mg mb G y fa o pm cd doc dV kV ho hd hcd hD hmg hg args vals as L hpre hlay hrd hwl hlo
  refine Ground.open G ?_
  intro T B D TE TW
  wrow_args hpre hlay hrd hwl hlo
  obtain ⟨hat, hsz⟩ := script_at L
  have hs0 : s₀.heap.objs.size = 118 := congrArg (fun x : Mine.Looks => x.1) y
  rw [hs0] at hat
  subst hat
  have hfa := hmg.symm.trans (Mine.nm_of y L.keeps T.g 14 rfl rfl)
  cases hfa
  all_lens
  obtain ⟨mc, hlim, hlim2⟩ := T.nolimit
  obtain ⟨o1, ho1⟩ := Option.isSome_iff_exists.mp (Mine.some_of y).1.1.2
  have hb1 : ∃ o, Mine.baseOf s₀.heap Mine.tabL.P sysModules = some o := ⟨o1, (if_neg (by decide)).trans ho1⟩
  refine wpAny_mono (Mine.finish (T := Mine.tabL) (hs := hb1) L.keeps (Mine.tab_of y) rfl hs0 (Mine.cd_of y L.keeps) hg (by assumption) (by assumption) (Mine.call_law (n := 0) (mg := mg) (mb := mb) ⟨rfl, by decide, by decide⟩ rfl (Mine.mod_of y L.keeps T.g T.b ⟨_, hlim, hlim2⟩ T.builtins rfl) (Mine.lawFn_of y L.keeps T.g rfl rfl) (by omega))) (fun v s' h => ?zzg) (fun _ _ h => h.elim)
  obtain ⟨rfl, h2, h3, h4⟩ := h
  refine ⟨.inl ⟨_, .bool true, [], rfl, fun _ => rfl, .bool true, ?_, fun _ => ⟨.nil, fun _ h => nomatch h⟩⟩, h2, h3, h4⟩
  refine postW_of (X := true) rfl ?_ rfl
  show WTm.value _ (.eq .res (.lit (.bool true))) _ = _
  simp [WTm.value, PySem.W.same]
end
