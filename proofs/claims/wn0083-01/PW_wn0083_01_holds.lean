import PyProof.Rows.All
import Wide.All
import OpenK.AllK
import Wide.FinOn
import KE.KItem
import KE.KEqDict
import KE.KEqSeq
import KE.KTops
import PySem.Challenge.RW_wn0083_01
set_option Elab.async false
set_option linter.unusedVariables false
set_option linter.unusedSectionVars false
set_option maxRecDepth 100000
set_option compiler.extract_closed false
set_option genInjectivity false
set_option genSizeOf false
set_option genSizeOfSpec false

section
open PySem PySem.W PyProof.Rows
namespace Mine

inductive PV where
  | none
  | bool (b : Bool)
  | int (i : Int)
  | str (x : Str)
  | tuple (l : List PV)
  | list (l : List PV)
  | inst (C : Addr) (fs : List (Str × PV))

noncomputable abbrev tupOf (vs : Array Value) (n : Nat) : Obj := { cls := .type "tuple", data := .seq vs n }

mutual
inductive Rep (P : Addr → Obj → Prop) : Value → PV → Prop
  | none : Rep P Value.none PV.none
  | bool (b : Bool) : Rep P (Value.bool b) (PV.bool b)
  | int (i : Int) (t : Tok) : Rep P (Value.int i t) (PV.int i)
  | str (x : Str) (t : Tok) : Rep P (Value.str x t) (PV.str x)
  | tuple {a : Addr} {vs : List Value} {n : Nat} {ds : List PV} : P a (tupOf vs.toArray n) → RepL P vs ds → Rep P (Value.ref a) (PV.tuple ds)
  | list {a : Addr} {vs : List Value} {n : Nat} {ds : List PV} : P a (listOf vs.toArray n) → RepL P vs ds → Rep P (Value.ref a) (PV.list ds)
  | inst {a dx C : Addr} {es : List DictEntry} {n : Nat} {fs : List (Str × PV)} : P a (instObj C dx) → P dx (dictOf es n) → RepF P es fs → Rep P (Value.ref a) (PV.inst C fs)
inductive RepL (P : Addr → Obj → Prop) : List Value → List PV → Prop
  | nil : RepL P [] []
  | cons {v : Value} {vs : List Value} {d : PV} {ds : List PV} : Rep P v d → RepL P vs ds → RepL P (v :: vs) (d :: ds)
inductive RepF (P : Addr → Obj → Prop) : List DictEntry → List (Str × PV) → Prop
  | nil : RepF P [] []
  | cons {h : Int} {x : Str} {t : Tok} {v : Value} {es : List DictEntry} {d : PV} {fs : List (Str × PV)} : Rep P v d → RepF P es fs → RepF P (⟨h, .str x t, v⟩ :: es) ((x, d) :: fs)
end
mutual
theorem Rep.mono {P P' : Addr → Obj → Prop} (hs : ∀ a o, P a o → P' a o) : ∀ {v : Value} {d : PV}, Rep P v d → Rep P' v d
  | _, _, .none => .none
  | _, _, .bool b => .bool b
  | _, _, .int i t => .int i t
  | _, _, .str x t => .str x t
  | _, _, .tuple h r => .tuple (hs _ _ h) (RepL.mono hs r)
  | _, _, .list h r => .list (hs _ _ h) (RepL.mono hs r)
  | _, _, .inst h k r => .inst (hs _ _ h) (hs _ _ k) (RepF.mono hs r)
theorem RepL.mono {P P' : Addr → Obj → Prop} (hs : ∀ a o, P a o → P' a o) : ∀ {vs : List Value} {ds : List PV}, RepL P vs ds → RepL P' vs ds
  | _, _, .nil => .nil
  | _, _, .cons h r => .cons (Rep.mono hs h) (RepL.mono hs r)
theorem RepF.mono {P P' : Addr → Obj → Prop} (hs : ∀ a o, P a o → P' a o) : ∀ {es : List DictEntry} {fs : List (Str × PV)}, RepF P es fs → RepF P' es fs
  | _, _, .nil => .nil
  | _, _, .cons h r => .cons (Rep.mono hs h) (RepF.mono hs r)
end
section
variable {P : Addr → Obj → Prop} {v : Value} {d : PV} {vs ws : List Value} {ds es : List PV}
theorem RepL.length (h : RepL P vs ds) : vs.length = ds.length := by
  induction vs generalizing ds with
  | nil => cases h; rfl
  | cons v vs ih =>
    cases h with
    | cons _ r => rw [List.length_cons, List.length_cons, ih r]
theorem RepL.append (h : RepL P vs ds) (k : RepL P ws es) : RepL P (vs ++ ws) (ds ++ es) := by
  induction vs generalizing ds with
  | nil => cases h; exact k
  | cons v vs ih =>
    cases h with
    | cons h r => exact .cons h (ih r)
theorem RepL.one (h : Rep P v d) : RepL P [v] [d] := .cons h .nil
theorem RepL.get (h : RepL P vs ds) {k : Nat} {d : PV} (hk : ds[k]? = some d) : ∃ v, vs[k]? = some v ∧ Rep P v d := by
  induction vs generalizing ds k with
  | nil => cases h; simp at hk
  | cons v vs ih =>
    cases h with
    | cons h r =>
      cases k with
      | zero => simp at hk; subst hk; exact ⟨v, rfl, h⟩
      | succ k => simp at hk; obtain ⟨u, hu, hr⟩ := ih r hk; exact ⟨u, by simpa using hu, hr⟩
theorem RepL.get' (h : RepL P vs ds) {k : Nat} {v : Value} (hk : vs[k]? = some v) : ∃ d, ds[k]? = some d ∧ Rep P v d := by
  induction vs generalizing ds k with
  | nil => simp at hk
  | cons u vs ih =>
    cases h with
    | cons h r =>
      cases k with
      | zero => simp at hk; subst hk; exact ⟨_, rfl, h⟩
      | succ k => simp at hk; obtain ⟨u, hu, hr⟩ := ih r hk; exact ⟨u, by simpa using hu, hr⟩
end

noncomputable def HW (h : Heap) (W : Addr → Prop) (a : Addr) (o : Obj) : Prop := h.get? a = some o ∧ ¬ W a

noncomputable def Kp (s s' : Shared) : Prop := (∀ b o, s.heap.get? b = some o → s'.heap.get? b = some o) ∧ s'.gens = s.gens ∧ s'.os = s.os
theorem Kp.refl (s : Shared) : Kp s s := ⟨fun _ _ e => e, rfl, rfl⟩
theorem Kp.trans {s s' s'' : Shared} (a : Kp s s') (b : Kp s' s'') : Kp s s'' := ⟨fun x o e => b.1 x o (a.1 x o e), b.2.1.trans a.2.1, b.2.2.trans a.2.2⟩
theorem Kp.tok (s : Shared) (t : Nat) : Kp s { s with toks := t } := ⟨fun _ _ e => e, rfl, rfl⟩
theorem Kp.hw {s s' : Shared} (k : Kp s s') {W : Addr → Prop} : ∀ a o, HW s.heap W a o → HW s'.heap W a o := fun a o x => ⟨k.1 a o x.1, x.2⟩
theorem Kp.push (s : Shared) (o : Obj) (t : Nat) : Kp s { s with heap := s.heap.push o, toks := t } := ⟨fun _ _ e => Heap.get?_push_of_some _ e, rfl, rfl⟩
theorem Kp.ofKeeps {s s' : Shared} (k : Keeps s s') : Kp s s' := by
  obtain ⟨h, tk, rfl, hk⟩ := k
  exact ⟨hk, rfl, rfl⟩

structure Gd where
  K : Frag
  p : Program
  loose : List Str
  mg : Str → Option Value
  mb : Str → Option Value

structure GR (G : Gd) (h : Heap) : Prop where
  X : G.K.In h
  T : TopRead G.p G.loose G.mg G.mb h
theorem GR.keeps {G : Gd} {h h' : Heap} (g : GR G h) (k : ∀ b o, h.get? b = some o → h'.get? b = some o) : GR G h' :=
  ⟨fun a o e => k a o (g.X a o e), ⟨g.T.g.keeps k, g.T.b.keeps k, g.T.nolimit.keeps k, g.T.builtins, g.T.free⟩⟩

noncomputable def GB (G : Gd) (h : Heap) (W : Addr → Prop) : Prop := ∃ g : Heap, GR G g ∧ ∀ b o, g.get? b = some o → HW h W b o
theorem GB.gr {G : Gd} {h : Heap} {W : Addr → Prop} (g : GB G h W) : GR G h := let ⟨_, r, k⟩ := g; r.keeps fun b o e => (k b o e).1
theorem GB.mono {G : Gd} {h h' : Heap} {W W' : Addr → Prop} (g : GB G h W) (k : ∀ b o, HW h W b o → HW h' W' b o) : GB G h' W' := let ⟨b, r, q⟩ := g; ⟨b, r, fun x o e => k x o (q x o e)⟩

structure OwT where
  T : (Addr → Obj → Prop) → Value → Addr → Obj → Prop
  mono : ∀ {P P' : Addr → Obj → Prop} {v : Value} {a : Addr} {o : Obj}, (∀ b ob, P b ob → P' b ob) → T P v a o → T P' v a o
inductive Slt where
  | im (d : PV)
  | li (ds : List PV)
  | di (D : OwT)
noncomputable abbrev Store := List (Str × Slt)

noncomputable def NameIs (env : Env) (h : Heap) (x : Str) (v : Value) : Prop :=
  (env.kindOf x = some .local ∧ ∃ m, h.Ns env.locals m ∧ m x = some v) ∨
  ((env.kindOf x = some .cell ∨ (env.kindOf x = some .free ∧ (x == ("__classdict__" : Str)) = false)) ∧ ∃ c, env.cells.lookup x = some c ∧ h.IsCell c (some v))
theorem NameIs.keeps {env : Env} {h h' : Heap} {x : Str} {v : Value} (n : NameIs env h x v) (k : ∀ b o, h.get? b = some o → h'.get? b = some o) : NameIs env h' x v := by
  rcases n with ⟨a, m, n, e⟩ | ⟨a, c, e, ⟨o, ho, hd⟩⟩
  · exact .inl ⟨a, m, n.keeps k, e⟩
  · exact .inr ⟨a, c, e, ⟨o, k _ _ ho, hd⟩⟩

noncomputable def SlotIs (env : Env) (h : Heap) (W : Addr → Prop) (ad : Str → Addr) (x : Str) : Slt → Prop
  | .im d => ∃ v, NameIs env h x v ∧ Rep (HW h W) v d
  | .li ds => NameIs env h x (.ref (ad x)) ∧ W (ad x) ∧ ∃ vs n, h.get? (ad x) = some (listOf vs.toArray n) ∧ RepL (HW h W) vs ds
  | .di D => ∃ v o, NameIs env h x v ∧ W (ad x) ∧ h.get? (ad x) = some o ∧ D.T (HW h W) v (ad x) o
theorem SlotIs.keeps {env : Env} {h h' : Heap} {W : Addr → Prop} {ad : Str → Addr} {x : Str} {sl : Slt} (n : SlotIs env h W ad x sl) (k : ∀ b o, h.get? b = some o → h'.get? b = some o) : SlotIs env h' W ad x sl := by
  have kw : ∀ a o, HW h W a o → HW h' W a o := fun a o x => ⟨k a o x.1, x.2⟩
  cases sl with
  | im d => obtain ⟨v, n, r⟩ := n; exact ⟨v, n.keeps k, r.mono kw⟩
  | li ds => obtain ⟨n, hw, vs, m, e, r⟩ := n; exact ⟨n.keeps k, hw, vs, m, k _ _ e, r.mono kw⟩
  | di D => obtain ⟨v, o, n, hw, e, r⟩ := n; exact ⟨v, o, n.keeps k, hw, k _ _ e, D.mono kw r⟩

structure EC (G : Gd) (sc : Scope) (env : Env) (W : Addr → Prop) (ad : Str → Addr) (ρ : Store) (h : Heap) : Prop where
  scope : env.scope = sc
  kind : sc.kind = .function
  glob : env.globals = mainGlobals
  blt : env.builtins = builtinsNs
  ground : GB G h W
  live : ∀ a, W a → ∃ o, h.get? a = some o
  ns : ∃ m, h.Ns env.locals m
  names : ∀ x sl, ρ.lookup x = some sl → SlotIs env h W ad x sl
theorem EC.keeps {G : Gd} {sc : Scope} {env : Env} {W : Addr → Prop} {ad : Str → Addr} {ρ : Store} {h h' : Heap} (e : EC G sc env W ad ρ h) (k : ∀ b o, h.get? b = some o → h'.get? b = some o) : EC G sc env W ad ρ h' :=
  ⟨e.scope, e.kind, e.glob, e.blt, e.ground.mono fun b o x => ⟨k b o x.1, x.2⟩, fun a x => let ⟨o, q⟩ := e.live a x; ⟨o, k _ _ q⟩, let ⟨m, n⟩ := e.ns; ⟨m, n.keeps k⟩, fun x sl q => (e.names x sl q).keeps k⟩

noncomputable def AOk (n : Nat) (A : Around) : Prop := A.handled = none ∧ A.depth + n < recursionLimit ∧ A.units + 3 * n + 8 < cLine

section
variable (prog : Program) (w : World) (G : Gd)

noncomputable def Ev (n : Nat) (sc : Scope) (ρ : Store) (e : Expr) (R : (Addr → Prop) → Heap → Heap → Value → Prop) : Prop :=
  ∀ (A : Around) (env : Env) (W : Addr → Prop) (ad : Str → Addr) (s : Shared) (Q : Value → Shared → Prop) (E : Value → Shared → Prop), AOk n A → EC G sc env W ad ρ s.heap →
    (∀ v s', Kp s s' → R W s.heap s'.heap v → Q v s') → wpAny (model prog w) A (eval e env) Q E s

noncomputable abbrev EvT (n : Nat) (sc : Scope) (ρ : Store) (e : Expr) (d : PV) : Prop := Ev prog w G n sc ρ e fun W _ h' v => Rep (HW h' W) v d

noncomputable def ListR (ds : List PV) (W : Addr → Prop) (_ h' : Heap) (v : Value) : Prop := ∃ a vs n, v = .ref a ∧ h'.get? a = some (listOf (List.toArray vs) n) ∧ RepL (HW h' W) vs ds
noncomputable abbrev EvL (n : Nat) (sc : Scope) (ρ : Store) (e : Expr) (ds : List PV) : Prop := Ev prog w G n sc ρ e (ListR ds)
noncomputable def NewR (ds : List PV) (W : Addr → Prop) (h h' : Heap) (v : Value) : Prop := ∃ a vs n, v = .ref a ∧ h.get? a = none ∧ h'.get? a = some (listOf (List.toArray vs) n) ∧ RepL (HW h' (fun x => W x ∨ x = a)) vs ds
noncomputable abbrev EvF (n : Nat) (sc : Scope) (ρ : Store) (e : Expr) (ds : List PV) : Prop := Ev prog w G n sc ρ e (NewR ds)

noncomputable def EvB (n : Nat) (sc : Scope) (ρ : Store) (e : Expr) (b : Bool) : Prop :=
  ∀ (A : Around) (env : Env) (W : Addr → Prop) (ad : Str → Addr) (s : Shared) (Q : Bool → Shared → Prop) (E : Value → Shared → Prop), AOk n A → EC G sc env W ad ρ s.heap →
    (∀ s', Kp s s' → Q b s') → wpAny (model prog w) A (isTrue e env (eval e env)) Q E s

noncomputable def EvEach (n : Nat) (sc : Scope) (ρ : Store) (es : List Expr) (ds : List PV) : Prop :=
  ∀ (A : Around) (env : Env) (W : Addr → Prop) (ad : Str → Addr) (s : Shared) (pos : Pos) (Q : List Value → Shared → Prop) (E : Value → Shared → Prop), AOk n A → EC G sc env W ad ρ s.heap →
    (∀ vs s', Kp s s' → RepL (HW s'.heap W) vs ds → Q vs s') → wpAny (model prog w) A (spliced (backTo pos (starEach es env))) Q E s

noncomputable def Fn (n : Nat) (f : Value) (ds : List PV) (d : PV) : Prop :=
  ∀ (A : Around) (W : Addr → Prop) (vs : List Value) (s : Shared) (Q : Value → Shared → Prop) (E : Value → Shared → Prop), AOk n A → GB G s.heap W → (∀ a, W a → ∃ o, s.heap.get? a = some o) → RepL (HW s.heap W) vs ds →
    (∀ v s', Kp s s' → Rep (HW s'.heap W) v d → Q v s') → wpAny (model prog w) A (call f vs) Q E s
end

section
variable {prog : Program} {w : World} {G : Gd} {n : Nat} {sc : Scope} {ρ : Store}

theorem Ev.mono {e : Expr} {R R' : (Addr → Prop) → Heap → Heap → Value → Prop} (h : Ev prog w G n sc ρ e R) (k : ∀ W h h' v, (∀ a, W a → ∃ o, h.get? a = some o) → (∀ b o, h.get? b = some o → h'.get? b = some o) → R W h h' v → R' W h h' v) : Ev prog w G n sc ρ e R' :=
  fun A env W ad s Q E hA hE hQ => h A env W ad s Q E hA hE fun v s' kp r => hQ v s' kp (k _ _ _ _ hE.live kp.1 r)

theorem rep_list {P : Addr → Obj → Prop} {v : Value} {ds : List PV} (r : Rep P v (.list ds)) : ∃ a vs n, v = .ref a ∧ P a (listOf (List.toArray vs) n) ∧ RepL P vs ds := by
  cases r with
  | list h r => exact ⟨_, _, _, rfl, h, r⟩
theorem rep_tuple {P : Addr → Obj → Prop} {v : Value} {ds : List PV} (r : Rep P v (.tuple ds)) : ∃ a vs n, v = .ref a ∧ P a (tupOf (List.toArray vs) n) ∧ RepL P vs ds := by
  cases r with
  | tuple h r => exact ⟨_, _, _, rfl, h, r⟩
theorem EvT.toL {e : Expr} {ds : List PV} (h : EvT prog w G n sc ρ e (.list ds)) : EvL prog w G n sc ρ e ds :=
  h.mono fun W _ h' v _ _ r => let ⟨a, vs, m, e, p, rs⟩ := rep_list r; ⟨a, vs, m, e, p.1, rs⟩
theorem EvF.toT {e : Expr} {ds : List PV} (h : EvF prog w G n sc ρ e ds) : EvT prog w G n sc ρ e (.list ds) :=
  h.mono fun W h h' v live _ r => by
    obtain ⟨a, vs, m, rfl, h0, h1, rs⟩ := r
    refine .list (n := m) ⟨h1, fun hw => ?_⟩ (rs.mono fun b o x => ⟨x.1, fun hw => x.2 (.inl hw)⟩)
    obtain ⟨o, ho⟩ := live a hw
    rw [h0] at ho; cases ho
theorem EvF.toL {e : Expr} {ds : List PV} (h : EvF prog w G n sc ρ e ds) : EvL prog w G n sc ρ e ds := EvT.toL (EvF.toT h)

theorem lookup_kind {env : Env} {sc : Scope} (h : env.scope = sc) (x : Str) : env.kindOf x = sc.names.lookup x := by rw [← h]; rfl

theorem load_name {A : Around} {env : Env} {s : Shared} {x : Str} {v : Value} {Q : Value → Shared → Prop} {E : Value → Shared → Prop} (hk : env.scope.kind = .function) (N : NameIs env s.heap x v) (h : Q v s) :
    wpAny (model prog w) A (loadName env x) Q E s := by
  rcases N with ⟨a, m, n, e⟩ | ⟨a, c, e, hc⟩
  · exact wpAny_loadName_local hk a n e h
  · rcases a with a | ⟨a, b⟩
    · exact wpAny_loadName_cell hk a e hc h
    · exact wpAny_loadName_free hk a e hc h b

theorem ev_name {x : Str} {pos : Pos} {d : PV} (h : ρ.lookup x = some (.im d)) (hd : (x == ("__debug__" : Str)) = false := by decide) : EvT prog w G n sc ρ (.Name x pos) d :=
  fun A env W ad s Q E _ hE hQ => by
    obtain ⟨v, N, r⟩ := hE.names x _ h
    exact wpAny_Name (load_name (hE.scope ▸ hE.kind) N (hQ v s (Kp.refl s) r)) hd
theorem ev_nameL {x : Str} {pos : Pos} {ds : List PV} (h : ρ.lookup x = some (.li ds)) (hd : (x == ("__debug__" : Str)) = false := by decide) : EvL prog w G n sc ρ (.Name x pos) ds :=
  fun A env W ad s Q E _ hE hQ => by
    obtain ⟨N, _, vs, m, e, r⟩ := hE.names x _ h
    exact wpAny_Name (load_name (hE.scope ▸ hE.kind) N (hQ _ s (Kp.refl s) ⟨_, vs, m, rfl, e, r⟩)) hd
theorem ev_int {i : Int} {k pos} : EvT prog w G n sc ρ (.Constant (.int i) k pos) (.int i) :=
  fun A env W ad s Q E _ hE hQ => wpAny_Constant_int (hQ _ _ (Kp.tok ..) (.int _ _))
theorem ev_str {x : Str} {k pos} : EvT prog w G n sc ρ (.Constant (.str x) k pos) (.str x) :=
  fun A env W ad s Q E _ hE hQ => wpAny_Constant_str (hQ _ _ (Kp.tok ..) (.str _ _))
theorem ev_bool {b : Bool} {k pos} : EvT prog w G n sc ρ (.Constant (.bool b) k pos) (.bool b) :=
  fun A env W ad s Q E _ hE hQ => wpAny_Constant_bool (hQ _ _ (Kp.refl _) (.bool _))

theorem ev_bin {l r : Expr} {op : Operator} {pos : Pos} {R₁ R₂ R : (Addr → Prop) → Heap → Heap → Value → Prop}
    (hl : Ev prog w G n sc ρ l R₁) (hr : Ev prog w G n sc ρ r R₂)
    (h : ∀ A W s s₁ s₂ a b (Q : Value → Shared → Prop) E, AOk n A → GB G s.heap W → (∀ a, W a → ∃ o, s.heap.get? a = some o) → Kp s s₁ → Kp s₁ s₂ → R₁ W s.heap s₁.heap a → R₂ W s₁.heap s₂.heap b →
      (∀ v s', Kp s₂ s' → R W s.heap s'.heap v → Q v s') → wpAny (model prog w) A (binaryOp op a b) Q E s₂) : Ev prog w G n sc ρ (.BinOp l op r pos) R :=
  fun A env W ad s Q E hA hE hQ => wpAny_BinOp (hl A env W ad s _ E hA hE fun a s₁ k₁ r₁ => hr A env W ad s₁ _ E hA (hE.keeps k₁.1) fun b s₂ k₂ r₂ =>
    h A W s s₁ s₂ a b Q E hA hE.ground hE.live k₁ k₂ r₁ r₂ fun v s' k r => hQ v s' ((k₁.trans k₂).trans k) r)

theorem rep_int {P : Addr → Obj → Prop} {v : Value} {i : Int} (r : Rep P v (.int i)) : ∃ t, v = .int i t := by cases r; exact ⟨_, rfl⟩
theorem rep_str {P : Addr → Obj → Prop} {v : Value} {x : Str} (r : Rep P v (.str x)) : ∃ t, v = .str x t := by cases r; exact ⟨_, rfl⟩
theorem rep_bool {P : Addr → Obj → Prop} {v : Value} {x : Bool} (r : Rep P v (.bool x)) : v = .bool x := by cases r; rfl

theorem ev_ints {l r : Expr} {op : Operator} {pos : Pos} {a b : Int} {d : PV} (hl : EvT prog w G n sc ρ l (.int a)) (hr : EvT prog w G n sc ρ r (.int b))
    (h : ∀ A s t u (Q : Value → Shared → Prop) E, AOk n A → s.heap.NoLimit → (∀ v tk, (∀ P, Rep P v d) → Q v { s with toks := tk }) → wpAny (model prog w) A (binaryOp op (.int a t) (.int b u)) Q E s) : EvT prog w G n sc ρ (.BinOp l op r pos) d :=
  ev_bin hl hr fun A W s s₁ s₂ va vb Q E hA hG hW k₁ k₂ r₁ r₂ hQ => by
    obtain ⟨t, rfl⟩ := rep_int r₁
    obtain ⟨u, rfl⟩ := rep_int r₂
    exact h A s₂ t u Q E hA ((hG.gr.T.nolimit.keeps k₁.1).keeps k₂.1) fun v tk rv => hQ v _ (Kp.tok ..) (rv _)

theorem ev_add {l r : Expr} {pos : Pos} {a b : Int} (hl : EvT prog w G n sc ρ l (.int a)) (hr : EvT prog w G n sc ρ r (.int b)) : EvT prog w G n sc ρ (.BinOp l .Add r pos) (.int (a + b)) :=
  ev_ints hl hr fun A s t u Q E hA hn hQ => add_int (hQ _ _ fun P => .int _ _)
theorem ev_sub {l r : Expr} {pos : Pos} {a b : Int} (hl : EvT prog w G n sc ρ l (.int a)) (hr : EvT prog w G n sc ρ r (.int b)) : EvT prog w G n sc ρ (.BinOp l .Sub r pos) (.int (a - b)) :=
  ev_ints hl hr fun A s t u Q E hA hn hQ => sub_int' (hQ _ _ fun P => .int _ _)
theorem ev_mul {l r : Expr} {pos : Pos} {a b : Int} (hl : EvT prog w G n sc ρ l (.int a)) (hr : EvT prog w G n sc ρ r (.int b)) (hm : IntMulOk a b) : EvT prog w G n sc ρ (.BinOp l .Mult r pos) (.int (a * b)) :=
  ev_ints hl hr fun A s t u Q E hA hn hQ => mul_int (hQ _ _ fun P => .int _ _) hm
theorem ev_mod {l r : Expr} {pos : Pos} {a b : Int} (hl : EvT prog w G n sc ρ l (.int a)) (hr : EvT prog w G n sc ρ r (.int b)) (hb : b ≠ 0) : EvT prog w G n sc ρ (.BinOp l .Mod r pos) (.int (a.fmod b)) :=
  ev_ints hl hr fun A s t u Q E hA hn hQ => mod_int' hb (hQ _ _ fun P => .int _ _)
theorem ev_and {l r : Expr} {pos : Pos} {a b : Int} (hl : EvT prog w G n sc ρ l (.int a)) (hr : EvT prog w G n sc ρ r (.int b)) : EvT prog w G n sc ρ (.BinOp l .BitAnd r pos) (.int (Builtin.bitAnd a b)) :=
  ev_ints hl hr fun A s t u Q E hA hn hQ => and_int (hQ _ _ fun P => .int _ _)
theorem ev_shl {l r : Expr} {pos : Pos} {a b : Int} (hl : EvT prog w G n sc ρ l (.int a)) (hr : EvT prog w G n sc ρ r (.int b)) (h0 : 0 ≤ b) (h1 : b ≤ 1000000) (ha : a.natAbs < 2 ^ 64) : EvT prog w G n sc ρ (.BinOp l .LShift r pos) (.int (a * 2 ^ b.toNat)) :=
  ev_ints hl hr fun A s t u Q E hA hn hQ => lshift_int_small h0 h1 ha (hQ _ _ fun P => .int _ _)
theorem ev_shr {l r : Expr} {pos : Pos} {a b : Int} (hl : EvT prog w G n sc ρ l (.int a)) (hr : EvT prog w G n sc ρ r (.int b)) (h0 : 0 ≤ b) : EvT prog w G n sc ρ (.BinOp l .RShift r pos) (.int (a.fdiv (2 ^ b.toNat))) :=
  ev_ints hl hr fun A s t u Q E hA hn hQ => rshift_int h0 (hQ _ _ fun P => .int _ _)
theorem ev_pow {l r : Expr} {pos : Pos} {a b : Int} (hl : EvT prog w G n sc ρ l (.int a)) (hr : EvT prog w G n sc ρ r (.int b)) (h0 : 0 ≤ b) (hsz : (Builtin.Int.intBits a : Int) * b ≤ 2 ^ 27) : EvT prog w G n sc ρ (.BinOp l .Pow r pos) (.int (a ^ b.toNat)) :=
  ev_ints hl hr fun A s t u Q E hA hn hQ => pow_int h0 hsz (hQ _ _ fun P => .int _ _)
end
end Mine
end

section
open PySem PySem.W PyProof.Rows
namespace Mine
section
variable {prog : Program} {w : World} {G : Gd} {n : Nat} {sc : Scope} {ρ : Store}

theorem ev_cmp {l r : Expr} {op : CmpOp} {pos : Pos} {R₁ R₂ : (Addr → Prop) → Heap → Heap → Value → Prop} {c : Bool}
    (hl : Ev prog w G n sc ρ l R₁) (hr : Ev prog w G n sc ρ r R₂)
    (h : ∀ A W s s₁ s₂ a b (Q : Value → Shared → Prop) E, AOk n A → GB G s.heap W → (∀ a, W a → ∃ o, s.heap.get? a = some o) → Kp s s₁ → Kp s₁ s₂ → R₁ W s.heap s₁.heap a → R₂ W s₁.heap s₂.heap b →
      (∀ s', Kp s₂ s' → Q (.bool c) s') → wpAny (model prog w) A (compareOp op a b) Q E s₂)
    (hm : behindInMarks op r = false := by with_unfolding_all rfl) : EvT prog w G n sc ρ (.Compare l [op] [r] pos) (.bool c) :=
  fun A env W ad s Q E hA hE hQ => wpAny_Compare1 (hl A env W ad s _ E hA hE fun a s₁ k₁ r₁ => hr A env W ad s₁ _ E hA (hE.keeps k₁.1) fun b s₂ k₂ r₂ =>
    h A W s s₁ s₂ a b Q E hA hE.ground hE.live k₁ k₂ r₁ r₂ fun s' k => hQ _ s' ((k₁.trans k₂).trans k) (.bool c)) hm
theorem eb_cmp {l r : Expr} {op : CmpOp} {pos : Pos} {R₁ R₂ : (Addr → Prop) → Heap → Heap → Value → Prop} {c : Bool}
    (hl : Ev prog w G n sc ρ l R₁) (hr : Ev prog w G n sc ρ r R₂)
    (h : ∀ A W s s₁ s₂ a b (Q : Value → Shared → Prop) E, AOk n A → GB G s.heap W → (∀ a, W a → ∃ o, s.heap.get? a = some o) → Kp s s₁ → Kp s₁ s₂ → R₁ W s.heap s₁.heap a → R₂ W s₁.heap s₂.heap b →
      (∀ s', Kp s₂ s' → Q (.bool c) s') → wpAny (model prog w) A (compareOp op a b) Q E s₂)
    (hm : behindInMarks op r = false := by with_unfolding_all rfl) : EvB prog w G n sc ρ (.Compare l [op] [r] pos) c :=
  fun A env W ad s Q E hA hE hQ => wpAny_isTrue_Compare1 (hl A env W ad s _ E hA hE fun a s₁ k₁ r₁ => hr A env W ad s₁ _ E hA (hE.keeps k₁.1) fun b s₂ k₂ r₂ =>
    h A W s s₁ s₂ a b _ E hA hE.ground hE.live k₁ k₂ r₁ r₂ fun s' k => wpAny_truthy_bool (hQ s' ((k₁.trans k₂).trans k))) hm

noncomputable def intCmp : CmpOp → Int → Int → Option Bool
  | .Eq, a, b => some (a == b)
  | .NotEq, a, b => some (a != b)
  | .Lt, a, b => some (decide (a < b))
  | .LtE, a, b => some (decide (a ≤ b))
  | .Gt, a, b => some (decide (a > b))
  | .GtE, a, b => some (decide (a ≥ b))
  | _, _, _ => none
theorem cmp_int {op : CmpOp} {a b : Int} {t u : Tok} {c : Bool} {A : Around} {s : Shared} {Q : Value → Shared → Prop} {E : Value → Shared → Prop} (hc : intCmp op a b = some c) (h : Q (.bool c) s) :
    wpAny (model prog w) A (compareOp op (.int a t) (.int b u)) Q E s := by
  cases op <;> simp only [intCmp, Option.some.injEq, reduceCtorEq] at hc <;> subst hc
  · exact eq_int h
  · exact ne_int h
  · exact lt_int h
  · exact le_int h
  · exact gt_int h
  · exact ge_int h
theorem ev_cmpi {l r : Expr} {op : CmpOp} {pos : Pos} {a b : Int} {c : Bool} (hl : EvT prog w G n sc ρ l (.int a)) (hr : EvT prog w G n sc ρ r (.int b)) (hc : intCmp op a b = some c)
    (hm : behindInMarks op r = false := by with_unfolding_all rfl) : EvT prog w G n sc ρ (.Compare l [op] [r] pos) (.bool c) :=
  ev_cmp hl hr (fun A W s s₁ s₂ va vb Q E hA hG hW k₁ k₂ r₁ r₂ hQ => by
    obtain ⟨t, rfl⟩ := rep_int r₁
    obtain ⟨u, rfl⟩ := rep_int r₂
    exact cmp_int hc (hQ s₂ (Kp.refl _))) hm
theorem eb_cmpi {l r : Expr} {op : CmpOp} {pos : Pos} {a b : Int} {c : Bool} (hl : EvT prog w G n sc ρ l (.int a)) (hr : EvT prog w G n sc ρ r (.int b)) (hc : intCmp op a b = some c)
    (hm : behindInMarks op r = false := by with_unfolding_all rfl) : EvB prog w G n sc ρ (.Compare l [op] [r] pos) c :=
  eb_cmp hl hr (fun A W s s₁ s₂ va vb Q E hA hG hW k₁ k₂ r₁ r₂ hQ => by
    obtain ⟨t, rfl⟩ := rep_int r₁
    obtain ⟨u, rfl⟩ := rep_int r₂
    exact cmp_int hc (hQ s₂ (Kp.refl _))) hm
theorem eb_eqs {l r : Expr} {pos : Pos} {a b : Str} (hl : EvT prog w G n sc ρ l (.str a)) (hr : EvT prog w G n sc ρ r (.str b))
    (hm : behindInMarks .Eq r = false := by with_unfolding_all rfl) : EvB prog w G n sc ρ (.Compare l [.Eq] [r] pos) (a == b) :=
  eb_cmp hl hr (fun A W s s₁ s₂ va vb Q E hA hG hW k₁ k₂ r₁ r₂ hQ => by
    obtain ⟨t, rfl⟩ := rep_str r₁
    obtain ⟨u, rfl⟩ := rep_str r₂
    exact PyProof.Rows.eq_str (hQ s₂ (Kp.refl _))) hm

theorem eb_int {e : Expr} {a : Int} (h : EvT prog w G n sc ρ e (.int a)) (he : ∀ env whole, isTrue e env whole = (do let v ← whole; standAt e.pos; holding [v] (truthy v)) := by intro _ _; rfl) : EvB prog w G n sc ρ e (a != 0) :=
  fun A env W ad s Q E hA hE hQ => isTrue_plain (h A env W ad s _ E hA hE fun v s₁ k r => by
    obtain ⟨t, rfl⟩ := rep_int r
    exact PyProof.Rows.truthy_int (hQ s₁ k)) (he _ _)
theorem eb_bool {e : Expr} {b : Bool} (h : EvT prog w G n sc ρ e (.bool b)) (he : ∀ env whole, isTrue e env whole = (do let v ← whole; standAt e.pos; holding [v] (truthy v)) := by intro _ _; rfl) : EvB prog w G n sc ρ e b :=
  fun A env W ad s Q E hA hE hQ => isTrue_plain (h A env W ad s _ E hA hE fun v s₁ k r => by
    cases rep_bool r
    exact wpAny_truthy_bool (hQ s₁ k)) (he _ _)
theorem eb_not {e : Expr} {pos : Pos} {b : Bool} (h : EvB prog w G n sc ρ e b) : EvB prog w G n sc ρ (.UnaryOp .Not e pos) (!b) :=
  fun A env W ad s Q E hA hE hQ => isTrue_not (h A env W ad s _ E hA hE fun s₁ k => hQ s₁ k)
theorem eb_and {e f : Expr} {pos : Pos} {b c : Bool} (h : EvB prog w G n sc ρ e b) (k : b = true → EvB prog w G n sc ρ f c) : EvB prog w G n sc ρ (.BoolOp .And [e, f] pos) (b && c) :=
  fun A env W ad s Q E hA hE hQ => by
    refine isTrue_and (h A env W ad s _ E hA hE fun s₁ k₁ => ?_)
    cases b with
    | false => exact hQ s₁ k₁
    | true => exact isTrue_and (k rfl A env W ad s₁ _ E hA (hE.keeps k₁.1) fun s₂ k₂ => by
        cases c with
        | false => exact hQ s₂ (k₁.trans k₂)
        | true => exact isTrue_and_nil (hQ s₂ (k₁.trans k₂)))
theorem ev_if {t e f : Expr} {pos : Pos} {b : Bool} {R : (Addr → Prop) → Heap → Heap → Value → Prop} (ht : EvB prog w G n sc ρ t b)
    (he : b = true → Ev prog w G n sc ρ e R) (hf : b = false → Ev prog w G n sc ρ f R) (hR : ∀ W h h₁ h' v, (∀ b o, h.get? b = some o → h₁.get? b = some o) → R W h₁ h' v → R W h h' v) : Ev prog w G n sc ρ (.IfExp t e f pos) R :=
  fun A env W ad s Q E hA hE hQ => PyProof.Rows.IfExp_ (ht A env W ad s _ E hA hE fun s₁ k₁ => by
    cases b with
    | true => exact he rfl A env W ad s₁ _ E hA (hE.keeps k₁.1) fun v s₂ k₂ r => hQ v s₂ (k₁.trans k₂) (hR _ _ _ _ _ k₁.1 r)
    | false => exact hf rfl A env W ad s₁ _ E hA (hE.keeps k₁.1) fun v s₂ k₂ r => hQ v s₂ (k₁.trans k₂) (hR _ _ _ _ _ k₁.1 r))
theorem ev_ifT {t e f : Expr} {pos : Pos} {b : Bool} {d d' : PV} (ht : EvB prog w G n sc ρ t b)
    (he : b = true → EvT prog w G n sc ρ e d) (hf : b = false → EvT prog w G n sc ρ f d') : EvT prog w G n sc ρ (.IfExp t e f pos) (bif b then d else d') :=
  ev_if ht (fun q => by subst q; exact he rfl) (fun q => by subst q; exact hf rfl) fun _ _ _ _ _ _ r => r

noncomputable def NS (e : Expr) : Prop := ∀ rest env, starEach (e :: rest) env = (false, eval e env) :: starEach rest env
theorem each_nil : EvEach prog w G n sc ρ [] [] := fun A env W ad s pos Q E hA hE hQ => wpAny_items_nil (hQ [] s (Kp.refl s) .nil)
theorem each_cons {e : Expr} {es : List Expr} {d : PV} {ds : List PV} (he : EvT prog w G n sc ρ e d) (hs : EvEach prog w G n sc ρ es ds) (ns : NS e := by intro _ _; rfl) : EvEach prog w G n sc ρ (e :: es) (d :: ds) :=
  fun A env W ad s pos Q E hA hE hQ => wpAny_items_cons (he A env W ad s _ E hA hE fun v s₁ k₁ r => hs A env W ad s₁ pos _ E hA (hE.keeps k₁.1) fun vs s₂ k₂ rs =>
    hQ (v :: vs) s₂ (k₁.trans k₂) (.cons (r.mono k₂.hw) rs)) (ns _ _)

theorem fresh_get (h : Heap) : h.get? h.objs.size = none := Heap.get?_none_of_le (Nat.le_refl _)
theorem ev_tuple {es : List Expr} {ds : List PV} {k pos} (h : EvEach prog w G n sc ρ es ds) (hsz : ds.length ≤ sizeLine := by (rw [sizeLine_eq]; decide)) : EvT prog w G n sc ρ (.Tuple es k pos) (.tuple ds) :=
  fun A env W ad s Q E hA hE hQ => wpAny_Tuple (h A env W ad s pos _ E hA hE fun vs s₁ k₁ rs => ⟨by rw [rs.length]; exact hsz,
    hQ _ _ (k₁.trans (Kp.push ..)) (.tuple (n := 0) ⟨Heap.get?_push_size _ rfl, fun hw => by
      obtain ⟨o, ho⟩ := (hE.keeps k₁.1).live _ hw
      rw [fresh_get] at ho; cases ho⟩ (rs.mono (Kp.push s₁ _ s₁.toks).hw))⟩)
theorem push_new {s : Shared} {o : Obj} {t : Nat} {W : Addr → Prop} {vs : List Value} {ds : List PV} (rs : RepL (HW s.heap W) vs ds) :
    RepL (HW (s.heap.push o) (fun x => W x ∨ x = s.heap.objs.size)) vs ds :=
  rs.mono fun b ob x => ⟨Heap.get?_push_of_some _ x.1, fun hw => hw.elim x.2 fun e => by
    subst e
    exact absurd x.1 (by rw [fresh_get]; exact fun q => nomatch q)⟩
theorem fresh_old {s s₁ : Shared} (k : Kp s s₁) : s.heap.get? s₁.heap.objs.size = none := by
  cases q : s.heap.get? s₁.heap.objs.size with
  | none => rfl
  | some o => have := k.1 _ _ q; rw [fresh_get] at this; cases this
theorem ev_list {es : List Expr} {ds : List PV} {pos} (h : EvEach prog w G n sc ρ es ds) (hsz : ds.length ≤ sizeLine := by (rw [sizeLine_eq]; decide)) : EvF prog w G n sc ρ (.List es pos) ds :=
  fun A env W ad s Q E hA hE hQ => wpAny_List (h A env W ad s pos _ E hA hE fun vs s₁ k₁ rs => ⟨by rw [rs.length]; exact hsz,
    hQ _ _ (k₁.trans (Kp.push ..)) ⟨_, vs, 0, rfl, fresh_old k₁, Heap.get?_push_size _ rfl, push_new (t := 0) rs⟩⟩)

theorem seqIndex_of {k : Int} {m : Nat} (h0 : 0 ≤ k) (h1 : k.toNat < m) : seqIndex? k m = some k.toNat := by
  have e : (if k < 0 then k + (m : Int) else k) = k := if_neg (by omega)
  unfold seqIndex?
  simp only [e, decide_eq_true_eq, Bool.and_eq_true]
  rw [if_pos ⟨h0, by omega⟩]
theorem seqIndex_neg {k : Int} {m : Nat} (h0 : k < 0) (h1 : 0 ≤ k + m) : seqIndex? k m = some (k + m).toNat := by
  have e : (if k < 0 then k + (m : Int) else k) = k + m := if_pos h0
  unfold seqIndex?
  simp only [e, decide_eq_true_eq, Bool.and_eq_true]
  rw [if_pos ⟨h1, by omega⟩]
theorem ev_sub_ {v sl : Expr} {pos : Pos} {R₁ R₂ R : (Addr → Prop) → Heap → Heap → Value → Prop} (hv : Ev prog w G n sc ρ v R₁) (hi : Ev prog w G n sc ρ sl R₂)
    (h : ∀ A W s s₁ s₂ a b (Q : Value → Shared → Prop) E, AOk n A → GB G s.heap W → (∀ a, W a → ∃ o, s.heap.get? a = some o) → Kp s s₁ → Kp s₁ s₂ → R₁ W s.heap s₁.heap a → R₂ W s₁.heap s₂.heap b →
      (∀ v s', Kp s₂ s' → R W s.heap s'.heap v → Q v s') → wpAny (model prog w) A (subscriptTail v sl a b) Q E s₂) : Ev prog w G n sc ρ (.Subscript v sl pos) R :=
  fun A env W ad s Q E hA hE hQ => PyProof.Rows.Subscript_ (hv A env W ad s _ E hA hE fun a s₁ k₁ r₁ => hi A env W ad s₁ _ E hA (hE.keeps k₁.1) fun b s₂ k₂ r₂ =>
    h A W s s₁ s₂ a b Q E hA hE.ground hE.live k₁ k₂ r₁ r₂ fun v s' k r => hQ v s' ((k₁.trans k₂).trans k) r)
theorem ev_item {v sl : Expr} {pos : Pos} {ds : List PV} {k : Int} {d : PV} (hv : EvL prog w G n sc ρ v ds) (hi : EvT prog w G n sc ρ sl (.int k)) (h0 : 0 ≤ k) (hd : ds[k.toNat]? = some d) (hk : k < 2 ^ 63 := by omega)
    (hs : ∀ o i, subscripted sl false o i = operate [o, i] (getItem o i) := by intro _ _; rfl) : EvT prog w G n sc ρ (.Subscript v sl pos) d :=
  ev_sub_ hv hi fun A W s s₁ s₂ va vb Q E hA hG hW k₁ k₂ r₁ r₂ hQ => by
    obtain ⟨a, vs, m, rfl, ha, rs⟩ := r₁
    obtain ⟨u, rfl⟩ := rep_int r₂
    obtain ⟨x, hx, rx⟩ := rs.get hd
    have hl : s₂.heap.IsList a vs.toArray := ⟨_, k₂.1 _ _ ha, rfl, m, rfl⟩
    exact tail_any hl.typeIs slot_list_getitem.lookup (wpAny_getItem_list hl h0 hk (by simpa using hx) (hQ x s₂ (Kp.refl _) (rx.mono k₂.hw))) (hs _ _)
theorem ev_itemT {v sl : Expr} {pos : Pos} {ds : List PV} {k : Int} {d : PV} (hv : EvT prog w G n sc ρ v (.tuple ds)) (hi : EvT prog w G n sc ρ sl (.int k)) (h0 : 0 ≤ k) (hd : ds[k.toNat]? = some d) (hk : k < 2 ^ 63 := by omega)
    (hs : ∀ o i, subscripted sl false o i = operate [o, i] (getItem o i) := by intro _ _; rfl) : EvT prog w G n sc ρ (.Subscript v sl pos) d :=
  ev_sub_ hv hi fun A W s s₁ s₂ va vb Q E hA hG hW k₁ k₂ r₁ r₂ hQ => by
    obtain ⟨a, vs, m, rfl, ha, rs⟩ := rep_tuple r₁
    obtain ⟨u, rfl⟩ := rep_int r₂
    obtain ⟨x, hx, rx⟩ := rs.get hd
    have hl : IsTup s₂.heap a vs.toArray := ⟨_, k₂.1 _ _ ha.1, rfl, m, rfl⟩
    have hlt : k.toNat < vs.toArray.size := by have := (List.getElem?_eq_some_iff.mp hx).1; simpa using this
    exact tail_any hl.typeIs slot_tuple_getitem.lookup (getItem_tuple hl (by omega) hk (seqIndex_of h0 hlt) (by simpa using hx) (hQ x s₂ (Kp.refl _) (rx.mono k₂.hw))) (hs _ _)
theorem ev_sign {v sl : Expr} {pos : Pos} {x : Str} {k : Int} {c : Nat} (hv : EvT prog w G n sc ρ v (.str x)) (hi : EvT prog w G n sc ρ sl (.int k)) (hk : (decide (k < -(2 ^ 63 : Int)) || decide (k ≥ 2 ^ 63)) = false)
    (hc : (seqIndex? k x.length).bind (x.cps[·]?) = some c)
    (hs : ∀ o i, subscripted sl false o i = operate [o, i] (getItem o i) := by intro _ _; rfl) : EvT prog w G n sc ρ (.Subscript v sl pos) (.str ⟨#[c]⟩) :=
  ev_sub_ hv hi fun A W s s₁ s₂ va vb Q E hA hG hW k₁ k₂ r₁ r₂ hQ => by
    obtain ⟨t, rfl⟩ := rep_str r₁
    obtain ⟨u, rfl⟩ := rep_int r₂
    exact tail_any (typeIs_str _ x t) PySem.F.slot_str_getitem.lookup (PyProof.Rows.getItem_str hk hc (hQ _ _ (Kp.tok ..) (.str _ _))) (hs _ _)

theorem ev_cat {l r : Expr} {pos : Pos} {x y : Str} (hl : EvT prog w G n sc ρ l (.str x)) (hr : EvT prog w G n sc ρ r (.str y)) (hsz : x.length + y.length ≤ sizeLine) : EvT prog w G n sc ρ (.BinOp l .Add r pos) (.str (x ++ y)) :=
  ev_bin hl hr fun A W s s₁ s₂ va vb Q E hA hG hW k₁ k₂ r₁ r₂ hQ => by
    obtain ⟨t, rfl⟩ := rep_str r₁
    obtain ⟨u, rfl⟩ := rep_str r₂
    exact PyProof.Rows.add_str (fun t' tk => hQ _ _ (Kp.tok ..) (.str _ _)) hsz
noncomputable def repS (x : Str) (k : Nat) : Str := ⟨(List.replicate k x.cps).foldl (· ++ ·) #[]⟩
theorem repS_aux (c : Array Nat) : ∀ (k : Nat) (a : Array Nat), ((List.replicate k c).foldl (· ++ ·) a).size = a.size + k * c.size
  | 0, a => by simp
  | k + 1, a => by rw [List.replicate_succ, List.foldl_cons, repS_aux c k, Array.size_append, Nat.succ_mul]; omega
theorem repS_len (x : Str) (k : Nat) : (repS x k).length = k * x.length := by
  show (repS x k).cps.size = _
  simp only [repS, repS_aux]
  simp [Str.length]
theorem ev_rep {l r : Expr} {pos : Pos} {x : Str} {k : Int} (hl : EvT prog w G n sc ρ l (.str x)) (hr : EvT prog w G n sc ρ r (.int k)) (h0 : 0 ≤ k) (hx : x.length ≤ 1000) (hk : k ≤ 1000) : EvT prog w G n sc ρ (.BinOp l .Mult r pos) (.str (repS x k.toNat)) :=
  ev_bin hl hr fun A W s s₁ s₂ va vb Q E hA hG hW k₁ k₂ r₁ r₂ hQ => by
    obtain ⟨t, rfl⟩ := rep_str r₁
    obtain ⟨u, rfl⟩ := rep_int r₂
    have hm : x.length * k.toNat ≤ 1000 * 1000 := Nat.mul_le_mul hx (by omega)
    refine PySem.P.mul_str (by
      have h1 : ¬ k < -(2 ^ 63 : Int) := by omega
      have h2 : ¬ k ≥ 2 ^ 63 := by omega
      rw [decide_eq_false h1, decide_eq_false h2]; rfl) (fun hn _ hgt => ?_) (fun hn _ => ?_) ?_
    · have e1 : (x.length : Int) * k = ((x.length * k.toNat : Nat) : Int) := by rw [Int.natCast_mul, Int.toNat_of_nonneg h0]
      have h3 : (x.length : Int) ≤ (2 ^ 63 - 1) / k := Int.le_ediv_of_mul_le (by omega) (by rw [e1]; omega)
      omega
    · unfold Builtin.Str.tooLong
      rw [sizeLine_eq]
      exact decide_eq_false (by omega)
    · by_cases h1 : k < 1
      · rw [if_pos h1]
        have hk0 : k = 0 := by omega
        subst hk0
        exact ⟨by decide, hQ _ _ (Kp.tok ..) (.str _ _)⟩
      · rw [if_neg h1]
        by_cases h2 : (k == 1 || x.length == 0) = true
        · rw [if_pos h2]
          have e : repS x k.toNat = x := by
            rcases Bool.or_eq_true_iff.mp h2 with q | q
            · have : k = 1 := by simpa using q
              subst this
              cases x; simp [repS]
            · have h0 : x.cps = #[] := Array.eq_empty_of_size_eq_zero (by simpa [Str.length] using q)
              have : ∀ m : Nat, (List.replicate m (#[] : Array Nat)).foldl (· ++ ·) #[] = #[] := by
                intro m; induction m with
                | zero => rfl
                | succ m ih => rw [List.replicate_succ, List.foldl_cons]; exact ih
              cases x; simp only [repS] at *; subst h0; rw [this]
          rw [← e]
          exact hQ _ _ (Kp.refl _) (by rw [e]; exact .str x t)
        · rw [if_neg h2]
          refine ⟨?_, hQ _ _ (Kp.tok ..) (.str _ _)⟩
          show (repS x k.toNat).length ≤ sizeLine
          rw [repS_len, sizeLine_eq, Nat.mul_comm]
          omega
end
end Mine
end

section
open PySem PySem.W PyProof.Rows
namespace Mine

theorem repL_ints {P : Addr → Obj → Prop} : ∀ {ns : List Int} {vs : List Value}, RepL P vs (ns.map PV.int) → IntsAre vs ns
  | [], _, .nil => .nil
  | k :: ns, _, .cons h r => by
    obtain ⟨t, rfl⟩ := rep_int h
    exact .cons k t (repL_ints r)
theorem repL_strs {P : Addr → Obj → Prop} : ∀ {ys : List Str} {vs : List Value}, RepL P vs (ys.map PV.str) → StrsAre vs ys
  | [], _, .nil => .nil
  | k :: ys, _, .cons h r => by
    obtain ⟨t, rfl⟩ := rep_str h
    exact .cons k t (repL_strs r)
theorem ints_repL {P : Addr → Obj → Prop} : ∀ {ns : List Int} {vs : List Value}, IntsAre vs ns → RepL P vs (ns.map PV.int)
  | _, _, .nil => .nil
  | _, _, .cons k t r => .cons (.int k t) (ints_repL r)

noncomputable def GVal (G : Gd) (x : Str) (f : Value) : Prop := G.mg x = some f ∨ (G.mg x = none ∧ G.mb x = some f)

section
variable {prog : Program} {w : World} {G : Gd} {n : Nat} {sc : Scope} {ρ : Store}

theorem ev_glob {x : Str} {pos : Pos} {f : Value} (hx : sc.names.lookup x = some .globalImplicit) (hf : GVal G x f) (hd : (x == ("__debug__" : Str)) = false := by decide) :
    Ev prog w G n sc ρ (.Name x pos) fun _ _ _ v => v = f :=
  fun A env W ad s Q E hA hE hQ => by
    have hg : s.heap.Ns env.globals G.mg := by rw [hE.glob]; exact hE.ground.gr.T.g
    have hb : s.heap.Ns env.builtins G.mb := by rw [hE.blt]; exact hE.ground.gr.T.b
    refine Calls.Name_function_global (hE.scope ▸ hE.kind) (by rw [lookup_kind hE.scope]; exact hx) ?_ hd
    rcases hf with hf | ⟨h0, hf⟩
    · exact Calls.loadGlobal_global hg hf (hQ _ _ (Kp.refl _) rfl)
    · exact Calls.loadGlobal_builtin hg h0 hb hf (hQ _ _ (Kp.refl _) rfl)

inductive Callable (G : Gd) : Value → Prop
  | builtin (id : String) : Callable G (.builtin id)
  | type (T : String) : Callable G (.type T)
  | own {f : Value} : keepIn G.K f = true → Callable G f

theorem callWith_each {A : Around} {env : Env} {W : Addr → Prop} {ad : Str → Addr} {s : Shared} {pos : Pos} {f : Value} {first : List Value} {e : Expr} {es : List Expr} {ds : List PV} {Q : Value → Shared → Prop} {E : Value → Shared → Prop}
    (hf : Callable G f) (hA : AOk n A) (hE : EC G sc env W ad ρ s.heap) (he : EvEach prog w G n sc ρ (e :: es) ds) (h : ∀ vs s', Kp s s' → RepL (HW s'.heap W) vs ds → wpAny (model prog w) A (call f (first ++ vs)) Q E s')
    (ns : NS e := by intro _ _; rfl) (hpl : ∀ env, (backTo pos (starEach es env)).any (·.1) = false := by intro _; rfl) :
    wpAny (model prog w) A (callWith pos f first (backTo pos (starEach (e :: es) env)) []) Q E s := by
  have hh := he A env W ad s pos (fun vs s₁ => G.K.In s₁.heap ∧ wpAny (model prog w) A (call f (first ++ vs)) Q E s₁) E hA hE fun vs s' k r => ⟨(hE.keeps k.1).ground.gr.X, h vs s' k r⟩
  have hh2 := he A env W ad s pos (fun vs s₁ => wpAny (model prog w) A (call f (first ++ vs)) Q E s₁) E hA hE fun vs s' k r => h vs s' k r
  cases hf with
  | builtin id =>
    rw [ns] at hh2 ⊢
    exact Calls.callWith_builtin (by show (false || (backTo pos (starEach es env)).any (·.1)) = false; rw [hpl]; rfl) (Calls.evalArgs_plain hh2)
  | type T =>
    rw [ns] at hh2 ⊢
    exact PyProof.Rows.callWith_type (by show (false || (backTo pos (starEach es env)).any (·.1)) = false; rw [hpl]; rfl) (Calls.evalArgs_plain hh2)
  | own hk => exact callWith_K (h₀ := s.heap) hE.ground.gr.X hk hh (ns _ _) (hpl _)

theorem eval_callName {A : Around} {env : Env} {s : Shared} {x : Str} {np pos : Pos} {args : List Expr} {Q : Value → Shared → Prop} {E : Value → Shared → Prop}
    (h : wpAny (model prog w) A (eval (.Name x np) env) (fun f s₁ => wpAny (model prog w) A (callWith pos f [] (backTo pos (starEach args env)) []) Q E s₁) E s) :
    wpAny (model prog w) A (eval (.Call (.Name x np) args [] pos) env) Q E s := wpAny_Call_Name_kw h

theorem ev_call {x : Str} {np pos : Pos} {e : Expr} {es : List Expr} {ds : List PV} {f : Value} {R : (Addr → Prop) → Heap → Heap → Value → Prop}
    (hx : sc.names.lookup x = some .globalImplicit) (hf : GVal G x f) (hc : Callable G f) (he : EvEach prog w G n sc ρ (e :: es) ds)
    (h : ∀ A W s s₁ vs (Q : Value → Shared → Prop) E, AOk n A → GB G s.heap W → (∀ a, W a → ∃ o, s.heap.get? a = some o) → Kp s s₁ → RepL (HW s₁.heap W) vs ds → (∀ r s', Kp s₁ s' → R W s.heap s'.heap r → Q r s') → wpAny (model prog w) A (call f vs) Q E s₁)
    (ns : NS e := by intro _ _; rfl) (hpl : ∀ env, (backTo pos (starEach es env)).any (·.1) = false := by intro _; rfl) (hd : (x == ("__debug__" : Str)) = false := by decide) :
    Ev prog w G n sc ρ (.Call (.Name x np) (e :: es) [] pos) R :=
  fun A env W ad s Q E hA hE hQ => eval_callName (ev_glob hx hf hd A env W ad s _ E hA hE fun v s₁ k₁ r₁ => by
    subst r₁
    exact callWith_each hc hA (hE.keeps k₁.1) he (fun vs s₂ k₂ rs => h A W s s₂ vs Q E hA hE.ground hE.live (k₁.trans k₂) rs fun r s' k rr => hQ r s' ((k₁.trans k₂).trans k) rr) ns hpl)
theorem ev_callF {x : Str} {np pos : Pos} {e : Expr} {es : List Expr} {ds : List PV} {f : Value} {d : PV}
    (hx : sc.names.lookup x = some .globalImplicit) (hf : GVal G x f) (hc : Callable G f) (he : EvEach prog w G n sc ρ (e :: es) ds) (hfn : Fn prog w G n f ds d)
    (ns : NS e := by intro _ _; rfl) (hpl : ∀ env, (backTo pos (starEach es env)).any (·.1) = false := by intro _; rfl) (hd : (x == ("__debug__" : Str)) = false := by decide) :
    EvT prog w G n sc ρ (.Call (.Name x np) (e :: es) [] pos) d :=
  ev_call hx hf hc he (fun A W s s₁ vs Q E hA hG hW k rs hQ => hfn A W vs s₁ Q E hA (hG.mono k.hw) (fun a x => let ⟨o, q⟩ := hW a x; ⟨o, k.1 _ _ q⟩) rs fun v s' k' r => hQ v s' k' r) ns hpl hd

theorem ev_call1 {x : Str} {np pos : Pos} {e : Expr} {f : Value} {R₁ R : (Addr → Prop) → Heap → Heap → Value → Prop}
    (hx : sc.names.lookup x = some .globalImplicit) (hf : GVal G x f) (hc : Callable G f) (he : Ev prog w G n sc ρ e R₁)
    (h : ∀ A W s s₁ v (Q : Value → Shared → Prop) E, AOk n A → GB G s.heap W → (∀ a, W a → ∃ o, s.heap.get? a = some o) → Kp s s₁ → (∃ h₀, (∀ b o, s.heap.get? b = some o → h₀.get? b = some o) ∧ R₁ W h₀ s₁.heap v) → (∀ r s', Kp s₁ s' → R W s.heap s'.heap r → Q r s') → wpAny (model prog w) A (call f [v]) Q E s₁)
    (ns : NS e := by intro _ _; rfl) (hd : (x == ("__debug__" : Str)) = false := by decide) :
    Ev prog w G n sc ρ (.Call (.Name x np) [e] [] pos) R :=
  fun A env W ad s Q E hA hE hQ => eval_callName (ev_glob hx hf hd A env W ad s _ E hA hE fun v s₁ k₁ r₁ => by
    subst r₁
    have hh : wpAny (model prog w) A (spliced (backTo pos (starEach [e] env))) (fun vs s₂ => G.K.In s₂.heap ∧ wpAny (model prog w) A (call v ([] ++ vs)) Q E s₂) E s₁ :=
      wpAny_items_cons (he A env W ad s₁ _ E hA (hE.keeps k₁.1) fun u s₂ k₂ r₂ => wpAny_items_nil ⟨((hE.keeps k₁.1).keeps k₂.1).ground.gr.X,
        h A W s s₂ u Q E hA hE.ground hE.live (k₁.trans k₂) ⟨s₁.heap, k₁.1, r₂⟩ fun r s' k rr => hQ r s' ((k₁.trans k₂).trans k) rr⟩) (ns _ _)
    cases hc with
    | builtin id =>
      have hh2 := wpAny_mono hh (fun _ _ p => p.2) fun _ _ x => x
      rw [ns] at hh2 ⊢
      exact Calls.callWith_builtin rfl (Calls.evalArgs_plain hh2)
    | type T =>
      have hh2 := wpAny_mono hh (fun _ _ p => p.2) fun _ _ x => x
      rw [ns] at hh2 ⊢
      exact PyProof.Rows.callWith_type rfl (Calls.evalArgs_plain hh2)
    | own hk => exact callWith_K (h₀ := s.heap) hE.ground.gr.X hk hh (ns _ _) rfl)

theorem ev_len {x : Str} {np pos : Pos} {e : Expr} {ds : List PV} (hx : sc.names.lookup x = some .globalImplicit) (hf : GVal G x (.builtin "len")) (he : EvL prog w G n sc ρ e ds) (hsz : ds.length < 2 ^ 60 := by decide)
    (ns : NS e := by intro _ _; rfl) (hd : (x == ("__debug__" : Str)) = false := by decide) : EvT prog w G n sc ρ (.Call (.Name x np) [e] [] pos) (.int ds.length) :=
  ev_call1 hx hf (.builtin _) he (fun A W s s₁ v Q E hA hG hW k hr hQ => by
    obtain ⟨h₀, _, a, vs, m, rfl, ha, rs⟩ := hr
    have hl : s₁.heap.IsList a vs.toArray := ⟨_, ha, rfl, m, rfl⟩
    refine Calls.call_len_list hl (by rw [List.size_toArray, rs.length]; omega) ?_
    rw [List.size_toArray, rs.length]
    exact hQ _ _ (Kp.tok ..) (.int _ _)) ns hd
theorem ev_lenS {x : Str} {np pos : Pos} {e : Expr} {y : Str} (hx : sc.names.lookup x = some .globalImplicit) (hf : GVal G x (.builtin "len")) (he : EvT prog w G n sc ρ e (.str y)) (hsz : y.length < 2 ^ 60)
    (ns : NS e := by intro _ _; rfl) (hd : (x == ("__debug__" : Str)) = false := by decide) : EvT prog w G n sc ρ (.Call (.Name x np) [e] [] pos) (.int y.length) :=
  ev_call1 hx hf (.builtin _) he (fun A W s s₁ v Q E hA hG hW k hr hQ => by
    obtain ⟨h₀, _, r⟩ := hr
    obtain ⟨t, rfl⟩ := rep_str r
    exact PyProof.Rows.len_str (by omega) (hQ _ _ (Kp.tok ..) (.int _ _))) ns hd
theorem ev_lenT {x : Str} {np pos : Pos} {e : Expr} {ds : List PV} (hx : sc.names.lookup x = some .globalImplicit) (hf : GVal G x (.builtin "len")) (he : EvT prog w G n sc ρ e (.tuple ds)) (hsz : ds.length < 2 ^ 60)
    (ns : NS e := by intro _ _; rfl) (hd : (x == ("__debug__" : Str)) = false := by decide) : EvT prog w G n sc ρ (.Call (.Name x np) [e] [] pos) (.int ds.length) :=
  ev_call1 hx hf (.builtin _) he (fun A W s s₁ v Q E hA hG hW k hr hQ => by
    obtain ⟨h₀, _, r⟩ := hr
    obtain ⟨a, vs, m, rfl, ha, rs⟩ := rep_tuple r
    refine len_tuple (items := vs.toArray) ⟨_, ha.1, rfl, m, rfl⟩ (by rw [List.size_toArray, rs.length]; omega) ?_
    rw [List.size_toArray, rs.length]
    exact hQ _ _ (Kp.tok ..) (.int _ _)) ns hd
theorem ev_sum {x : Str} {np pos : Pos} {e : Expr} {is : List Int} (hx : sc.names.lookup x = some .globalImplicit) (hf : GVal G x (.builtin "sum")) (he : EvL prog w G n sc ρ e (is.map PV.int))
    (ns : NS e := by intro _ _; rfl) (hd : (x == ("__debug__" : Str)) = false := by decide) : EvT prog w G n sc ρ (.Call (.Name x np) [e] [] pos) (.int is.sum) :=
  ev_call1 hx hf (.builtin _) he (fun A W s s₁ v Q E hA hG hW k hr hQ => by
    obtain ⟨h₀, _, a, vs, m, rfl, ha, rs⟩ := hr
    have hi := repL_ints rs
    have hl : s₁.heap.IsList a vs.toArray := ⟨_, ha, rfl, m, rfl⟩
    obtain ⟨xs, hxs⟩ := (IntsAre.allInts hi).items
    rw [hxs] at hl
    refine sum_intListG hA.1 hl fun h' tk t' hk => ?_
    have e1 : preSum (numAt xs) xs.size = is.sum := by
      rw [preSum_eq, List.take_of_length_le (by simp), ← nums_intItems, ← hxs, show vs.toArray.toList = vs from rfl, hi.numsOf]
    rw [e1]
    exact hQ _ _ ⟨hk, rfl, rfl⟩ (.int _ _)) ns hd
theorem ev_max {x : Str} {np pos : Pos} {e : Expr} {is : List Int} {M : Int} (hx : sc.names.lookup x = some .globalImplicit) (hf : GVal G x (.builtin "max")) (he : EvL prog w G n sc ρ e (is.map PV.int)) (hM : M ∈ is) (hle : ∀ a ∈ is, a ≤ M)
    (ns : NS e := by intro _ _; rfl) (hd : (x == ("__debug__" : Str)) = false := by decide) : EvT prog w G n sc ρ (.Call (.Name x np) [e] [] pos) (.int M) :=
  ev_call1 hx hf (.builtin _) he (fun A W s s₁ v Q E hA hG hW k hr hQ => by
    obtain ⟨h₀, _, a, vs, m, rfl, ha, rs⟩ := hr
    have hi := repL_ints rs
    have hl : s₁.heap.IsList a vs.toArray := ⟨_, ha, rfl, m, rfl⟩
    obtain ⟨xs, hxs⟩ := (IntsAre.allInts hi).items
    have e1 : xs.toList.map (·.1) = is := by rw [← nums_intItems, ← hxs, show vs.toArray.toList = vs from rfl, hi.numsOf]
    have hsz : 0 < xs.size := by
      have := List.length_pos_of_mem hM
      rw [← e1] at this
      simpa using this
    rw [hxs] at hl
    refine max_intList hA.1 hl hsz fun v h' tk hv hk => ?_
    obtain ⟨t, rfl⟩ := intItems_at hv
    obtain ⟨h1, h2⟩ := argBest_gt (numAt xs) (xs.size - 1)
    have hmem : numAt xs (argBest (fun i j => decide (numAt xs i > numAt xs j)) (xs.size - 1)) ∈ is := by
      rw [numAt_eq, e1]
      refine getD_mem ?_
      rw [← e1, List.length_map, Array.length_toList]; omega
    have hup : ∀ a ∈ is, a ≤ numAt xs (argBest (fun i j => decide (numAt xs i > numAt xs j)) (xs.size - 1)) := fun a ha => by
      obtain ⟨j, hj, rfl⟩ := mem_getD ha
      rw [← e1, List.length_map, Array.length_toList] at hj
      have := h2 j (by omega)
      rw [numAt_eq, e1] at this
      exact this
    have eM : numAt xs (argBest (fun i j => decide (numAt xs i > numAt xs j)) (xs.size - 1)) = M := Int.le_antisymm (hle _ hmem) (hup _ hM)
    rw [eM]
    exact hQ _ _ ⟨hk, rfl, rfl⟩ (.int _ _)) ns hd
theorem ev_hex {x : Str} {np pos : Pos} {e : Expr} {i : Int} {y : Str} (hx : sc.names.lookup x = some .globalImplicit) (hf : GVal G x (.builtin "hex")) (he : EvT prog w G n sc ρ e (.int i)) (hy : PySem.baseText "0x" 16 i = y) (hsz : y.length ≤ sizeLine)
    (ns : NS e := by intro _ _; rfl) (hd : (x == ("__debug__" : Str)) = false := by decide) : EvT prog w G n sc ρ (.Call (.Name x np) [e] [] pos) (.str y) :=
  ev_call1 hx hf (.builtin _) he (fun A W s s₁ v Q E hA hG hW k hr hQ => by
    obtain ⟨h₀, _, r⟩ := hr
    obtain ⟨t, rfl⟩ := rep_int r
    subst hy
    exact P.hex_of_int (hQ _ _ (Kp.tok ..) (.str _ _)) hsz) ns hd
end
end Mine
end

section
open PySem PySem.W PyProof.Rows
namespace Mine
section
variable {prog : Program} {w : World} {G : Gd} {n : Nat} {sc : Scope} {ρ : Store}

theorem ev_meth1 {o e : Expr} {name : Str} {apos pos : Pos} {R₁ R₂ R : (Addr → Prop) → Heap → Heap → Value → Prop} {T id : String} (ho : Ev prog w G n sc ρ o R₁) (he : Ev prog w G n sc ρ e R₂)
    (pa : PlainAttrs T) (slot : Slot T name id) (hty : typeOf (.builtin id) = pure (.type "method_descriptor"))
    (hT : ∀ W h s v, R₁ W h s.heap v → Shared.TypeIs s v T ∧ ∀ a, v = .ref a → ∃ ob, s.heap.get? a = some ob ∧ ob.dict = none)
    (h : ∀ A W s s₁ s₂ a b (Q : Value → Shared → Prop) E, AOk n A → GB G s.heap W → (∀ a, W a → ∃ o, s.heap.get? a = some o) → Kp s s₁ → Kp s₁ s₂ → R₁ W s.heap s₁.heap a → R₂ W s₁.heap s₂.heap b →
      (∀ v s', Kp s₂ s' → R W s.heap s'.heap v → Q v s') → wpAny (model prog w) A (call (.builtin id) [a, b]) Q E s₂)
    (hbase : ∀ env, attributeBase o name env (eval o env) = eval o env := by intro _; rfl) (ns : NS e := by intro _ _; rfl) (hline : (apos.endLine == pos.line) = true := by rfl) :
    Ev prog w G n sc ρ (.Call (.Attribute o name apos) [e] [] pos) R :=
  fun A env W ad s Q E hA hE hQ => Call_method1 (hbase env) (ns [] env) hline (ho A env W ad s _ E hA hE fun a s₁ k₁ r₁ => by
    obtain ⟨ht, hd⟩ := hT _ _ s₁ _ r₁
    refine ⟨T, id, pa, slot, hty, ht, hd, ?_⟩
    refine Calls.callWith_builtin rfl (Calls.evalArgs_plain (Calls.spliced_cons (he A env W ad s₁ _ E hA (hE.keeps k₁.1) fun b s₂ k₂ r₂ => Calls.spliced_nil ?_)))
    exact h A W s s₁ s₂ a b Q E hA hE.ground hE.live k₁ k₂ r₁ r₂ fun v s' k r => hQ v s' ((k₁.trans k₂).trans k) r)

theorem ev_count {o e : Expr} {apos pos : Pos} {is : List Int} {k : Int} (ho : EvL prog w G n sc ρ o (is.map PV.int)) (he : EvT prog w G n sc ρ e (.int k))
    (hbase : ∀ env, attributeBase o "count" env (eval o env) = eval o env := by intro _; rfl) (ns : NS e := by intro _ _; rfl) (hline : (apos.endLine == pos.line) = true := by rfl) :
    EvT prog w G n sc ρ (.Call (.Attribute o "count" apos) [e] [] pos) (.int (is.count k : Nat)) :=
  ev_meth1 ho he PySem.F.plainAttrs_list PySem.F.slot_list_count PySem.F.type_list_count (fun W h s v r => by
      obtain ⟨a, vs, m, rfl, ha, rs⟩ := r
      exact ⟨⟨_, ha, rfl⟩, fun b e => by cases e; exact ⟨_, ha, rfl⟩⟩)
    (fun A W s s₁ s₂ va vb Q E hA hG hW k₁ k₂ r₁ r₂ hQ => by
      obtain ⟨a, vs, m, rfl, ha, rs⟩ := r₁
      obtain ⟨u, rfl⟩ := rep_int r₂
      exact count_list_ints (vs := vs) ⟨_, k₂.1 _ _ ha, rfl, m, rfl⟩ (repL_ints rs) (hQ _ _ (Kp.tok ..) (.int _ _))) hbase ns hline
theorem countIn_strs (y : Str) : ∀ xs : List Str, Spec.countIn (PyData.str y) (xs.map PyData.str) = ((xs.count y : Nat) : Int)
  | [] => rfl
  | x :: xs => by
    have ih := countIn_strs y xs
    rw [List.map_cons]
    show (if Spec.same (PyData.str x) (PyData.str y) then (1 : Int) else 0) + Spec.countIn (PyData.str y) (xs.map PyData.str) = _
    rw [ih, List.count_cons, Int.natCast_add]
    have e : Spec.same (PyData.str x) (PyData.str y) = (x == y) := by first | rfl | simp [Spec.same]
    rw [e]
    cases x == y <;> simp <;> omega
theorem ev_countS {o e : Expr} {apos pos : Pos} {xs : List Str} {y : Str} (ho : EvL prog w G n sc ρ o (xs.map PV.str)) (he : EvT prog w G n sc ρ e (.str y))
    (hbase : ∀ env, attributeBase o "count" env (eval o env) = eval o env := by intro _; rfl) (ns : NS e := by intro _ _; rfl) (hline : (apos.endLine == pos.line) = true := by rfl) :
    EvT prog w G n sc ρ (.Call (.Attribute o "count" apos) [e] [] pos) (.int (xs.count y : Nat)) :=
  ev_meth1 ho he PySem.F.plainAttrs_list PySem.F.slot_list_count PySem.F.type_list_count (fun W h s v r => by
      obtain ⟨a, vs, m, rfl, ha, rs⟩ := r
      exact ⟨⟨_, ha, rfl⟩, fun b e => by cases e; exact ⟨_, ha, rfl⟩⟩)
    (fun A W s s₁ s₂ va vb Q E hA hG hW k₁ k₂ r₁ r₂ hQ => by
      obtain ⟨a, vs, m, rfl, ha, rs⟩ := r₁
      obtain ⟨u, rfl⟩ := rep_str r₂
      exact count_list_strs (vs := vs) ⟨_, k₂.1 _ _ ha, rfl, m, rfl⟩ (repL_strs rs) (hQ _ _ (Kp.tok ..) (by rw [countIn_strs]; exact .int _ _))) hbase ns hline
theorem ev_join {o e : Expr} {apos pos : Pos} {x : Str} {ys : List Str} (ho : EvT prog w G n sc ρ o (.str x)) (he : EvL prog w G n sc ρ e (ys.map PV.str)) (hok : (ys.map (·.length)).sum + ys.length * x.length ≤ 16777216)
    (hbase : ∀ env, attributeBase o "join" env (eval o env) = eval o env := by intro _; rfl) (ns : NS e := by intro _ _; rfl) (hline : (apos.endLine == pos.line) = true := by rfl) :
    EvT prog w G n sc ρ (.Call (.Attribute o "join" apos) [e] [] pos) (.str (Txt.join x ys)) :=
  ev_meth1 ho he PySem.F.plainAttrs_str PySem.F.slot_str_join PySem.F.type_str_join (fun W h s v r => by
      obtain ⟨t, rfl⟩ := rep_str r
      exact ⟨typeIs_str _ _ _, fun b e => nomatch e⟩)
    (fun A W s s₁ s₂ va vb Q E hA hG hW k₁ k₂ r₁ r₂ hQ => by
      obtain ⟨t, rfl⟩ := rep_str r₁
      obtain ⟨a, vs, m, rfl, ha, rs⟩ := r₂
      exact join_list (items := vs.toArray) ⟨_, ha, rfl, m, rfl⟩ (repL_strs rs) hok (fun t' tk => hQ _ _ (Kp.tok ..) (.str _ _))) hbase ns hline

theorem eb_in {l r : Expr} {pos : Pos} {k : Int} {is : List Int} (hl : EvT prog w G n sc ρ l (.int k)) (hr : EvL prog w G n sc ρ r (is.map PV.int))
    (hm : behindInMarks .In r = false := by with_unfolding_all rfl) : EvB prog w G n sc ρ (.Compare l [.In] [r] pos) (is.any (· == k)) :=
  eb_cmp hl hr (fun A W s s₁ s₂ va vb Q E hA hG hW k₁ k₂ r₁ r₂ hQ => by
    obtain ⟨t, rfl⟩ := rep_int r₁
    obtain ⟨a, vs, m, rfl, ha, rs⟩ := r₂
    exact in_list_ints (vs := vs) ⟨_, ha, rfl, m, rfl⟩ (repL_ints rs) (hQ s₂ (Kp.refl _))) hm

theorem ev_catL {l r : Expr} {pos : Pos} {ds es : List PV} (hl : EvL prog w G n sc ρ l ds) (hr : EvL prog w G n sc ρ r es) (hsz : ds.length + es.length ≤ sizeLine) : EvF prog w G n sc ρ (.BinOp l .Add r pos) (ds ++ es) :=
  ev_bin hl hr fun A W s s₁ s₂ va vb Q E hA hG hW k₁ k₂ r₁ r₂ hQ => by
    obtain ⟨a, vs, m, rfl, ha, rs⟩ := r₁
    obtain ⟨b, us, m', rfl, hb, ru⟩ := r₂
    refine concat_meets ⟨_, k₂.1 _ _ ha, rfl⟩ ⟨_, hb, rfl⟩ noFill_list_add seq_list_add PySem.F.slot_list_add PySem.F.entry_list_add (PySem.F.args_list_add_2 _ _) (list_addW a b vs.toArray us.toArray m m' none none #[] #[] (by simpa [rs.length, ru.length] using hsz)) ⟨k₂.1 _ _ ha, hb, ?_⟩
    refine hQ _ _ (Kp.push s₂ _ s₂.toks) ⟨_, vs ++ us, 0, rfl, fresh_old (k₁.trans k₂), ?_, push_new (t := 0) ((rs.mono k₂.hw).append ru)⟩
    rw [show PySem.W.listOf (vs ++ us).toArray 0 = ({ cls := .type "list", data := .seq (vs.toArray ++ us.toArray) } : Obj) by simp [PySem.W.listOf]]
    exact Heap.get?_push_size _ rfl
noncomputable def repL (l : List PV) : Nat → List PV
  | 0 => []
  | k + 1 => repL l k ++ l
theorem foldl_repL {P : Addr → Obj → Prop} {vs : List Value} {ds : List PV} (h : RepL P vs ds) : ∀ (k : Nat), ∃ us, (List.replicate k vs.toArray).foldl (fun x y => x ++ y) #[] = List.toArray us ∧ RepL P us (repL ds k)
  | 0 => ⟨[], rfl, .nil⟩
  | k + 1 => by
    obtain ⟨us, e, r⟩ := foldl_repL h k
    refine ⟨us ++ vs, ?_, r.append h⟩
    rw [List.replicate_succ', List.foldl_append, e]
    simp
theorem ev_repL {l r : Expr} {pos : Pos} {ds : List PV} {k : Int} (hl : EvL prog w G n sc ρ l ds) (hr : EvT prog w G n sc ρ r (.int k)) (hne : ds ≠ []) (h0 : 0 ≤ k) (hk : k < 2 ^ 63) (hsz : ds.length * k.toNat ≤ 2 ^ 24) : EvF prog w G n sc ρ (.BinOp l .Mult r pos) (repL ds k.toNat) :=
  ev_bin hl hr fun A W s s₁ s₂ va vb Q E hA hG hW k₁ k₂ r₁ r₂ hQ => by
    obtain ⟨a, vs, m, rfl, ha, rs⟩ := r₁
    obtain ⟨u, rfl⟩ := rep_int r₂
    have hl := k₂.1 _ _ ha
    have hlen := rs.length
    refine wpAny_binaryOp_repeat_ref (T := "list") (U := "int") (by decide) ⟨_, hl, rfl⟩ (fun s' => typeIs_int s' k u) noFill_list_mul F.fills_int_mul F.slot_int_rmul repeat_list F.slot_int_index.lookup
      (call_meets F.slot_int_rmul (typeIs_int _ k u) F.entry_int_rmul (F.args_int_rmul_2 _ _) (int___rmul___int_list k u a vs.toArray m)
      ⟨hl, rfl, ⟨_, hl, rfl⟩, call_meets F.slot_list_mul ⟨_, hl, rfl⟩ F.entry_list_mul (F.args_list_mul_2 _ _)
        (AutoListH.list___mul___list_int_3 a vs.toArray m k u (by simp [Builtin.List.listFitsIndex]; omega) (by rw [List.size_toArray, hlen]; omega) (by simp [Builtin.List.listTooLong, sizeLine, hlen]; omega))
        ⟨hl, ?_⟩⟩)
    have hne' : vs.toArray.isEmpty = false := by
      cases vs with
      | nil => exact absurd (by simpa using hlen.symm : ds = []) hne
      | cons _ _ => rfl
    obtain ⟨us, e, r⟩ := foldl_repL (rs.mono k₂.hw) k.toNat
    rw [hne']
    simp only [Bool.false_eq_true, if_false]
    rw [e]
    exact hQ _ _ (Kp.push s₂ _ s₂.toks) ⟨_, us, 0, rfl, fresh_old (k₁.trans k₂), Heap.get?_push_size _ rfl, push_new (t := 0) r⟩

theorem ev_tupOf {x : Str} {np pos : Pos} {e : Expr} {ds : List PV} (hx : sc.names.lookup x = some .globalImplicit) (hf : GVal G x (.type "tuple")) (he : EvL prog w G n sc ρ e ds) (hsz : ds.length ≤ sizeLine)
    (ns : NS e := by intro _ _; rfl) (hd : (x == ("__debug__" : Str)) = false := by decide) : EvT prog w G n sc ρ (.Call (.Name x np) [e] [] pos) (.tuple ds) :=
  ev_call1 hx hf (.type _) he (fun A W s s₁ v Q E hA hG hW k hr hQ => by
    obtain ⟨h₀, _, a, vs, m, rfl, ha, rs⟩ := hr
    refine call_tuple_list (items := vs.toArray) ⟨_, ha, rfl, m, rfl⟩ (fun h' hk => ?_) (by rw [List.size_toArray, rs.length]; exact hsz)
    have kk : Kp s₁ { s₁ with heap := h'.push (tupOf vs.toArray 0) } := ⟨fun b o e => Heap.get?_push_of_some _ (hk b o e), rfl, rfl⟩
    refine hQ _ _ kk (.tuple (n := 0) ⟨Heap.get?_push_size _ rfl, fun hw => ?_⟩ (rs.mono kk.hw))
    obtain ⟨o, ho⟩ := hW _ hw
    have := hk _ _ (k.1 _ _ ho)
    rw [fresh_get] at this; cases this) ns hd

theorem pairwise_perm_eq : ∀ {a b : List Int}, a.Perm b → a.Pairwise (· ≤ ·) → b.Pairwise (· ≤ ·) → a = b := fun p h k => List.Perm.eq_of_pairwise (fun x y _ _ hxy hyx => Int.le_antisymm hxy hyx) h k p
theorem ev_sorted {x : Str} {np pos : Pos} {e : Expr} {is js : List Int} (hx : sc.names.lookup x = some .globalImplicit) (hf : GVal G x (.builtin "sorted")) (he : EvL prog w G n sc ρ e (is.map PV.int)) (h64 : is.length < 64)
    (hp : js.Perm is) (hs : js.Pairwise (· ≤ ·))
    (ns : NS e := by intro _ _; rfl) (hd : (x == ("__debug__" : Str)) = false := by decide) : EvT prog w G n sc ρ (.Call (.Name x np) [e] [] pos) (.list (js.map PV.int)) :=
  ev_call1 hx hf (.builtin _) he (fun A W s s₁ v Q E hA hG hW k hr hQ => by
    obtain ⟨h₀, _, a, vs, m, rfl, ha, rs⟩ := hr
    have hlen := rs.length
    rw [List.length_map] at hlen
    refine sorted_ints (vs := vs) ⟨_, ha, rfl, m, rfl⟩ (repL_ints rs) (by omega) fun out ns' h1 h2 h3 => ?_
    have e1 : ns' = js := pairwise_perm_eq (h2.trans hp.symm) h3 hs
    subst e1
    obtain ⟨e, he⟩ := sortedAll_at s₁.heap vs out
    have kk : Kp s₁ { s₁ with heap := sortedAll s₁.heap vs out } := ⟨fun b o e => sortedAll_old e, rfl, rfl⟩
    refine hQ _ _ kk (.list (vs := out.toList) (n := e) ⟨he, fun hw => ?_⟩ (ints_repL h1))
    obtain ⟨o, ho⟩ := hW _ hw
    exact absurd (Heap.lt_size (k.1 _ _ ho)) (Nat.not_lt.mpr (Nat.le_succ _))) ns hd
end
end Mine
end

section
open PySem PySem.W PyProof.Rows
namespace Mine

noncomputable def Slt.own : Slt → Bool
  | .im _ => false
  | _ => true

structure FS (G : Gd) (sc : Scope) (env : Env) (W Z : Addr → Prop) (ad : Str → Addr) (ρ : Store) (h : Heap) : Prop where
  ec : EC G sc env W ad ρ h
  wl : W env.locals
  cl : ∀ x c, env.kindOf x = some .cell → env.cells.lookup x = some c → W c ∧ c ≠ env.locals ∧ ∃ v, h.IsCell c v
  ci : ∀ x y c, env.kindOf x = some .cell → env.kindOf y = some .cell → env.cells.lookup x = some c → env.cells.lookup y = some c → x = y
  nf : ∀ x, env.kindOf x ≠ some .free
  ce : ∀ x, env.kindOf x = some .cell → ∃ c, env.cells.lookup x = some c
  ol : ∀ x sl, ρ.lookup x = some sl → sl.own = true → ad x ≠ env.locals
  oc : ∀ x sl, ρ.lookup x = some sl → sl.own = true → ∀ y c, env.kindOf y = some .cell → env.cells.lookup y = some c → ad x ≠ c
  oo : ∀ x sl y sl', ρ.lookup x = some sl → sl.own = true → ρ.lookup y = some sl' → sl'.own = true → x ≠ y → ad x ≠ ad y
  zw : ∀ a, Z a → W a
  zl : ¬ Z env.locals
  zc : ∀ y c, env.kindOf y = some .cell → env.cells.lookup y = some c → ¬ Z c
  zo : ∀ x sl, ρ.lookup x = some sl → sl.own = true → ¬ Z (ad x)

structure Off (W Z : Addr → Prop) (s : Shared) (W' : Addr → Prop) (s' : Shared) : Prop where
  w : ∀ a, W' a → W a ∨ s.heap.get? a = none
  keep : ∀ a o, (W a → Z a) → s.heap.get? a = some o → s'.heap.get? a = some o
  gens : s'.gens = s.gens
  os : s'.os = s.os
  up : ∀ a, W a → W' a
theorem Off.refl (W Z : Addr → Prop) (s : Shared) : Off W Z s W s := ⟨fun _ h => .inl h, fun _ _ _ e => e, rfl, rfl, fun _ h => h⟩
theorem Off.ofKp {W Z : Addr → Prop} {s s' : Shared} (k : Kp s s') : Off W Z s W s' := ⟨fun _ h => .inl h, fun a o _ e => k.1 a o e, k.2.1, k.2.2, fun _ h => h⟩
theorem Off.trans {W Z W' W'' : Addr → Prop} {s s' s'' : Shared} (a : Off W Z s W' s') (b : Off W' Z s' W'' s'') : Off W Z s W'' s'' where
  w := fun x hx => by
    rcases b.w x hx with h | h
    · exact a.w x h
    · by_cases hw : W x
      · exact .inl hw
      · right
        cases q : s.heap.get? x with
        | none => rfl
        | some o => rw [a.keep x o (fun q => absurd q hw) q] at h; cases h
  keep := fun x o hw e => b.keep x o (fun h => by
    rcases a.w x h with h | h
    · exact hw h
    · rw [e] at h; cases h) (a.keep x o hw e)
  gens := b.gens.trans a.gens
  os := b.os.trans a.os
  up := fun x h => b.up x (a.up x h)
theorem Off.hw {W Z W' : Addr → Prop} {s s' : Shared} (a : Off W Z s W' s') : ∀ b o, HW s.heap W b o → HW s'.heap W' b o := fun b o x => ⟨a.keep b o (fun q => absurd q x.2) x.1, fun h => by
  rcases a.w b h with h | h
  · exact x.2 h
  · rw [x.1] at h; cases h⟩
theorem Off.zsub {W Z Z' W' : Addr → Prop} {s s' : Shared} (a : Off W Z s W' s') (k : ∀ x, Z' x → Z x) : Off W Z' s W' s' := ⟨a.w, fun x o h e => a.keep x o (fun q => k x (h q)) e, a.gens, a.os, a.up⟩

theorem SlotIs.turn {env env' : Env} {h h' : Heap} {W W' : Addr → Prop} {ad ad' : Str → Addr} {y : Str} {sl : Slt} (n : SlotIs env h W ad y sl) (kw : ∀ b o, HW h W b o → HW h' W' b o) (hn : ∀ v, NameIs env h y v → NameIs env' h' y v)
    (ho : sl.own = true → ad' y = ad y ∧ (W (ad y) → W' (ad y)) ∧ (∀ o, h.get? (ad y) = some o → h'.get? (ad y) = some o)) : SlotIs env' h' W' ad' y sl := by
  cases sl with
  | im d => obtain ⟨v, n, r⟩ := n; exact ⟨v, hn v n, r.mono kw⟩
  | li ds =>
    obtain ⟨e1, e2, e3⟩ := ho rfl
    obtain ⟨n, hw, vs, m, e, r⟩ := n
    show NameIs env' h' y (.ref (ad' y)) ∧ W' (ad' y) ∧ _
    rw [e1]
    exact ⟨hn _ n, e2 hw, vs, m, e3 _ e, r.mono kw⟩
  | di D =>
    obtain ⟨e1, e2, e3⟩ := ho rfl
    obtain ⟨v, o, n, hw, e, r⟩ := n
    show ∃ v o, NameIs env' h' y v ∧ W' (ad' y) ∧ h'.get? (ad' y) = some o ∧ D.T (HW h' W') v (ad' y) o
    rw [e1]
    exact ⟨v, o, hn _ n, e2 hw, e3 _ e, D.mono kw r⟩

theorem FS.keeps {G : Gd} {sc : Scope} {env : Env} {W Z : Addr → Prop} {ad : Str → Addr} {ρ : Store} {h h' : Heap} (F : FS G sc env W Z ad ρ h) (k : ∀ b o, h.get? b = some o → h'.get? b = some o) : FS G sc env W Z ad ρ h' :=
  ⟨F.ec.keeps k, F.wl, fun x c a b => let ⟨p, q, v, i⟩ := F.cl x c a b; ⟨p, q, v, i.keeps k⟩, F.ci, F.nf, F.ce, F.ol, F.oc, F.oo, F.zw, F.zl, F.zc, F.zo⟩
theorem FS.sub {G : Gd} {sc : Scope} {env : Env} {W Z : Addr → Prop} {ad : Str → Addr} {ρ ρ' : Store} {h : Heap} (F : FS G sc env W Z ad ρ h) (k : ∀ x sl, ρ'.lookup x = some sl → ρ.lookup x = some sl) : FS G sc env W Z ad ρ' h :=
  ⟨⟨F.ec.scope, F.ec.kind, F.ec.glob, F.ec.blt, F.ec.ground, F.ec.live, F.ec.ns, fun x sl e => F.ec.names x sl (k _ _ e)⟩, F.wl, F.cl, F.ci, F.nf, F.ce, fun x sl e => F.ol x sl (k _ _ e), fun x sl e => F.oc x sl (k _ _ e),
    fun x sl y sl' e o e' => F.oo x sl y sl' (k _ _ e) o (k _ _ e'), F.zw, F.zl, F.zc, fun x sl e => F.zo x sl (k _ _ e)⟩
theorem FS.zsub {G : Gd} {sc : Scope} {env : Env} {W Z Z' : Addr → Prop} {ad : Str → Addr} {ρ : Store} {h : Heap} (F : FS G sc env W Z ad ρ h) (k : ∀ a, Z' a → Z a) : FS G sc env W Z' ad ρ h :=
  ⟨F.ec, F.wl, F.cl, F.ci, F.nf, F.ce, F.ol, F.oc, F.oo, fun a h => F.zw a (k a h), fun h => F.zl (k _ h), fun y c a b h => F.zc y c a b (k _ h), fun x sl e o h => F.zo x sl e o (k _ h)⟩
theorem FS.zturn {G : Gd} {sc : Scope} {env : Env} {W Z : Addr → Prop} {ad : Str → Addr} {ρ : Store} {h h' : Heap} (F : FS G sc env W Z ad ρ h) (k : ∀ b o, ¬ Z b → h.get? b = some o → h'.get? b = some o) (lv : ∀ a, Z a → ∃ o, h'.get? a = some o) : FS G sc env W Z ad ρ h' := by
  have kw : ∀ b o, HW h W b o → HW h' W b o := fun b o x => ⟨k b o (fun z => x.2 (F.zw b z)) x.1, x.2⟩
  have cellk : ∀ y c v, env.kindOf y = some .cell → env.cells.lookup y = some c → h.IsCell c v → h'.IsCell c v := fun y c v p q ⟨o, ho, hd⟩ => ⟨o, k _ _ (F.zc y c p q) ho, hd⟩
  refine ⟨⟨F.ec.scope, F.ec.kind, F.ec.glob, F.ec.blt, F.ec.ground.mono kw, fun a ha => ?_, ?_, fun x sl e => (F.ec.names x sl e).turn kw (fun v n => ?_) fun o => ⟨rfl, id, fun ob => k _ ob (F.zo x sl e o)⟩⟩,
    F.wl, fun x c p q => let ⟨a, b, v, i⟩ := F.cl x c p q; ⟨a, b, v, cellk x c v p q i⟩, F.ci, F.nf, F.ce, F.ol, F.oc, F.oo, F.zw, F.zl, F.zc, F.zo⟩
  · by_cases hz : Z a
    · exact lv a hz
    · obtain ⟨o, q⟩ := F.ec.live a ha; exact ⟨o, k _ _ hz q⟩
  · obtain ⟨m, o, es, ep, q, r⟩ := F.ec.ns
    exact ⟨m, o, es, ep, k _ _ F.zl q, r⟩
  · rcases n with ⟨a, m, ⟨o, es, ep, q, r⟩, e⟩ | ⟨a, c, e, i⟩
    · exact .inl ⟨a, m, ⟨o, es, ep, k _ _ F.zl q, r⟩, e⟩
    · rcases a with a | ⟨a, _⟩
      · exact .inr ⟨.inl a, c, e, cellk x c _ a e i⟩
      · exact absurd a (F.nf x)
theorem FS.grow {G : Gd} {sc : Scope} {env : Env} {W Z : Addr → Prop} {ad : Str → Addr} {ρ : Store} {h h' : Heap} {a : Addr} (F : FS G sc env W Z ad ρ h) (k : ∀ b o, h.get? b = some o → h'.get? b = some o) (ha : h.get? a = none) (hb : ∃ o, h'.get? a = some o) :
    FS G sc env (fun x => W x ∨ x = a) Z ad ρ h' := by
  have kw : ∀ b o, HW h W b o → HW h' (fun x => W x ∨ x = a) b o := fun b o x => ⟨k b o x.1, fun q => q.elim x.2 fun e => by subst e; rw [x.1] at ha; cases ha⟩
  refine ⟨⟨F.ec.scope, F.ec.kind, F.ec.glob, F.ec.blt, F.ec.ground.mono kw, fun x hx => ?_, ?_, fun x sl e => (F.ec.names x sl e).turn kw (fun v n => n.keeps k) fun _ => ⟨rfl, .inl, fun o => k _ o⟩⟩,
    .inl F.wl, fun x c p q => let ⟨p, q, v, i⟩ := F.cl x c p q; ⟨.inl p, q, v, i.keeps k⟩, F.ci, F.nf, F.ce, F.ol, F.oc, F.oo, fun a h => .inl (F.zw a h), F.zl, F.zc, F.zo⟩
  · rcases hx with hx | rfl
    · obtain ⟨o, q⟩ := F.ec.live x hx; exact ⟨o, k _ _ q⟩
    · exact hb
  · obtain ⟨m, n⟩ := F.ec.ns; exact ⟨m, n.keeps k⟩

theorem FS.growZ {G : Gd} {sc : Scope} {env : Env} {W Z : Addr → Prop} {ad : Str → Addr} {ρ : Store} {h h' : Heap} {a : Addr} (F : FS G sc env W Z ad ρ h) (k : ∀ b o, h.get? b = some o → h'.get? b = some o) (ha : h.get? a = none) (hb : ∃ o, h'.get? a = some o) :
    FS G sc env (fun x => W x ∨ x = a) (fun x => Z x ∨ x = a) ad ρ h' := by
  have F' := F.grow k ha hb
  have ne : ∀ b o, h.get? b = some o → b ≠ a := fun b o e q => by subst q; rw [ha] at e; cases e
  refine ⟨F'.ec, F'.wl, F'.cl, F'.ci, F'.nf, F'.ce, F'.ol, F'.oc, F'.oo, fun x hx => hx.elim (fun z => .inl (F.zw x z)) .inr, fun hx => hx.elim F.zl fun q => ?_, fun y c p q hx => hx.elim (F.zc y c p q) fun e => ?_, fun x sl e o hx => hx.elim (F.zo x sl e o) fun q => ?_⟩
  · obtain ⟨o, ho⟩ := F.ec.live _ F.wl; exact ne _ _ ho q
  · obtain ⟨_, _, v, o, ho, _⟩ := F.cl y c p q; exact ne _ _ ho e
  · have n := F.ec.names x sl e
    cases sl with
    | im d => cases o
    | li ds => obtain ⟨_, _, vs, m, ho, _⟩ := n; exact ne _ _ ho q
    | di kv => obtain ⟨_, _, vs, m, ho, _⟩ := n; exact ne _ _ ho q

theorem FS.drop {G : Gd} {sc : Scope} {env : Env} {W Z : Addr → Prop} {ad : Str → Addr} {ρ : Store} {h h' : Heap} {a : Addr} (F : FS G sc env W Z ad ρ h) (hz : Z a) (k : ∀ b o, b ≠ a → h.get? b = some o → h'.get? b = some o) :
    FS G sc env (fun x => W x ∧ x ≠ a) (fun x => Z x ∧ x ≠ a) ad ρ h' := by
  have kw : ∀ b o, HW h W b o → HW h' (fun x => W x ∧ x ≠ a) b o := fun b o x => ⟨k b o (fun q => x.2 (q ▸ F.zw a hz)) x.1, fun q => x.2 q.1⟩
  have la : env.locals ≠ a := fun q => F.zl (q ▸ hz)
  have ca : ∀ y c, env.kindOf y = some .cell → env.cells.lookup y = some c → c ≠ a := fun y c p q e => F.zc y c p q (e ▸ hz)
  refine ⟨⟨F.ec.scope, F.ec.kind, F.ec.glob, F.ec.blt, F.ec.ground.mono kw, fun x hx => ?_, ?_, fun x sl e => (F.ec.names x sl e).turn kw (fun v n => ?_) fun o => ⟨rfl, fun hw => ⟨hw, fun q => F.zo x sl e o (q ▸ hz)⟩, fun ob => k _ ob fun q => F.zo x sl e o (q ▸ hz)⟩⟩,
    ⟨F.wl, la⟩, fun x c p q => ?_, F.ci, F.nf, F.ce, F.ol, F.oc, F.oo, fun x hx => ⟨F.zw x hx.1, hx.2⟩, fun hx => F.zl hx.1, fun y c p q hx => F.zc y c p q hx.1, fun x sl e o hx => F.zo x sl e o hx.1⟩
  · obtain ⟨o, q⟩ := F.ec.live x hx.1; exact ⟨o, k _ _ hx.2 q⟩
  · obtain ⟨m, o, es, ep, q, r⟩ := F.ec.ns
    exact ⟨m, o, es, ep, k _ _ la q, r⟩
  · rcases n with ⟨b, m, ⟨o, es, ep, q, r⟩, e⟩ | ⟨b, c, e, ⟨o, ho, hd⟩⟩
    · exact .inl ⟨b, m, ⟨o, es, ep, k _ _ la q, r⟩, e⟩
    · rcases b with b | ⟨b, _⟩
      · exact .inr ⟨.inl b, c, e, ⟨o, k _ _ (ca x c b e) ho, hd⟩⟩
      · exact absurd b (F.nf x)
  · obtain ⟨p1, p2, v, ⟨o, ho, hd⟩⟩ := F.cl x c p q
    exact ⟨⟨p1, ca x c p q⟩, p2, v, o, k _ _ (ca x c p q) ho, hd⟩

theorem NameIs.sameBut {env : Env} {h h' : Heap} {x y : Str} {v : Value} {a : Addr} (n : NameIs env h y v) (hs : Heap.SameBut a h h') (h1 : env.kindOf y = some .local → a ≠ env.locals) (h2 : ∀ c, env.cells.lookup y = some c → a ≠ c) : NameIs env h' y v := by
  rcases n with ⟨k, m, n, e⟩ | ⟨k, c, e, ⟨o, ho, hd⟩⟩
  · exact .inl ⟨k, m, n.sameBut hs (Ne.symm (h1 k)), e⟩
  · exact .inr ⟨k, c, e, ⟨o, (hs.2 c (Ne.symm (h2 c e))).trans ho, hd⟩⟩

section
variable {prog : Program} {w : World} {G : Gd} {n : Nat} {sc : Scope} {ρ : Store} {A : Around} {env : Env} {W Z : Addr → Prop} {ad : Str → Addr} {s : Shared} {E : Value → Shared → Prop}

theorem store_any {x : Str} {v : Value} {sl : Slt} {ad' : Str → Addr} {Q : Unit → Shared → Prop} (F : FS G sc env W Z ad ρ s.heap) (hk : env.kindOf x = some .local ∨ env.kindOf x = some .cell)
    (had : ∀ y, y ≠ x → ad' y = ad y) (ho : sl.own = true → W (ad' x) ∧ ad' x ≠ env.locals ∧ (∀ y c, env.kindOf y = some .cell → env.cells.lookup y = some c → ad' x ≠ c) ∧ (∀ y sl', ρ.lookup y = some sl' → sl'.own = true → y ≠ x → ad' x ≠ ad y) ∧ ¬ Z (ad' x))
    (hsl : ∀ h', (∀ b o, HW s.heap W b o → HW h' W b o) → NameIs env h' x v → (sl.own = true → ∀ o, s.heap.get? (ad' x) = some o → h'.get? (ad' x) = some o) → SlotIs env h' W ad' x sl)
    (h : ∀ h' tk, FS G sc env W Z ad' ((x, sl) :: ρ) h' → Off W Z s W { s with heap := h', toks := tk } → Q () { s with heap := h', toks := tk }) : wpAny (model prog w) A (storeName env x v) Q E s := by
  have main : ∀ (a : Addr) (h' : Heap) tk, W a → Heap.SameBut a s.heap h' → (∃ o, h'.get? a = some o) → (∃ m, h'.Ns env.locals m) → (∀ y c, env.kindOf y = some .cell → env.cells.lookup y = some c → ∃ v, h'.IsCell c v) →
      NameIs env h' x v → (∀ y, y ≠ x → ∀ v, NameIs env s.heap y v → NameIs env h' y v) → (a = env.locals ∨ ∃ y, env.kindOf y = some .cell ∧ env.cells.lookup y = some a) → Q () { s with heap := h', toks := tk } := by
    intro a h' tk hwa hs hla hns hcl hnx hny haa
    have kw : ∀ b o, HW s.heap W b o → HW h' W b o := fun b o q => ⟨(hs.2 b fun e => q.2 (e ▸ hwa)).trans q.1, q.2⟩
    have haz : ¬ Z a := fun z => by
      rcases haa with rfl | ⟨y, h1, h2⟩
      · exact F.zl z
      · exact F.zc y a h1 h2 z
    have hne : ∀ y sl', ρ.lookup y = some sl' → sl'.own = true → ad y ≠ a := fun y sl' e o => by
      rcases haa with rfl | ⟨z, h1, h2⟩
      · exact F.ol y sl' e o
      · exact F.oc y sl' e o z a h1 h2
    have hnx' : sl.own = true → ad' x ≠ a := fun o => by
      rcases haa with rfl | ⟨z, h1, h2⟩
      · exact (ho o).2.1
      · exact (ho o).2.2.1 z a h1 h2
    have hlk : ∀ y sl', List.lookup y ((x, sl) :: ρ) = some sl' → (y = x ∧ sl' = sl) ∨ (y ≠ x ∧ ρ.lookup y = some sl') := fun y sl' e => by
      rw [List.lookup_cons] at e
      by_cases hy : y = x
      · subst hy; simp at e; exact .inl ⟨rfl, e.symm⟩
      · have : (y == x) = false := beq_eq_false_iff_ne.mpr hy
        rw [this] at e; exact .inr ⟨hy, e⟩
    refine h h' tk ⟨⟨F.ec.scope, F.ec.kind, F.ec.glob, F.ec.blt, F.ec.ground.mono kw, fun b hb => ?_, hns, fun y sl' e => ?_⟩, F.wl, fun y c p q => ?_, F.ci, F.nf, F.ce, fun y sl' e o => ?_, fun y sl' e o z c p q => ?_, fun y sl' z sl'' e o e' o' hyz => ?_, F.zw, F.zl, F.zc, fun y sl' e o => ?_⟩
      ⟨fun _ q => .inl q, fun b o hb e => (hs.2 b fun q => haz (q ▸ hb (q ▸ hwa))).trans e, rfl, rfl, fun _ h => h⟩
    · by_cases hba : b = a
      · rw [hba]; exact hla
      · obtain ⟨o, q⟩ := F.ec.live b hb; exact ⟨o, (hs.2 b hba).trans q⟩
    · rcases hlk y sl' e with ⟨rfl, rfl⟩ | ⟨hy, e⟩
      · exact hsl h' kw hnx fun o ob q => (hs.2 _ (hnx' o)).trans q
      · exact (F.ec.names y sl' e).turn kw (hny y hy) fun o => ⟨had y hy, id, fun ob q => (hs.2 _ (hne y sl' e o)).trans q⟩
    · obtain ⟨p1, p2, _⟩ := F.cl y c p q
      exact ⟨p1, p2, hcl y c p q⟩
    · rcases hlk y sl' e with ⟨rfl, rfl⟩ | ⟨hy, e⟩
      · exact (ho o).2.1
      · rw [had y hy]; exact F.ol y sl' e o
    · rcases hlk y sl' e with ⟨rfl, rfl⟩ | ⟨hy, e⟩
      · exact (ho o).2.2.1 z c p q
      · rw [had y hy]; exact F.oc y sl' e o z c p q
    · rcases hlk y sl' e with ⟨rfl, rfl⟩ | ⟨hy, e1⟩
      · rcases hlk z sl'' e' with ⟨rfl, rfl⟩ | ⟨hz, e2⟩
        · exact absurd rfl hyz
        · rw [had z hz]; exact (ho o).2.2.2.1 z sl'' e2 o' hz
      · rcases hlk z sl'' e' with ⟨rfl, rfl⟩ | ⟨hz, e2⟩
        · rw [had y hy]; exact Ne.symm ((ho o').2.2.2.1 y sl' e1 o hy)
        · rw [had y hy, had z hz]; exact F.oo y sl' z sl'' e1 o e2 o' hyz
    · rcases hlk y sl' e with ⟨rfl, rfl⟩ | ⟨hy, e1⟩
      · exact (ho o).2.2.2.2
      · rw [had y hy]; exact F.zo y sl' e1 o
  rcases hk with hk | hk
  · obtain ⟨m, hm⟩ := F.ec.ns
    refine wpAny_storeName_local hk hm (fun h' hn hs => ?_) (by rw [F.ec.scope, F.ec.kind]; rfl)
    refine main env.locals h' _ F.wl hs (by obtain ⟨o, _, _, q, _⟩ := hn; exact ⟨o, q⟩) ⟨_, hn⟩ (fun y c p q => ?_) (.inl ⟨hk, _, hn, by simp⟩) (fun y hy v' nv => ?_) (.inl rfl)
    · obtain ⟨_, p2, v, ⟨o, ho, hd⟩⟩ := F.cl y c p q
      exact ⟨v, o, (hs.2 c p2).trans ho, hd⟩
    · rcases nv with ⟨k, m', n', e⟩ | ⟨k, c, e, ⟨o, ho, hd⟩⟩
      · have hm' : m y = some v' := by
          obtain ⟨o, es, ep, a1, a2, a3, a4⟩ := n'
          obtain ⟨o', es', ep', b1, b2, b3, b4⟩ := hm
          rw [a1] at b1; cases b1
          rw [a2] at b2; cases b2
          rw [← b4, a4]; exact e
        exact .inl ⟨k, _, hn, by simp [hy, hm']⟩
      · have hcn : c ≠ env.locals := by
          rcases k with k | ⟨k, _⟩
          · exact (F.cl y c k e).2.1
          · exact absurd k (F.nf y)
        exact .inr ⟨k, c, e, ⟨o, (hs.2 c hcn).trans ho, hd⟩⟩
  · obtain ⟨c, hc⟩ := F.ce x hk
    obtain ⟨p1, p2, v₀, hi⟩ := F.cl x c hk hc
    refine wpAny_storeName_cell (by rw [F.ec.scope, F.ec.kind]) hk hc hi fun h' hi' hs => ?_
    refine main c h' s.toks p1 hs (by obtain ⟨o, q, _⟩ := hi'; exact ⟨o, q⟩) (by obtain ⟨m, hm⟩ := F.ec.ns; exact ⟨m, hm.sameBut hs (Ne.symm p2)⟩) (fun y c' p q => ?_) (.inr ⟨.inl hk, c, hc, hi'⟩) (fun y hy v' nv => ?_) (.inr ⟨x, hk, hc⟩)
    · by_cases hcc : c' = c
      · rw [hcc]; exact ⟨_, hi'⟩
      · obtain ⟨_, _, v, ⟨o, ho, hd⟩⟩ := F.cl y c' p q
        exact ⟨v, o, (hs.2 c' hcc).trans ho, hd⟩
    · rcases nv with ⟨k, m', n', e⟩ | ⟨k, c', e, ⟨o, ho, hd⟩⟩
      · exact .inl ⟨k, m', n'.sameBut hs (Ne.symm p2), e⟩
      · have hcn : c' ≠ c := fun q => by
          rcases k with k | ⟨k, _⟩
          · exact hy (F.ci y x c k hk (q ▸ e) hc)
          · exact absurd k (F.nf y)
        exact .inr ⟨k, c', e, ⟨o, (hs.2 c' hcn).trans ho, hd⟩⟩

theorem store_im {x : Str} {v : Value} {d : PV} {Q : Unit → Shared → Prop} (F : FS G sc env W Z ad ρ s.heap) (hk : env.kindOf x = some .local ∨ env.kindOf x = some .cell) (r : Rep (HW s.heap W) v d)
    (h : ∀ h' tk, FS G sc env W Z ad ((x, .im d) :: ρ) h' → Off W Z s W { s with heap := h', toks := tk } → Q () { s with heap := h', toks := tk }) : wpAny (model prog w) A (storeName env x v) Q E s :=
  store_any (sl := .im d) F hk (fun _ _ => rfl) (fun o => by cases o) (fun h' kw hn _ => ⟨v, hn, r.mono kw⟩) h
end
end Mine
end

section
open PySem PySem.W PyProof.Rows
namespace Mine

noncomputable def notOwned (nm : String) : Bool := !["enumerate", "zip", "dict_itemiterator", "dict_reverseitemiterator", "odict_iterator", "itertools.zip_longest", "itertools.pairwise"].contains nm

structure Iter (prog : Program) (w : World) (A : Around) (W : Addr → Prop) (h : Heap) (ds : List PV) (pl : Bool) (I : Addr) (fp : List Addr) (P : Nat → Value → Prop) (St : Nat → Heap → Prop) (h' : Heap) : Prop where
  walks : Walks prog w A I fp [I] ds.length P St
  start : St 0 h'
  live : ∀ b ∈ fp, ¬ W b ∧ ∃ o, h'.get? b = some o
  new : h.get? I = none
  rep : ∀ i v d, P i v → ds[i]? = some d → Rep (HW h' (fun a => W a ∨ a = I)) v d
  alive : ∀ i h, St i h → ∃ o, h.get? I = some o
  go : pl = true → ∀ i h, St i h → ∃ o nm, h.get? I = some o ∧ o.cls = .type nm ∧ notOwned nm = true

section
variable (prog : Program) (w : World) (G : Gd)
noncomputable def EvIt (pl : Bool) (n : Nat) (sc : Scope) (ρ : Store) (e : Expr) (ds : List PV) : Prop :=
  ∀ (A : Around) (env : Env) (W : Addr → Prop) (ad : Str → Addr) (s : Shared) (Q : Value → Shared → Prop) (E : Value → Shared → Prop), AOk n A → EC G sc env W ad ρ s.heap →
    (∀ I fp P St s', Kp s s' → Iter prog w A W s.heap ds pl I fp P St s'.heap → Q (.ref I) s') → wpAny (model prog w) A (eval e env) (fun x s₁ => wpAny (model prog w) A (pyIter x) Q E s₁) E s
end

noncomputable def intsFrom (a : Int) : Nat → List PV
  | 0 => []
  | k + 1 => .int a :: intsFrom (a + 1) k
theorem intsFrom_len : ∀ (k : Nat) (a : Int), (intsFrom a k).length = k
  | 0, _ => rfl
  | k + 1, a => by rw [intsFrom, List.length_cons, intsFrom_len k]
theorem intsFrom_get : ∀ (k : Nat) (a : Int) (i : Nat), i < k → (intsFrom a k)[i]? = some (.int (a + i))
  | 0, _, _, h => absurd h (Nat.not_lt_zero _)
  | k + 1, a, 0, _ => by simp [intsFrom]
  | k + 1, a, i + 1, h => by
    rw [intsFrom, List.getElem?_cons_succ, intsFrom_get k (a + 1) i (by omega)]
    congr 2
    push_cast
    omega

section
variable {prog : Program} {w : World} {G : Gd} {n : Nat} {sc : Scope} {ρ : Store}

theorem it_list {e : Expr} {ds : List PV} (he : EvT prog w G n sc ρ e (.list ds)) : EvIt prog w G true n sc ρ e ds :=
  fun A env W ad s Q E hA hE hQ => he A env W ad s _ E hA hE fun v s₁ k₁ r => by
    obtain ⟨a, vs, m, rfl, ha, rs⟩ := rep_list r
    have hl : s₁.heap.IsList a vs.toArray := ⟨_, ha.1, rfl, m, rfl⟩
    have hne : a ≠ s₁.heap.objs.size := Nat.ne_of_lt (Heap.lt_size ha.1)
    have hlen := rs.length
    have Wk : Walks prog w A s₁.heap.objs.size [s₁.heap.objs.size, a] [s₁.heap.objs.size] ds.length (fun i v => vs.toArray[i]? = some v) (fun i h => h.IsListIter s₁.heap.objs.size a i ∧ h.IsList a vs.toArray) := by
      have W := Walks.list (prog := prog) (w := w) (A := A) hA.1 s₁.heap.objs.size a hne vs.toArray
      have e : vs.toArray.size = ds.length := by rw [List.size_toArray, hlen]
      rw [e] at W
      exact W
    refine wpAny_pyIter_list hl (hQ s₁.heap.objs.size _ _ _ _ (k₁.trans (Kp.push s₁ _ s₁.toks)) ⟨Wk, ⟨⟨_, Heap.get?_push_size _ rfl, rfl, rfl⟩, hl.at fun o e => Heap.get?_push_of_some _ e⟩, fun b hb => ?_, fresh_old k₁, fun i v d hp hd => ?_, fun i h st => ?_, fun _ i h st => ?_⟩)
    · rcases List.mem_cons.mp hb with rfl | hb
      · refine ⟨fun hw => ?_, _, Heap.get?_push_size _ rfl⟩
        obtain ⟨o, ho⟩ := (hE.keeps k₁.1).live _ hw
        rw [fresh_get] at ho; cases ho
      · rw [List.mem_singleton.mp hb]
        exact ⟨ha.2, _, Heap.get?_push_of_some _ ha.1⟩
    · obtain ⟨d', hd', rr⟩ := rs.get' (k := i) (by simpa using hp)
      rw [hd] at hd'; cases hd'
      exact rr.mono fun b o x => ⟨Heap.get?_push_of_some _ x.1, fun q => q.elim x.2 fun q => by
        have hx := x.1
        rw [q, fresh_get] at hx; cases hx⟩
    · obtain ⟨⟨o, ho, hc, _⟩, _⟩ := st
      exact ⟨o, ho⟩
    · obtain ⟨⟨o, ho, hc, _⟩, _⟩ := st
      exact ⟨o, _, ho, hc, by decide⟩

theorem walks_tup {prog : Program} {w : World} {A : Around} (hh : A.handled = none) (I ax : Addr) (hne : ax ≠ I) (items : Array Value) :
    Walks prog w A I [I, ax] [I] items.size (fun i v => items[i]? = some v) (fun i h => IsTupIter h I ax i ∧ IsTup h ax items) := Walks.tuple hh I ax hne items

theorem it_tuple {e : Expr} {ds : List PV} (he : EvT prog w G n sc ρ e (.tuple ds)) : EvIt prog w G true n sc ρ e ds :=
  fun A env W ad s Q E hA hE hQ => he A env W ad s _ E hA hE fun v s₁ k₁ r => by
    obtain ⟨a, vs, m, rfl, ha, rs⟩ := rep_tuple r
    have hl : IsTup s₁.heap a vs.toArray := ⟨_, ha.1, rfl, m, rfl⟩
    have hne : a ≠ s₁.heap.objs.size := Nat.ne_of_lt (Heap.lt_size ha.1)
    have hlen := rs.length
    have Wk : Walks prog w A s₁.heap.objs.size [s₁.heap.objs.size, a] [s₁.heap.objs.size] ds.length (fun i v => vs.toArray[i]? = some v) (fun i h => IsTupIter h s₁.heap.objs.size a i ∧ IsTup h a vs.toArray) := by
      have W := walks_tup (prog := prog) (w := w) (A := A) hA.1 s₁.heap.objs.size a hne vs.toArray
      have e : vs.toArray.size = ds.length := by rw [List.size_toArray, hlen]
      rw [e] at W
      exact W
    refine iter_tuple hl (hQ s₁.heap.objs.size _ _ _ _ (k₁.trans (Kp.push s₁ _ s₁.toks)) ⟨Wk, ⟨⟨_, Heap.get?_push_size _ rfl, rfl, rfl⟩, hl.push _⟩, fun b hb => ?_, fresh_old k₁, fun i v d hp hd => ?_, fun i h st => ?_, fun _ i h st => ?_⟩)
    · rcases List.mem_cons.mp hb with rfl | hb
      · refine ⟨fun hw => ?_, _, Heap.get?_push_size _ rfl⟩
        obtain ⟨o, ho⟩ := (hE.keeps k₁.1).live _ hw
        rw [fresh_get] at ho; cases ho
      · rw [List.mem_singleton.mp hb]
        exact ⟨ha.2, _, Heap.get?_push_of_some _ ha.1⟩
    · obtain ⟨d', hd', rr⟩ := rs.get' (k := i) (by simpa using hp)
      rw [hd] at hd'; cases hd'
      exact rr.mono fun b o x => ⟨Heap.get?_push_of_some _ x.1, fun q => q.elim x.2 fun q => by
        have hx := x.1
        rw [q, fresh_get] at hx; cases hx⟩
    · obtain ⟨⟨o, ho, hc, _⟩, _⟩ := st
      exact ⟨o, ho⟩
    · obtain ⟨⟨o, ho, hc, _⟩, _⟩ := st
      exact ⟨o, _, ho, hc, by decide⟩

theorem it_str {e : Expr} {x : Str} (he : EvT prog w G n sc ρ e (.str x)) : EvIt prog w G false n sc ρ e (x.cps.toList.map fun c => PV.str ⟨#[c]⟩) :=
  fun A env W ad s Q E hA hE hQ => he A env W ad s _ E hA hE fun v s₁ k₁ r => by
    obtain ⟨t, rfl⟩ := rep_str r
    have main : ∀ (o : Obj) (St : Nat → Heap → Prop), o.isFreed = false → (∀ i h, St i h → ∃ o, h.get? s₁.heap.objs.size = some o) → Walks prog w A s₁.heap.objs.size [s₁.heap.objs.size] [s₁.heap.objs.size] x.cps.size (SignAt x) St → St 0 (s₁.heap.push o) →
        Q (.ref s₁.heap.objs.size) { s₁ with heap := s₁.heap.push o } := by
      intro o St hof hal W0 hst
      have Wk : Walks prog w A s₁.heap.objs.size [s₁.heap.objs.size] [s₁.heap.objs.size] (x.cps.toList.map fun c => PV.str ⟨#[c]⟩).length (SignAt x) St := by
        have e : (x.cps.toList.map fun c => PV.str ⟨#[c]⟩).length = x.cps.size := by simp
        rw [e]
        exact W0
      refine hQ s₁.heap.objs.size _ _ _ _ (k₁.trans ⟨fun b ob e => Heap.get?_push_of_some _ e, rfl, rfl⟩) ⟨Wk, hst, fun b hb => ?_, fresh_old k₁, fun i v d hp hd => ?_, hal, fun q => by cases q⟩
      · rw [List.mem_singleton.mp hb]
        refine ⟨fun hw => ?_, _, Heap.get?_push_size _ hof⟩
        obtain ⟨o, ho⟩ := (hE.keeps k₁.1).live _ hw
        rw [fresh_get] at ho; cases ho
      · obtain ⟨c, u, hc, rfl⟩ := hp
        have : d = PV.str ⟨#[c]⟩ := by
          have h2 : x.cps.toList[i]? = some c := by rw [Array.getElem?_toList]; exact hc
          rw [List.getElem?_map, h2] at hd
          simpa using hd.symm
        subst this
        exact .str _ _
    cases ha : x.cps.all (· < 128)
    · exact wpAny_pyIter_wide ha (main _ _ rfl (fun _ _ st => let ⟨o, ho, _⟩ := st; ⟨o, ho⟩) (Walks.strWide hA.1 _ x t) ⟨_, Heap.get?_push_size _ rfl, rfl, rfl⟩)
    · exact wpAny_pyIter_ascii ha (main _ _ rfl (fun _ _ st => let ⟨o, ho, _⟩ := st; ⟨o, ho⟩) (Walks.strAscii hA.1 _ x t) ⟨_, Heap.get?_push_size _ rfl, rfl, rfl⟩)

theorem range_iter {A : Around} {W : Addr → Prop} {s s₁ : Shared} {r : Addr} {a b : Int} {t u v : Tok} {Q : Value → Shared → Prop} {E : Value → Shared → Prop} (hA : AOk n A) (hW : ∀ a, W a → ∃ o, s.heap.get? a = some o) (k₁ : Kp s s₁)
    (hr : IsRange s₁.heap r a b 1 t u v) (hs : Builtin.Range.small a b 1 = true) (hQ : ∀ I fp P St s', Kp s s' → Iter prog w A W s.heap (intsFrom a (b - a).toNat) true I fp P St s'.heap → Q (.ref I) s') : wpAny (model prog w) A (pyIter (.ref r)) Q E s₁ := by
  have hsz : Builtin.Range.rangeSize a b 1 = (((b - a).toNat : Nat) : Int) := by rw [rangeSize_one]; split <;> omega
  have Wk : Walks prog w A s₁.heap.objs.size [s₁.heap.objs.size] [s₁.heap.objs.size] (intsFrom a (b - a).toNat).length (fun i v => ∃ t, v = .int (a + i * 1) t) (fun i h => IsRangeIter h s₁.heap.objs.size (a + (i : Nat) * 1) (((b - a).toNat : Int) - (i : Nat)) 1) := by
    have W := Walks.range (prog := prog) (w := w) (A := A) hA.1 s₁.heap.objs.size a 1 (b - a).toNat
    have e := intsFrom_len (b - a).toNat a
    rw [e]
    exact W
  refine wpAny_pyIter_range hr hs (hQ s₁.heap.objs.size _ _ _ _ (k₁.trans (Kp.push s₁ _ s₁.toks)) ⟨Wk, ?_, fun b hb => ?_, fresh_old k₁, fun i v d hp hd => ?_, fun i h st => ⟨_, st⟩, fun _ i h st => ⟨_, _, st, rfl, by decide⟩⟩)
  · rw [hsz]
    have e1 : a + ((0 : Nat) : Int) * 1 = a := by omega
    have e2 : (((b - a).toNat : Nat) : Int) - ((0 : Nat) : Int) = (((b - a).toNat : Nat) : Int) := by omega
    show IsRangeIter _ _ (a + ((0 : Nat) : Int) * 1) ((((b - a).toNat : Nat) : Int) - ((0 : Nat) : Int)) 1
    rw [e1, e2]
    exact Heap.get?_push_size _ rfl
  · rw [List.mem_singleton.mp hb]
    refine ⟨fun hw => ?_, _, Heap.get?_push_size _ rfl⟩
    obtain ⟨o, ho⟩ := hW _ hw
    have := k₁.1 _ _ ho
    rw [fresh_get] at this; cases this
  · obtain ⟨t', rfl⟩ := hp
    have hi : i < (b - a).toNat := by
      have := (List.getElem?_eq_some_iff.mp hd).1
      rwa [intsFrom_len] at this
    rw [intsFrom_get _ _ _ hi] at hd
    cases hd
    have e2 : a + (i : Int) * 1 = a + i := by omega
    rw [e2]
    exact .int _ _

theorem it_range1 {x : Str} {np pos : Pos} {e : Expr} {b : Int} (hx : sc.names.lookup x = some .globalImplicit) (hf : GVal G x (.type "range")) (he : EvT prog w G n sc ρ e (.int b)) (h1 : -(2 ^ 62) ≤ b) (h2 : b < 2 ^ 62)
    (ns : NS e := by intro _ _; rfl) (hd : (x == ("__debug__" : Str)) = false := by decide) : EvIt prog w G true n sc ρ (.Call (.Name x np) [e] [] pos) (intsFrom 0 b.toNat) :=
  fun A env W ad s Q E hA hE hQ =>
    ev_call1 (R := fun _ _ h' v => ∃ r t u v', v = .ref r ∧ IsRange h' r 0 b 1 t u v') hx hf (.type _) he (fun A W s s₁ v Q E hA hG hW k hr hQ => by
      obtain ⟨h₀, _, r⟩ := hr
      obtain ⟨t, rfl⟩ := rep_int r
      exact call_range_1 (hQ _ _ (Kp.push s₁ _ _) ⟨_, _, _, _, rfl, Heap.get?_push_size _ rfl⟩)) ns hd A env W ad s _ E hA hE fun v s₁ k₁ r => by
    obtain ⟨r, t, u, v', rfl, hr⟩ := r
    have := range_iter (a := 0) (b := b) (Q := Q) (E := E) hA hE.live k₁ hr (small_one (by omega) (by omega) h1 h2) (by simpa using hQ)
    exact this
theorem it_range2 {x : Str} {np pos : Pos} {e f : Expr} {a b : Int} (hx : sc.names.lookup x = some .globalImplicit) (hf : GVal G x (.type "range")) (he : EvT prog w G n sc ρ e (.int a)) (hfe : EvT prog w G n sc ρ f (.int b))
    (g1 : -(2 ^ 62) ≤ a) (g2 : a < 2 ^ 62) (h1 : -(2 ^ 62) ≤ b) (h2 : b < 2 ^ 62)
    (ns : NS e := by intro _ _; rfl) (ns2 : NS f := by intro _ _; rfl) (hpl : ∀ env, (backTo pos (starEach [f] env)).any (·.1) = false := by intro _; rfl) (hd : (x == ("__debug__" : Str)) = false := by decide) : EvIt prog w G true n sc ρ (.Call (.Name x np) [e, f] [] pos) (intsFrom a (b - a).toNat) :=
  fun A env W ad s Q E hA hE hQ =>
    ev_call (R := fun _ _ h' v => ∃ r t u v', v = .ref r ∧ IsRange h' r a b 1 t u v') hx hf (.type _) (each_cons he (each_cons hfe each_nil ns2) ns) (fun A W s s₁ vs Q E hA hG hW k hr hQ => by
      obtain ⟨v1, v2, rfl, r1, r2⟩ : ∃ v1 v2, vs = [v1, v2] ∧ Rep (HW s₁.heap W) v1 (.int a) ∧ Rep (HW s₁.heap W) v2 (.int b) := by
        cases hr with
        | cons a r => cases r with
          | cons b r => cases r; exact ⟨_, _, rfl, a, b⟩
      obtain ⟨t, rfl⟩ := rep_int r1
      obtain ⟨u, rfl⟩ := rep_int r2
      exact call_range_2 (hQ _ _ (Kp.push s₁ _ _) ⟨_, _, _, _, rfl, Heap.get?_push_size _ rfl⟩)) ns hpl hd A env W ad s _ E hA hE fun v s₁ k₁ r => by
    obtain ⟨r, t, u, v', rfl, hr⟩ := r
    exact range_iter (a := a) (b := b) (Q := Q) (E := E) hA hE.live k₁ hr (small_one g1 g2 h1 h2) hQ
end
end Mine
end

section
open PySem PySem.W PyProof.Rows
namespace Mine

inductive FlowP where
  | next
  | brk
  | cont
  | ret (d : PV)
inductive FlowR (P : Addr → Obj → Prop) : Flow → FlowP → Prop
  | next : FlowR P .next .next
  | brk : FlowR P .brk .brk
  | cont : FlowR P .cont .cont
  | ret {v : Value} {d : PV} : Rep P v d → FlowR P (.ret v) (.ret d)

section
variable (prog : Program) (w : World) (G : Gd)
noncomputable def Ends (sc : Scope) (env : Env) (W Z : Addr → Prop) (s : Shared) (K : Store → FlowP → Prop) (Q : Flow → Shared → Prop) : Prop :=
  ∀ W' ad' ρ' fl f s', K ρ' fl → FS G sc env W' Z ad' ρ' s'.heap → Off W Z s W' s' → FlowR (HW s'.heap W') f fl → Q f s'
noncomputable def Ex1 (n : Nat) (sc : Scope) (ρ : Store) (st : Stmt) (K : Store → FlowP → Prop) : Prop :=
  ∀ (A : Around) (env : Env) (W Z : Addr → Prop) (ad : Str → Addr) (s : Shared) (Q : Flow → Shared → Prop) (E : Value → Shared → Prop), AOk n A → FS G sc env W Z ad ρ s.heap → Ends G sc env W Z s K Q →
    wpAny (model prog w) A (exec st env) Q E s
noncomputable def Ex (n : Nat) (sc : Scope) (ρ : Store) (ss : List Stmt) (K : Store → FlowP → Prop) : Prop :=
  ∀ (A : Around) (env : Env) (W Z : Addr → Prop) (ad : Str → Addr) (s : Shared) (Q : Flow → Shared → Prop) (E : Value → Shared → Prop), AOk n A → FS G sc env W Z ad ρ s.heap → Ends G sc env W Z s K Q →
    wpAny (model prog w) A (execs ss env) Q E s
end

noncomputable abbrev To (ρ' : Store) : Store → FlowP → Prop := fun ρ fl => ρ = ρ' ∧ fl = .next

noncomputable def bindN (sc : Scope) (x : Str) (d : PV) (ρ : Store) : Option Store := match sc.names.lookup x with
  | some .local => some ((x, .im d) :: ρ)
  | some .cell => some ((x, .im d) :: ρ)
  | _ => none
noncomputable def nameOf : Expr → Option Str
  | .Name x _ => some x
  | _ => none
theorem nameOf_some {e : Expr} {x : Str} (h : nameOf e = some x) : ∃ p, e = .Name x p := by
  unfold nameOf at h
  split at h
  · cases h; exact ⟨_, rfl⟩
  · cases h
noncomputable def bindAll (sc : Scope) : List Expr → List PV → Store → Option Store
  | [], [], ρ => some ρ
  | e :: es, d :: ds, ρ => (nameOf e).bind fun x => (bindN sc x d ρ).bind (bindAll sc es ds)
  | _, _, _ => none
theorem bindAll_cons {sc : Scope} {e : Expr} {es : List Expr} {ds : List PV} {ρ ρ' : Store} (h : bindAll sc (e :: es) ds ρ = some ρ') : ∃ x p d ds' ρ₁, e = .Name x p ∧ ds = d :: ds' ∧ bindN sc x d ρ = some ρ₁ ∧ bindAll sc es ds' ρ₁ = some ρ' := by
  cases ds with
  | nil => cases h
  | cons d ds =>
    obtain ⟨x, h1, h2⟩ := Option.bind_eq_some_iff.mp h
    obtain ⟨ρ₁, h3, h4⟩ := Option.bind_eq_some_iff.mp h2
    obtain ⟨p, rfl⟩ := nameOf_some h1
    exact ⟨x, p, d, ds, ρ₁, rfl, rfl, h3, h4⟩
theorem bindAll_nil {sc : Scope} {ds : List PV} {ρ ρ' : Store} (h : bindAll sc [] ds ρ = some ρ') : ds = [] ∧ ρ' = ρ := by
  cases ds with
  | nil => cases h; exact ⟨rfl, rfl⟩
  | cons d ds => cases h
noncomputable def bindT (sc : Scope) : Expr → PV → Store → Option Store
  | .Name x _, d, ρ => bindN sc x d ρ
  | .Tuple elts _ _, .tuple ds, ρ => bindAll sc elts ds ρ
  | _, _, _ => none

theorem bindN_kind {sc : Scope} {x : Str} {d : PV} {ρ ρ' : Store} (h : bindN sc x d ρ = some ρ') : (sc.names.lookup x = some .local ∨ sc.names.lookup x = some .cell) ∧ ρ' = (x, .im d) :: ρ := by
  unfold bindN at h
  split at h
  · cases h; exact ⟨.inl (by assumption), rfl⟩
  · cases h; exact ⟨.inr (by assumption), rfl⟩
  · cases h

section
variable {prog : Program} {w : World} {G : Gd} {n : Nat} {sc : Scope} {ρ : Store}

theorem store_bind {A : Around} {env : Env} {W Z : Addr → Prop} {ad : Str → Addr} {s : Shared} {E : Value → Shared → Prop} {x : Str} {v : Value} {d : PV} {ρ' : Store} {Q : Unit → Shared → Prop} (F : FS G sc env W Z ad ρ s.heap) (hb : bindN sc x d ρ = some ρ') (r : Rep (HW s.heap W) v d)
    (h : ∀ h' tk, FS G sc env W Z ad ρ' h' → Off W Z s W { s with heap := h', toks := tk } → Q () { s with heap := h', toks := tk }) : wpAny (model prog w) A (storeName env x v) Q E s := by
  obtain ⟨hk, rfl⟩ := bindN_kind hb
  exact store_im F (by rw [lookup_kind F.ec.scope]; exact hk) r h

theorem assignEach_len : ∀ (es : List Expr) (env : Env), (assignEach es env).length = es.length
  | [], _ => rfl
  | e :: r, env => by
    have ih := assignEach_len r env
    cases e <;> (show (_ :: assignEach r env).length = _; rw [List.length_cons, ih, List.length_cons])

theorem bindAll_len {sc : Scope} {es : List Expr} : ∀ {ds : List PV} {ρ ρ' : Store}, bindAll sc es ds ρ = some ρ' → es.length = ds.length ∧ ∀ env, (assignEach es env).findIdx? (·.1) = none := by
  induction es with
  | nil => intro ds ρ ρ' h; obtain ⟨rfl, _⟩ := bindAll_nil h; exact ⟨rfl, fun _ => rfl⟩
  | cons e es ih =>
    intro ds ρ ρ' h
    obtain ⟨x, p, d, ds', ρ₁, rfl, rfl, _, h4⟩ := bindAll_cons h
    obtain ⟨a, b⟩ := ih h4
    refine ⟨by rw [List.length_cons, List.length_cons, a], fun env => ?_⟩
    show ((false, assign (.Name x p) env) :: assignEach es env).findIdx? (·.1) = none
    rw [List.findIdx?_cons, b]; rfl

theorem assign_one {A : Around} {env : Env} {s : Shared} {E : Value → Shared → Prop} {x : Str} {p : Pos} {es : List Expr} {v : Value} {vs : List Value} {Q : Unit → Shared → Prop} (h : wpAny (model prog w) A (storeName env x v) (fun _ s' => wpAny (model prog w) A (assignInOrder ((assignEach es env).map (·.2)) vs) Q E s') E s) :
    wpAny (model prog w) A (assignInOrder ((assignEach (.Name x p :: es) env).map (·.2)) (v :: vs)) Q E s := by
  show wpAny (model prog w) A (do holding vs (assign (.Name x p) env v); assignInOrder ((assignEach es env).map (·.2)) vs) Q E s
  exact wpAny_bind (wpAny_holding (wpAny_assign_Name h))
theorem assign_none {A : Around} {env : Env} {s : Shared} {E : Value → Shared → Prop} {Q : Unit → Shared → Prop} (h : Q () s) : wpAny (model prog w) A (assignInOrder ((assignEach [] env).map (·.2)) []) Q E s := wpAny_pure h
theorem assign_all {A : Around} {env : Env} {W Z : Addr → Prop} {ad : Str → Addr} {E : Value → Shared → Prop} (es : List Expr) : ∀ {ds : List PV} {vs : List Value} {ρ ρ' : Store} {s : Shared} {Q : Unit → Shared → Prop}, FS G sc env W Z ad ρ s.heap → bindAll sc es ds ρ = some ρ' → RepL (HW s.heap W) vs ds →
    (∀ h' tk, FS G sc env W Z ad ρ' h' → Off W Z s W { s with heap := h', toks := tk } → Q () { s with heap := h', toks := tk }) → wpAny (model prog w) A (assignInOrder ((assignEach es env).map (·.2)) vs) Q E s := by
  induction es with
  | nil =>
    intro ds vs ρ ρ' s Q F hb rs h
    obtain ⟨rfl, rfl⟩ := bindAll_nil hb
    cases rs
    exact assign_none (h s.heap s.toks F (Off.refl W Z s))
  | cons e es ih =>
    intro ds vs ρ ρ' s Q F hb rs h
    obtain ⟨x, p, d, ds', ρ₁, rfl, rfl, h1, h2⟩ := bindAll_cons hb
    cases rs with
    | cons r rs =>
      refine assign_one (store_bind F h1 r fun h' tk F' o => ?_)
      exact ih (s := { s with heap := h', toks := tk }) F' h2 (rs.mono o.hw) fun h'' tk' F'' o' => h h'' tk' F'' (o.trans o')

theorem Off.ofExt {s : Shared} {h' : Heap} (he : Heap.ExtBut s.heap.objs.size s.heap h') : Kp s { s with heap := h' } :=
  ⟨fun b o e => he b o (fun q => by subst q; rw [fresh_get] at e; cases e) e, rfl, rfl⟩

theorem assign_target {A : Around} {env : Env} {W Z : Addr → Prop} {ad : Str → Addr} {s : Shared} {E : Value → Shared → Prop} {t : Expr} {v : Value} {d : PV} {ρ' : Store} {Q : Unit → Shared → Prop} (hA : AOk n A) (F : FS G sc env W Z ad ρ s.heap) (hb : bindT sc t d ρ = some ρ') (r : Rep (HW s.heap W) v d)
    (h : ∀ h' tk, FS G sc env W Z ad ρ' h' → Off W Z s W { s with heap := h', toks := tk } → Q () { s with heap := h', toks := tk }) : wpAny (model prog w) A (assign t env v) Q E s := by
  unfold bindT at hb
  split at hb
  · exact wpAny_assign_Name (store_bind F hb r h)
  · obtain ⟨a, vs, m, rfl, ha, rs⟩ := rep_tuple r
    obtain ⟨l1, l2⟩ := bindAll_len hb
    have ht : IsTup s.heap a vs.toArray := ⟨_, ha.1, rfl, m, rfl⟩
    refine assign_Tuple_tuple hA.1 ht (by rw [assignEach_len, List.size_toArray, rs.length]; exact l1) (l2 env) fun h₁ he => ?_
    have kk := Off.ofExt he
    exact assign_all _ (s := { s with heap := h₁ }) (F.keeps kk.1) hb (rs.mono kk.hw) fun h' tk F' o => h h' tk F' ((Off.ofKp kk).trans o)
  · cases hb

theorem ex_nil {K : Store → FlowP → Prop} (h : K ρ .next) : Ex prog w G n sc ρ [] K :=
  fun A env W Z ad s Q E hA F hQ => wpAny_execs_nil (hQ W ad ρ .next .next s h F (Off.refl W Z s) .next)
theorem ex_cons {st : Stmt} {ss : List Stmt} {K₁ K : Store → FlowP → Prop} (h : Ex1 prog w G n sc ρ st K₁) (h1 : ∀ ρ', K₁ ρ' .next → Ex prog w G n sc ρ' ss K) (h2 : ∀ ρ' fl, fl ≠ .next → K₁ ρ' fl → K ρ' fl) : Ex prog w G n sc ρ (st :: ss) K :=
  fun A env W Z ad s Q E hA F hQ => wpAny_execs_cons (h A env W Z ad s _ E hA F fun W' ad' ρ' fl f s' hk F' o r => by
    cases r with
    | next => exact h1 ρ' hk A env W' Z ad' s' Q E hA F' fun W'' ad'' ρ'' fl'' f'' s'' hk'' F'' o'' r'' => hQ W'' ad'' ρ'' fl'' f'' s'' hk'' F'' (o.trans o'') r''
    | brk => exact hQ W' ad' ρ' .brk .brk s' (h2 _ _ FlowP.noConfusion hk) F' o .brk
    | cont => exact hQ W' ad' ρ' .cont .cont s' (h2 _ _ FlowP.noConfusion hk) F' o .cont
    | ret r => exact hQ W' ad' ρ' (.ret _) _ s' (h2 _ _ FlowP.noConfusion hk) F' o (.ret r))
theorem ex_seq {st : Stmt} {ss : List Stmt} {ρ₁ : Store} {K : Store → FlowP → Prop} (h : Ex1 prog w G n sc ρ st (To ρ₁)) (h1 : Ex prog w G n sc ρ₁ ss K) : Ex prog w G n sc ρ (st :: ss) K :=
  ex_cons h (fun ρ' hk => by obtain ⟨rfl, _⟩ := hk; exact h1) fun ρ' fl hn hk => absurd hk.2 hn
theorem Ex.mono {ss : List Stmt} {K K' : Store → FlowP → Prop} (h : Ex prog w G n sc ρ ss K) (k : ∀ ρ' fl, K ρ' fl → K' ρ' fl) : Ex prog w G n sc ρ ss K' :=
  fun A env W Z ad s Q E hA F hQ => h A env W Z ad s Q E hA F fun W' ad' ρ' fl f s' hk => hQ W' ad' ρ' fl f s' (k _ _ hk)
theorem Ex1.mono {st : Stmt} {K K' : Store → FlowP → Prop} (h : Ex1 prog w G n sc ρ st K) (k : ∀ ρ' fl, K ρ' fl → K' ρ' fl) : Ex1 prog w G n sc ρ st K' :=
  fun A env W Z ad s Q E hA F hQ => h A env W Z ad s Q E hA F fun W' ad' ρ' fl f s' hk => hQ W' ad' ρ' fl f s' (k _ _ hk)
theorem Ex.sub {ss : List Stmt} {ρ' : Store} {K : Store → FlowP → Prop} (h : Ex prog w G n sc ρ' ss K) (k : ∀ x sl, ρ'.lookup x = some sl → ρ.lookup x = some sl) : Ex prog w G n sc ρ ss K :=
  fun A env W Z ad s Q E hA F hQ => h A env W Z ad s Q E hA (F.sub k) hQ

theorem x1_assign {e : Expr} {pos : Pos} {d : PV} {ρ' : Store} {x : Str} {p : Pos} (he : EvT prog w G n sc ρ e d) (hb : bindN sc x d ρ = some ρ')
    (hs : ∀ env, swapsWith e (some (.Name x p)) pos.line env = pure false := by intro _; rfl) : Ex1 prog w G n sc ρ (.Assign [.Name x p] e pos) (To ρ') :=
  fun A env W Z ad s Q E hA F hQ => wpAny_Assign_Name (he A env W ad s _ E hA F.ec fun v s₁ k r => store_bind (F.keeps k.1) hb r fun h' tk F' o =>
    hQ W ad ρ' .next .next _ ⟨rfl, rfl⟩ F' ((Off.ofKp k).trans o) .next) (hs env)
theorem x1_unpack {elts : List Expr} {e : Expr} {k : Nat} {tp pos : Pos} {ds : List PV} {ρ' : Store} (he : EvT prog w G n sc ρ e (.tuple ds)) (hb : bindAll sc elts ds ρ = some ρ')
    (hs : ∀ env, swapsWithSole [.Tuple elts k tp] e pos.line env = pure false := by intro _; rfl)
    (hw : ∀ env, env.scope = sc → swappedStores [.Tuple elts k tp] e env = pure none := by intro _ _; rfl) : Ex1 prog w G n sc ρ (.Assign [.Tuple elts k tp] e pos) (To ρ') :=
  fun A env W Z ad s Q E hA F hQ => Assign_Tuple (he A env W ad s _ E hA F.ec fun v s₁ kk r => assign_target (t := .Tuple elts k tp) hA (F.keeps kk.1) (by exact hb) r fun h' tk F' o =>
    hQ W ad ρ' .next .next _ ⟨rfl, rfl⟩ F' ((Off.ofKp kk).trans o) .next) (hs env) (hw env F.ec.scope)
theorem rep_two {P : Addr → Obj → Prop} {vs : List Value} {d₁ d₂ : PV} (rs : RepL P vs [d₁, d₂]) : ∃ v1 v2, vs = [v1, v2] ∧ Rep P v1 d₁ ∧ Rep P v2 d₂ := by
  cases rs with
  | cons a r => cases r with
    | cons b r => cases r; exact ⟨_, _, rfl, a, b⟩
theorem swap_two {A : Around} {env : Env} {s : Shared} {E : Value → Shared → Prop} {x y : Str} {v1 v2 : Value} {Q : Unit → Shared → Prop} (h : wpAny (model prog w) A (storeName env y v2) (fun _ s' => wpAny (model prog w) A (storeName env x v1) Q E s') E s) :
    wpAny (model prog w) A (assignInOrder ([x, y].reverse.map fun n => bindName env n) [v1, v2].reverse) Q E s := by
  show wpAny (model prog w) A (do holding [v1] (bindName env y v2); (do holding [] (bindName env x v1); pure ())) Q E s
  refine wpAny_bind (wpAny_holding (wpAny_bindName (wpAny_mono h (fun _ s' h' => ?_) fun _ _ e => e)))
  exact wpAny_bind (wpAny_holding (wpAny_bindName (wpAny_mono h' (fun _ s'' h'' => wpAny_pure h'') fun _ _ e => e)))
theorem x1_swap2 {x y : Str} {px py : Pos} {e : Expr} {k : Nat} {tp pos : Pos} {d₁ d₂ : PV} {ρ₁ ρ₂ : Store} (he : EvT prog w G n sc ρ e (.tuple [d₁, d₂])) (hb : bindN sc y d₂ ρ = some ρ₁) (hc : bindN sc x d₁ ρ₁ = some ρ₂)
    (hs : ∀ env, swapsWithSole [.Tuple [.Name x px, .Name y py] k tp] e pos.line env = pure false := by intro _; rfl)
    (hw : ∀ env, env.scope = sc → swappedStores [.Tuple [.Name x px, .Name y py] k tp] e env = pure (some [x, y])) : Ex1 prog w G n sc ρ (.Assign [.Tuple [.Name x px, .Name y py] k tp] e pos) (To ρ₂) := by
  intro A env W Z ad s Q E hA F hQ
  refine Assign_Tuple_swapped (names := [x, y]) ?_ (hs env) (hw env F.ec.scope)
  refine he A env W ad s _ E hA F.ec fun v s₁ kk r => ?_
  obtain ⟨a, vs, m, rfl, ha, rs⟩ := rep_tuple r
  have ht : IsTup s₁.heap a vs.toArray := ⟨_, ha.1, rfl, m, rfl⟩
  obtain ⟨v1, v2, rfl, r1, r2⟩ := rep_two rs
  refine unpackItems_tuple (items := [v1, v2].toArray) hA.1 ht fun h₁ hx => ?_
  have kk' := Off.ofExt hx
  refine swap_two ?_
  refine store_bind (s := { s₁ with heap := h₁ }) ((F.keeps kk.1).keeps kk'.1) hb (r2.mono kk'.hw) fun h' tk F' o => ?_
  refine store_bind (s := { s₁ with heap := h', toks := tk }) F' hc ((r1.mono kk'.hw).mono o.hw) fun h'' tk' F'' o' => ?_
  exact hQ W ad ρ₂ .next .next _ ⟨rfl, rfl⟩ F'' ((Off.ofKp (kk.trans kk')).trans (o.trans o')) .next

theorem x1_if {t : Expr} {b o : List Stmt} {pos : Pos} {c : Bool} {K : Store → FlowP → Prop} (ht : EvB prog w G n sc ρ t c) (hb : c = true → Ex prog w G n sc ρ b K) (ho : c = false → Ex prog w G n sc ρ o K) : Ex1 prog w G n sc ρ (.If t b o pos) K :=
  fun A env W Z ad s Q E hA F hQ => wpAny_If (ht A env W ad s _ E hA F.ec fun s₁ k => by
    cases c with
    | true => exact hb rfl A env W Z ad s₁ Q E hA (F.keeps k.1) fun W' ad' ρ' fl f s' hk F' o' r => hQ W' ad' ρ' fl f s' hk F' ((Off.ofKp k).trans o') r
    | false => exact ho rfl A env W Z ad s₁ Q E hA (F.keeps k.1) fun W' ad' ρ' fl f s' hk F' o' r => hQ W' ad' ρ' fl f s' hk F' ((Off.ofKp k).trans o') r)
theorem x1_ret {e : Expr} {pos : Pos} {d : PV} (he : EvT prog w G n sc ρ e d) : Ex1 prog w G n sc ρ (.Return (some e) pos) (fun _ fl => fl = .ret d) :=
  fun A env W Z ad s Q E hA F hQ => wpAny_Return_some (he A env W ad s _ E hA F.ec fun v s₁ k r => hQ W ad ρ (.ret d) (.ret v) s₁ rfl (F.keeps k.1) (Off.ofKp k) (.ret r))
theorem x1_brk {pos : Pos} : Ex1 prog w G n sc ρ (.Break pos) (fun ρ' fl => ρ' = ρ ∧ fl = .brk) :=
  fun A env W Z ad s Q E hA F hQ => wpAny_Break (hQ W ad ρ .brk .brk s ⟨rfl, rfl⟩ F (Off.refl W Z s) .brk)
theorem ex_ret {e : Expr} {pos : Pos} {d : PV} {ss : List Stmt} (he : EvT prog w G n sc ρ e d) : Ex prog w G n sc ρ (.Return (some e) pos :: ss) (fun _ fl => fl = .ret d) :=
  ex_cons (x1_ret he) (fun ρ' hk => nomatch hk) fun ρ' fl _ hk => hk

theorem x1_aug {x : Str} {p pos : Pos} {op : Operator} {e : Expr} {a b c : Int} {ρ' : Store} (hx : ρ.lookup x = some (.im (.int a))) (he : EvT prog w G n sc ρ e (.int b)) (hb : bindN sc x (.int c) ρ = some ρ')
    (hop : ∀ A s t u (Q : Value → Shared → Prop) E, (∀ v tk, (∀ P, Rep P v (.int c)) → Q v { s with toks := tk }) → wpAny (model prog w) A (inplaceOp op (.int a t) (.int b u)) Q E s) : Ex1 prog w G n sc ρ (.AugAssign (.Name x p) op e pos) (To ρ') :=
  fun A env W Z ad s Q E hA F hQ => by
    obtain ⟨v, N, r⟩ := F.ec.names x _ hx
    obtain ⟨t, rfl⟩ := rep_int r
    refine wpAny_AugAssign_Name (load_name (F.ec.scope ▸ F.ec.kind) N (he A env W ad s _ E hA F.ec fun v s₁ k r => ?_))
    obtain ⟨u, rfl⟩ := rep_int r
    refine hop A s₁ t u _ E fun v tk rv => ?_
    exact store_bind (s := { s₁ with toks := tk }) (F.keeps k.1) hb (rv _) fun h' tk' F' o => hQ W ad ρ' .next .next _ ⟨rfl, rfl⟩ F' ((Off.ofKp (k.trans (Kp.tok s₁ tk))).trans o) .next
theorem x1_iadd {x : Str} {p pos : Pos} {e : Expr} {a b : Int} {ρ' : Store} (hx : ρ.lookup x = some (.im (.int a))) (he : EvT prog w G n sc ρ e (.int b)) (hb : bindN sc x (.int (a + b)) ρ = some ρ') : Ex1 prog w G n sc ρ (.AugAssign (.Name x p) .Add e pos) (To ρ') :=
  x1_aug hx he hb fun A s t u Q E h => PySem.P.iadd_int (h _ _ fun P => .int _ _)
theorem x1_isub {x : Str} {p pos : Pos} {e : Expr} {a b : Int} {ρ' : Store} (hx : ρ.lookup x = some (.im (.int a))) (he : EvT prog w G n sc ρ e (.int b)) (hb : bindN sc x (.int (a - b)) ρ = some ρ') : Ex1 prog w G n sc ρ (.AugAssign (.Name x p) .Sub e pos) (To ρ') :=
  x1_aug hx he hb fun A s t u Q E h => PySem.P.isub_int (h _ _ fun P => .int _ _)

theorem x1_while {t : Expr} {b : List Stmt} {pos : Pos} {K : Store → FlowP → Prop} (J : Nat → Store → Prop) {k : Nat} (h0 : J k ρ)
    (turn : ∀ k ρ, J k ρ → ∃ c, EvB prog w G n sc ρ t c ∧ (c = true → Ex prog w G n sc ρ b (fun ρ' fl => match fl with | .next | .cont => ∃ m, m < k ∧ J m ρ' | .brk => K ρ' .next | .ret d => K ρ' (.ret d))) ∧ (c = false → K ρ .next)) :
    Ex1 prog w G n sc ρ (.While t b [] pos) K :=
  fun A env W Z ad s Q E hA F hQ => by
    refine wpAny_While (codeAny_whileLoop (fun m s' => ∃ W' ad' ρ', J m ρ' ∧ FS G sc env W' Z ad' ρ' s'.heap ∧ Off W Z s W' s') ?_ k ⟨W, ad, ρ, h0, F, Off.refl W Z s⟩)
    rintro m s₁ ⟨W₁, ad₁, ρ₁, hj, F₁, o₁⟩
    obtain ⟨c, ht, hb, hd⟩ := turn m ρ₁ hj
    refine ht A env W₁ ad₁ s₁ _ _ hA F₁.ec fun s₂ k₂ => ?_
    cases c with
    | true =>
      refine hb rfl A env W₁ Z ad₁ s₂ _ _ hA (F₁.keeps k₂.1) fun W' ad' ρ' fl f s' hk F' o' r => ?_
      have oo := o₁.trans ((Off.ofKp k₂).trans o')
      cases r with
      | next => obtain ⟨m', hm, hj'⟩ := hk; exact ⟨m', hm, W', ad', ρ', hj', F', oo⟩
      | cont => obtain ⟨m', hm, hj'⟩ := hk; exact ⟨m', hm, W', ad', ρ', hj', F', oo⟩
      | brk => exact hQ W' ad' ρ' .next .next s' hk F' oo .next
      | ret r => exact hQ W' ad' ρ' _ _ s' hk F' oo (.ret r)
    | false => exact wpAny_execs_nil (hQ W₁ ad₁ ρ₁ .next .next s₂ (hd rfl) (F₁.keeps k₂.1) (o₁.trans (Off.ofKp k₂)) .next)

theorem x1_for {t it : Expr} {b o : List Stmt} {pos : Pos} {pl : Bool} {ds : List PV} {K : Store → FlowP → Prop} (J : Nat → Store → Prop) (hi : EvIt prog w G pl n sc ρ it ds) (h0 : J 0 ρ)
    (turn : ∀ i d ρ, ds[i]? = some d → J i ρ → ∃ ρ', bindT sc t d ρ = some ρ' ∧ Ex prog w G n sc ρ' b (fun ρ'' fl => match fl with | .next | .cont => J (i + 1) ρ'' | .brk => K ρ'' .next | .ret d => K ρ'' (.ret d)))
    (done : ∀ ρ, J ds.length ρ → Ex prog w G n sc ρ o K)
    (hs : ∀ env x, foldedSetIterable it env x = pure x := by intro _ _; rfl) (hgo : ∀ it v, letOwnedTupleGo t it v = pure () := by intro _ _; rfl) : Ex1 prog w G n sc ρ (.For t it b o pos) K :=
  fun A env W Z ad s Q E hA F hQ => by
    refine wpAny_For (hi A env W ad s _ E hA F.ec fun I fp P St s₁ k₁ X => ?_) (hs env)
    have hI : ∃ o, s₁.heap.get? I = some o := (X.live I (X.walks.sub I (.head _))).2
    have WI : ∀ a, W a → a ≠ I := fun a ha q => by
      obtain ⟨o, ho⟩ := F.ec.live a ha
      have hn := X.new
      rw [← q, ho] at hn; cases hn
    have F₁ := F.growZ k₁.1 X.new hI
    have o₁ : Off W Z s (fun x => W x ∨ x = I) s₁ := ⟨fun a h => h.elim .inl fun e => .inr (e ▸ X.new), fun a o _ e => k₁.1 a o e, k₁.2.1, k₁.2.2, fun a h => .inl h⟩
    refine codeAny_forLoop (fun m s' => ∃ i W' ad' ρ', J i ρ' ∧ FS G sc env W' (fun x => Z x ∨ x = I) ad' ρ' s'.heap ∧ Off (fun x => W x ∨ x = I) Z s₁ W' s' ∧ St i s'.heap ∧ i ≤ ds.length ∧ m = ds.length + 1 - i) ?_ (ds.length + 1)
      ⟨0, _, ad, ρ, h0, F₁, Off.refl _ _ s₁, X.start, Nat.zero_le _, rfl⟩ (hgo _)
    rintro m s₂ ⟨i, W₂, ad₂, ρ₂, hj, F₂, o₂, hst, hile, rfl⟩
    have hWI : W₂ I := o₂.up I (.inr rfl)
    have ZI : ∀ a, Z a → a ≠ I := fun a ha => WI a (F.zw a ha)
    have back : ∀ (h' : Heap) tk, (∀ b o, b ∉ [I] → s₂.heap.get? b = some o → h'.get? b = some o) → (∃ o, h'.get? I = some o) → FS G sc env W₂ (fun x => Z x ∨ x = I) ad₂ ρ₂ h' ∧ Off W₂ Z s₂ W₂ { s₂ with heap := h', toks := tk } := by
      intro h' tk hk hl
      refine ⟨F₂.zturn (fun b o hz => hk b o fun q => hz (.inr (List.mem_singleton.mp q))) fun a ha => ?_, fun a h => .inl h, fun a o hw => hk a o fun q => ZI a (hw (List.mem_singleton.mp q ▸ hWI)) (List.mem_singleton.mp q), rfl, rfl, fun a h => h⟩
      by_cases hai : a = I
      · rw [hai]; exact hl
      · obtain ⟨o, ho⟩ := F₂.ec.live a (F₂.zw a ha)
        exact ⟨o, hk a o (fun q => hai (List.mem_singleton.mp q)) ho⟩
    by_cases hlt : i < ds.length
    · refine X.walks.item i s₂ _ _ hlt hst fun v h' tk hp hst' hk' => ?_
      obtain ⟨F₃, o₃⟩ := back h' tk hk' (X.alive _ _ hst')
      obtain ⟨ρ', hb, hx⟩ := turn i _ ρ₂ (List.getElem?_eq_getElem hlt) hj
      have r := X.rep i v _ hp (List.getElem?_eq_getElem hlt)
      have r' : Rep (HW h' W₂) v (ds[i]'hlt) := r.mono fun b o x => o₃.hw b o (o₂.hw b o x)
      refine assign_target (s := { s₂ with heap := h', toks := tk }) hA F₃ hb r' fun h'' tk' F₄ o₄ => ?_
      refine hx A env W₂ _ ad₂ { s₂ with heap := h'', toks := tk' } _ _ hA F₄ fun W' ad' ρ'' fl f s' hK F' o' r => ?_
      have hfp : ∀ b ∈ fp, b ≠ I → ¬ W₂ b := fun b hb hbi hw => by
        obtain ⟨h1, ob, h2⟩ := X.live b hb
        rcases o₂.w b hw with h | h
        · exact h.elim h1 hbi
        · rw [h2] at h; cases h
      have o₅ := o₄.trans o'
      have hst₅ : St (i + 1) s'.heap := X.walks.frame _ _ _ hst' fun b hb o e => o₅.keep b o (fun hw => by
        by_cases hbi : b = I
        · exact .inr hbi
        · exact absurd hw (hfp b hb hbi)) e
      have o₆ : Off (fun x => W x ∨ x = I) Z s₁ W' s' := o₂.trans (o₃.trans (o₅.zsub fun _ h => .inl h))
      have back : J (i + 1) ρ'' → ∃ m, m < ds.length + 1 - i ∧ ∃ i W' ad' ρ', J i ρ' ∧ FS G sc env W' (fun x => Z x ∨ x = I) ad' ρ' s'.heap ∧ Off (fun x => W x ∨ x = I) Z s₁ W' s' ∧ St i s'.heap ∧ i ≤ ds.length ∧ m = ds.length + 1 - i :=
        fun hj' => ⟨ds.length + 1 - (i + 1), by omega, i + 1, W', ad', ρ'', hj', F', o₆, hst₅, hlt, rfl⟩
      have out : FS G sc env W' Z ad' ρ'' s'.heap ∧ Off W Z s W' s' := ⟨F'.zsub fun _ h => .inl h, o₁.trans o₆⟩
      cases r with
      | next => exact back hK
      | cont => exact back hK
      | brk => exact hQ W' ad' ρ'' .next .next s' hK out.1 out.2 .next
      | ret r => exact hQ W' ad' ρ'' (.ret _) _ s' hK out.1 out.2 (.ret r)
    · have hin : i = ds.length := by omega
      subst hin
      refine X.walks.done s₂ _ _ hst fun h' tk hk' => ?_
      have F₃ := F₂.drop (a := I) (.inr rfl) (h' := h') fun b o hb => hk' b o fun q => hb (List.mem_singleton.mp q)
      have F₄ := F₃.zsub (Z' := Z) fun a ha => ⟨.inl ha, WI a (F.zw a ha)⟩
      have o₄ : Off W Z s (fun x => W₂ x ∧ x ≠ I) { s₂ with heap := h', toks := tk } := by
        have o₅ := o₁.trans o₂
        refine ⟨fun a ha => o₅.w a ha.1, fun a o hw e => hk' a o (fun q => ?_) (o₅.keep a o hw e), o₅.gens, o₅.os, fun a ha => ⟨o₅.up a ha, WI a ha⟩⟩
        have hn := X.new
        rw [← List.mem_singleton.mp q, e] at hn; cases hn
      exact done ρ₂ hj A env _ Z ad₂ { s₂ with heap := h', toks := tk } _ _ hA F₄ fun W' ad' ρ' fl f s' hK F' o' r => hQ W' ad' ρ' fl f s' hK F' (o₄.trans o') r
end
end Mine
end

section
open PySem PySem.W PyProof.Rows
namespace Mine

inductive Al (P : Addr → Obj → Prop) : List (Str × Value) → Store → Prop
  | nil : Al P [] []
  | cons {x : Str} {v : Value} {d : PV} {l : List (Str × Value)} {ρ : Store} : Rep P v d → Al P l ρ → Al P ((x, v) :: l) ((x, .im d) :: ρ)
theorem Al.append {P : Addr → Obj → Prop} {l l' : List (Str × Value)} {ρ ρ' : Store} (h : Al P l ρ) (k : Al P l' ρ') : Al P (l ++ l') (ρ ++ ρ') := by
  induction h with
  | nil => exact k
  | cons r _ ih => exact .cons r ih
theorem Al.reverse {P : Addr → Obj → Prop} {l : List (Str × Value)} {ρ : Store} (h : Al P l ρ) : Al P l.reverse ρ.reverse := by
  induction h with
  | nil => exact .nil
  | cons r _ ih => rw [List.reverse_cons, List.reverse_cons]; exact ih.append (.cons r .nil)
theorem Al.look {P : Addr → Obj → Prop} {l : List (Str × Value)} {ρ : Store} {x : Str} {sl : Slt} (h : Al P l ρ) (e : ρ.lookup x = some sl) : ∃ v d, sl = .im d ∧ l.lookup x = some v ∧ Rep P v d := by
  induction h with
  | nil => cases e
  | @cons y v d l ρ r _ ih =>
    rw [List.lookup_cons] at e ⊢
    cases hy : x == y with
    | true => rw [hy] at e; cases e; exact ⟨v, d, rfl, rfl, r⟩
    | false => rw [hy] at e; exact ih e
noncomputable def argsOf : List Str → List PV → Store
  | x :: xs, d :: ds => (x, .im d) :: argsOf xs ds
  | _, _ => []
theorem Al.zip {P : Addr → Obj → Prop} : ∀ {xs : List Str} {vs : List Value} {ds : List PV}, RepL P vs ds → Al P (xs.zip vs) (argsOf xs ds)
  | [], _, _, _ => .nil
  | x :: xs, _, _, .nil => .nil
  | x :: xs, _, _, .cons r rs => .cons r (Al.zip rs)

section
variable {prog : Program} {w : World} {G : Gd} {n : Nat} {sc : Scope} {ρ : Store}

theorem FS.enter {h h₁ : Heap} {W : Addr → Prop} {env : Env} {m : Str → Option Value} (hg : GB G h W) (hW : ∀ a, W a → ∃ o, h.get? a = some o) (k : ∀ b o, h.get? b = some o → h₁.get? b = some o) (hL : h.get? env.locals = none) (hn : h₁.Ns env.locals m)
    (hsc : env.scope = sc) (hk : sc.kind = .function) (hgl : env.globals = mainGlobals) (hb : env.builtins = builtinsNs) (hc : ∀ x ∈ sc.names, x.2 ≠ .cell ∧ x.2 ≠ .free) (hnm : ∀ x sl, ρ.lookup x = some sl → ∃ v d, sl = .im d ∧ sc.names.lookup x = some .local ∧ m x = some v ∧ Rep (HW h W) v d) :
    FS G sc env (fun a => W a ∨ a = env.locals) W (fun _ => 0) ρ h₁ := by
  have kw : ∀ b o, HW h W b o → HW h₁ (fun a => W a ∨ a = env.locals) b o := fun b o x => ⟨k b o x.1, fun q => q.elim x.2 fun e => by
    have hx := x.1
    rw [e, hL] at hx; cases hx⟩
  have nocell : ∀ x : Str, env.kindOf x ≠ some .cell ∧ env.kindOf x ≠ some .free := fun x => by
    rw [lookup_kind hsc]
    have : ∀ {l : List (Str × NameKind)} {c : NameKind}, (∀ y ∈ l, y.2 ≠ c) → l.lookup x ≠ some c := by
      intro l c
      induction l with
      | nil => intro _ e; cases e
      | cons y l ih =>
        intro hy e
        rw [List.lookup_cons] at e
        split at e
        · exact hy y (.head _) (by simpa using e)
        · exact ih (fun z hz => hy z (.tail _ hz)) e
    exact ⟨this fun y hy => (hc y hy).1, this fun y hy => (hc y hy).2⟩
  have hown : ∀ x sl, ρ.lookup x = some sl → sl.own = true → False := fun x sl e o => by
    obtain ⟨v, d, rfl, _⟩ := hnm x sl e; cases o
  refine ⟨⟨hsc, hk, hgl, hb, hg.mono kw, fun a ha => ?_, ⟨m, hn⟩, fun x sl e => ?_⟩, .inr rfl, fun x c p _ => absurd p (nocell x).1, fun x y c p _ _ _ => absurd p (nocell x).1, fun x => (nocell x).2, fun x p => absurd p (nocell x).1,
    fun x sl e o => (hown x sl e o).elim, fun x sl e o => (hown x sl e o).elim, fun x sl y sl' e o => (hown x sl e o).elim, fun a h => .inl h, fun h => ?_, fun y c p _ => absurd p (nocell y).1, fun x sl e o => (hown x sl e o).elim⟩
  · rcases ha with ha | rfl
    · obtain ⟨o, q⟩ := hW a ha; exact ⟨o, k _ _ q⟩
    · obtain ⟨o, _, _, q, _⟩ := hn; exact ⟨o, q⟩
  · obtain ⟨v, d, rfl, hl, hv, r⟩ := hnm x sl e
    exact ⟨v, .inl ⟨by rw [lookup_kind hsc]; exact hl, m, hn, hv⟩, r.mono kw⟩
  · obtain ⟨o, q⟩ := hW _ h; rw [hL] at q; cases q

structure DefAt (G : Gd) (f : Addr) (name : Str) (params : Arguments) (body : List Stmt) (sc : Scope) where
  oc : Value
  od : Option Addr
  osl : Array (Option Value)
  doc : Value
  pm : Value
  dV : Value
  kV : Value
  an : Option Addr
  cdv : Value
  ct : Value
  qual : Str
  look : G.K.lookup f = some ⟨oc, od, .func (fnOf name qual params body sc dV kV doc pm an cdv ct), osl⟩
  code : codeIn G.K cdv qual = true

theorem fn_of {f : Addr} {name : Str} {params : Arguments} {body : List Stmt} {names : List Str} {ds : List PV} {d : PV} (D : DefAt G f name params body sc) (hlen : names.length = ds.length)
    (hb : ∀ vs, vs.length = names.length → bindArgs (fnOf name D.qual params body sc D.dV D.kV D.doc D.pm D.an D.cdv D.ct) ⟨vs, []⟩ = pure (names.zip vs))
    (hloc : ∀ x ∈ names, sc.names.lookup x = some .local) (hc : ∀ x ∈ sc.names, x.2 ≠ .cell ∧ x.2 ≠ .free) (hbody : Ex prog w G n sc (argsOf names ds).reverse body (fun _ fl => fl = .ret d))
    (hk : sc.kind = .function := by rfl) (hco : sc.isCoroutine = false := by rfl) (hgen : sc.isGenerator = false := by rfl) : Fn prog w G (n + 1) (.ref f) ds d := by
  intro A W vs s Q E hA hG hW rs hQ
  have g := hG.gr
  have hvs : vs.length = names.length := by rw [rs.length, hlen]
  refine wpAny_call (codeAny_call_def (fd := fnOf name D.qual params body sc D.dV D.kV D.doc D.pm D.an D.cdv D.ct) (binds := names.zip vs) (by have := hA.2.1; omega) (g.X _ _ D.look) rfl g.T.nolimit (codeRec_of g.X D.code) rfl (BindsTo.of_eq (hb vs hvs))
    (fun x hx => (hc x hx).1) (fun x hx => hloc x.1 (List.of_mem_zip hx).1) (fun h₁ hn hk₁ => ?_) hco hgen hk)
  have F : FS G sc (callEnv (fnOf name D.qual params body sc D.dV D.kV D.doc D.pm D.an D.cdv D.ct) s.heap.objs.size f) (fun a => W a ∨ a = s.heap.objs.size) W (fun _ => 0) (argsOf names ds).reverse h₁ :=
    FS.enter (env := callEnv (fnOf name D.qual params body sc D.dV D.kV D.doc D.pm D.an D.cdv D.ct) s.heap.objs.size f) hG hW hk₁ (fresh_get _) hn rfl hk rfl rfl hc fun x sl e => by
      obtain ⟨v, d, rfl, h1, h2⟩ := (Al.zip rs).reverse.look e
      refine ⟨v, d, rfl, ?_, h1, h2⟩
      have hmem : x ∈ names := by
        have : (x, v) ∈ (names.zip vs).reverse := by
          have : ∀ {l : List (Str × Value)}, l.lookup x = some v → (x, v) ∈ l := by
            intro l
            induction l with
            | nil => intro e; cases e
            | cons y l ih =>
              intro e
              obtain ⟨y1, y2⟩ := y
              rw [List.lookup_cons] at e
              cases hy : x == y1 with
              | true => rw [hy] at e; cases e; rw [beq_iff_eq.mp hy]; exact .head _
              | false => rw [hy] at e; exact .tail _ (ih e)
          exact this h1
        exact (List.of_mem_zip (List.mem_reverse.mp this)).1
      exact hloc x hmem
  refine hbody _ _ (fun a => W a ∨ a = s.heap.objs.size) W (fun _ => 0) _ _ _ ⟨hA.1, by have := hA.2.1; show A.depth + 1 + n < _; omega, by have := hA.2.2; show A.units + 3 + 3 * n + 8 < _; omega⟩ F fun W' ad' ρ' fl f' s' hK F' o r => ?_
  subst hK
  cases r with
  | ret r =>
    refine hQ _ s' ⟨fun b ob e => o.keep b ob (fun hw => hw.elim id fun q => ?_) (hk₁ b ob e), o.gens, o.os⟩ (r.mono fun b ob x => ⟨x.1, fun hw => x.2 (o.up b (.inl hw))⟩)
    rw [q, fresh_get] at e; cases e

noncomputable def updA (ad : Str → Addr) (x : Str) (a : Addr) : Str → Addr := fun y => if y = x then a else ad y
theorem updA_self (ad : Str → Addr) (x : Str) (a : Addr) : updA ad x a x = a := if_pos rfl
theorem updA_ne {ad : Str → Addr} {x y : Str} {a : Addr} (h : y ≠ x) : updA ad x a y = ad y := if_neg h
theorem slot_li {env : Env} {h : Heap} {W : Addr → Prop} {ad : Str → Addr} {x : Str} {a : Addr} {vs : List Value} {m : Nat} {ds : List PV} (e : ad x = a) (n : NameIs env h x (.ref a)) (hw : W a) (ho : h.get? a = some (listOf vs.toArray m)) (rs : RepL (HW h W) vs ds) : SlotIs env h W ad x (.li ds) := by
  subst e; exact ⟨n, hw, vs, m, ho, rs⟩
theorem x1_assignF {x : Str} {p pos : Pos} {e : Expr} {ds : List PV} (he : EvF prog w G n sc ρ e ds) (hk : sc.names.lookup x = some .local ∨ sc.names.lookup x = some .cell)
    (hs : ∀ env, swapsWith e (some (.Name x p)) pos.line env = pure false := by intro _; rfl) : Ex1 prog w G n sc ρ (.Assign [.Name x p] e pos) (To ((x, .li ds) :: ρ)) :=
  fun A env W Z ad s Q E hA F hQ => wpAny_Assign_Name (he A env W ad s _ E hA F.ec fun v s₁ k r => by
    obtain ⟨a, vs, m, rfl, ha, ha₁, rs⟩ := r
    have F₁ := F.grow k.1 ha ⟨_, ha₁⟩
    have ne : ∀ b o, s.heap.get? b = some o → a ≠ b := fun b o e q => by subst q; rw [ha] at e; cases e
    refine store_any (sl := .li ds) (ad' := updA ad x a) F₁ (by rw [lookup_kind F.ec.scope]; exact hk) (fun y hy => updA_ne hy) (fun _ => ?_) (fun h' kw hn hk' => ?_) fun h' tk F' o => ?_
    · rw [updA_self]
      refine ⟨.inr rfl, ?_, fun y c p q => ?_, fun y sl' e o hy => ?_, fun hz => ?_⟩
      · obtain ⟨o, ho⟩ := F.ec.live _ F.wl; exact ne _ _ ho
      · obtain ⟨_, _, v, o, ho, _⟩ := F.cl y c p q; exact ne _ _ ho
      · have nn := F.ec.names y sl' e
        cases sl' with
        | im d => cases o
        | li ds => obtain ⟨_, _, vs, m, ho, _⟩ := nn; exact ne _ _ ho
        | di kv => obtain ⟨_, _, vs, m, ho, _⟩ := nn; exact ne _ _ ho
      · obtain ⟨o, ho⟩ := F.ec.live _ (F.zw _ hz); exact ne _ _ ho rfl
    · exact slot_li (updA_self ad x a) hn (.inr rfl) (by have hq := hk' rfl; rw [updA_self] at hq; exact hq _ ha₁) (rs.mono kw)
    · exact hQ _ _ _ .next .next _ ⟨rfl, rfl⟩ F' (Off.trans ⟨fun b hb => hb.elim .inl fun q => .inr (q ▸ ha), fun b o _ e => k.1 b o e, k.2.1, k.2.2, fun b hb => .inl hb⟩ o) .next) (hs env)

theorem FS.relist {h h' : Heap} {env : Env} {W Z : Addr → Prop} {ad : Str → Addr} {x : Str} {ds ds' : List PV} {vs : List Value} {m : Nat} (F : FS G sc env W Z ad ρ h) (hx : ρ.lookup x = some (.li ds)) (hs : Heap.SameBut (ad x) h h') (ho : h'.get? (ad x) = some (listOf vs.toArray m)) (rs : RepL (HW h W) vs ds') :
    FS G sc env W Z ad ((x, .li ds') :: ρ) h' := by
  obtain ⟨N, hw, _⟩ := F.ec.names x _ hx
  have kw : ∀ b o, HW h W b o → HW h' W b o := fun b o q => ⟨(hs.2 b fun e => q.2 (e ▸ hw)).trans q.1, q.2⟩
  have nk : ∀ y v, NameIs env h y v → NameIs env h' y v := fun y v n => by
    rcases n with ⟨a, m, n, e⟩ | ⟨a, c, e, ⟨o, ho, hd⟩⟩
    · exact .inl ⟨a, m, n.sameBut hs (Ne.symm (F.ol x _ hx rfl)), e⟩
    · rcases a with a | ⟨a, _⟩
      · exact .inr ⟨.inl a, c, e, ⟨o, (hs.2 c (Ne.symm (F.oc x _ hx rfl y c a e))).trans ho, hd⟩⟩
      · exact absurd a (F.nf y)
  have hlk : ∀ y sl', List.lookup y ((x, Slt.li ds') :: ρ) = some sl' → (y = x ∧ sl' = .li ds') ∨ (y ≠ x ∧ ρ.lookup y = some sl') := fun y sl' e => by
    rw [List.lookup_cons] at e
    by_cases hy : y = x
    · subst hy; simp at e; exact .inl ⟨rfl, e.symm⟩
    · have : (y == x) = false := beq_eq_false_iff_ne.mpr hy
      rw [this] at e; exact .inr ⟨hy, e⟩
  have old : ∀ y sl', List.lookup y ((x, Slt.li ds') :: ρ) = some sl' → sl'.own = true → ∃ sl₀, ρ.lookup y = some sl₀ ∧ sl₀.own = true := fun y sl' e o => by
    rcases hlk y sl' e with ⟨rfl, rfl⟩ | ⟨hy, e⟩
    · exact ⟨_, hx, rfl⟩
    · exact ⟨_, e, o⟩
  refine ⟨⟨F.ec.scope, F.ec.kind, F.ec.glob, F.ec.blt, F.ec.ground.mono kw, fun a ha => ?_, ?_, fun y sl' e => ?_⟩, F.wl, fun y c p q => ?_, F.ci, F.nf, F.ce, fun y sl' e o => ?_, fun y sl' e o => ?_, fun y sl' z sl'' e o e' o' => ?_, F.zw, F.zl, F.zc, fun y sl' e o => ?_⟩
  · by_cases hax : a = ad x
    · rw [hax]; exact ⟨_, ho⟩
    · obtain ⟨o, q⟩ := F.ec.live a ha; exact ⟨o, (hs.2 a hax).trans q⟩
  · obtain ⟨m, n⟩ := F.ec.ns; exact ⟨m, n.sameBut hs (Ne.symm (F.ol x _ hx rfl))⟩
  · rcases hlk y sl' e with ⟨rfl, rfl⟩ | ⟨hy, e⟩
    · exact ⟨nk _ _ N, hw, vs, m, ho, rs.mono kw⟩
    · exact (F.ec.names y sl' e).turn kw (nk y) fun o => ⟨rfl, id, fun ob q => (hs.2 _ (F.oo y sl' x _ e o hx rfl hy)).trans q⟩
  · obtain ⟨a, b, v, o, q', r⟩ := F.cl y c p q
    exact ⟨a, b, v, o, (hs.2 c (Ne.symm (F.oc x _ hx rfl y c p q))).trans q', r⟩
  · obtain ⟨s0, e0, o0⟩ := old y sl' e o; exact F.ol y s0 e0 o0
  · obtain ⟨s0, e0, o0⟩ := old y sl' e o; exact F.oc y s0 e0 o0
  · obtain ⟨s0, e0, o0⟩ := old y sl' e o
    obtain ⟨s1, e1, o1⟩ := old z sl'' e' o'
    exact F.oo y s0 z s1 e0 o0 e1 o1
  · obtain ⟨s0, e0, o0⟩ := old y sl' e o; exact F.zo y s0 e0 o0
end
end Mine
end

section
open PySem PySem.W PyProof.Rows
namespace Mine
noncomputable abbrev pw : Program := PySem.Challenge.pw_wn0083_01
noncomputable def stAt (i : Nat) : Stmt := pw.main.body.getD i (.Pass default)
noncomputable def bodyOf : Stmt → List Stmt
  | .FunctionDef _ _ b _ _ _ _ _ _ _ => b
  | .ClassDef _ _ _ b _ _ _ _ _ _ _ => b
  | _ => []
noncomputable def scopeOf : Stmt → Scope
  | .FunctionDef _ _ _ _ _ _ sc _ _ _ => sc
  | _ => default
noncomputable def paramsOf : Stmt → Arguments
  | .FunctionDef _ a _ _ _ _ _ _ _ _ => a
  | _ => default
noncomputable abbrev im (x : Str) (d : PV) : Str × Slt := (x, .im d)
noncomputable abbrev li (x : Str) (d : List PV) : Str × Slt := (x, .li d)

noncomputable def Cov : Store → Store → Prop
  | [], _ => True
  | p :: c, ρ => ρ.lookup p.1 = some p.2 ∧ Cov c ρ
theorem Cov.look : ∀ {c ρ : Store}, Cov c ρ → ∀ x sl, c.lookup x = some sl → ρ.lookup x = some sl
  | [], _, _, _, _, e => by cases e
  | p :: c, ρ, h, x, sl, e => by
    obtain ⟨y, s0⟩ := p
    rw [List.lookup_cons] at e
    cases hy : x == y with
    | true => rw [hy] at e; cases e; rw [beq_iff_eq.mp hy]; exact h.1
    | false => rw [hy] at e; exact Cov.look h.2 x sl e

section
variable {prog : Program} {w : World} {G : Gd} {n : Nat} {sc : Scope} {ρ : Store}
theorem EC.sub {env : Env} {W : Addr → Prop} {ad : Str → Addr} {ρ' : Store} {h : Heap} (e : EC G sc env W ad ρ h) (k : ∀ x sl, ρ'.lookup x = some sl → ρ.lookup x = some sl) : EC G sc env W ad ρ' h :=
  ⟨e.scope, e.kind, e.glob, e.blt, e.ground, e.live, e.ns, fun x sl q => e.names x sl (k _ _ q)⟩
theorem EvB.sub {e : Expr} {b : Bool} {ρ' : Store} (h : EvB prog w G n sc ρ' e b) (k : ∀ x sl, ρ'.lookup x = some sl → ρ.lookup x = some sl) : EvB prog w G n sc ρ e b :=
  fun A env W ad s Q E hA hE hQ => h A env W ad s Q E hA (hE.sub k) hQ

theorem x1_whileI {I : Type} {t : Expr} {b : List Stmt} {pos : Pos} (canon : I → Store) (P : I → Prop) (meas : I → Nat) (c : I → Bool) (i₀ : I) (h0 : P i₀) (hc : Cov (canon i₀) ρ)
    (test : ∀ i, P i → EvB prog w G n sc (canon i) t (c i))
    (turn : ∀ i, P i → c i = true → Ex prog w G n sc (canon i) b (fun ρ' fl => fl = .next ∧ ∃ i', meas i' < meas i ∧ P i' ∧ Cov (canon i') ρ')) :
    Ex1 prog w G n sc ρ (.While t b [] pos) (fun ρ' fl => fl = .next ∧ ∃ i, (P i ∧ c i = false) ∧ Cov (canon i) ρ') :=
  x1_while (fun k ρ' => ∃ i, k = meas i ∧ P i ∧ Cov (canon i) ρ') (k := meas i₀) ⟨i₀, rfl, h0, hc⟩ fun k ρ₁ ⟨i, hk, hp, hcov⟩ =>
    ⟨c i, (test i hp).sub hcov.look, fun hci => ((turn i hp hci).sub hcov.look).mono fun ρ' fl ⟨hf, i', h1, h2, h3⟩ => by
      subst hf; exact ⟨meas i', hk ▸ h1, i', rfl, h2, h3⟩, fun hci => ⟨rfl, i, ⟨hp, hci⟩, hcov⟩⟩
theorem ex_consI {I : Type} {st : Stmt} {ss : List Stmt} {canon : I → Store} {P : I → Prop} {K : Store → FlowP → Prop} (h : Ex1 prog w G n sc ρ st (fun ρ' fl => fl = .next ∧ ∃ i, P i ∧ Cov (canon i) ρ')) (h1 : ∀ i, P i → Ex prog w G n sc (canon i) ss K) : Ex prog w G n sc ρ (st :: ss) K :=
  ex_cons h (fun ρ' ⟨_, i, hp, hc⟩ => (h1 i hp).sub hc.look) fun ρ' fl hn hk => absurd hk.1 hn
theorem ex_consC {st : Stmt} {ss : List Stmt} {canon : Store} {K : Store → FlowP → Prop} (h : Ex1 prog w G n sc ρ st (fun ρ' fl => fl = .next ∧ Cov canon ρ')) (h1 : Ex prog w G n sc canon ss K) : Ex prog w G n sc ρ (st :: ss) K :=
  ex_cons h (fun ρ' ⟨_, hc⟩ => h1.sub hc.look) fun ρ' fl hn hk => absurd hk.1 hn
theorem x1_forC {t it : Expr} {b : List Stmt} {pos : Pos} {pl : Bool} {ds : List PV} (canon : Nat → Store) (hi : EvIt prog w G pl n sc ρ it ds) (h0 : Cov (canon 0) ρ)
    (turn : ∀ i d, ds[i]? = some d → ∃ ρ', bindT sc t d (canon i) = some ρ' ∧ Ex prog w G n sc ρ' b (fun ρ'' fl => fl = .next ∧ Cov (canon (i + 1)) ρ''))
    (hs : ∀ env x, foldedSetIterable it env x = pure x := by intro _ _; rfl) (hgo : ∀ it v, letOwnedTupleGo t it v = pure () := by intro _ _; rfl)
    (hb : ∀ i d ρ₁ ρ', Cov (canon i) ρ₁ → bindT sc t d (canon i) = some ρ' → ∃ ρ₁', bindT sc t d ρ₁ = some ρ₁' ∧ ∀ x sl, ρ'.lookup x = some sl → ρ₁'.lookup x = some sl) :
    Ex1 prog w G n sc ρ (.For t it b [] pos) (fun ρ' fl => fl = .next ∧ Cov (canon ds.length) ρ') :=
  x1_for (fun i ρ' => Cov (canon i) ρ') hi h0 (fun i d ρ₁ hd hc => by
    obtain ⟨ρ', h1, h2⟩ := turn i d hd
    obtain ⟨ρ₁', h3, h4⟩ := hb i d ρ₁ ρ' hc h1
    refine ⟨ρ₁', h3, (h2.sub h4).mono fun ρ'' fl ⟨hf, hc'⟩ => ?_⟩
    subst hf; exact hc') (fun ρ' hc => ex_nil ⟨rfl, hc⟩) hs hgo
theorem bindN_cov {x : Str} {d : PV} {c ρ₁ ρ' : Store} (hc : ∀ x sl, c.lookup x = some sl → ρ₁.lookup x = some sl) (h : bindN sc x d c = some ρ') : ∃ ρ₁', bindN sc x d ρ₁ = some ρ₁' ∧ ∀ x sl, ρ'.lookup x = some sl → ρ₁'.lookup x = some sl := by
  obtain ⟨hk, rfl⟩ := bindN_kind h
  refine ⟨(x, .im d) :: ρ₁, ?_, fun y sl e => ?_⟩
  · unfold bindN; rcases hk with hk | hk <;> rw [hk]
  · rw [List.lookup_cons] at e ⊢
    cases hy : y == x with
    | true => rw [hy] at e; exact e
    | false => rw [hy] at e; exact hc y sl e
theorem bindAll_cov {es : List Expr} : ∀ {ds : List PV} {c ρ₁ ρ' : Store}, (∀ x sl, c.lookup x = some sl → ρ₁.lookup x = some sl) → bindAll sc es ds c = some ρ' → ∃ ρ₁', bindAll sc es ds ρ₁ = some ρ₁' ∧ ∀ x sl, ρ'.lookup x = some sl → ρ₁'.lookup x = some sl := by
  induction es with
  | nil =>
    intro ds c ρ₁ ρ' hc h
    obtain ⟨rfl, rfl⟩ := bindAll_nil h
    exact ⟨ρ₁, rfl, hc⟩
  | cons e es ih =>
    intro ds c ρ₁ ρ' hc h
    obtain ⟨x, p, d, ds', ρ₂, rfl, rfl, h1, h2⟩ := bindAll_cons h
    obtain ⟨ρ₃, h3, h4⟩ := bindN_cov hc h1
    obtain ⟨ρ₄, h5, h6⟩ := ih h4 h2
    refine ⟨ρ₄, ?_, h6⟩
    show (bindN sc x d ρ₁).bind (bindAll sc es ds') = _
    rw [h3]; exact h5
theorem bindT_cov {t : Expr} {d : PV} {c ρ₁ ρ' : Store} (hc : Cov c ρ₁) (h : bindT sc t d c = some ρ') : ∃ ρ₁', bindT sc t d ρ₁ = some ρ₁' ∧ ∀ x sl, ρ'.lookup x = some sl → ρ₁'.lookup x = some sl := by
  unfold bindT at h ⊢
  split at h
  · exact bindN_cov hc.look h
  · exact bindAll_cov hc.look h
  · cases h
theorem x1_forK {t it : Expr} {b : List Stmt} {pos : Pos} {pl : Bool} {ds : List PV} (canon : Nat → Store) (hi : EvIt prog w G pl n sc ρ it ds) (h0 : Cov (canon 0) ρ)
    (turn : ∀ i d, ds[i]? = some d → ∃ ρ', bindT sc t d (canon i) = some ρ' ∧ Ex prog w G n sc ρ' b (fun ρ'' fl => fl = .next ∧ Cov (canon (i + 1)) ρ''))
    (hs : ∀ env x, foldedSetIterable it env x = pure x := by intro _ _; rfl) (hgo : ∀ it v, letOwnedTupleGo t it v = pure () := by intro _ _; rfl) :
    Ex1 prog w G n sc ρ (.For t it b [] pos) (fun ρ' fl => fl = .next ∧ Cov (canon ds.length) ρ') :=
  x1_forC canon hi h0 turn hs hgo fun i d ρ₁ ρ' hc h => bindT_cov hc h
end
end Mine
end

section
open PySem PySem.W PyProof.Rows
namespace Mine
section
variable {prog : Program} {w : World} {G : Gd} {n : Nat} {sc : Scope} {ρ : Store}

theorem ev_slice {v l u : Expr} {p pos : Pos} {x : Str} {a b : Int} (hv : EvT prog w G n sc ρ v (.str x)) (hl : EvT prog w G n sc ρ l (.int a)) (hu : EvT prog w G n sc ρ u (.int b)) (hsz : x.length ≤ sizeLine)
    (ht : ∀ o r, letTemporaryGo v o r = pure () := by intro _ _; rfl) : EvT prog w G n sc ρ (.Subscript v (.Slice (some l) (some u) none p) pos) (.str (Txt.slice x (some a) (some b))) := by
  intro A env W ad s Q E hA hE hQ
  refine Subscript_Slice (hv A env W ad s _ E hA hE fun o s₁ k₁ r₁ => ?_) ht
  obtain ⟨t, rfl⟩ := rep_str r₁
  refine wpAny_Slice (hl A env W ad s₁ _ E hA (hE.keeps k₁.1) fun va s₂ k₂ r₂ => ?_)
  obtain ⟨ta, rfl⟩ := rep_int r₂
  refine hu A env W ad s₂ _ E hA ((hE.keeps k₁.1).keeps k₂.1) fun vb s₃ k₃ r₃ => ?_
  obtain ⟨tb, rfl⟩ := rep_int r₃
  refine evalPart_none_step ?_
  exact SBH.sliceItem_ss (P := fun h => ∀ b o, s₃.heap.get? b = some o → h.get? b = some o) (fun h ob hk b o e => Heap.get?_push_of_some _ (hk b o e)) (fun b o e => e)
    (fun h' t' k hk => hQ _ _ ((k₁.trans k₂).trans (k₃.trans ⟨hk, rfl, rfl⟩)) (.str _ _)) hsz
end

section
variable {prog : Program} {w : World} {G : Gd} {n : Nat} {sc : Scope} {ρ : Store}
theorem eb_of {e : Expr} {b c : Bool} (h : EvB prog w G n sc ρ e b) (hb : b = c) : EvB prog w G n sc ρ e c := hb ▸ h
theorem ev_of {e : Expr} {b c : PV} (h : EvT prog w G n sc ρ e b) (hb : b = c) : EvT prog w G n sc ρ e c := hb ▸ h
theorem x1_iadd2 {x : Str} {p pos : Pos} {e : Expr} {a b c : Int} {ρ' : Store} (hx : ρ.lookup x = some (.im (.int a))) (he : EvT prog w G n sc ρ e (.int b)) (hc : a + b = c) (hb : bindN sc x (.int c) ρ = some ρ') : Ex1 prog w G n sc ρ (.AugAssign (.Name x p) .Add e pos) (To ρ') :=
  x1_iadd hx he (hc ▸ hb)
theorem x1_isub2 {x : Str} {p pos : Pos} {e : Expr} {a b c : Int} {ρ' : Store} (hx : ρ.lookup x = some (.im (.int a))) (he : EvT prog w G n sc ρ e (.int b)) (hc : a - b = c) (hb : bindN sc x (.int c) ρ = some ρ') : Ex1 prog w G n sc ρ (.AugAssign (.Name x p) .Sub e pos) (To ρ') :=
  x1_isub hx he (hc ▸ hb)
end

noncomputable def pad (L R : Nat) : Str := ⟨(List.replicate L 32 ++ 9 :: List.replicate R 32).toArray⟩
theorem pad_len (L R : Nat) : (pad L R).length = L + 1 + R := by
  show (List.replicate L 32 ++ 9 :: List.replicate R 32).toArray.size = _
  simp; omega
theorem pad_lt {L R i : Nat} (h : i < L) : (pad L R).cps[i]? = some 32 := by
  show (List.replicate L 32 ++ 9 :: List.replicate R 32).toArray[i]? = _
  rw [List.getElem?_toArray, List.getElem?_append_left (by simpa using h), List.getElem?_replicate, if_pos h]
theorem pad_tab (L R : Nat) : (pad L R).cps[L]? = some 9 := by
  show (List.replicate L 32 ++ 9 :: List.replicate R 32).toArray[L]? = _
  rw [List.getElem?_toArray, List.getElem?_append_right (by simp)]
  simp
theorem pad_gt {L R i : Nat} (h : L < i) (h2 : i < L + 1 + R) : (pad L R).cps[i]? = some 32 := by
  show (List.replicate L 32 ++ 9 :: List.replicate R 32).toArray[i]? = _
  rw [List.getElem?_toArray, List.getElem?_append_right (by simp; omega)]
  simp only [List.length_replicate]
  have : i - L = (i - L - 1) + 1 := by omega
  rw [this, List.getElem?_cons_succ, List.getElem?_replicate, if_pos (by omega)]
theorem slice_room {L R a b : Nat} (ha : a ≤ L) (hb : b ≤ R) : ((((L + 1 + R - b : Nat) : Int)) - (a : Int)).toNat = (L - a) + ((R - b) + 1) := by
  obtain ⟨c, rfl⟩ := Nat.exists_eq_add_of_le ha
  obtain ⟨d, rfl⟩ := Nat.exists_eq_add_of_le hb
  rw [Int.toNat_sub, Nat.add_sub_cancel_left, Nat.add_sub_cancel_left, Nat.sub_sub]
  exact Nat.sub_eq_of_eq_add (by omega)
theorem pad_slice {L R a b : Nat} (ha : a ≤ L) (hb : b ≤ R) : Txt.slice (pad L R) (some (a : Int)) (some ((L + 1 + R - b : Nat) : Int)) = pad (L - a) (R - b) := by
  have e := eq_of_beq (PyProof.Rows.slice_closesL (x := pad L R) (i := (a : Int)) (j := ((L + 1 + R - b : Nat) : Int)) (by omega) (by omega) (by rw [pad_len]; omega))
  rw [e]
  have e2 : ((((L + 1 + R - b : Nat) : Int)) - (a : Int)).toNat = (L - a) + ((R - b) + 1) := slice_room ha hb
  rw [e2, Int.toNat_natCast]
  show (⟨_⟩ : Str) = ⟨_⟩
  congr 2
  show ((List.replicate L 32 ++ 9 :: List.replicate R 32).drop a).take _ = _
  rw [List.drop_append_of_le_length (by simpa using ha), List.drop_replicate]
  have e4 : ∀ (l m : List Nat) (k : Nat), (l ++ m).take (l.length + k) = l ++ m.take k := fun l m k => List.take_length_add_append k
  have := e4 (List.replicate (L - a) 32) (9 :: List.replicate R 32) ((R - b) + 1)
  rw [List.length_replicate] at this
  rw [this, List.take_succ_cons, List.take_replicate, Nat.min_eq_left (by omega)]

section
variable {prog : Program} {w : World} {G : Gd} {n : Nat}
noncomputable abbrev sc2 : Scope := scopeOf (stAt 2)
noncomputable abbrev stA (s : Str) (a l : Int) : Store := [im "lpos" (.int l), im "amount" (.int a), im "s" (.str s)]
noncomputable abbrev stB (s : Str) (a l r : Int) : Store := [im "rpos" (.int r), im "lpos" (.int l), im "amount" (.int a), im "s" (.str s)]
theorem blank_eq : ((⟨#[32]⟩ : Str) == (" " : Str)) = true := by decide +kernel
theorem tab_ne : ((⟨#[9]⟩ : Str) == (" " : Str)) = false := by decide +kernel

noncomputable def took (a : Int) (m : Nat) : Nat := if a < 0 then m else min m a.toNat

theorem t_le (a : Int) (L : Nat) : took a L ≤ L := by
  unfold took
  split
  · exact Nat.le_refl _
  · exact Nat.min_le_left _ _
theorem t_all {a : Int} {L : Nat} (h : a - (took a L : Nat) ≠ 0) : took a L = L := by
  unfold took at h ⊢
  split
  · rfl
  · rw [if_neg (by assumption)] at h; omega
theorem t_go {a : Int} {L i : Nat} (h : i ≤ took a L) (hl : i < L) : (a - (i : Int) != 0) = decide (i < took a L) := by
  unfold took at h ⊢
  by_cases h0 : a - (i : Int) = 0
  · rw [h0]; symm; refine decide_eq_false ?_; split <;> omega
  · rw [bne_iff_ne.mpr h0]; symm; refine decide_eq_true ?_; split at h <;> split <;> omega
theorem t_out {a : Int} {L i : Nat} (hl : ¬ i < L) : false = decide (i < took a L) := by
  symm; exact decide_eq_false fun h => hl (Nat.lt_of_lt_of_le h (t_le a L))
theorem i_sub (a : Int) (i : Nat) : a - i - 1 = a - ((i + 1 : Nat) : Int) := by omega
theorem i_out (a : Int) : a = a - ((0 : Nat) : Int) := (Int.sub_zero a).symm
theorem i_fill {m i : Nat} (h : i < m) : m - (i + 1) < m - i := by omega
theorem i_done {i m : Nat} (h : i ≤ m) (h' : ¬ i < m) : i = m := by omega
theorem i_near {i : Nat} {L R : Nat} (h : i ≤ R) : (L : Int) + R - i = ((L + R - i : Nat) : Int) := by omega
theorem i_len (L R : Nat) : ((L + 1 + R : Nat) : Int) - 1 = (L : Int) + R := by omega
theorem i_near2 {r L R : Nat} (h : r ≤ R) : (L + R : Int) - (r : Int) + 1 = ((L + 1 + R - r : Nat) : Int) := by omega
theorem i_in' {i L R : Nat} (h : i ≤ L) : i < L + 1 + R := by omega
theorem i_back {i L R : Nat} : L + R - i < L + 1 + R := by omega
theorem i_room {L R : Nat} (hL : L ≤ 100) (hR : R ≤ 100) : L + 1 + R ≤ 201 := by omega
theorem pad_room {L R : Nat} (hL : L ≤ 100) (hR : R ≤ 100) : (pad L R).length ≤ 201 := by rw [pad_len]; exact i_room hL hR
theorem in63 {i : Nat} (h : i ≤ 1000) : (decide ((i : Int) < -(2 ^ 63 : Int)) || decide ((i : Int) ≥ 2 ^ 63)) = false := by
  rw [decide_eq_false (by omega), decide_eq_false (by omega)]; rfl
theorem seq_nat {i m : Nat} (h : i < m) : seqIndex? (i : Int) m = some i := seqIndex_of (Int.natCast_nonneg i) h
theorem i_at {i L R : Nat} (h : i ≤ R) (h' : ¬ i < R) : L + R - i = L := by omega
theorem i_gt {i L R : Nat} (h : i < R) : L < L + R - i := by omega
theorem i_lt {i L R : Nat} : L + R - i < L + 1 + R := by omega
set_option maxHeartbeats 1000000 in
theorem strip_body (hl : GVal G "len" (.builtin "len")) (L R : Nat) (a : Int) (hL : L ≤ 100) (hR : R ≤ 100) (ha : -1 ≤ a) :
    Ex prog w G n sc2 [im "amount" (.int a), im "s" (.str (pad L R))] (bodyOf (stAt 2)) (fun _ fl => fl = .ret (.str (pad (L - took a L) (R - took (a - took a L) R)))) := by
  have hsz : (pad L R).length ≤ sizeLine := Nat.le_trans (pad_room hL hR) (by rw [sizeLine_eq]; decide)
  refine ex_seq (x1_assign ev_int rfl) ?_
  refine ex_consI (canon := fun i : Nat => stA (pad L R) (a - i) i) (P := fun i => i = took a L) ?_ ?_
  · refine (x1_whileI (canon := fun i : Nat => stA (pad L R) (a - i) i) (P := fun i => i ≤ took a L) (meas := fun i => L - i) (c := fun i => decide (i < took a L)) 0 (Nat.zero_le _) ?_ ?_ ?_).mono ?_
    · exact ⟨rfl, congrArg (fun x => some (Slt.im (PV.int x))) (i_out a), rfl, trivial⟩
    · intro i hi
      have hi2 : i ≤ L := Nat.le_trans hi (t_le a L)
      refine eb_of (eb_and (eb_int (ev_name rfl)) (fun h => eb_eqs (ev_sign (c := if i < L then 32 else 9) (ev_name rfl) (ev_name rfl) (in63 (Nat.le_trans hi2 (Nat.le_trans hL (by decide)))) ?_) ev_str)) ?_
      · rw [seq_nat (by rw [pad_len]; exact i_in' hi2), Option.bind_some]
        by_cases h : i < L
        · rw [if_pos h]; exact pad_lt h
        · rw [if_neg h]; have : i = L := i_done hi2 h
          subst this; exact pad_tab i R
      · by_cases h : i < L
        · simp only [if_pos h, blank_eq, Bool.and_true]; exact t_go hi h
        · simp only [if_neg h, tab_ne, Bool.and_false]; exact t_out h
    · intro i hi hc
      have hi3 := of_decide_eq_true hc
      have hi2 : i < L := Nat.lt_of_lt_of_le hi3 (t_le a L)
      refine ex_seq (x1_iadd2 (c := ((i + 1 : Nat) : Int)) rfl ev_int rfl rfl) ?_
      refine ex_seq (x1_isub2 (c := a - ((i + 1 : Nat) : Int)) rfl ev_int (i_sub a i) rfl) ?_
      exact ex_nil ⟨rfl, i + 1, i_fill hi2, hi3, rfl, rfl, rfl, trivial⟩
    · rintro ρ' fl ⟨hf, i, ⟨h1, h2⟩, h3⟩
      exact ⟨hf, i, i_done h1 (of_decide_eq_false h2), h3⟩
  · rintro i rfl
    have ht : took a L ≤ L := t_le a L
    have hm2 : a - (took a L : Nat) ≠ 0 → took a L = L := t_all
    generalize hm : took a L = m at ht hm2
    generalize hb : a - (m : Int) = b at hm2
    refine ex_seq (x1_assign (ev_sub (ev_lenS rfl hl (ev_name rfl) (Nat.lt_of_le_of_lt (pad_room hL hR) (by decide))) ev_int) rfl) ?_
    refine ex_consI (canon := fun i : Nat => stB (pad L R) (b - i) m ((L + R : Int) - i)) (P := fun i => i = took b R) ?_ ?_
    · refine (x1_whileI (canon := fun i : Nat => stB (pad L R) (b - i) m ((L + R : Int) - i)) (P := fun i => i ≤ took b R) (meas := fun i => R - i) (c := fun i => decide (i < took b R)) 0 (Nat.zero_le _) ?_ ?_ ?_).mono ?_
      · exact ⟨by rw [pad_len, i_len]; exact congrArg (fun x => some (Slt.im (PV.int x))) (i_out _), rfl, congrArg (fun x => some (Slt.im (PV.int x))) (hb ▸ i_out _), rfl, trivial⟩
      · intro i hi
        have hi2 : i ≤ R := Nat.le_trans hi (t_le b R)
        refine eb_of (eb_and (eb_int (ev_name rfl)) (fun h => eb_eqs (ev_sign (c := if i < R then 32 else 9) (ev_name rfl) (ev_name rfl) (by rw [i_near hi2]; exact in63 (Nat.le_trans (Nat.sub_le _ _) (Nat.le_trans (Nat.add_le_add hL hR) (by decide)))) ?_) ev_str)) ?_
        · rw [i_near hi2, seq_nat (by rw [pad_len]; exact i_back), Option.bind_some]
          by_cases h : i < R
          · rw [if_pos h]; exact pad_gt (i_gt h) i_back
          · rw [if_neg h, i_at hi2 h]; exact pad_tab L R
        · by_cases h : i < R
          · simp only [if_pos h, blank_eq, Bool.and_true]; exact t_go hi h
          · simp only [if_neg h, tab_ne, Bool.and_false]; exact t_out h
      · intro i hi hc
        have hi3 := of_decide_eq_true hc
        have hi2 : i < R := Nat.lt_of_lt_of_le hi3 (t_le b R)
        refine ex_seq (x1_isub2 (c := (L + R : Int) - ((i + 1 : Nat) : Int)) rfl ev_int (i_sub _ i) rfl) ?_
        refine ex_seq (x1_isub2 (c := b - ((i + 1 : Nat) : Int)) rfl ev_int (i_sub b i) rfl) ?_
        exact ex_nil ⟨rfl, i + 1, i_fill hi2, hi3, rfl, rfl, rfl, rfl, trivial⟩
      · rintro ρ' fl ⟨hf, i, ⟨h1, h2⟩, h3⟩
        exact ⟨hf, i, i_done h1 (of_decide_eq_false h2), h3⟩
    · rintro i rfl
      have hr : took b R ≤ R := t_le b R
      generalize took b R = r at hr
      refine ex_ret (ev_of (ev_slice (ev_name rfl) (ev_name rfl) (ev_add (ev_name rfl) ev_int) hsz) ?_)
      rw [i_near2 hr, pad_slice ht hr]
end
end Mine
end

section
open PySem PySem.W PyProof.Rows
namespace Mine

structure CS (G : Gd) (sc : Scope) (env : Env) (W : Addr → Prop) (ad : Str → Addr) (ρ : Store) (h : Heap) : Prop where
  ec : EC G sc env W ad ρ h
  wl : W env.locals
  cc : ∀ x c, env.cells.lookup x = some c → c ≠ env.locals ∧ ∃ o, h.get? c = some o
  oc : ∀ x sl, ρ.lookup x = some sl → sl.own = true → ad x ≠ env.locals

noncomputable def bindNC (sc : Scope) (x : Str) (d : PV) (ρ : Store) : Option Store := match sc.names.lookup x, ρ.lookup x with
  | some .local, none => some ((x, .im d) :: ρ)
  | _, _ => none
noncomputable def bindAllC (sc : Scope) : List Expr → List PV → Store → Option Store
  | [], [], ρ => some ρ
  | e :: es, d :: ds, ρ => (nameOf e).bind fun x => (bindNC sc x d ρ).bind (bindAllC sc es ds)
  | _, _, _ => none
theorem bindAllC_cons {sc : Scope} {e : Expr} {es : List Expr} {ds : List PV} {ρ ρ' : Store} (h : bindAllC sc (e :: es) ds ρ = some ρ') : ∃ x p d ds' ρ₁, e = .Name x p ∧ ds = d :: ds' ∧ bindNC sc x d ρ = some ρ₁ ∧ bindAllC sc es ds' ρ₁ = some ρ' := by
  cases ds with
  | nil => cases h
  | cons d ds =>
    obtain ⟨x, h1, h2⟩ := Option.bind_eq_some_iff.mp h
    obtain ⟨ρ₁, h3, h4⟩ := Option.bind_eq_some_iff.mp h2
    obtain ⟨p, rfl⟩ := nameOf_some h1
    exact ⟨x, p, d, ds, ρ₁, rfl, rfl, h3, h4⟩
theorem bindAllC_nil {sc : Scope} {ds : List PV} {ρ ρ' : Store} (h : bindAllC sc [] ds ρ = some ρ') : ds = [] ∧ ρ' = ρ := by
  cases ds with
  | nil => cases h; exact ⟨rfl, rfl⟩
  | cons d ds => cases h
noncomputable def bindC (sc : Scope) : Expr → PV → Store → Option Store
  | .Name x _, d, ρ => bindNC sc x d ρ
  | .Tuple elts _ _, .tuple ds, ρ => bindAllC sc elts ds ρ
  | _, _, _ => none
theorem bindNC_kind {sc : Scope} {x : Str} {d : PV} {ρ ρ' : Store} (h : bindNC sc x d ρ = some ρ') : sc.names.lookup x = some .local ∧ ρ.lookup x = none ∧ ρ' = (x, .im d) :: ρ := by
  unfold bindNC at h
  split at h
  · cases h; exact ⟨by assumption, by assumption, rfl⟩
  · cases h
theorem look_ext {x : Str} {sl : Slt} {ρ : Store} (hn : ρ.lookup x = none) : ∀ y s, ρ.lookup y = some s → List.lookup y ((x, sl) :: ρ) = some s := fun y s e => by
  rw [List.lookup_cons]
  cases hy : y == x with
  | true => rw [beq_iff_eq.mp hy, hn] at e; cases e
  | false => exact e
theorem bindAllC_ext {sc : Scope} {es : List Expr} : ∀ {ds : List PV} {ρ ρ' : Store}, bindAllC sc es ds ρ = some ρ' → ∀ y s, ρ.lookup y = some s → ρ'.lookup y = some s := by
  induction es with
  | nil => intro ds ρ ρ' h; obtain ⟨_, rfl⟩ := bindAllC_nil h; exact fun _ _ e => e
  | cons e es ih =>
    intro ds ρ ρ' h
    obtain ⟨x, p, d, ds', ρ₂, _, _, h1, h2⟩ := bindAllC_cons h
    obtain ⟨_, hn, rfl⟩ := bindNC_kind h1
    exact fun y s e => ih h2 y s (look_ext hn y s e)
theorem bindC_ext {sc : Scope} {t : Expr} {d : PV} {ρ ρ' : Store} (h : bindC sc t d ρ = some ρ') : ∀ y s, ρ.lookup y = some s → ρ'.lookup y = some s := by
  unfold bindC at h
  split at h
  · obtain ⟨_, hn, rfl⟩ := bindNC_kind h; exact look_ext hn
  · exact bindAllC_ext h
  · cases h
theorem bindAllC_len {sc : Scope} {es : List Expr} : ∀ {ds : List PV} {ρ ρ' : Store}, bindAllC sc es ds ρ = some ρ' → es.length = ds.length ∧ ∀ env, (assignEach es env).findIdx? (·.1) = none := by
  induction es with
  | nil => intro ds ρ ρ' h; obtain ⟨rfl, _⟩ := bindAllC_nil h; exact ⟨rfl, fun _ => rfl⟩
  | cons e es ih =>
    intro ds ρ ρ' h
    obtain ⟨x, p, d, ds', ρ₂, rfl, rfl, _, h2⟩ := bindAllC_cons h
    obtain ⟨a, b⟩ := ih h2
    refine ⟨by rw [List.length_cons, List.length_cons, a], fun env => ?_⟩
    show ((false, assign (.Name x p) env) :: assignEach es env).findIdx? (·.1) = none
    rw [List.findIdx?_cons, b]; rfl

theorem CS.keeps {G : Gd} {sc : Scope} {env : Env} {W : Addr → Prop} {ad : Str → Addr} {ρ : Store} {h h' : Heap} (C : CS G sc env W ad ρ h) (k : ∀ b o, h.get? b = some o → h'.get? b = some o) : CS G sc env W ad ρ h' := ⟨C.ec.keeps k, C.wl, fun x c e => ⟨(C.cc x c e).1, let ⟨o, q⟩ := (C.cc x c e).2; ⟨o, k _ _ q⟩⟩, C.oc⟩
theorem CS.sub {G : Gd} {sc : Scope} {env : Env} {W : Addr → Prop} {ad : Str → Addr} {ρ ρ' : Store} {h : Heap} (C : CS G sc env W ad ρ h) (k : ∀ x sl, ρ'.lookup x = some sl → ρ.lookup x = some sl) : CS G sc env W ad ρ' h := ⟨C.ec.sub k, C.wl, C.cc, fun x sl e => C.oc x sl (k _ _ e)⟩
theorem CS.fewer {G : Gd} {sc : Scope} {env : Env} {W W' : Addr → Prop} {ad : Str → Addr} {ρ : Store} {h : Heap} (C : CS G sc env W' ad ρ h) (k : ∀ a, W a → W' a) (hl : W env.locals) (ho : ∀ x sl, ρ.lookup x = some sl → sl.own = true → W (ad x)) : CS G sc env W ad ρ h := by
  have kw : ∀ b o, HW h W' b o → HW h W b o := fun b o x => ⟨x.1, fun q => x.2 (k _ q)⟩
  exact ⟨⟨C.ec.scope, C.ec.kind, C.ec.glob, C.ec.blt, C.ec.ground.mono kw, fun a ha => C.ec.live a (k a ha), C.ec.ns, fun x sl e => (C.ec.names x sl e).turn kw (fun v n => n) fun o => ⟨rfl, fun _ => ho x sl e o, fun ob q => q⟩⟩, hl, C.cc, C.oc⟩
theorem CS.grow {G : Gd} {sc : Scope} {env : Env} {W : Addr → Prop} {ad : Str → Addr} {ρ : Store} {h h' : Heap} {a : Addr} (C : CS G sc env W ad ρ h) (k : ∀ b o, h.get? b = some o → h'.get? b = some o) (ha : h.get? a = none) (hb : ∃ o, h'.get? a = some o) : CS G sc env (fun x => W x ∨ x = a) ad ρ h' := by
  have kw : ∀ b o, HW h W b o → HW h' (fun x => W x ∨ x = a) b o := fun b o x => ⟨k b o x.1, fun q => q.elim x.2 fun e => by
    have hx := x.1
    rw [e, ha] at hx; cases hx⟩
  refine ⟨⟨C.ec.scope, C.ec.kind, C.ec.glob, C.ec.blt, C.ec.ground.mono kw, fun x hx => ?_, ?_, fun x sl e => (C.ec.names x sl e).turn kw (fun v n => n.keeps k) fun _ => ⟨rfl, .inl, fun o => k _ o⟩⟩, .inl C.wl, fun x c e => ⟨(C.cc x c e).1, let ⟨o, q⟩ := (C.cc x c e).2; ⟨o, k _ _ q⟩⟩, C.oc⟩
  · rcases hx with hx | rfl
    · obtain ⟨o, q⟩ := C.ec.live x hx; exact ⟨o, k _ _ q⟩
    · exact hb
  · obtain ⟨m, n⟩ := C.ec.ns; exact ⟨m, n.keeps k⟩
theorem CS.turn {G : Gd} {sc : Scope} {env : Env} {W : Addr → Prop} {ad : Str → Addr} {ρ : Store} {h h' : Heap} {a : Addr} (C : CS G sc env W ad ρ h) (ha : W a) (k : ∀ b o, b ≠ a → h.get? b = some o → h'.get? b = some o) (hb : ∃ o, h'.get? a = some o)
    (h1 : env.locals ≠ a) (h2 : ∀ x c, env.cells.lookup x = some c → c ≠ a) (h3 : ∀ x sl, ρ.lookup x = some sl → sl.own = true → ad x ≠ a) : CS G sc env W ad ρ h' := by
  have kw : ∀ b o, HW h W b o → HW h' W b o := fun b o x => ⟨k b o (fun q => x.2 (q ▸ ha)) x.1, x.2⟩
  refine ⟨⟨C.ec.scope, C.ec.kind, C.ec.glob, C.ec.blt, C.ec.ground.mono kw, fun x hx => ?_, ?_, fun x sl e => (C.ec.names x sl e).turn kw (fun v n => ?_) fun o => ⟨rfl, id, fun ob => k _ ob (h3 x sl e o)⟩⟩, C.wl, fun x c e => ⟨(C.cc x c e).1, let ⟨o, q⟩ := (C.cc x c e).2; ⟨o, k _ _ (h2 x c e) q⟩⟩, C.oc⟩
  · by_cases hxa : x = a
    · rw [hxa]; exact hb
    · obtain ⟨o, q⟩ := C.ec.live x hx; exact ⟨o, k _ _ hxa q⟩
  · obtain ⟨m, o, es, ep, q, r⟩ := C.ec.ns; exact ⟨m, o, es, ep, k _ _ h1 q, r⟩
  · rcases n with ⟨b, m, ⟨o, es, ep, q, r⟩, e⟩ | ⟨b, c, e, ⟨o, ho, hd⟩⟩
    · exact .inl ⟨b, m, ⟨o, es, ep, k _ _ h1 q, r⟩, e⟩
    · exact .inr ⟨b, c, e, ⟨o, k _ _ (h2 x c e) ho, hd⟩⟩

section
variable {prog : Program} {w : World} {G : Gd} {n : Nat} {sc : Scope} {ρ : Store} {A : Around} {env : Env} {W : Addr → Prop} {ad : Str → Addr} {E : Value → Shared → Prop}

theorem CS.store {s : Shared} {x : Str} {v : Value} {d : PV} {ρ' : Store} {Q : Unit → Shared → Prop} (C : CS G sc env W ad ρ s.heap) (hb : bindNC sc x d ρ = some ρ') (r : Rep (HW s.heap W) v d)
    (h : ∀ h' tk, CS G sc env W ad ρ' h' → (∀ b o, b ≠ env.locals → s.heap.get? b = some o → h'.get? b = some o) → (∀ b o, HW s.heap W b o → HW h' W b o) → Q () { s with heap := h', toks := tk }) : wpAny (model prog w) A (storeName env x v) Q E s := by
  obtain ⟨hk, hx, rfl⟩ := bindNC_kind hb
  obtain ⟨m, hm⟩ := C.ec.ns
  have hk' : env.kindOf x = some .local := by rw [lookup_kind C.ec.scope]; exact hk
  refine wpAny_storeName_local hk' hm (fun h' hn hs => ?_) (by rw [C.ec.scope, C.ec.kind]; rfl)
  have k : ∀ b o, b ≠ env.locals → s.heap.get? b = some o → h'.get? b = some o := fun b o hb e => (hs.2 b hb).trans e
  have kw : ∀ b o, HW s.heap W b o → HW h' W b o := fun b o x => ⟨k b o (fun q => x.2 (q ▸ C.wl)) x.1, x.2⟩
  refine h h' _ ⟨⟨C.ec.scope, C.ec.kind, C.ec.glob, C.ec.blt, C.ec.ground.mono kw, fun y hy => ?_, ⟨_, hn⟩, fun y sl e => ?_⟩, C.wl, fun y c e => ⟨(C.cc y c e).1, let ⟨o, q⟩ := (C.cc y c e).2; ⟨o, k _ _ (C.cc y c e).1 q⟩⟩, fun y sl e o => ?_⟩ k kw
  · by_cases hyl : y = env.locals
    · rw [hyl]; obtain ⟨o, _, _, q, _⟩ := hn; exact ⟨o, q⟩
    · obtain ⟨o, q⟩ := C.ec.live y hy; exact ⟨o, k _ _ hyl q⟩
  · rw [List.lookup_cons] at e
    by_cases hy : y = x
    · subst hy
      simp at e; subst e
      exact ⟨v, .inl ⟨hk', _, hn, by simp⟩, r.mono kw⟩
    · have hyb : (y == x) = false := beq_eq_false_iff_ne.mpr hy
      rw [hyb] at e
      refine (C.ec.names y sl e).turn kw (fun v' nv => ?_) fun o => ⟨rfl, id, fun ob => k _ ob (C.oc y sl e o)⟩
      rcases nv with ⟨b, m', n', e'⟩ | ⟨b, c, e', ⟨o, ho, hd⟩⟩
      · have hm' : m y = some v' := by
          obtain ⟨o, es, ep, a1, a2, a3, a4⟩ := n'
          obtain ⟨o', es', ep', b1, b2, b3, b4⟩ := hm
          rw [a1] at b1; cases b1
          rw [a2] at b2; cases b2
          rw [← b4, a4]; exact e'
        exact .inl ⟨b, _, hn, by simp [hy, hm']⟩
      · exact .inr ⟨b, c, e', ⟨o, k _ _ (C.cc y c e').1 ho, hd⟩⟩
  · rw [List.lookup_cons] at e
    cases hy : y == x with
    | true => rw [hy] at e; cases e; cases o
    | false => rw [hy] at e; exact C.oc y sl e o

theorem CS.assign_all (es : List Expr) : ∀ {ds : List PV} {vs : List Value} {ρ ρ' : Store} {s : Shared} {Q : Unit → Shared → Prop}, CS G sc env W ad ρ s.heap → bindAllC sc es ds ρ = some ρ' → RepL (HW s.heap W) vs ds →
    (∀ h' tk, CS G sc env W ad ρ' h' → (∀ b o, b ≠ env.locals → s.heap.get? b = some o → h'.get? b = some o) → (∀ b o, HW s.heap W b o → HW h' W b o) → Q () { s with heap := h', toks := tk }) → wpAny (model prog w) A (assignInOrder ((assignEach es env).map (·.2)) vs) Q E s := by
  induction es with
  | nil =>
    intro ds vs ρ ρ' s Q C hb rs h
    obtain ⟨rfl, rfl⟩ := bindAllC_nil hb
    cases rs
    exact assign_none (h s.heap s.toks C (fun _ _ _ e => e) fun _ _ x => x)
  | cons e es ih =>
    intro ds vs ρ ρ' s Q C hb rs h
    obtain ⟨x, p, d, ds', ρ₁, rfl, rfl, h1, h2⟩ := bindAllC_cons hb
    cases rs with
    | cons r rs =>
      refine assign_one (C.store h1 r fun h' tk C' k kw => ?_)
      exact ih (s := { s with heap := h', toks := tk }) C' h2 (rs.mono kw) fun h'' tk' C'' k' kw' => h h'' tk' C'' (fun b o hb e => k' b o hb (k b o hb e)) fun b o x => kw' b o (kw b o x)
theorem CS.assign {s : Shared} {t : Expr} {v : Value} {d : PV} {ρ' : Store} {Q : Unit → Shared → Prop} (hA : AOk n A) (C : CS G sc env W ad ρ s.heap) (hb : bindC sc t d ρ = some ρ') (r : Rep (HW s.heap W) v d)
    (h : ∀ h' tk, CS G sc env W ad ρ' h' → (∀ b o, b ≠ env.locals → s.heap.get? b = some o → h'.get? b = some o) → (∀ b o, HW s.heap W b o → HW h' W b o) → Q () { s with heap := h', toks := tk }) : wpAny (model prog w) A (assign t env v) Q E s := by
  unfold bindC at hb
  split at hb
  · exact wpAny_assign_Name (C.store hb r h)
  · obtain ⟨a, vs, m, rfl, ha, rs⟩ := rep_tuple r
    obtain ⟨l1, l2⟩ := bindAllC_len hb
    have ht : IsTup s.heap a vs.toArray := ⟨_, ha.1, rfl, m, rfl⟩
    refine assign_Tuple_tuple hA.1 ht (by rw [assignEach_len, List.size_toArray, rs.length]; exact l1) (l2 env) fun h₁ he => ?_
    have kk := Off.ofExt he
    exact CS.assign_all _ (s := { s with heap := h₁ }) (C.keeps kk.1) hb (rs.mono kk.hw) fun h' tk C' k kw => h h' tk C' (fun b o hb e => k b o hb (kk.1 b o e)) fun b o x => kw b o (kk.hw b o x)
  · cases hb
end
end Mine
end

section
open PySem PySem.W PyProof.Rows
namespace Mine

noncomputable def Apart (env : Env) (ad : Str → Addr) (ρ : Store) (a : Addr) : Prop := env.locals ≠ a ∧ (∀ x c, env.cells.lookup x = some c → c ≠ a) ∧ (∀ x sl, ρ.lookup x = some sl → sl.own = true → ad x ≠ a)
theorem bindNC_own {sc : Scope} {x : Str} {d : PV} {ρ ρ' : Store} (h : bindNC sc x d ρ = some ρ') : ∀ y sl, ρ'.lookup y = some sl → sl.own = true → ρ.lookup y = some sl := fun y sl e o => by
  obtain ⟨_, _, rfl⟩ := bindNC_kind h
  rw [List.lookup_cons] at e
  cases hy : y == x with
  | true => rw [hy] at e; cases e; cases o
  | false => rw [hy] at e; exact e
theorem bindAllC_own {sc : Scope} {es : List Expr} : ∀ {ds : List PV} {ρ ρ' : Store}, bindAllC sc es ds ρ = some ρ' → ∀ y sl, ρ'.lookup y = some sl → sl.own = true → ρ.lookup y = some sl := by
  induction es with
  | nil => intro ds ρ ρ' h; obtain ⟨_, rfl⟩ := bindAllC_nil h; exact fun _ _ e _ => e
  | cons e es ih =>
    intro ds ρ ρ' h
    obtain ⟨x, p, d, ds', ρ₂, _, _, h1, h2⟩ := bindAllC_cons h
    exact fun y sl e o => bindNC_own h1 y sl (ih h2 y sl e o) o
theorem bindC_own {sc : Scope} {t : Expr} {d : PV} {ρ ρ' : Store} (h : bindC sc t d ρ = some ρ') : ∀ y sl, ρ'.lookup y = some sl → sl.own = true → ρ.lookup y = some sl := by
  unfold bindC at h
  split at h
  · exact bindNC_own h
  · exact bindAllC_own h
  · cases h
theorem Apart.bind {env : Env} {ad : Str → Addr} {sc : Scope} {t : Expr} {d : PV} {ρ ρ' : Store} {a : Addr} (x : Apart env ad ρ a) (h : bindC sc t d ρ = some ρ') : Apart env ad ρ' a := ⟨x.1, x.2.1, fun y sl e o => x.2.2 y sl (bindC_own h y sl e o) o⟩

theorem CS.drop {G : Gd} {sc : Scope} {env : Env} {W : Addr → Prop} {ad : Str → Addr} {ρ : Store} {h h' : Heap} {a : Addr} (C : CS G sc env W ad ρ h) (ha : W a) (k : ∀ b o, b ≠ a → h.get? b = some o → h'.get? b = some o) (hp : Apart env ad ρ a) : CS G sc env (fun x => W x ∧ x ≠ a) ad ρ h' := by
  have kw : ∀ b o, HW h W b o → HW h' (fun x => W x ∧ x ≠ a) b o := fun b o x => ⟨k b o (fun q => x.2 (q ▸ ha)) x.1, fun q => x.2 q.1⟩
  refine ⟨⟨C.ec.scope, C.ec.kind, C.ec.glob, C.ec.blt, C.ec.ground.mono kw, fun x hx => ?_, ?_, fun x sl e => (C.ec.names x sl e).turn kw (fun v n => ?_) fun o => ⟨rfl, fun hw => ⟨hw, hp.2.2 x sl e o⟩, fun ob => k _ ob (hp.2.2 x sl e o)⟩⟩, ⟨C.wl, hp.1⟩, fun x c e => ⟨(C.cc x c e).1, let ⟨o, q⟩ := (C.cc x c e).2; ⟨o, k _ _ (hp.2.1 x c e) q⟩⟩, C.oc⟩
  · obtain ⟨o, q⟩ := C.ec.live x hx.1; exact ⟨o, k _ _ hx.2 q⟩
  · obtain ⟨m, o, es, ep, q, r⟩ := C.ec.ns; exact ⟨m, o, es, ep, k _ _ hp.1 q, r⟩
  · rcases n with ⟨b, m, ⟨o, es, ep, q, r⟩, e⟩ | ⟨b, c, e, ⟨o, ho, hd⟩⟩
    · exact .inl ⟨b, m, ⟨o, es, ep, k _ _ hp.1 q, r⟩, e⟩
    · exact .inr ⟨b, c, e, ⟨o, k _ _ (hp.2.1 x c e) ho, hd⟩⟩

section
variable (prog : Program) (w : World) (G : Gd)
noncomputable def CB (n : Nat) (sc : Scope) (ρ : Store) (t : Env → Value → Sem Unit) (out : List PV) : Prop :=
  ∀ (A : Around) (env : Env) (W : Addr → Prop) (ad : Str → Addr) (s : Shared) (D : Addr) (vs : List Value) (m : Nat) (Q : Unit → Shared → Prop) (E : Value → Shared → Prop), AOk n A → CS G sc env W ad ρ s.heap → W D → Apart env ad ρ D →
    s.heap.get? D = some (listOf vs.toArray m) → vs.length + out.length ≤ sizeLine →
    (∀ s' vs' m', CS G sc env W ad ρ s'.heap → (∀ b o, b ≠ env.locals → b ≠ D → s.heap.get? b = some o → s'.heap.get? b = some o) → s'.gens = s.gens → s'.os = s.os → s'.heap.get? D = some (listOf (List.toArray (vs ++ vs')) m') → RepL (HW s'.heap W) vs' out → Q () s') →
    wpAny (model prog w) A (t env (.ref D)) Q E s
noncomputable def EIf (n : Nat) (sc : Scope) (ρ : Store) (ifs : List Expr) (b : Bool) : Prop :=
  ∀ (A : Around) (env : Env) (W : Addr → Prop) (ad : Str → Addr) (s : Shared) (Q : Bool → Shared → Prop) (E : Value → Shared → Prop), AOk n A → EC G sc env W ad ρ s.heap → (∀ s', Kp s s' → Q b s') →
    wpAny (model prog w) A (forIn ifs true fun c r => if r = true then do let ok ← isTrue c env (eval c env); pure (ForInStep.yield ok) else pure (ForInStep.yield r)) Q E s
end

section
variable {prog : Program} {w : World} {G : Gd} {n : Nat} {sc : Scope} {ρ : Store}
theorem if_nil : EIf prog w G n sc ρ [] true := fun A env W ad s Q E hA hE hQ => wpAny_tests_nil (hQ s (Kp.refl s))
theorem if_one {c : Expr} {b : Bool} (h : EvB prog w G n sc ρ c b) : EIf prog w G n sc ρ [c] b := fun A env W ad s Q E hA hE hQ => wpAny_tests_one (h A env W ad s Q E hA hE hQ)

noncomputable def emitOf (elt : Expr) : Env → Value → Sem Unit := fun env acc => do let _ ← call (.builtin "list.append") [acc, ← eval elt env]

theorem cb_emit {elt : Expr} {d : PV} (h : EvT prog w G n sc ρ elt d) : CB prog w G n sc ρ (emitOf elt) [d] := by
  intro A env W ad s D vs m Q E hA C hwD ap hD hsz hQ
  show wpAny (model prog w) A (eval elt env >>= fun x => call (.builtin "list.append") [.ref D, x] >>= fun _ => pure ()) Q E s
  refine wpAny_bind (h A env W ad s _ E hA C.ec fun v s₁ k r => ?_)
  refine wpAny_bind (wpAny_list_append_plain (items := vs.toArray) ⟨m, k.1 _ _ hD⟩ (fun h' hp hs => wpAny_pure ?_) (by rw [List.size_toArray]; simp at hsz; omega))
  obtain ⟨m', hp⟩ := hp
  have e : vs.toArray.push v = (vs ++ [v]).toArray := by simp
  rw [e] at hp
  have kk : ∀ b o, b ≠ D → s₁.heap.get? b = some o → h'.get? b = some o := fun b o hb e => (hs.2 b hb).trans e
  refine hQ { s₁ with heap := h' } [v] m' ((C.keeps k.1).turn hwD kk ⟨_, hp⟩ ap.1 ap.2.1 ap.2.2) (fun b o _ hb e => kk b o hb (k.1 b o e)) k.2.1 k.2.2 hp (.one (r.mono fun b o x => ⟨kk b o (fun q => x.2 (q ▸ hwD)) x.1, x.2⟩))

theorem letOwned_go {A : Around} {t : Expr} {I : Addr} {v : Value} {s : Shared} {Q : Unit → Shared → Prop} {E : Value → Shared → Prop} (ho : ∃ o nm, s.heap.get? I = some o ∧ o.cls = .type nm ∧ notOwned nm = true) (h : Q () s) : wpAny (model prog w) A (letOwnedTupleGo t (.ref I) v) Q E s := by
  obtain ⟨o, nm, hg, hc, hn⟩ := ho
  have tail : wpAny (model prog w) A (match (Value.ref I, v) with
    | (.ref r, .ref a) => (do
      let o ← load r
      match o.cls, o.data with
      | .type n, .fields vs =>
        if ["enumerate", "zip", "dict_itemiterator", "dict_reverseitemiterator", "odict_iterator", "itertools.zip_longest", "itertools.pairwise"].contains n && vs[0]? == some (rawInt a) then
          rule "for.unpacks-the-owned-tuple"
          updateField r 0 .none
      | _, _ => pure ())
    | _ => pure ()) Q E s := by
    cases v <;> try exact wpAny_pure h
    refine wpAny_bind (wpAny_load hg ?_)
    rw [hc]
    cases hd : o.data <;> try exact wpAny_pure h
    have : (["enumerate", "zip", "dict_itemiterator", "dict_reverseitemiterator", "odict_iterator", "itertools.zip_longest", "itertools.pairwise"].contains nm) = false := by simpa [notOwned] using hn
    simp only [this, Bool.false_and, Bool.false_eq_true, if_false]
    exact wpAny_pure h
  cases t <;> first | exact wpAny_pure h | exact tail

theorem comp_level {elt : Expr} {gens : List Comprehension} {scope : Scope} {pos : Pos} {depth : Nat} {g : Comprehension} {t : Env → Value → Sem Unit} {pl : Bool}
    (hct : ∀ it acc env, compTurn (.ListComp elt gens scope pos) depth it acc env = (do
      standAt g.iter.pos
      match ← pyNext it with
      | none => pure (.done .next)
      | some v =>
        letOwnedTupleGo g.target it v
        assign g.target env v
        let mut ok := true
        for c in g.ifs do
          if ok then ok ← isTrue c env (eval c env)
        if ok then
          t env acc
        again (.compLoop (.ListComp elt gens scope pos) depth it acc env)))
    {ds : List PV} {outs : List (List PV)} (hlen : outs.length = ds.length)
    (turn : ∀ (i : Nat) (d : PV) (out : List PV), ds[i]? = some d → outs[i]? = some out → ∃ ρ' b, bindC sc g.target d ρ = some ρ' ∧ EIf prog w G n sc ρ' g.ifs b ∧ (b = true → CB prog w G n sc ρ' t out) ∧ (b = false → out = []))
    (hgo : (∀ it v, letOwnedTupleGo g.target it v = pure ()) ∨ pl = true)
    {A : Around} {env : Env} {W : Addr → Prop} {ad : Str → Addr} {s : Shared} {D I : Addr} {vs : List Value} {m : Nat} {fp : List Addr} {P : Nat → Value → Prop} {St : Nat → Heap → Prop} {R : Result → Shared → Prop}
    (hA : AOk n A) (C : CS G sc env W ad ρ s.heap) (hwD : W D) (apD : Apart env ad ρ D) (hwI : W I) (apI : Apart env ad ρ I) (hID : I ≠ D)
    (Wk : Walks prog w A I fp [I] ds.length P St) (hst : St 0 s.heap) (hfp : ∀ b ∈ fp, b ≠ I → ¬ W b) (hrep : ∀ i v d, P i v → ds[i]? = some d → Rep (HW s.heap W) v d) (hal : ∀ i h, St i h → ∃ o, h.get? I = some o)
    (hgo2 : pl = true → ∀ i h, St i h → ∃ o nm, h.get? I = some o ∧ o.cls = .type nm ∧ notOwned nm = true)
    (hD : s.heap.get? D = some (listOf vs.toArray m)) (hsz : vs.length + outs.flatten.length ≤ sizeLine)
    (done : ∀ s' vs' m', CS G sc env (fun x => W x ∧ x ≠ I) ad ρ s'.heap → (∀ b o, b ≠ env.locals → b ≠ D → b ≠ I → s.heap.get? b = some o → s'.heap.get? b = some o) → s'.gens = s.gens → s'.os = s.os → s'.heap.get? D = some (listOf (List.toArray (vs ++ vs')) m') → RepL (HW s'.heap (fun x => W x ∧ x ≠ I)) vs' outs.flatten → R (.ok .next) s') :
    codeAny (model prog w) A (.compLoop (.ListComp elt gens scope pos) depth (.ref I) (.ref D) env) R s := by
  refine codeAny_loop rfl (fun k s' => ∃ i vs' m', CS G sc env W ad ρ s'.heap ∧ St i s'.heap ∧ s'.heap.get? D = some (listOf (List.toArray (vs ++ vs')) m') ∧ RepL (HW s'.heap W) vs' (outs.take i).flatten ∧ (∀ b o, b ≠ env.locals → b ≠ D → b ≠ I → s.heap.get? b = some o → s'.heap.get? b = some o) ∧ s'.gens = s.gens ∧ s'.os = s.os ∧ i ≤ ds.length ∧ k = ds.length + 1 - i) (fun k s' hI => ?_) (ds.length + 1)
    ⟨0, [], m, C, hst, by simpa using hD, .nil, fun _ _ _ _ _ e => e, rfl, rfl, Nat.zero_le _, rfl⟩
  obtain ⟨i, vs₁, m₁, C₁, st₁, D₁, r₁, keep₁, g₁, o₁, hi, rfl⟩ := hI
  show wpAny _ A ((compTurn (.ListComp elt gens scope pos) depth (.ref I) (.ref D) env).onRaise (fun x => do noteFrame x env; theTreesLotGoes x)) _ _ s'
  refine wpAny_noted ?_
  rw [hct]
  refine wpAny_bind (wpAny_standAt (wpAny_bind ?_))
  have hDI : D ≠ I := Ne.symm hID
  by_cases hlt : i < ds.length
  · refine Wk.item i s' _ _ hlt st₁ fun v h' tk hp hst' hk' => ?_
    have kI : ∀ b o, b ≠ I → s'.heap.get? b = some o → h'.get? b = some o := fun b o hb => hk' b o fun q => hb (List.mem_singleton.mp q)
    have C₂ : CS G sc env W ad ρ h' := C₁.turn hwI kI (hal _ _ hst') apI.1 apI.2.1 apI.2.2
    have kw₂ : ∀ b o, HW s'.heap W b o → HW h' W b o := fun b o x => ⟨kI b o (fun q => x.2 (q ▸ hwI)) x.1, x.2⟩
    have kw₁ : ∀ b o, HW s.heap W b o → HW s'.heap W b o := fun b o x => ⟨keep₁ b o (fun q => x.2 (q ▸ C.wl)) (fun q => x.2 (q ▸ hwD)) (fun q => x.2 (q ▸ hwI)) x.1, x.2⟩
    have hd : ds[i]? = some (ds[i]'hlt) := List.getElem?_eq_getElem hlt
    have hlt' : i < outs.length := by rw [hlen]; exact hlt
    have ho : outs[i]? = some (outs[i]'hlt') := List.getElem?_eq_getElem hlt'
    obtain ⟨ρ', b, hb, hif, ht, hf⟩ := turn i _ _ hd ho
    have etake : (outs.take (i + 1)).flatten = (outs.take i).flatten ++ outs[i]'hlt' := by
      rw [List.take_add_one, ho]
      simp only [Option.toList_some, List.flatten_append, List.flatten_cons, List.flatten_nil, List.append_nil]
    have hfl : (outs.take (i + 1)).flatten.length ≤ outs.flatten.length := by
      have : outs.flatten = (outs.take (i + 1)).flatten ++ (outs.drop (i + 1)).flatten := by rw [← List.flatten_append, List.take_append_drop]
      rw [this, List.length_append]; omega
    have r := ((hrep i v _ hp hd).mono kw₁).mono kw₂
    have own : wpAny (model prog w) A (letOwnedTupleGo g.target (.ref I) v) (fun _ s₂ => s₂ = { s' with heap := h', toks := tk }) (notedBy (model prog w) A env fun e s'' => R (.error e) s'') { s' with heap := h', toks := tk } := by
      rcases hgo with hg | hg
      · rw [hg]; exact wpAny_pure rfl
      · exact letOwned_go (hgo2 hg _ _ hst') rfl
    refine wpAny_bind (wpAny_mono own (fun _ s₂ e => ?_) fun _ _ e => e)
    subst e
    refine wpAny_bind (CS.assign (s := { s' with heap := h', toks := tk }) hA C₂ hb r fun h₃ tk₃ C₃ k₃ kw₃ => ?_)
    have hfpk : ∀ b ∈ fp, ∀ o, h'.get? b = some o → h₃.get? b = some o := fun b hb o e => k₃ b o (fun q => by
      by_cases hbi : b = I
      · exact apI.1 (q ▸ hbi)
      · exact hfp b hb hbi (q ▸ C.wl)) e
    have st₃ := Wk.frame _ _ _ hst' hfpk
    refine wpAny_bind (hif A env W ad { s' with heap := h₃, toks := tk₃ } _ _ hA C₃.ec fun s₄ k₄ => ?_)
    have C₄ := C₃.keeps k₄.1
    have st₄ := Wk.frame _ _ _ st₃ fun b _ o e => k₄.1 b o e
    have D₄ : s₄.heap.get? D = some (listOf (List.toArray (vs ++ vs₁)) m₁) := k₄.1 _ _ (k₃ _ _ (Ne.symm apD.1) (kI _ _ hDI D₁))
    have kw₄ : ∀ b o, HW s'.heap W b o → HW s₄.heap W b o := fun b o x => k₄.hw b o (kw₃ b o (kw₂ b o x))
    have keep₄ : ∀ b o, b ≠ env.locals → b ≠ D → b ≠ I → s.heap.get? b = some o → s₄.heap.get? b = some o := fun b o h1 h2 h3 e => k₄.1 b o (k₃ b o h1 (kI b o h3 (keep₁ b o h1 h2 h3 e)))
    cases b with
    | false =>
      have hnil := hf rfl
      refine wpAny_pure ⟨rfl, ds.length + 1 - (i + 1), by omega, i + 1, vs₁, m₁, C₄.sub (bindC_ext hb), st₄, D₄, ?_, keep₄, k₄.2.1.trans g₁, k₄.2.2.trans o₁, hlt, rfl⟩
      rw [etake, hnil, List.append_nil]
      exact r₁.mono kw₄
    | true =>
      have hlen₁ := r₁.length
      refine wpAny_bind (ht rfl A env W ad s₄ D (vs ++ vs₁) m₁ _ _ hA C₄ hwD (apD.bind hb) D₄ ?_ fun s₅ vs₂ m₂ C₅ k₅ g₅ o₅ D₅ r₅ => ?_)
      · rw [List.length_append, hlen₁]
        rw [etake, List.length_append] at hfl
        omega
      · have kw₅ : ∀ b o, HW s₄.heap W b o → HW s₅.heap W b o := fun b o x => ⟨k₅ b o (fun q => x.2 (q ▸ C.wl)) (fun q => x.2 (q ▸ hwD)) x.1, x.2⟩
        refine wpAny_pure ⟨rfl, ds.length + 1 - (i + 1), by omega, i + 1, vs₁ ++ vs₂, m₂, C₅.sub (bindC_ext hb), ?_, by rw [← List.append_assoc]; exact D₅, ?_, fun b o h1 h2 h3 e => k₅ b o h1 h2 (keep₄ b o h1 h2 h3 e), g₅.trans (k₄.2.1.trans g₁), o₅.trans (k₄.2.2.trans o₁), hlt, rfl⟩
        · refine Wk.frame _ _ _ st₄ fun b hb o e => k₅ b o (fun q => ?_) (fun q => ?_) e
          · by_cases hbi : b = I
            · exact apI.1 (q ▸ hbi)
            · exact hfp b hb hbi (q ▸ C.wl)
          · by_cases hbi : b = I
            · exact hID (hbi.symm.trans q)
            · exact hfp b hb hbi (q ▸ hwD)
        · rw [etake]
          exact ((r₁.mono kw₄).mono kw₅).append r₅
  · have hin : i = ds.length := by omega
    subst hin
    refine Wk.done s' _ _ st₁ fun h' tk hk' => wpAny_pure ?_
    have kI : ∀ b o, b ≠ I → s'.heap.get? b = some o → h'.get? b = some o := fun b o hb => hk' b o fun q => hb (List.mem_singleton.mp q)
    refine done { s' with heap := h', toks := tk } vs₁ m₁ (C₁.drop hwI kI apI) (fun b o h1 h2 h3 e => kI b o h3 (keep₁ b o h1 h2 h3 e)) g₁ o₁ (kI _ _ hDI D₁) ?_
    rw [← hlen, List.take_length] at r₁
    exact r₁.mono fun b o x => ⟨kI b o (fun q => x.2 (q ▸ hwI)) x.1, fun q => x.2 q.1⟩
end
end Mine
end

section
open PySem PySem.W PyProof.Rows
namespace Mine

noncomputable def relabelS (scope sc : Scope) : Scope := { scope with names := scope.names.map fun (n, k) => if (k == .free && sc.kind == .function && sc.names.lookup n == some .cell) then (n, .cell) else (n, k) }
theorem relabel_eq {scope sc : Scope} {env : Env} (h : env.scope = sc) : relabel scope env = relabelS scope sc := by subst h; rfl

noncomputable def capOf (names : List (Str × NameKind)) (ρ : Store) : Store := names.filterMap fun p => if p.2 == .free then (ρ.lookup p.1).map (fun sl => (p.1, sl)) else none
theorem lookup_mem {α : Type} {x : Str} {a : α} : ∀ {l : List (Str × α)}, l.lookup x = some a → (x, a) ∈ l
  | [], e => by cases e
  | (y, b) :: l, e => by
    rw [List.lookup_cons] at e
    cases hy : x == y with
    | true => rw [hy] at e; cases e; rw [beq_iff_eq.mp hy]; exact .head _
    | false => rw [hy] at e; exact .tail _ (lookup_mem e)
theorem capOf_look {names : List (Str × NameKind)} {ρ : Store} {x : Str} {sl : Slt} (e : (capOf names ρ).lookup x = some sl) : ρ.lookup x = some sl ∧ (x, NameKind.free) ∈ names := by
  have := lookup_mem e
  unfold capOf at this
  obtain ⟨⟨y, k⟩, hm, hq⟩ := List.mem_filterMap.mp this
  by_cases hk : (k == NameKind.free) = true
  · simp only [hk, if_true] at hq
    cases hl : ρ.lookup y with
    | none => rw [hl] at hq; cases hq
    | some s0 =>
      rw [hl] at hq
      simp only [Option.map_some, Option.some.injEq, Prod.mk.injEq] at hq
      obtain ⟨rfl, rfl⟩ := hq
      exact ⟨hl, by rw [beq_iff_eq.mp hk] at hm; exact hm⟩
  · simp only [hk] at hq; cases hq

noncomputable def compOk (scope sc : Scope) (ρ : Store) : Bool :=
  scope.kind == .function && sc.kind == .function && (scope.names.all fun p => scope.names.lookup p.1 == some p.2 && p.2 != .cell && (p.2 != .free || (sc.names.lookup p.1 == some .cell && (ρ.lookup p.1).isSome)))
structure CompOk (scope sc : Scope) (ρ : Store) : Prop where
  kind : scope.kind = .function
  skind : sc.kind = .function
  uniq : ∀ p ∈ scope.names, scope.names.lookup p.1 = some p.2
  nocell : ∀ p ∈ scope.names, p.2 ≠ .cell
  free : ∀ p ∈ scope.names, p.2 = .free → sc.names.lookup p.1 = some .cell ∧ ∃ sl, ρ.lookup p.1 = some sl
theorem compOk_of {scope sc : Scope} {ρ : Store} (h : compOk scope sc ρ = true) : CompOk scope sc ρ := by
  unfold compOk at h
  simp only [Bool.and_eq_true, beq_iff_eq, List.all_eq_true, bne_iff_ne, ne_eq, Bool.or_eq_true] at h
  obtain ⟨⟨h1, h2⟩, h3⟩ := h
  refine ⟨h1, h2, fun p hp => (h3 p hp).1.1, fun p hp => (h3 p hp).1.2, fun p hp hf => ?_⟩
  rcases (h3 p hp).2 with q | q
  · exact absurd hf q
  · exact ⟨q.1, Option.isSome_iff_exists.mp q.2⟩

theorem closure_go {env : Env} : ∀ (names : List (Str × NameKind)) (acc : List (Str × Addr)), (∀ p ∈ names, p.2 = .free → ∃ c, env.cells.lookup p.1 = some c) →
    ∃ cl, (forIn names acc fun x r => (match x with | (name, kind) => if kind == NameKind.free then (do let c ← cellOf env name; pure (ForInStep.yield ((name, c) :: r))) else pure (ForInStep.yield r)) : Sem (List (Str × Addr))) = pure cl ∧
      (∀ x c, cl.lookup x = some c → acc.lookup x = some c ∨ (env.cells.lookup x = some c ∧ (x, NameKind.free) ∈ names)) ∧ (∀ x, ((x, NameKind.free) ∈ names ∨ (acc.lookup x).isSome = true) → (cl.lookup x).isSome = true)
  | [], acc, _ => ⟨acc, rfl, fun _ _ e => .inl e, fun x h => h.elim (fun q => nomatch q) id⟩
  | (y, k) :: r, acc, h => by
    rw [List.forIn_cons]
    by_cases hk : (k == NameKind.free) = true
    · obtain ⟨c, hc⟩ := h (y, k) (.head _) (beq_iff_eq.mp hk)
      obtain ⟨cl, e1, e2, e3⟩ := closure_go r ((y, c) :: acc) fun p hp => h p (.tail _ hp)
      refine ⟨cl, ?_, fun x c' q => ?_, fun x q => ?_⟩
      · have : cellOf env y = pure c := by unfold cellOf; rw [hc]
        simp only [hk, if_true, this]
        exact e1
      · rcases e2 x c' q with q | q
        · rw [List.lookup_cons] at q
          cases hy : x == y with
          | true => rw [hy] at q; cases q; right; rw [beq_iff_eq.mp hy]; exact ⟨hc, by rw [beq_iff_eq.mp hk]; exact .head _⟩
          | false => rw [hy] at q; exact .inl q
        · exact .inr ⟨q.1, .tail _ q.2⟩
      · refine e3 x ?_
        rw [List.lookup_cons]
        cases hy : x == y with
        | true => right; rfl
        | false =>
          rcases q with q | q
          · rcases List.mem_cons.mp q with q | q
            · rw [(Prod.mk.inj q).1] at hy; simp at hy
            · exact .inl q
          · exact .inr q
    · obtain ⟨cl, e1, e2, e3⟩ := closure_go r acc fun p hp => h p (.tail _ hp)
      refine ⟨cl, ?_, fun x c q => (e2 x c q).imp id fun q => ⟨q.1, .tail _ q.2⟩, fun x q => e3 x ?_⟩
      · simp only [hk, if_false, Bool.false_eq_true]
        exact e1
      · rcases q with q | q
        · rcases List.mem_cons.mp q with q | q
          · rw [← (Prod.mk.inj q).2] at hk; simp at hk
          · exact .inl q
        · exact .inr q
theorem closure_of {env : Env} {scope : Scope} (h : ∀ p ∈ scope.names, p.2 = .free → ∃ c, env.cells.lookup p.1 = some c) :
    ∃ cl, closureFor scope env = pure cl ∧ (∀ x c, cl.lookup x = some c → env.cells.lookup x = some c ∧ (x, NameKind.free) ∈ scope.names) ∧ (∀ x, (x, NameKind.free) ∈ scope.names → (cl.lookup x).isSome = true) := by
  obtain ⟨cl, e1, e2, e3⟩ := closure_go scope.names [] h
  refine ⟨cl, ?_, fun x c q => (e2 x c q).elim (fun q => by cases q) id, fun x q => e3 x (.inl q)⟩
  exact congrArg (fun t : Sem (List (Str × Addr)) => t >>= fun cs => pure cs) e1

theorem lookup_map_kind {f : Str × NameKind → Str × NameKind} (hf : ∀ p, (f p).1 = p.1) (x : Str) : ∀ (l : List (Str × NameKind)), (l.map f).lookup x = (l.lookup x).map fun k => (f (x, k)).2
  | [] => rfl
  | p :: l => by
    rw [List.map_cons, List.lookup_cons]
    have : List.lookup x (p :: l) = match x == p.1 with | true => some p.2 | false => List.lookup x l := by obtain ⟨a, b⟩ := p; exact List.lookup_cons
    rw [this]
    have hfp : f p = ((f p).1, (f p).2) := rfl
    rw [hf p]
    cases hy : x == p.1 with
    | true =>
      have e : x = p.1 := beq_iff_eq.mp hy
      subst e
      rfl
    | false => exact lookup_map_kind hf x l
theorem relabelS_look {scope sc : Scope} {x : Str} {k : NameKind} (h : scope.names.lookup x = some k) : (relabelS scope sc).names.lookup x = some (if (k == .free && sc.kind == .function && sc.names.lookup x == some .cell) then .cell else k) := by
  unfold relabelS
  rw [lookup_map_kind (f := fun (n, k) => if (k == NameKind.free && sc.kind == .function && sc.names.lookup n == some .cell) then (n, .cell) else (n, k)) (fun p => by obtain ⟨n, k⟩ := p; dsimp only; split <;> rfl), h]
  simp only [Option.map_some]
  split <;> rfl

section
variable {prog : Program} {w : World} {G : Gd} {n : Nat} {sc : Scope} {ρ : Store}

theorem CS.enter {scope : Scope} {env cenv : Env} {W W' : Addr → Prop} {ad : Str → Addr} {h h' : Heap} {cl : List (Str × Addr)} (E : EC G sc env W ad ρ h) (ok : CompOk scope sc ρ) (k : ∀ b o, h.get? b = some o → h'.get? b = some o)
    (e2 : ∀ x c, cl.lookup x = some c → env.cells.lookup x = some c) (e3 : ∀ x, (x, NameKind.free) ∈ scope.names → (cl.lookup x).isSome = true)
    (hs : cenv.scope = relabelS scope sc) (hg : cenv.globals = env.globals) (hb : cenv.builtins = env.builtins) (hc : cenv.cells = cl) (hL : h.get? cenv.locals = none) (hn : ∃ m, h'.Ns cenv.locals m)
    (hcl : ∀ x c, cl.lookup x = some c → (x, NameKind.free) ∈ scope.names) (up : ∀ a, W a → W' a) (down : ∀ a, W' a → W a ∨ h.get? a = none) (lv : ∀ a, W' a → ∃ o, h'.get? a = some o) (wl : W' cenv.locals) :
    CS G (relabelS scope sc) cenv W' ad (capOf scope.names ρ) h' := by
  have ne : ∀ b o, h.get? b = some o → b ≠ cenv.locals := fun b o e q => by rw [q, hL] at e; cases e
  have kw : ∀ b o, HW h W b o → HW h' W' b o := fun b o x => ⟨k b o x.1, fun q => (down b q).elim x.2 fun e => by rw [x.1] at e; cases e⟩
  have cells : ∀ x c, cl.lookup x = some c → ∃ v, h.IsCell c (some v) := fun x c q => by
    obtain ⟨f1, sl, f2⟩ := ok.free (x, .free) (hcl x c q) rfl
    have nm := E.names x sl f2
    obtain ⟨v, N⟩ : ∃ v, NameIs env h x v := by
      cases sl with
      | im d => obtain ⟨v, N, _⟩ := nm; exact ⟨v, N⟩
      | li ds => exact ⟨_, nm.1⟩
      | di D => obtain ⟨v, _, N, _⟩ := nm; exact ⟨v, N⟩
    rcases N with ⟨a, _⟩ | ⟨_, c', e', hi⟩
    · rw [lookup_kind E.scope, f1] at a; cases a
    · rw [e2 x c q] at e'; cases e'; exact ⟨v, hi⟩
  refine ⟨⟨hs, ok.kind, hg.trans E.glob, hb.trans E.blt, E.ground.mono kw, lv, hn, fun x sl q => ?_⟩, wl, fun x c q => ?_, fun x sl q o => ?_⟩
  · obtain ⟨q1, q2⟩ := capOf_look q
    obtain ⟨f1, _⟩ := ok.free (x, .free) q2 rfl
    have hu := ok.uniq (x, .free) q2
    have hk : cenv.kindOf x = some .cell := by
      rw [lookup_kind hs, relabelS_look hu, ok.skind, f1]; rfl
    refine (E.names x sl q1).turn kw (fun v N => ?_) fun o => ⟨rfl, up _, fun ob => k _ ob⟩
    rcases N with ⟨a, _⟩ | ⟨_, c, e, hi⟩
    · rw [lookup_kind E.scope, f1] at a; cases a
    · obtain ⟨c', hc'⟩ := Option.isSome_iff_exists.mp (e3 x q2)
      have := e2 x c' hc'
      rw [e] at this; cases this
      exact .inr ⟨.inl hk, c, by rw [hc]; exact hc', hi.keeps k⟩
  · rw [hc] at q
    obtain ⟨v, o, ho, _⟩ := cells x c q
    exact ⟨ne _ _ ho, o, k _ _ ho⟩
  · obtain ⟨q1, _⟩ := capOf_look q
    have nm := E.names x sl q1
    cases sl with
    | im d => cases o
    | li ds => obtain ⟨_, _, vs, m, ho, _⟩ := nm; exact ne _ _ ho
    | di kv => obtain ⟨_, _, vs, m, ho, _⟩ := nm; exact ne _ _ ho

theorem Apart.enter {scope : Scope} {env cenv : Env} {W : Addr → Prop} {ad : Str → Addr} {h : Heap} {cl : List (Str × Addr)} {a : Addr} (E : EC G sc env W ad ρ h) (ok : CompOk scope sc ρ)
    (e2 : ∀ x c, cl.lookup x = some c → env.cells.lookup x = some c) (hc : cenv.cells = cl) (hcl : ∀ x c, cl.lookup x = some c → (x, NameKind.free) ∈ scope.names) (hL : h.get? a = none) (hl : cenv.locals ≠ a) : Apart cenv ad (capOf scope.names ρ) a := by
  have ne : ∀ b o, h.get? b = some o → b ≠ a := fun b o e q => by rw [q, hL] at e; cases e
  refine ⟨hl, fun x c q => ?_, fun x sl q o => ?_⟩
  · rw [hc] at q
    obtain ⟨f1, sl, f2⟩ := ok.free (x, .free) (hcl x c q) rfl
    have nm := E.names x sl f2
    obtain ⟨v, N⟩ : ∃ v, NameIs env h x v := by
      cases sl with
      | im d => obtain ⟨v, N, _⟩ := nm; exact ⟨v, N⟩
      | li ds => exact ⟨_, nm.1⟩
      | di D => obtain ⟨v, _, N, _⟩ := nm; exact ⟨v, N⟩
    rcases N with ⟨a, _⟩ | ⟨_, c', e', o, ho, _⟩
    · rw [lookup_kind E.scope, f1] at a; cases a
    · rw [e2 x c q] at e'; cases e'; exact ne _ _ ho
  · obtain ⟨q1, _⟩ := capOf_look q
    have nm := E.names x sl q1
    cases sl with
    | im d => cases o
    | li ds => obtain ⟨_, _, vs, m, ho, _⟩ := nm; exact ne _ _ ho
    | di kv => obtain ⟨_, _, vs, m, ho, _⟩ := nm; exact ne _ _ ho
end
end Mine
end

section
open PySem PySem.W PyProof.Rows
namespace Mine
section
variable {prog : Program} {w : World} {G : Gd} {n : Nat} {sc : Scope} {ρ : Store}

structure Level (prog : Program) (w : World) (G : Gd) (n : Nat) (sc : Scope) (ρ : Store) (elt : Expr) (gens : List Comprehension) (scope : Scope) (pos : Pos) (depth : Nat) (g : Comprehension) (t : Env → Value → Sem Unit) (pl : Bool) (ds : List PV) (outs : List (List PV)) : Prop where
  hct : ∀ it acc env, compTurn (.ListComp elt gens scope pos) depth it acc env = (do
      standAt g.iter.pos
      match ← pyNext it with
      | none => pure (.done .next)
      | some v =>
        letOwnedTupleGo g.target it v
        assign g.target env v
        let mut ok := true
        for c in g.ifs do
          if ok then ok ← isTrue c env (eval c env)
        if ok then
          t env acc
        again (.compLoop (.ListComp elt gens scope pos) depth it acc env))
  hlen : outs.length = ds.length
  turn : ∀ (i : Nat) (d : PV) (out : List PV), ds[i]? = some d → outs[i]? = some out → ∃ ρ' b, bindC sc g.target d ρ = some ρ' ∧ EIf prog w G n sc ρ' g.ifs b ∧ (b = true → CB prog w G n sc ρ' t out) ∧ (b = false → out = [])
  hgo : (∀ it v, letOwnedTupleGo g.target it v = pure ()) ∨ pl = true

theorem comp_run {elt : Expr} {scope : Scope} {pos : Pos} {g : Comprehension} {gs : List Comprehension} {t : Env → Value → Sem Unit} {pl : Bool} {ds : List PV} {outs : List (List PV)} {ρc : Store} {use : Option (Value → Sem Unit)}
    (hi : EvIt prog w G pl n sc ρ g.iter ds) (ok : compOk scope sc ρ = true) (hρ : capOf scope.names ρ = ρc) (L : Level prog w G n (relabelS scope sc) ρc elt (g :: gs) scope pos 0 g t pl ds outs) (hasync : g.is_async = 0) (hsz : outs.flatten.length ≤ sizeLine)
    {A : Around} {env : Env} {W : Addr → Prop} {ad : Str → Addr} {s : Shared} {Q : Value → Shared → Prop} {E : Value → Shared → Prop} (hA : AOk n A) (hE : EC G sc env W ad ρ s.heap)
    (hs : ∀ x, foldedSetIterable g.iter env x = pure x)
    (h : ∀ C D vs m s', s.heap.get? C = none → s.heap.get? D = none → C ≠ D → (∃ mm, s'.heap.Ns C mm) → Kp s s' → s'.heap.get? D = some (listOf (List.toArray vs) m) → RepL (HW s'.heap (fun x => (W x ∨ x = D) ∨ x = C)) vs outs.flatten → compPost (model prog w) A E use Q (.ref D) C (.ok .next) s') :
    wpAny (model prog w) A (comprehension (.ListComp elt (g :: gs) scope pos) scope env (firstIterPos (g :: gs) pos) (newList []) false (eval g.iter env) use) Q E s := by
  have okk := compOk_of ok
  obtain ⟨tg, ig, fg, ag⟩ := g
  dsimp only at hasync
  subst hasync
  obtain ⟨cl, c1, c2, c3⟩ := closure_of (env := env) (scope := scope) fun p hp hf => by
    obtain ⟨f1, sl, f2⟩ := okk.free p hp hf
    have nm := hE.names p.1 sl f2
    obtain ⟨v, N⟩ : ∃ v, NameIs env s.heap p.1 v := by
      cases sl with
      | im d => obtain ⟨v, N, _⟩ := nm; exact ⟨v, N⟩
      | li ds => exact ⟨_, nm.1⟩
      | di D => obtain ⟨v, _, N, _⟩ := nm; exact ⟨v, N⟩
    rcases N with ⟨a, _⟩ | ⟨_, c, e, _⟩
    · rw [lookup_kind hE.scope, f1] at a; cases a
    · exact ⟨c, e⟩
  refine wpAny_comprehension_free (g := ⟨tg, ig, fg, 0⟩) (gs := gs) rfl hs c1 okk.kind (fun x hx hl => hl ▸ okk.uniq x hx) ?_
  refine hi A env W ad s _ E hA hE fun I fp P St s₁ k₁ X => ?_
  refine wpAny_newObj_type (wpAny_newFunctionEnv okk.nocell (by intro y hy; simp at hy) (fun h₁ hns hsb => ?_) okk.kind)
  dsimp only at hns hsb ⊢
  generalize hH2 : s₁.heap.push { cls := .type "list", dict := none, data := .seq ([] : List Value).toArray } = H2 at hns hsb ⊢
  have hC : H2.objs.size = s₁.heap.objs.size + 1 := by rw [← hH2, Heap.size_push]
  have hDC : s₁.heap.objs.size ≠ H2.objs.size := by rw [hC]; exact Nat.ne_of_lt (Nat.lt_succ_self _)
  have lt₁ : ∀ b o, s₁.heap.get? b = some o → b ≠ H2.objs.size ∧ b ≠ s₁.heap.objs.size := fun b o e => by
    have hlt := Heap.lt_size e
    exact ⟨by rw [hC]; exact Nat.ne_of_lt (Nat.lt_succ_of_lt hlt), Nat.ne_of_lt hlt⟩
  have old : ∀ b o, s₁.heap.get? b = some o → h₁.get? b = some o := fun b o e => hsb.extBut b o (lt₁ b o e).1 (Heap.get?_push_of_some _ (hH2 ▸ Heap.get?_push_of_some _ e))
  have hD : h₁.get? s₁.heap.objs.size = some (listOf ([] : List Value).toArray 0) := hsb.extBut _ _ hDC (Heap.get?_push_of_some _ (hH2 ▸ Heap.get?_push_size _ rfl))
  have hC0 : s₁.heap.get? H2.objs.size = none := Heap.get?_none_of_le (by rw [hC]; exact Nat.le_succ _)
  have hD0 : s₁.heap.get? s₁.heap.objs.size = none := fresh_get _
  have back0 : ∀ a, s₁.heap.get? a = none → s.heap.get? a = none := fun a ha => by
    cases e : s.heap.get? a with
    | none => rfl
    | some o => rw [k₁.1 a o e] at ha; cases ha
  obtain ⟨oI, hI⟩ : ∃ o, s₁.heap.get? I = some o := (X.live I (X.walks.sub I (.head _))).2
  have base : ∀ b o, s.heap.get? b = some o → h₁.get? b = some o := fun b o e => old b o (k₁.1 b o e)
  have e2 : ∀ x c, cl.lookup x = some c → env.cells.lookup x = some c := fun x c q => (c2 x c q).1
  have e4 : ∀ x c, cl.lookup x = some c → (x, NameKind.free) ∈ scope.names := fun x c q => (c2 x c q).2
  have gC := back0 _ hC0
  have gD := back0 _ hD0
  have hIC : I ≠ H2.objs.size := (lt₁ I oI hI).1
  have hID : I ≠ s₁.heap.objs.size := (lt₁ I oI hI).2
  have C₀ : CS G (relabelS scope sc) { newEnv scope H2.objs.size env.globals cl env.qual none Value.none (some env) 0 with scope := relabel scope env } (fun a => ((W a ∨ a = I) ∨ a = s₁.heap.objs.size) ∨ a = H2.objs.size) ad ρc h₁ := by
    rw [← hρ]
    refine CS.enter (cl := cl) hE okk base e2 c3 (relabel_eq hE.scope) rfl rfl rfl gC ⟨_, hns⟩ e4 (fun a h => .inl (.inl (.inl h))) (fun a h => ?_) (fun a h => ?_) (.inr rfl)
    · rcases h with ((h | h) | h) | h
      · exact .inl h
      · exact .inr (h ▸ X.new)
      · exact .inr (h ▸ gD)
      · exact .inr (h ▸ gC)
    · rcases h with ((h | h) | h) | h
      · obtain ⟨o, q⟩ := hE.live a h; exact ⟨o, base _ _ q⟩
      · exact ⟨oI, h ▸ old _ _ hI⟩
      · exact ⟨_, h ▸ hD⟩
      · obtain ⟨_, _, _, q, _⟩ := hns; exact ⟨_, h ▸ q⟩
  have apI : Apart { newEnv scope H2.objs.size env.globals cl env.qual none Value.none (some env) 0 with scope := relabel scope env } ad ρc I := by
    rw [← hρ]; exact Apart.enter hE okk e2 rfl e4 X.new (Ne.symm hIC)
  have apD : Apart { newEnv scope H2.objs.size env.globals cl env.qual none Value.none (some env) 0 with scope := relabel scope env } ad ρc s₁.heap.objs.size := by
    rw [← hρ]; exact Apart.enter hE okk e2 rfl e4 gD (Ne.symm hDC)
  have hst₁ : St 0 h₁ := X.walks.frame _ _ _ X.start fun b _ o e => old b o e
  have loop : ∀ s₃ : Shared, s₃ = { s₁ with heap := h₁, toks := s₁.toks + ([] : List (Str × Value)).length } →
      codeAny (model prog w) A (.compLoop (.ListComp elt (⟨tg, ig, fg, 0⟩ :: gs) scope pos) 0 (.ref I) (.ref s₁.heap.objs.size) { newEnv scope H2.objs.size env.globals cl env.qual none Value.none (some env) 0 with scope := relabel scope env })
        (compPost (model prog w) A E use Q (.ref s₁.heap.objs.size) H2.objs.size) s₃ := by
    rintro s₃ rfl
    refine comp_level (vs := []) L.hct L.hlen L.turn L.hgo hA C₀ (.inl (.inr rfl)) apD (.inl (.inl (.inr rfl))) apI hID X.walks hst₁ (fun b hb hbi hw => ?_) (fun i v d hp hd => ?_) X.alive X.go hD (by simpa using hsz) fun s' vs' m' C' keep' g' o' D' r' => ?_
    · obtain ⟨nw, o, ho⟩ := X.live b hb
      rcases hw with ((hw | hw) | hw) | hw
      · exact nw hw
      · exact hbi hw
      · rw [hw, hD0] at ho; cases ho
      · rw [hw, hC0] at ho; cases ho
    · refine (X.rep i v d hp hd).mono fun b o x => ⟨old _ _ x.1, fun hw => ?_⟩
      rcases hw with ((hw | hw) | hw) | hw
      · exact x.2 (.inl hw)
      · exact x.2 (.inr hw)
      · have := x.1; rw [hw, hD0] at this; cases this
      · have := x.1; rw [hw, hC0] at this; cases this
    · refine h H2.objs.size s₁.heap.objs.size vs' m' s' gC gD (Ne.symm hDC) C'.ec.ns ⟨fun b o e => ?_, g'.trans k₁.2.1, o'.trans k₁.2.2⟩ D' (r'.mono fun b o x => ⟨x.1, fun hw => x.2 ?_⟩)
      · refine keep' b o (fun q => ?_) (fun q => ?_) (fun q => ?_) (base _ _ e)
        · rw [show b = H2.objs.size from q, gC] at e; cases e
        · rw [q, gD] at e; cases e
        · rw [q, X.new] at e; cases e
      · rcases hw with (hw | hw) | hw
        · refine ⟨.inl (.inl (.inl hw)), fun q => ?_⟩
          obtain ⟨o, ho⟩ := hE.live _ hw
          rw [q, X.new] at ho; cases ho
        · exact ⟨.inl (.inr hw), fun q => hID (q.symm.trans hw)⟩
        · exact ⟨.inr hw, fun q => hIC (q.symm.trans hw)⟩
  exact codeAny_compStart_list (loop _ rfl) (X.walks.self 0 _ _ _ hst₁ (loop _ rfl))
end
end Mine
end

section
open PySem PySem.W PyProof.Rows
namespace Mine
section
variable {prog : Program} {w : World} {G : Gd} {n : Nat} {sc : Scope} {ρ : Store}

theorem ev_comp {elt : Expr} {scope : Scope} {pos : Pos} {g : Comprehension} {gs : List Comprehension} {t : Env → Value → Sem Unit} {pl : Bool} {ds : List PV} {outs : List (List PV)} {ρc : Store} {sr : Scope}
    (hi : EvIt prog w G pl n sc ρ g.iter ds) (ok : compOk scope sc ρ = true) (hρ : capOf scope.names ρ = ρc) (hsr : relabelS scope sc = sr) (L : Level prog w G n sr ρc elt (g :: gs) scope pos 0 g t pl ds outs) (hsz : outs.flatten.length ≤ sizeLine)
    (hasync : g.is_async = 0 := by rfl) (hs : ∀ env x, foldedSetIterable g.iter env x = pure x := by intro _ _; rfl) : EvF prog w G n sc ρ (.ListComp elt (g :: gs) scope pos) outs.flatten := by
  intro A env W ad s Q E hA hE hQ
  have e : eval (.ListComp elt (g :: gs) scope pos) env = comprehension (.ListComp elt (g :: gs) scope pos) scope env (firstIterPos (g :: gs) pos) (newList []) false (eval g.iter env) none := by
    obtain ⟨tg, ig, fg, ag⟩ := g
    cases hasync
    rfl
  rw [e]
  refine comp_run hi ok hρ (hsr ▸ L) hasync hsz hA hE (hs env) fun C D vs m s' hC hD hCD hn k hl rs => ?_
  obtain ⟨mm, hn⟩ := hn
  refine ⟨mm, hn, fun h' hsb => ?_⟩
  have kk : ∀ b o, b ≠ C → s'.heap.get? b = some o → h'.get? b = some o := fun b o hb e => (hsb.2 b hb).trans e
  refine hQ _ { s' with heap := h' } ⟨fun b o e => kk b o (fun q => ?_) (k.1 b o e), k.2.1, k.2.2⟩ ⟨D, vs, m, rfl, hD, kk _ _ (Ne.symm hCD) hl, rs.mono fun b o x => ⟨kk b o (fun q => x.2 (.inr q)) x.1, fun q => x.2 (.inl q)⟩⟩
  rw [q, hC] at e; cases e

theorem x1_assignC {x : Str} {p pos cpos : Pos} {ρ' : Store} {elt : Expr} {scope : Scope} {g : Comprehension} {gs : List Comprehension} {t : Env → Value → Sem Unit} {pl : Bool} {ds : List PV} {outs : List (List PV)} {ρc : Store} {sr : Scope}
    (hi : EvIt prog w G pl n sc ρ g.iter ds) (ok : compOk scope sc ρ = true) (hρ : capOf scope.names ρ = ρc) (hsr : relabelS scope sc = sr) (L : Level prog w G n sr ρc elt (g :: gs) scope cpos 0 g t pl ds outs) (hsz : outs.flatten.length ≤ sizeLine)
    (hb : bindN sc x (.list outs.flatten) ρ = some ρ')
    (hsw : ∀ env, env.scope = sc → swapsWith (.ListComp elt (g :: gs) scope cpos) (some (.Name x p)) pos.line env = pure true)
    (hasync : g.is_async = 0 := by rfl) (hs : ∀ env x, foldedSetIterable g.iter env x = pure x := by intro _ _; rfl) : Ex1 prog w G n sc ρ (.Assign [.Name x p] (.ListComp elt (g :: gs) scope cpos) pos) (To ρ') := by
  intro A env W Z ad s Q E hA F hQ
  rw [exec_Assign_Name_used _ _ _ _ (hsw env F.ec.scope)]
  refine wpAny_bind (wpAny_standAt (wpAny_bind ?_))
  have e : evalThenUse (.ListComp elt (g :: gs) scope cpos) env (assign (.Name x p) env) = (do let _ ← comprehension (.ListComp elt (g :: gs) scope cpos) scope env (firstIterPos (g :: gs) cpos) (newList []) false (eval g.iter env) (some (assign (.Name x p) env))) := by
    obtain ⟨tg, ig, fg, ag⟩ := g
    cases hasync
    rfl
  rw [e]
  refine wpAny_bind (wpAny_mono (comp_run (Q := fun _ s' => Q .next s') (use := some (assign (.Name x p) env)) hi ok hρ (hsr ▸ L) hasync hsz hA F.ec (hs env) fun C D vs m s' hC hD hCD hn k hl rs => ?_) (fun _ s' hq => wpAny_pure (wpAny_pure hq)) fun _ _ e => e)
  show wpAny _ A (assign (.Name x p) env (.ref D)) _ _ _
  obtain ⟨mm, hn⟩ := hn
  have F₁ := F.growZ k.1 hC (by obtain ⟨o, _, _, q, _⟩ := hn; exact ⟨o, q⟩)
  have r : Rep (HW s'.heap (fun x => W x ∨ x = C)) (.ref D) (.list outs.flatten) := by
    refine .list (n := m) ⟨hl, fun q => ?_⟩ (rs.mono fun b o x => ⟨x.1, fun q => x.2 (q.elim (fun q => .inl (.inl q)) .inr)⟩)
    rcases q with q | q
    · obtain ⟨o, ho⟩ := F.ec.live _ q; rw [hD] at ho; cases ho
    · exact hCD q.symm
  refine wpAny_assign_Name (store_bind F₁ hb r fun h' tk F₂ o => ?_)
  have hn₂ : h'.Ns C mm := by
    obtain ⟨o', es, ep, q, rr⟩ := hn
    exact ⟨o', es, ep, o.keep _ _ (fun _ => .inr rfl) q, rr⟩
  refine ⟨mm, hn₂, fun h'' hsb => ?_⟩
  have kk : ∀ b o, b ≠ C → h'.get? b = some o → h''.get? b = some o := fun b o hb e => (hsb.2 b hb).trans e
  have F₃ : FS G sc env (fun x => (W x ∨ x = C) ∧ x ≠ C) (fun x => (Z x ∨ x = C) ∧ x ≠ C) ad ρ' h'' := F₂.drop (.inr rfl) kk
  refine hQ (fun x => (W x ∨ x = C) ∧ x ≠ C) ad ρ' .next .next _ ⟨rfl, rfl⟩ (F₃.zsub fun a ha => ⟨.inl ha, fun q => ?_⟩) ?_ .next
  · obtain ⟨o, ho⟩ := F.ec.live _ (F.zw _ ha); rw [q, hC] at ho; cases ho
  · refine ⟨fun a ha => .inl (ha.1.resolve_right ha.2), fun a ob hw e => ?_, o.gens.trans k.2.1, o.os.trans k.2.2, fun a ha => ⟨.inl ha, fun q => ?_⟩⟩
    · have hac : a ≠ C := fun q => by rw [q, hC] at e; cases e
      exact kk a ob hac (o.keep a ob (fun q => .inl (hw (q.resolve_right hac))) (k.1 a ob e))
    · obtain ⟨o, ho⟩ := F.ec.live _ ha; rw [q, hC] at ho; cases ho

theorem start_one {A : Around} {elt : Expr} {g₀ : Comprehension} {tg ig : Expr} {fg : List Expr} {rest : List Comprehension} {scope : Scope} {pos : Pos} {it acc : Value} {env : Env} {R : Result → Shared → Prop} {s : Shared}
    (h0 : codeAny (model prog w) A (.compLoop (.ListComp elt (g₀ :: ⟨tg, ig, fg, 0⟩ :: rest) scope pos) 1 it acc env) R s)
    (h : wpAny (model prog w) A (pyIter it) (fun it' s' => codeAny (model prog w) A (.compLoop (.ListComp elt (g₀ :: ⟨tg, ig, fg, 0⟩ :: rest) scope pos) 1 it' acc env) R s')
      (notedBy (model prog w) A env fun x s' => R (.error x) s') s) :
    codeAny (model prog w) A (.compStart (.ListComp elt (g₀ :: ⟨tg, ig, fg, 0⟩ :: rest) scope pos) 1 it acc env) R s := by
  refine codeAny_of_tree ?_
  show wpAny _ _ ((compStart (.ListComp elt (g₀ :: ⟨tg, ig, fg, 0⟩ :: rest) scope pos) 1 it acc env).onRaise (fun x => do noteFrame x env; standAt theWindowsPlace)) _ _ s
  refine wpAny_notedAt ?_
  unfold compStart
  show wpAny _ _ (ask >>= _) _ _ s
  refine wpAny_bind (wpAny_askSetting (wpAny_ite ?_))
  split
  · first
      | exact wpAny_bind (wpAny_pure (wpAny_pure (And.intro rfl h0)))
      | exact wpAny_pure (And.intro rfl h0)
  · first
      | exact wpAny_bind (wpAny_rule (wpAny_bind (wpAny_standAt (wpAny_bind (wpAny_mono h (fun it' s' h' => wpAny_pure (And.intro rfl h')) fun _ _ x => x)))))
      | (refine wpAny_bind (wpAny_rule ?_); show wpAny _ _ (standAt ig.pos >>= _) _ _ s; exact wpAny_bind (wpAny_standAt (wpAny_bind (wpAny_mono h (fun it' s' h' => wpAny_pure (And.intro rfl h')) fun _ _ x => x))))

noncomputable def innerOf (e : Expr) (ig : Expr) : Env → Value → Sem Unit := fun env acc => do
  let x ← eval ig env
  standAt ig.pos
  let x ← foldedSetIterable ig env x
  let _ ← runOwn (.compStart e 1 (← holding [x] (pyIter x)) acc env) env

theorem cb_inner {elt : Expr} {scope : Scope} {pos : Pos} {g₀ : Comprehension} {tg ig : Expr} {fg : List Expr} {rest : List Comprehension} {t : Env → Value → Sem Unit} {pl : Bool} {ds : List PV} {outs : List (List PV)}
    (hi : EvIt prog w G pl n sc ρ ig ds) (L : Level prog w G n sc ρ elt (g₀ :: ⟨tg, ig, fg, 0⟩ :: rest) scope pos 1 ⟨tg, ig, fg, 0⟩ t pl ds outs) (hs : ∀ env x, foldedSetIterable ig env x = pure x := by intro _ _; rfl) :
    CB prog w G n sc ρ (innerOf (.ListComp elt (g₀ :: ⟨tg, ig, fg, 0⟩ :: rest) scope pos) ig) outs.flatten := by
  intro A env W ad s D vs m Q E hA C hwD ap hD hsz hQ
  unfold innerOf
  refine wpAny_bind (wpAny_mono (hi A env W ad s _ _ hA C.ec fun I fp P St s₁ k₁ X => ?_) (fun x s₁ hq => wpAny_bind (wpAny_standAt (wpAny_bind (wpAny_of_eq (hs env x) (wpAny_bind (wpAny_holding hq)))))) fun _ _ e => e)
  have nI : ∀ b o, s.heap.get? b = some o → b ≠ I := fun b o e q => by rw [q, X.new] at e; cases e
  obtain ⟨oI, hI⟩ : ∃ o, s₁.heap.get? I = some o := (X.live I (X.walks.sub I (.head _))).2
  have C₁ : CS G sc env (fun x => W x ∨ x = I) ad ρ s₁.heap := C.grow k₁.1 X.new ⟨_, hI⟩
  have nW : ∀ a, W a → a ≠ I := fun a ha => by obtain ⟨o, ho⟩ := C.ec.live a ha; exact nI a o ho
  have apI : Apart env ad ρ I := by
    refine ⟨nW _ C.wl, fun x c q => ?_, fun x sl q o => ?_⟩
    · obtain ⟨o, ho⟩ := (C.cc x c q).2; exact nI _ _ ho
    · have nm := C.ec.names x sl q
      cases sl with
      | im d => cases o
      | li ds => obtain ⟨_, _, vs, m, ho, _⟩ := nm; exact nI _ _ ho
      | di kv => obtain ⟨_, _, vs, m, ho, _⟩ := nm; exact nI _ _ ho
  have hID : I ≠ D := Ne.symm (nI _ _ hD)
  have fin : ∀ s' vs' m', CS G sc env (fun x => (W x ∨ x = I) ∧ x ≠ I) ad ρ s'.heap → (∀ b o, b ≠ env.locals → b ≠ D → b ≠ I → s₁.heap.get? b = some o → s'.heap.get? b = some o) → s'.gens = s₁.gens → s'.os = s₁.os → s'.heap.get? D = some (listOf (List.toArray (vs ++ vs')) m') → RepL (HW s'.heap (fun x => (W x ∨ x = I) ∧ x ≠ I)) vs' outs.flatten → Q () s' := fun s' vs' m' C' keep' g' o' D' r' => by
    have up : ∀ a, W a → (W a ∨ a = I) ∧ a ≠ I := fun a ha => ⟨.inl ha, nW a ha⟩
    refine hQ s' vs' m' (C'.fewer up C.wl fun x sl e o => ?_) (fun b o h1 h2 e => keep' b o h1 h2 (nI b o e) (k₁.1 b o e)) (g'.trans k₁.2.1) (o'.trans k₁.2.2) D' (r'.mono fun b o x => ⟨x.1, fun q => x.2 (up b q)⟩)
    have nm := C.ec.names x sl e
    cases sl with
    | im d => cases o
    | li ds => exact nm.2.1
    | di D => obtain ⟨_, _, _, hw, _⟩ := nm; exact hw
  have loop : codeAny (model prog w) A (.compLoop (.ListComp elt (g₀ :: ⟨tg, ig, fg, 0⟩ :: rest) scope pos) 1 (.ref I) (.ref D) env) (fun r s' => match r with | .ok f => wpAny (model prog w) A (pure ()) Q E s' | .error e => cameBackBy (model prog w) A env E e s') s₁ := by
    refine comp_level L.hct L.hlen L.turn L.hgo hA C₁ (.inl hwD) ap (.inr rfl) apI hID X.walks X.start (fun b hb hbi hw => ?_) (fun i v d hp hd => X.rep i v d hp hd) X.alive X.go (k₁.1 _ _ hD) hsz fun s' vs' m' C' keep' g' o' D' r' => wpAny_pure (fin s' vs' m' C' keep' g' o' D' r')
    rcases hw with hw | hw
    · exact (X.live b hb).1 hw
    · exact hbi hw
  exact wpAny_bind (wpAny_runOwn (h := none) (start_one loop (X.walks.self 0 _ _ _ X.start loop)))
end
end Mine
end

section
open PySem PySem.W PyProof.Rows
namespace Mine
section
variable {prog : Program} {w : World} {G : Gd} {n : Nat} {sc : Scope} {ρ : Store}

theorem ev_fdiv {l r : Expr} {pos : Pos} {a b : Int} (hl : EvT prog w G n sc ρ l (.int a)) (hr : EvT prog w G n sc ρ r (.int b)) (hb : b ≠ 0) (hs : b.natAbs < 1073741824) : EvT prog w G n sc ρ (.BinOp l .FloorDiv r pos) (.int (a.fdiv b)) :=
  ev_ints hl hr fun A s t u Q E hA hn hQ => floordiv_int hb (hQ _ _ fun P => .int _ _) (.inl (PyProof.noPylong_small hs))
theorem ev_neg {e : Expr} {pos : Pos} {a : Int} (h : EvT prog w G n sc ρ e (.int a)) : EvT prog w G n sc ρ (.UnaryOp .USub e pos) (.int (-a)) :=
  fun A env W ad s Q E hA hE hQ => wpAny_UnaryOp (h A env W ad s _ E hA hE fun v s₁ k r => by
    obtain ⟨t, rfl⟩ := rep_int r
    exact neg_int (hQ _ _ (k.trans (Kp.tok ..)) (.int _ _)))
theorem ev_orS {e f : Expr} {pos : Pos} {x y : Str} (he : EvT prog w G n sc ρ e (.str x)) (hf : EvT prog w G n sc ρ f (.str y)) (hsz : x.length < 2 ^ 60) : EvT prog w G n sc ρ (.BoolOp .Or [e, f] pos) (.str (bif x.length == 0 then y else x)) :=
  fun A env W ad s Q E hA hE hQ => wpAny_Or2 (he A env W ad s _ E hA hE fun v s₁ k r => by
    obtain ⟨t, rfl⟩ := rep_str r
    refine PySem.P.truthy_str (by omega) ?_
    cases hx : x.length == 0 with
    | true =>
      have h0 : x.length = 0 := by simpa using hx
      have : (((x.length : Nat) : Int) != 0) = false := by rw [h0]; rfl
      rw [this]
      exact hf A env W ad _ _ E hA (hE.keeps (k.trans (Kp.tok s₁ _)).1) fun v s₂ k₂ r₂ => hQ _ _ ((k.trans (Kp.tok s₁ _)).trans k₂) (by rw [hx] at *; exact r₂)
    | false =>
      have h0 : x.length ≠ 0 := by simpa using hx
      have : (((x.length : Nat) : Int) != 0) = true := by simp; omega
      rw [this]
      exact hQ _ _ (k.trans (Kp.tok s₁ _)) (by rw [hx]; exact .str _ _))

theorem x1_append {x : Str} {p apos pos pos2 : Pos} {e : Expr} {ds : List PV} {d : PV} (hx : ρ.lookup x = some (.li ds)) (he : EvT prog w G n sc ρ e d) (hsz : ds.length ≤ sizeLine) (hd : (x == ("__debug__" : Str)) = false := by decide)
    (ns : NS e := by intro _ _; rfl) (hline : (apos.endLine == pos.line) = true := by rfl) (hbase : ∀ env, attributeBase (.Name x p) "append" env (eval (.Name x p) env) = eval (.Name x p) env := by intro _; rfl) (hs : ∀ env, env.scope.kind = .function → swapsWith (.Call (.Attribute (.Name x p) "append" apos) [e] [] pos) none pos2.line env = pure false := by intro _ _; rfl) :
    Ex1 prog w G n sc ρ (.Expr (.Call (.Attribute (.Name x p) "append" apos) [e] [] pos) pos2) (To ((x, .li (ds ++ [d])) :: ρ)) :=
  fun A env W Z ad s Q E hA F hQ => by
    have hki : env.scope.kind = .function := F.ec.scope ▸ F.ec.kind
    obtain ⟨N, hw, vs, m, ho, rs⟩ := F.ec.names x _ hx
    refine wpAny_Expr ?_ (by unfold interactive; rw [hki]; rfl) (hs env hki)
    refine Call_method1 (hbase env) (ns [] env) hline (wpAny_Name (load_name hki N ?_) hd)
    refine ⟨"list", "list.append", PySem.F.plainAttrs_list, PySem.F.slot_list_append, PySem.F.type_list_append, ⟨_, ho, rfl⟩, fun b e => by cases e; exact ⟨_, ho, rfl⟩, ?_⟩
    refine Calls.callWith_builtin rfl (Calls.evalArgs_plain (Calls.spliced_cons (he A env W ad s _ E hA F.ec fun b s₂ k₂ r₂ => Calls.spliced_nil ?_)))
    refine wpAny_list_append_plain (items := vs.toArray) ⟨m, k₂.1 _ _ ho⟩ (fun h' hp hsb => ?_) (by rw [List.size_toArray, rs.length]; exact hsz)
    obtain ⟨m', hp⟩ := hp
    have e1 : vs.toArray.push b = (vs ++ [b]).toArray := by simp
    rw [e1] at hp
    have F₂ := (F.keeps k₂.1).relist hx hsb hp ((rs.mono k₂.hw).append (.one r₂))
    refine hQ W ad _ .next .next { s₂ with heap := h' } ⟨rfl, rfl⟩ F₂ ⟨fun a h => .inl h, fun a o hz e => ?_, k₂.2.1, k₂.2.2, fun a h => h⟩ .next
    exact (hsb.2 a fun q => F.zo x _ hx rfl (q ▸ hz (q ▸ hw))).trans (k₂.1 a o e)

theorem setL {P : Addr → Obj → Prop} {vs : List Value} {ds : List PV} {v : Value} {d : PV} (rs : RepL P vs ds) (r : Rep P v d) : ∀ (k : Nat), RepL P (vs.set k v) (ds.set k d) := by
  induction vs generalizing ds with
  | nil => intro k; cases rs; cases k <;> exact .nil
  | cons u us ih =>
    intro k
    cases rs with
    | cons a b =>
      cases k with
      | zero => exact .cons r b
      | succ k => exact .cons a (ih b k)
theorem x1_setL {x : Str} {p spos pos : Pos} {e i : Expr} {ds : List PV} {k : Int} {d : PV} (hx : ρ.lookup x = some (.li ds)) (he : EvT prog w G n sc ρ e d) (hi : EvT prog w G n sc ρ i (.int k)) (h0 : 0 ≤ k) (h1 : k.toNat < ds.length) (hk : k < 2 ^ 63 := by omega) (hd : (x == ("__debug__" : Str)) = false := by decide)
    (hs : ∀ env, swapsWith e (some (.Subscript (.Name x p) i spos)) pos.line env = pure false := by intro _; rfl) :
    Ex1 prog w G n sc ρ (.Assign [.Subscript (.Name x p) i spos] e pos) (To ((x, .li (ds.set k.toNat d)) :: ρ)) :=
  fun A env W Z ad s Q E hA F hQ => by
    have hki : env.scope.kind = .function := F.ec.scope ▸ F.ec.kind
    obtain ⟨N, hw, vs, m, ho, rs⟩ := F.ec.names x _ hx
    refine wpAny_Assign_Subscript (he A env W ad s _ E hA F.ec fun v s₁ k₁ r₁ => ?_) (hs env)
    refine wpAny_Name (load_name hki (N.keeps k₁.1) ?_) hd
    refine hi A env W ad s₁ _ E hA (F.ec.keeps k₁.1) fun iv s₂ k₂ r₂ => ?_
    obtain ⟨t, rfl⟩ := rep_int r₂
    have ho₂ := k₂.1 _ _ (k₁.1 _ _ ho)
    have hlen := rs.length
    refine ki_setAt (items := vs.toArray) (n := m) ho₂ h0 hk (by rw [List.size_toArray, hlen]; omega) ?_
    have hp : (s₂.heap.update (ad x) (Obj.mapSeq (·.setIfInBounds k.toNat v))).get? (ad x) = some (listOf (List.toArray (vs.set k.toNat v)) m) := by
      have q := PySem.IsL.update (h := s₂.heap) (l := ad x) (items := vs.toArray) (n := m) ho₂ (·.setIfInBounds k.toNat v)
      have e1 : vs.toArray.setIfInBounds k.toNat v = (vs.set k.toNat v).toArray := by simp
      simp only [Array.size_setIfInBounds, beq_self_eq_true, if_true] at q
      rw [e1] at q
      exact q
    have F₂ := ((F.keeps k₁.1).keeps k₂.1).relist hx (Heap.SameBut.update ..) hp (ds' := ds.set k.toNat d) (setL ((rs.mono k₁.hw).mono k₂.hw) (r₁.mono k₂.hw) _)
    refine hQ W ad _ .next .next { s₂ with heap := _ } ⟨rfl, rfl⟩ F₂ ⟨fun a h => .inl h, fun a o hz e => ?_, k₂.2.1.trans k₁.2.1, k₂.2.2.trans k₁.2.2, fun a h => h⟩ .next
    have hsb : Heap.SameBut (ad x) s₂.heap (s₂.heap.update (ad x) (Obj.mapSeq (·.setIfInBounds k.toNat v))) := Heap.SameBut.update ..
    exact (hsb.2 a fun q => F.zo x _ hx rfl (q ▸ hz (q ▸ hw))).trans (k₂.1 a o (k₁.1 a o e))
end

theorem pickL {P : Addr → Obj → Prop} {vs : List Value} {ds : List PV} (rs : RepL P vs ds) : ∀ (is : List Nat), RepL P (is.filterMap (vs.toArray[·]?)) (is.filterMap (ds[·]?))
  | [] => .nil
  | i :: is => by
    have ih := pickL rs is
    rw [List.filterMap_cons, List.filterMap_cons]
    cases hi : ds[i]? with
    | none =>
      have : vs.toArray[i]? = none := by
        rw [List.getElem?_toArray]
        rw [List.getElem?_eq_none_iff] at hi ⊢
        rw [rs.length]; exact hi
      rw [this]; exact ih
    | some d =>
      obtain ⟨v, hv, r⟩ := rs.get hi
      have : vs.toArray[i]? = some v := by rw [List.getElem?_toArray]; exact hv
      rw [this]; exact .cons r ih

section
variable {prog : Program} {w : World} {G : Gd} {n : Nat} {sc : Scope} {ρ : Store}
noncomputable def pickD (ds : List PV) (lo hi st : Option Int) : List PV := (sliceRange (sliceBounds lo hi st ds.length).1 (sliceBounds lo hi st ds.length).2.1 (sliceBounds lo hi st ds.length).2.2).filterMap (ds[·]?)
noncomputable def EvP (prog : Program) (w : World) (G : Gd) (n : Nat) (sc : Scope) (ρ : Store) (e : Option Expr) (k : Option Int) : Prop :=
  ∀ (A : Around) (env : Env) (W : Addr → Prop) (ad : Str → Addr) (s : Shared) (Q : Value → Shared → Prop) (E : Value → Shared → Prop), AOk n A → EC G sc env W ad ρ s.heap →
    (∀ v s', Kp s s' → IsPart v k → Q v s') → wpAny (model prog w) A (evalPart e env) Q E s
theorem ep_none : EvP prog w G n sc ρ none none := fun A env W ad s Q E hA hE hQ => evalPart_none_step (hQ _ _ (Kp.refl _) .none)
theorem ep_int {e : Expr} {k : Int} (h : EvT prog w G n sc ρ e (.int k)) : EvP prog w G n sc ρ (some e) (some k) := fun A env W ad s Q E hA hE hQ => evalPart_some_step (h A env W ad s _ E hA hE fun v s₁ k₁ r => by
  obtain ⟨t, rfl⟩ := rep_int r
  exact hQ _ _ k₁ (.int _ _))
theorem ev_lslice {v : Expr} {lo hi st : Option Expr} {p pos : Pos} {ds : List PV} {a b c : Option Int} (hv : EvL prog w G n sc ρ v ds) (hl : EvP prog w G n sc ρ lo a) (hu : EvP prog w G n sc ρ hi b) (hst : EvP prog w G n sc ρ st c) (hc : c ≠ some 0) (hsz : ds.length ≤ sizeLine)
    (ht : ∀ o r, letTemporaryGo v o r = pure () := by intro _ _; rfl) : EvF prog w G n sc ρ (.Subscript v (.Slice lo hi st p) pos) (pickD ds a b c) := by
  intro A env W ad s Q E hA hE hQ
  rw [eval_Subscript]
  refine wpAny_bind (hv A env W ad s _ E hA hE fun o s₁ k₁ r₁ => ?_)
  obtain ⟨l, vs, m, rfl, ho, rs⟩ := r₁
  refine wpAny_bind (wpAny_holding (wpAny_Slice (hl A env W ad s₁ _ E hA (hE.keeps k₁.1) fun va s₂ k₂ pa => hu A env W ad s₂ _ E hA ((hE.keeps k₁.1).keeps k₂.1) fun vb s₃ k₃ pb => hst A env W ad s₃ _ E hA (((hE.keeps k₁.1).keeps k₂.1).keeps k₃.1) fun vc s₄ k₄ pc => wpAny_bind (wpAny_standAt ?_))))
  have k₅ := (((k₁.trans k₂).trans k₃).trans k₄).trans (Kp.push s₄ { cls := .type "slice", data := .fields #[va, vb, vc] } s₄.toks)
  have ho₅ : (s₄.heap.push { cls := .type "slice", data := .fields #[va, vb, vc] }).get? l = some (listOf vs.toArray m) := Heap.get?_push_of_some _ (k₄.1 _ _ (k₃.1 _ _ (k₂.1 _ _ ho)))
  have hT : Shared.TypeIs { s₄ with heap := s₄.heap.push { cls := .type "slice", data := .fields #[va, vb, vc] } } (.ref l) "list" := ⟨_, ho₅, rfl⟩
  have hlen := rs.length
  have get : wpAny (model prog w) A (getItem (.ref l) (.ref s₄.heap.objs.size)) Q E { s₄ with heap := s₄.heap.push { cls := .type "slice", data := .fields #[va, vb, vc] } } := by
    refine wpAny_getItem_list_slice (items := vs.toArray) ⟨_, ho₅, rfl, m, rfl⟩ ⟨_, Heap.get?_push_size _ rfl, rfl, rfl⟩ pa pb pc hc ?_ (by rw [List.size_toArray, hlen]; exact hsz)
    refine hQ _ _ (k₅.trans (Kp.push _ _ _)) ⟨_, (slicePick vs.toArray a b c).toList, 0, rfl, fresh_old k₅, ?_, ?_⟩
    · rw [Array.toArray_toList]; exact Heap.get?_push_size _ rfl
    · have e : (slicePick vs.toArray a b c).toList = (sliceRange (sliceBounds a b c ds.length).1 (sliceBounds a b c ds.length).2.1 (sliceBounds a b c ds.length).2.2).filterMap (vs.toArray[·]?) := by
        unfold slicePick
        rw [List.size_toArray, hlen]
      rw [e]
      exact push_new (s := { s₄ with heap := s₄.heap.push { cls := .type "slice", data := .fields #[va, vb, vc] } }) (t := 0) (pickL (((((rs.mono k₂.hw).mono k₃.hw).mono k₄.hw).mono (Kp.push s₄ _ s₄.toks).hw)) _)
  refine wpAny_bind ?_
  rw [getitemInPython_of_ne hT.not_modules]
  refine wpAny_bind (wpAny_specialOf hT list_getitem_lookup (wpAny_pure (wpAny_bind ?_)))
  have fin : ∀ l', wpAny (model prog w) A (operate l' (getItem (.ref l) (.ref s₄.heap.objs.size))) (fun r s₃ => wpAny (model prog w) A (letTemporaryGo v (.ref l) r >>= fun _ => pure r) Q E s₃) E { s₄ with heap := s₄.heap.push { cls := .type "slice", data := .fields #[va, vb, vc] } } := fun l' =>
    wpAny_operating (wpAny_mono get (fun r s₃ h₃ => wpAny_bind (wpAny_of_eq (ht _ r) (wpAny_pure h₃))) fun _ _ x => x)
  cases st with
  | none => exact fin _
  | some _ => exact fin _
end
end Mine
end

section
open PySem PySem.W PyProof.Rows
namespace Mine

noncomputable def lawNames : List Str := ["OPTIMIZED", "NEWLOCALS", "VARARGS", "VARKEYWORDS", "NESTED", "GENERATOR", "NOFREE", "COROUTINE", "ITERABLE_COROUTINE", "ASYNC_GENERATOR", "0x400", "0x800"]
theorem repS_blank (k : Nat) : (repS " " k) = ⟨(List.replicate k 32).toArray⟩ := by
  have aux : ∀ (k : Nat) (a : List Nat), (List.replicate k (#[32] : Array Nat)).foldl (· ++ ·) a.toArray = (a ++ List.replicate k 32).toArray := by
    intro k
    induction k with
    | zero => intro a; simp
    | succ k ih =>
      intro a
      rw [List.replicate_succ, List.foldl_cons]
      have : a.toArray ++ #[32] = (a ++ [32]).toArray := by simp
      rw [this, ih, List.append_assoc, List.replicate_succ]
      rfl
  have := aux k []
  simp only [List.nil_append] at this
  exact congrArg Str.mk this
theorem pad_cat (L R a b : Nat) : (repS " " a ++ pad L R) ++ repS " " b = pad (L + a) (R + b) := by
  rw [repS_blank, repS_blank]
  refine PySem.Str.ext' ?_
  show ((List.replicate a 32).toArray ++ (List.replicate L 32 ++ 9 :: List.replicate R 32).toArray) ++ (List.replicate b 32).toArray = (List.replicate (L + a) 32 ++ 9 :: List.replicate (R + b) 32).toArray
  have e1 : List.replicate (L + a) 32 = List.replicate a 32 ++ List.replicate L 32 := by rw [List.replicate_append_replicate, Nat.add_comm]
  have e2 : List.replicate (R + b) 32 = List.replicate R 32 ++ List.replicate b 32 := by rw [List.replicate_append_replicate]
  rw [List.append_toArray, List.append_toArray]
  congr 1
  show (List.replicate a 32 ++ (List.replicate L 32 ++ 9 :: List.replicate R 32)) ++ List.replicate b 32 = _
  rw [e1, e2]
  simp only [List.append_assoc, List.cons_append]
section
variable {prog : Program} {w : World} {G : Gd} {n : Nat}
noncomputable def strsOf : List Expr → Option (List Str)
  | [] => some []
  | .Constant (.str x) _ _ :: es => (strsOf es).map (x :: ·)
  | _ => none
theorem ns_str {x : Str} {k : Nat} {p : Pos} : NS (.Constant (.str x) k p) := by intro _ _; rfl
theorem each_strs {sc : Scope} {ρ : Store} : ∀ {es : List Expr} {xs : List Str}, strsOf es = some xs → EvEach prog w G n sc ρ es (xs.map PV.str) := by
  intro es
  induction es with
  | nil => intro ds h; cases h; exact each_nil
  | cons e es ih =>
    intro ds h
    cases e <;> try (cases h; done)
    rename_i c k p
    cases c <;> try (cases h; done)
    rename_i x
    obtain ⟨ds', h1, rfl⟩ := Option.map_eq_some_iff.mp h
    exact each_cons ev_str (ih h1) ns_str
theorem name_eq : ∃ es a b c d, strsOf es = some lawNames ∧ bodyOf (stAt 9) = [.Return (some (.Subscript (.List es a) (.Name "place" b) c)) d] := ⟨_, _, _, _, _, rfl, rfl⟩
theorem name_body {k : Nat} {x : Str} (hk : k < 12) (hx : lawNames[k]? = some x) : Ex prog w G n (scopeOf (stAt 9)) [im "place" (.int k)] (bodyOf (stAt 9)) (fun _ fl => fl = .ret (.str x)) := by
  obtain ⟨es, a, b, c, d, hes, e⟩ := name_eq
  rw [e]
  have hl : (lawNames.map PV.str).length ≤ sizeLine := by rw [sizeLine_eq]; show (12 : Nat) ≤ _; decide
  generalize lawNames = xs at *
  have h2 : EvT prog w G n (scopeOf (stAt 9)) [im "place" (.int k)] (.Name "place" b) (.int k) := ev_name rfl
  have h3 : (xs.map PV.str)[(k : Int).toNat]? = some (.str x) := by rw [Int.toNat_natCast, List.getElem?_map, hx]; rfl
  exact ex_ret (ev_item (EvF.toL (ev_list (each_strs hes) hl)) h2 (Int.natCast_nonneg _) h3 (by omega))

theorem le_thou {m a : Nat} (h : m + a ≤ 100) : (a : Int) ≤ 1000 := by omega
theorem cat_room {a L R : Nat} (h : L + a ≤ 100) (hR : R ≤ 100) : a + (L + 1 + R) ≤ 1000 := by omega
theorem cat_room2 {a b L R : Nat} (h : L + a ≤ 100) (hR : R + b ≤ 100) : a + (L + 1 + R) + b ≤ 1000 := by omega
theorem two_k {k : Nat} (hk : k < 8) : (2 : Int) * (k : Int) ≤ 2 ^ 27 := by omega
theorem took_room {a b c d : Nat} (h : a - b = c) (ha : a ≤ 100) : c ≤ 100 := h ▸ Nat.le_trans (Nat.sub_le _ _) ha
theorem len_pos {a b : Nat} : (((a + 1 + b : Nat) : Int) > 1) ↔ 0 < a + b := by omega
theorem next_body {fs : Value} (hl : GVal G "len" (.builtin "len")) (hs : GVal G "_strip_padding" fs) (hc : Callable G fs) (hf : ∀ (L R : Nat) (a : Int), L ≤ 100 → R ≤ 100 → -1 ≤ a → Fn prog w G n fs [.str (pad L R), .int a] (.str (pad (L - took a L) (R - took (a - took a L) R))))
    {done first both taken : Int} {L R ahead behind k : Nat} (hL : L + ahead ≤ 100) (hR : R + behind ≤ 100) (ht : -1 ≤ taken) (hk : k < 8) {L' R' : Nat} (hL' : L + ahead - took taken (L + ahead) = L') (hR' : R + behind - took (taken - took taken (L + ahead)) (R + behind) = R') :
    Ex prog w G n (scopeOf (stAt 10)) [im "deed" (.tuple [.int ahead, .int behind, .int taken]), im "k" (.int k), im "row" (.tuple [.int done, .str (pad L R), .int first, .int both])] (bodyOf (stAt 10))
      (fun _ fl => fl = .ret (.tuple [.int (done + 2 ^ k), .str (pad L' R'), .int (bif decide (0 < L') then first + 2 ^ k else 0), .int (bif decide (0 < L' + R') then both + 2 ^ k else 0)])) := by
  have hsz : sizeLine ≥ 1000 := by rw [sizeLine_eq]; decide
  have hl1 : (repS " " ahead).length = ahead := by rw [repS_len]; exact Nat.mul_one ahead
  have hl2 : (repS " " behind).length = behind := by rw [repS_len]; exact Nat.mul_one behind
  refine ex_seq (x1_unpack (ev_name rfl) rfl) ?_
  refine ex_seq (x1_unpack (ev_name rfl) rfl) ?_
  refine ex_seq (x1_assign (d := .str (pad L' R')) (ev_callF rfl hs hc (each_cons (d := .str (pad (L + ahead) (R + behind))) ?_ (each_cons (ev_name rfl) each_nil)) ?_) rfl) ?_
  · refine ev_of (ev_cat (ev_cat (ev_rep (k := (ahead : Int)) ev_str (ev_name rfl) (Int.natCast_nonneg _) (by decide) (le_thou hL)) (ev_name rfl) ?_) (ev_rep (k := (behind : Int)) ev_str (ev_name rfl) (Int.natCast_nonneg _) (by decide) (le_thou hR)) ?_) ?_
    · rw [Int.toNat_natCast, hl1, pad_len]; exact Nat.le_trans (cat_room hL (Nat.le_trans (Nat.le_add_right _ _) hR)) hsz
    · rw [Int.toNat_natCast, Int.toNat_natCast, hl2, PySem.Str.length_append, hl1, pad_len]; exact Nat.le_trans (cat_room2 hL hR) hsz
    · rw [Int.toNat_natCast, Int.toNat_natCast, pad_cat]
  · have := hf (L + ahead) (R + behind) taken hL hR ht
    rw [hL', hR'] at this
    exact this
  have tow : ∀ (ρ : Store) (p1 p2 p3 : Pos) (sc : Scope), ρ.lookup ("k" : Str) = some (Slt.im (.int k)) → EvT prog w G n sc ρ (.BinOp (.Constant (.int 2) 0 p1) .Pow (.Name ("k" : Str) p2) p3) (.int (2 ^ k)) := fun ρ p1 p2 p3 sc h =>
    ev_of (ev_pow (b := (k : Int)) ev_int (ev_name h) (Int.natCast_nonneg _) (by rw [show (Builtin.Int.intBits 2 : Int) = 2 by decide +kernel]; exact two_k hk)) (by rw [Int.toNat_natCast])
  refine ex_seq (x1_assign (ev_ifT (b := decide (0 < L')) (d := .int (first + 2 ^ k)) (d' := .int 0) ?_ (fun _ => ev_add (ev_name rfl) (tow _ _ _ _ _ rfl)) fun _ => ev_int) rfl) ?_
  · refine eb_of (eb_eqs (ev_sign (c := if 0 < L' then 32 else 9) (ev_name rfl) ev_int (by decide) ?_) ev_str) ?_
    · rw [seqIndex_of (Int.le_refl 0) (by rw [pad_len]; exact Nat.lt_of_lt_of_le (Nat.zero_lt_succ L') (Nat.le_add_right _ _)), Option.bind_some]
      show (pad L' R').cps[0]? = _
      by_cases h : 0 < L'
      · rw [if_pos h]; exact pad_lt h
      · rw [if_neg h]; have : L' = 0 := Nat.eq_zero_of_not_pos h
        subst this; exact pad_tab 0 R'
    · by_cases h : 0 < L'
      · rw [if_pos h, decide_eq_true h]; exact blank_eq
      · rw [if_neg h, decide_eq_false h]; exact tab_ne
  refine ex_seq (x1_assign (ev_ifT (b := decide (0 < L' + R')) (d := .int (both + 2 ^ k)) (d' := .int 0) ?_ (fun _ => ev_add (ev_name rfl) (tow _ _ _ _ _ rfl)) fun _ => ev_int) rfl) ?_
  · refine eb_cmpi (ev_lenS rfl hl (ev_name rfl) (Nat.lt_of_le_of_lt (pad_room (hL' ▸ Nat.le_trans (Nat.sub_le _ _) hL) (hR' ▸ Nat.le_trans (Nat.sub_le _ _) hR)) (by decide))) ev_int ?_
    show some (decide _) = some _
    congr 1
    rw [pad_len]
    exact decide_eq_decide.mpr len_pos
  refine ex_ret (ev_tuple (each_cons (ev_add (ev_name rfl) (tow _ _ _ _ _ rfl)) (each_cons (ev_name rfl) (each_cons (ev_of (ev_name rfl) ?_) (each_cons (ev_of (ev_name rfl) ?_) each_nil)))) (by rw [sizeLine_eq]; show (4 : Nat) ≤ _; decide))
  · cases decide (0 < L') <;> rfl
  · cases decide (0 < L' + R') <;> rfl
end
end Mine
end

section
open PySem PySem.W PyProof.Rows
namespace Mine
section
variable {prog : Program} {w : World} {G : Gd} {n : Nat} {sc : Scope} {ρ : Store}
theorem flat_str {v : Value} {z : Str} (h : PyProof.V.Flat v (.str z)) : ∃ t, v = .str z t := PyProof.V.Flat.str_inv h

theorem ev_dget {x : Str} {p apos pos : Pos} {a : Addr} {e f : Expr} {i : Int} {y z : Str} {D : List (PyData × PyData)} (hx : sc.names.lookup x = some .globalImplicit) (hf : GVal G x (.ref a)) (hT : ∀ h, G.K.In h → IntTab prog w h a D)
    (he : EvT prog w G n sc ρ e (.int i)) (hfe : EvT prog w G n sc ρ f (.str y)) (hr : (PySem.Spec.lookup (.int i) D).getD (.str y) = .str z) (hd : (x == ("__debug__" : Str)) = false := by decide)
    (hbase : ∀ env, attributeBase (.Name x p) "get" env (eval (.Name x p) env) = eval (.Name x p) env := by intro _; rfl) (hs : ∀ env, starEach [e, f] env = [(false, eval e env), (false, eval f env)] := by intro _; rfl) (hline : (apos.endLine == pos.line) = true := by rfl) :
    EvT prog w G n sc ρ (.Call (.Attribute (.Name x p) "get" apos) [e, f] [] pos) (.str z) :=
  fun A env W ad s Q E hA hE hQ => Call_method2 (hbase env) (hs env) hline (ev_glob hx hf hd A env W ad s _ E hA hE fun v s₁ k₁ r₁ => by
    subst r₁
    have T₁ := hT _ (hE.keeps k₁.1).ground.gr.X
    obtain ⟨_, kvs, ⟨o, es, ep, ho, hc, _⟩, _⟩ := id T₁
    refine ⟨"dict", "dict.get", PySem.F.plainAttrs_dict, PySem.F.slot_dict_get, PySem.F.type_dict_get, ⟨o, ho, hc.1⟩, fun b q => by cases q; exact ⟨o, ho, hc.2.1⟩, ?_⟩
    refine Calls.callWith_builtin rfl (Calls.evalArgs_plain (Calls.spliced_cons (he A env W ad s₁ _ E hA (hE.keeps k₁.1) fun b s₂ k₂ r₂ => Calls.spliced_cons (hfe A env W ad s₂ _ E hA ((hE.keeps k₁.1).keeps k₂.1) fun c s₃ k₃ r₃ => Calls.spliced_nil ?_))))
    obtain ⟨t, rfl⟩ := rep_int r₂
    obtain ⟨u, rfl⟩ := rep_str r₃
    refine call_get2_intTab ((T₁.keep k₂.1).keep k₃.1) (PyProof.V.Flat.str y u) fun v hv => ?_
    rw [hr] at hv
    obtain ⟨t', rfl⟩ := flat_str hv
    exact hQ _ _ (((k₁.trans k₂).trans k₃).trans (Kp.tok ..)) (.str _ _))
theorem ex_last {st : Stmt} {K : Store → FlowP → Prop} (h : Ex1 prog w G n sc ρ st K) : Ex prog w G n sc ρ [st] K := ex_cons h (fun ρ' hk => ex_nil hk) fun _ _ _ hk => hk
theorem x1_ixor {x : Str} {p pos : Pos} {e : Expr} {a b c : Int} {ρ' : Store} (hx : ρ.lookup x = some (.im (.int a))) (he : EvT prog w G n sc ρ e (.int b)) (hc : Builtin.bitXor a b = c) (hb : bindN sc x (.int c) ρ = some ρ') : Ex1 prog w G n sc ρ (.AugAssign (.Name x p) .BitXor e pos) (To ρ') :=
  x1_aug hx he (hc ▸ hb) fun A s t u Q E h => ixor_int (h _ _ fun P => .int _ _)
end

noncomputable def flagD : List (PyData × PyData) := [(.int 1, .str "OPTIMIZED"), (.int 2, .str "NEWLOCALS"), (.int 4, .str "VARARGS"), (.int 8, .str "VARKEYWORDS"), (.int 16, .str "NESTED"), (.int 32, .str "GENERATOR"), (.int 64, .str "NOFREE"), (.int 128, .str "COROUTINE"), (.int 256, .str "ITERABLE_COROUTINE"), (.int 512, .str "ASYNC_GENERATOR")]
noncomputable def gAt (F i : Nat) : Nat := F / 2 ^ i * 2 ^ i
theorem gAt_fact : ∀ k < 16, ∀ s < 9, ∀ i < 12, (Builtin.bitAnd (gAt (k * 2 ^ s) i) (2 ^ i) != 0) = (k * 2 ^ s).testBit i ∧ ((k * 2 ^ s).testBit i = true → Builtin.bitXor (gAt (k * 2 ^ s) i) (2 ^ i) = gAt (k * 2 ^ s) (i + 1)) ∧ ((k * 2 ^ s).testBit i = false → gAt (k * 2 ^ s) (i + 1) = gAt (k * 2 ^ s) i) := by
  decide +kernel
theorem gAt_top : ∀ i < 32, (Builtin.bitAnd 0 (2 ^ i) != 0) = false := by decide +kernel
noncomputable def isStr (d : PyData) (x : Str) : Bool := match d with | .str z => z == x | _ => false
theorem isStr_eq {d : PyData} {x : Str} (h : isStr d x = true) : d = .str x := by
  cases d <;> try (cases h; done)
  rw [beq_iff_eq.mp h]
theorem flag_fact : ∀ i < 12, isStr ((PySem.Spec.lookup (.int (2 ^ i)) flagD).getD (.str (PySem.baseText "0x" 16 (2 ^ i)))) (lawNames.getD i "") = true ∧ (PySem.baseText "0x" 16 (2 ^ i)).length ≤ 5 := by decide +kernel
theorem hex_zero : PySem.baseText "0x" 16 0 = "0x0" := by decide +kernel

noncomputable def flagNames (F m : Nat) : List Str := ((List.range m).filter (F.testBit ·)).map (lawNames.getD · "")
theorem flagNames_succ (F m : Nat) : flagNames F (m + 1) = flagNames F m ++ (if F.testBit m then [lawNames.getD m ""] else []) := by
  unfold flagNames
  rw [List.range_succ, List.filter_append, List.map_append]
  congr 1
  by_cases h : F.testBit m = true
  · rw [if_pos h, List.filter_cons_of_pos h]; rfl
  · rw [if_neg h, List.filter_cons_of_neg h]; rfl
theorem flagNames_top {F m : Nat} (h : F < 2 ^ m) : ∀ (M : Nat), m ≤ M → flagNames F M = flagNames F m := by
  intro M hM
  induction M with
  | zero => have : m = 0 := by omega
            rw [this]
  | succ M ih =>
    by_cases hm : m = M + 1
    · rw [hm]
    · have hle : m ≤ M := by omega
      have : F.testBit M = false := Nat.testBit_lt_two_pow (Nat.lt_of_lt_of_le h (Nat.pow_le_pow_right (by decide) hle))
      rw [flagNames_succ, this, ih hle]
      simp
theorem gAt_zero {F m : Nat} (h : gAt F m = 0) : F < 2 ^ m := by
  unfold gAt at h
  have hp : 0 < 2 ^ m := Nat.two_pow_pos m
  rcases Nat.mul_eq_zero.mp h with h | h
  · exact (Nat.div_eq_zero_iff_lt hp).mp h
  · omega
noncomputable def prettyOf (F : Nat) : List Str := if F = 0 then ["0x0"] else flagNames F 12
theorem pretty_len : ∀ k < 16, ∀ s < 9, ((prettyOf (k * 2 ^ s)).map (·.length)).sum + (prettyOf (k * 2 ^ s)).length * (", " : Str).length ≤ 16777216 := by decide +kernel
section
variable {prog : Program} {w : World} {G : Gd} {n : Nat}
set_option maxHeartbeats 1000000 in
theorem pretty_body {a : Addr} (hr : GVal G "range" (.type "range")) (hh : GVal G "hex" (.builtin "hex")) (hC : GVal G "COMPILER_FLAG_NAMES" (.ref a)) (hT : ∀ h, G.K.In h → IntTab prog w h a flagD) {k s : Nat} (hk : k < 16) (hs : s < 9) :
    Ex prog w G n (scopeOf (stAt 5)) [im "flags" (.int (k * 2 ^ s : Nat))] (bodyOf (stAt 5)) (fun _ fl => fl = .ret (.str (Txt.join ", " (prettyOf (k * 2 ^ s))))) := by
  have fact := gAt_fact k hk s hs
  generalize hF : k * 2 ^ s = F at *
  have hlt : F < 4096 := by
    have : ∀ k < 16, ∀ s < 9, k * 2 ^ s < 4096 := by decide +kernel
    rw [← hF]; exact this k hk s hs
  have big : ∀ i, 12 ≤ i → gAt F i = 0 ∧ F.testBit i = false := fun i hi => by
    have h2 : F < 2 ^ i := Nat.lt_of_lt_of_le hlt (Nat.pow_le_pow_right (by decide) hi : 2 ^ 12 ≤ 2 ^ i)
    exact ⟨by unfold gAt; rw [Nat.div_eq_of_lt h2, Nat.zero_mul], Nat.testBit_lt_two_pow h2⟩
  have fact2 : ∀ i < 32, (Builtin.bitAnd (gAt F i) (2 ^ i) != 0) = F.testBit i ∧ (F.testBit i = true → Builtin.bitXor (gAt F i) (2 ^ i) = gAt F (i + 1)) ∧ (F.testBit i = false → gAt F (i + 1) = gAt F i) := fun i hi => by
    by_cases h : i < 12
    · exact fact i h
    · obtain ⟨e1, e2⟩ := big i (by omega)
      exact ⟨by rw [e1, e2]; exact gAt_top i hi, fun q => by (rw [e2] at q; cases q), fun _ => by rw [e1]; exact (big (i + 1) (by omega)).1⟩
  refine ex_seq (x1_assignF (ev_list each_nil) (.inl rfl)) ?_
  refine ex_consC (canon := [li "names" ((prettyOf F).map PV.str)]) ?_ ?_
  · refine x1_for (fun i ρ => Cov [im "flags" (.int (gAt F i)), li "names" ((flagNames F i).map PV.str)] ρ ∧ (F = 0 ∨ gAt F i ≠ 0)) (it_range1 rfl hr ev_int (by decide) (by decide)) ?_ ?_ ?_
    · have e : gAt F 0 = F := by unfold gAt; rw [Nat.pow_zero, Nat.div_one, Nat.mul_one]
      rw [e]
      exact ⟨⟨rfl, rfl, trivial⟩, by omega⟩
    · rintro i d ρ hd ⟨hcov, hF0⟩
      have hi : i < 32 := by
        have := (List.getElem?_eq_some_iff.mp hd).1
        rwa [intsFrom_len] at this
      change (intsFrom 0 32)[i]? = some d at hd
      rw [intsFrom_get _ _ _ hi] at hd
      cases hd
      obtain ⟨f1, f2, f3⟩ := fact2 i hi
      obtain ⟨ρ₁, hb, hl⟩ := bindT_cov (sc := scopeOf (stAt 5)) (t := .Name "i" default) (d := .int (0 + (i : Int))) hcov rfl
      refine ⟨ρ₁, hb, ?_⟩
      refine Ex.sub (ρ' := [im "i" (.int (0 + (i : Int))), im "flags" (.int (gAt F i)), li "names" ((flagNames F i).map PV.str)]) ?_ hl
      have sm := flagNames_succ F i
      refine ex_seq (x1_assign (d := .int (2 ^ i)) (ev_of (ev_shl (b := 0 + (i : Int)) ev_int (ev_name rfl) (by omega) (by omega) (by decide)) (by congr 1; rw [show (0 + (i : Int)).toNat = i by omega, Int.one_mul])) rfl) ?_
      refine ex_last (x1_if (c := F.testBit i) (eb_of (eb_int (ev_and (ev_name rfl) (ev_name rfl))) f1) (fun hc => ?_) (fun hc => ?_))
      · have hi12 : i < 12 := Nat.lt_of_not_le fun h => by rw [(big i h).2] at hc; cases hc
        obtain ⟨g1, g2⟩ := flag_fact i hi12
        rw [if_pos hc] at sm
        have e4 : (flagNames F i).map PV.str ++ [PV.str (lawNames.getD i "")] = (flagNames F (i + 1)).map PV.str := by rw [sm, List.map_append]; rfl
        have hlen : ((flagNames F i).map PV.str).length ≤ sizeLine := by
          rw [List.length_map]; unfold flagNames; rw [List.length_map]
          refine Nat.le_trans (List.length_filter_le _ _) ?_
          rw [List.length_range, sizeLine_eq]; omega
        refine ex_seq (x1_append rfl (ev_dget rfl hC hT (ev_name rfl) (ev_hex rfl hh (ev_name rfl) rfl (Nat.le_trans g2 (by rw [sizeLine_eq]; decide))) (isStr_eq g1)) hlen) ?_
        refine ex_seq (x1_ixor (c := (gAt F (i + 1) : Nat)) rfl (ev_name rfl) (f2 hc) rfl) ?_
        refine ex_last (x1_if (c := decide (gAt F (i + 1) = 0)) (eb_of (eb_not (eb_int (ev_name rfl))) ?_) (fun hz => ?_) (fun hz => ?_))
        · by_cases h : gAt F (i + 1) = 0
          · rw [h]; rfl
          · rw [decide_eq_false h, Bool.not_eq_false', bne_iff_ne]; omega
        · refine ex_cons x1_brk (fun ρ' q => nomatch q.2) (fun ρ' fl hn q => ?_)
          obtain ⟨rfl, rfl⟩ := q
          refine ⟨rfl, ?_, trivial⟩
          rw [e4]
          have hp : gAt F (i + 1) = 0 := of_decide_eq_true hz
          have hlt2 : F < 2 ^ (i + 1) := gAt_zero hp
          have hF1 : F ≠ 0 := fun h => by rw [h, Nat.zero_testBit] at hc; cases hc
          rw [prettyOf, if_neg hF1, ← flagNames_top hlt2 12 (by omega)]
          rfl
        · refine ex_nil ⟨⟨rfl, ?_, trivial⟩, .inr (of_decide_eq_false hz)⟩
          rw [e4]; rfl
      · rw [if_neg (by rw [hc]; decide), List.append_nil] at sm
        refine ex_nil ⟨⟨?_, ?_, trivial⟩, ?_⟩
        · rw [f3 hc]; rfl
        · rw [sm]; rfl
        · rw [f3 hc]; exact hF0
    · rintro ρ ⟨hcov, hF0⟩
      have hlen0 : (intsFrom 0 (Int.toNat 32)).length = 32 := intsFrom_len _ _
      rw [hlen0] at hcov hF0
      have e32 : gAt F 32 = 0 := (big 32 (by omega)).1
      have hz : F = 0 := hF0.resolve_right fun h => h e32
      have e33 : flagNames F 32 = [] := by rw [hz, flagNames_top (F := 0) (m := 0) (by decide) 32 (by decide)]; rfl
      rw [e32, e33] at hcov
      have ee : prettyOf F = (["0x0"] : List Str) := by unfold prettyOf; rw [if_pos hz]
      rw [ee]
      refine Ex.sub ?_ hcov.look
      refine ex_cons (x1_append (ds := []) rfl (ev_hex rfl hh (ev_name rfl) hex_zero (by rw [sizeLine_eq]; decide)) (Nat.zero_le _)) (fun ρ' hk => ex_nil ?_) (fun ρ' fl hn hk => absurd hk.2 hn)
      obtain ⟨rfl, _⟩ := hk
      exact ⟨rfl, rfl, trivial⟩
  · refine ex_ret (ev_join ev_str (ev_nameL rfl) ?_)
    have := pretty_len k hk s hs
    rw [hF] at this
    exact this
end
end Mine
end

section
open PySem PySem.W PyProof.Rows
namespace Mine

theorem bindL_local {kindOf : Str → Option NameKind} : ∀ {binds : List (Str × Value)} {m : Str → Option Value} (x : Str), (∀ p ∈ binds, kindOf p.1 = some .local) → bindL kindOf binds m x = (binds.reverse.lookup x).or (m x)
  | [], m, x, _ => by rfl
  | (y, v) :: r, m, x, h => by
    have ih := bindL_local (binds := r) (m := fun z => if z = y then some v else m z) x fun p hp => h p (.tail _ hp)
    rw [bindL, if_pos (h (y, v) (.head _)), ih, List.reverse_cons, List.lookup_append]
    cases r.reverse.lookup x with
    | some z => rfl
    | none =>
      simp only [Option.none_or, Option.or, List.lookup_cons, List.lookup_nil]
      by_cases hx : x = y
      · subst hx; simp
      · have : (x == y) = false := beq_eq_false_iff_ne.mpr hx
        simp [this, hx]

section
variable {prog : Program} {w : World} {G : Gd} {n : Nat} {sc : Scope} {ρ : Store}

theorem FS.enterC {s₀ s : Shared} {W : Addr → Prop} {env : Env} {m cm : Str → Option Value} (hg : GB G s₀.heap W) (hW : ∀ a, W a → ∃ o, s₀.heap.get? a = some o) (X : InCallC s₀ env.locals m env.cells cm s) (hL : s₀.heap.objs.size = env.locals)
    (hsc : env.scope = sc) (hk : sc.kind = .function) (hgl : env.globals = mainGlobals) (hb : env.builtins = builtinsNs) (hc : ∀ x ∈ sc.names, x.2 ≠ .free) (hce : ∀ x, sc.names.lookup x = some .cell → ∃ c, env.cells.lookup x = some c)
    (hnm : ∀ x sl, ρ.lookup x = some sl → ∃ v d, sl = .im d ∧ ((sc.names.lookup x = some .local ∧ m x = some v) ∨ (sc.names.lookup x = some .cell ∧ cm x = some v)) ∧ Rep (HW s₀.heap W) v d) :
    FS G sc env (fun a => (W a ∨ a = env.locals) ∨ ∃ x, env.cells.lookup x = some a) W (fun _ => 0) ρ s.heap := by
  have k := X.toInCall.keep
  have hn := X.toInCall.ns
  have fresh : ∀ a, s₀.heap.objs.size ≤ a → s₀.heap.get? a = none := fun a ha => Heap.get?_none_of_le ha
  have above : ∀ x c, env.cells.lookup x = some c → env.locals < c := fun x c e => X.above x c (PySem.mem_of_lookup e)
  have kw : ∀ b o, HW s₀.heap W b o → HW s.heap (fun a => (W a ∨ a = env.locals) ∨ ∃ x, env.cells.lookup x = some a) b o := fun b o x => ⟨k b o x.1, fun q => by
    have hx := x.1
    rcases q with (q | q) | ⟨y, q⟩
    · exact x.2 q
    · rw [q, fresh _ (Nat.le_of_eq hL)] at hx; cases hx
    · rw [fresh b (hL ▸ Nat.le_of_lt (above y b q))] at hx; cases hx⟩
  have hown : ∀ x sl, ρ.lookup x = some sl → sl.own = true → False := fun x sl e o => by
    obtain ⟨v, d, rfl, _⟩ := hnm x sl e
    cases o
  have nofree : ∀ x : Str, env.kindOf x ≠ some .free := fun x e => by
    rw [lookup_kind hsc] at e
    exact hc _ (lookup_mem e) rfl
  have nW : ∀ a, s₀.heap.objs.size ≤ a → ¬ W a := fun a ha hw => by
    obtain ⟨o, q⟩ := hW a hw
    rw [fresh a ha] at q; cases q
  refine ⟨⟨hsc, hk, hgl, hb, hg.mono kw, fun a ha => ?_, ⟨m, hn⟩, fun x sl e => ?_⟩, .inl (.inr rfl), fun x c p q => ⟨.inr ⟨x, q⟩, fun e => ?_, _, X.cell x c q⟩, fun x y c p q e e' => PySem.name_of_addr X.apart (PySem.mem_of_lookup e) (PySem.mem_of_lookup e'), nofree, fun x p => hce x (lookup_kind hsc x ▸ p),
    fun x sl e o => (hown x sl e o).elim, fun x sl e o => (hown x sl e o).elim, fun x sl y sl' e o => (hown x sl e o).elim, fun a h => .inl (.inl h), nW _ (Nat.le_of_eq hL), fun y c p q => nW _ (hL ▸ Nat.le_of_lt (above y c q)), fun x sl e o => (hown x sl e o).elim⟩
  · rcases ha with (ha | rfl) | ⟨x, q⟩
    · obtain ⟨o, q⟩ := hW a ha; exact ⟨o, k _ _ q⟩
    · obtain ⟨o, _, _, q, _⟩ := hn; exact ⟨o, q⟩
    · obtain ⟨o, ho, _⟩ := X.cell x a q; exact ⟨o, ho⟩
  · obtain ⟨v, d, rfl, hl, r⟩ := hnm x sl e
    refine ⟨v, ?_, r.mono kw⟩
    rcases hl with ⟨h1, h2⟩ | ⟨h1, h2⟩
    · exact .inl ⟨by rw [lookup_kind hsc]; exact h1, m, hn, h2⟩
    · obtain ⟨c, hc'⟩ := hce x h1
      exact .inr ⟨.inl (by rw [lookup_kind hsc]; exact h1), c, hc', h2 ▸ X.cell x c hc'⟩
  · have := above x c q
    rw [e] at this; exact absurd this (Nat.lt_irrefl _)

theorem lookup_mem2 {x : Str} {v : Value} {l : List (Str × Value)} (h : l.lookup x = some v) : (x, v) ∈ l := lookup_mem h
theorem fn_ofC {f : Addr} {name : Str} {params : Arguments} {body : List Stmt} {names : List Str} {ds : List PV} {d : PV} (D : DefAt G f name params body sc) (hlen : names.length = ds.length)
    (hb : ∀ vs, vs.length = names.length → bindArgs (fnOf name D.qual params body sc D.dV D.kV D.doc D.pm D.an D.cdv D.ct) ⟨vs, []⟩ = pure (names.zip vs))
    (hloc : ∀ x ∈ names, sc.names.lookup x = some .local) (hc : ∀ x ∈ sc.names, x.2 ≠ .free) (hbody : Ex prog w G n sc (argsOf names ds).reverse body (fun _ fl => fl = .ret d))
    (hk : sc.kind = .function := by rfl) (hco : sc.isCoroutine = false := by rfl) (hgen : sc.isGenerator = false := by rfl) : Fn prog w G (n + 1) (.ref f) ds d := by
  intro A W vs s Q E hA hG hW rs hQ
  have g := hG.gr
  have hvs : vs.length = names.length := by rw [rs.length, hlen]
  refine wpAny_call (codeAny_call_cells (fd := fnOf name D.qual params body sc D.dV D.kV D.doc D.pm D.an D.cdv D.ct) (binds := names.zip vs) (by have := hA.2.1; omega) (g.X _ _ D.look) rfl g.T.nolimit (codeRec_of g.X D.code) rfl (hb vs hvs) rfl
    (fun x hx => .inl (hloc x.1 (List.of_mem_zip hx).1)) (fun s₁ X => ?_) hco hgen hk)
  have F : FS G sc (callEnvC (fnOf name D.qual params body sc D.dV D.kV D.doc D.pm D.an D.cdv D.ct) s.heap.objs.size f) _ W (fun _ => 0) (argsOf names ds).reverse s₁.heap :=
    FS.enterC hG hW X rfl rfl hk rfl rfl hc (fun x e => by
      have := cellsFrom_some (x := x) sc.names (s.heap.objs.size + 1) [] (.inl e)
      exact Option.isSome_iff_exists.mp this) fun x sl e => by
      obtain ⟨v, d, rfl, h1, h2⟩ := (Al.zip rs).reverse.look e
      have hx : x ∈ names := (List.of_mem_zip (List.mem_reverse.mp (lookup_mem2 h1))).1
      refine ⟨v, d, rfl, .inl ⟨hloc x hx, ?_⟩, h2⟩
      rw [bindL_local x fun p hp => by
        show sc.names.lookup p.1 = _
        exact hloc p.1 (List.of_mem_zip hp).1, h1]
      rfl
  have hL : (callEnvC (fnOf name D.qual params body sc D.dV D.kV D.doc D.pm D.an D.cdv D.ct) s.heap.objs.size f).locals = s.heap.objs.size := rfl
  refine hbody _ _ _ W (fun _ => 0) _ _ _ ⟨hA.1, by have := hA.2.1; show A.depth + 1 + n < _; omega, by have := hA.2.2; show A.units + 3 + 3 * n + 8 < _; omega⟩ F fun W' ad' ρ' fl f' s' hK F' o r => ?_
  subst hK
  obtain ⟨h₁, tk, rfl, hk₁⟩ := X.done
  cases r with
  | ret r =>
    refine hQ _ s' ⟨fun b ob e => o.keep b ob (fun hw => ?_) (hk₁ b ob e), o.gens, o.os⟩ (r.mono fun b ob x => ⟨x.1, fun hw => x.2 (o.up b (.inl (.inl hw)))⟩)
    have hlt := Heap.lt_size e
    rcases hw with (hw | hw) | ⟨y, hw⟩
    · exact hw
    · rw [hw, hL] at hlt; exact absurd hlt (Nat.lt_irrefl _)
    · have := X.above y b (PySem.mem_of_lookup hw)
      rw [hL] at this; exact absurd (Nat.lt_trans hlt this) (Nat.lt_irrefl _)
end
end Mine
end

section
open PySem PySem.W PyProof.Rows
namespace Mine

structure ApF (env : Env) (ad : Str → Addr) (ρ : Store) (Z : Addr → Prop) (a : Addr) : Prop where
  l : a ≠ env.locals
  c : ∀ y c, env.kindOf y = some .cell → env.cells.lookup y = some c → a ≠ c
  o : ∀ y sl, ρ.lookup y = some sl → sl.own = true → a ≠ ad y
  z : ¬ Z a
theorem FS.fresh {G : Gd} {sc : Scope} {env : Env} {W Z : Addr → Prop} {ad : Str → Addr} {ρ : Store} {h : Heap} (F : FS G sc env W Z ad ρ h) {a : Addr} (ha : h.get? a = none) : ApF env ad ρ Z a := by
  have ne : ∀ b o, h.get? b = some o → a ≠ b := fun b o e q => by rw [← q, ha] at e; cases e
  refine ⟨?_, fun y c p q => ?_, fun y sl e o => ?_, fun hz => ?_⟩
  · obtain ⟨o, ho⟩ := F.ec.live _ F.wl; exact ne _ _ ho
  · obtain ⟨_, _, v, o, ho, _⟩ := F.cl y c p q; exact ne _ _ ho
  · have nn := F.ec.names y sl e
    cases sl with
    | im d => cases o
    | li ds => obtain ⟨_, _, vs, m, ho, _⟩ := nn; exact ne _ _ ho
    | di D => obtain ⟨_, _, vs, m, ho, _⟩ := nn; exact ne _ _ ho
  · obtain ⟨o, ho⟩ := F.ec.live _ (F.zw _ hz); exact ne _ _ ho rfl
theorem ApF.im {env : Env} {ad : Str → Addr} {ρ : Store} {Z : Addr → Prop} {a : Addr} (h : ApF env ad ρ Z a) {x : Str} {d : PV} : ApF env ad ((x, .im d) :: ρ) Z a := ⟨h.l, h.c, fun y sl e o => by
  rw [List.lookup_cons] at e
  cases hy : y == x with
  | true => rw [hy] at e; cases e; cases o
  | false => rw [hy] at e; exact h.o y sl e o, h.z⟩
theorem ApF.own {env : Env} {ad : Str → Addr} {ρ : Store} {Z : Addr → Prop} {a b : Addr} (h : ApF env ad ρ Z a) {x : Str} {sl : Slt} (hab : a ≠ b) : ApF env (updA ad x b) ((x, sl) :: ρ) Z a := ⟨h.l, h.c, fun y sl' e o => by
  rw [List.lookup_cons] at e
  by_cases hy : y = x
  · subst hy; rw [updA_self]; exact hab
  · have : (y == x) = false := beq_eq_false_iff_ne.mpr hy
    rw [this] at e; rw [updA_ne hy]; exact h.o y sl' e o, h.z⟩

section
variable {prog : Program} {w : World} {G : Gd} {n : Nat} {sc : Scope} {ρ : Store}
theorem FS.growS {env : Env} {W Z S : Addr → Prop} {ad : Str → Addr} {h h' : Heap} (F : FS G sc env W Z ad ρ h) (k : ∀ b o, h.get? b = some o → h'.get? b = some o) (ha : ∀ a, S a → h.get? a = none) (hb : ∀ a, S a → ∃ o, h'.get? a = some o) :
    FS G sc env (fun x => W x ∨ S x) Z ad ρ h' := by
  have kw : ∀ b o, HW h W b o → HW h' (fun x => W x ∨ S x) b o := fun b o x => ⟨k b o x.1, fun q => q.elim x.2 fun e => by have := ha b e; rw [x.1] at this; cases this⟩
  refine ⟨⟨F.ec.scope, F.ec.kind, F.ec.glob, F.ec.blt, F.ec.ground.mono kw, fun x hx => ?_, ?_, fun x sl e => (F.ec.names x sl e).turn kw (fun v n => n.keeps k) fun _ => ⟨rfl, .inl, fun o => k _ o⟩⟩,
    .inl F.wl, fun x c p q => let ⟨p, q, v, i⟩ := F.cl x c p q; ⟨.inl p, q, v, i.keeps k⟩, F.ci, F.nf, F.ce, F.ol, F.oc, F.oo, fun a h => .inl (F.zw a h), F.zl, F.zc, F.zo⟩
  · rcases hx with hx | hx
    · obtain ⟨o, q⟩ := F.ec.live x hx; exact ⟨o, k _ _ q⟩
    · exact hb x hx
  · obtain ⟨m, n⟩ := F.ec.ns; exact ⟨m, n.keeps k⟩

theorem FS.growSZ {env : Env} {W Z S : Addr → Prop} {ad : Str → Addr} {h h' : Heap} (F : FS G sc env W Z ad ρ h) (k : ∀ b o, h.get? b = some o → h'.get? b = some o) (ha : ∀ a, S a → h.get? a = none) (hb : ∀ a, S a → ∃ o, h'.get? a = some o) :
    FS G sc env (fun x => W x ∨ S x) (fun x => Z x ∨ S x) ad ρ h' := by
  have F' := F.growS k ha hb
  refine ⟨F'.ec, F'.wl, F'.cl, F'.ci, F'.nf, F'.ce, F'.ol, F'.oc, F'.oo, fun x hx => hx.elim (fun z => .inl (F.zw x z)) .inr, fun hx => hx.elim F.zl fun q => (F.fresh (ha _ q)).l rfl, fun y c p q hx => hx.elim (F.zc y c p q) fun e => (F.fresh (ha _ e)).c y c p q rfl, fun x sl e o hx => hx.elim (F.zo x sl e o) fun q => (F.fresh (ha _ q)).o x sl e o rfl⟩

theorem store_own {A : Around} {env : Env} {W Z : Addr → Prop} {ad : Str → Addr} {s : Shared} {E : Value → Shared → Prop} {x : Str} {v : Value} {a : Addr} {sl : Slt} {Q : Unit → Shared → Prop} (F : FS G sc env W Z ad ρ s.heap) (hwa : W a) (hap : ApF env ad ρ Z a)
    (hk : sc.names.lookup x = some .local ∨ sc.names.lookup x = some .cell) (hown : sl.own = true)
    (hsl : ∀ h', (∀ b o, HW s.heap W b o → HW h' W b o) → NameIs env h' x v → (∀ o, s.heap.get? a = some o → h'.get? a = some o) → SlotIs env h' W (updA ad x a) x sl)
    (hQ : ∀ h' tk, FS G sc env W Z (updA ad x a) ((x, sl) :: ρ) h' → Off W Z s W { s with heap := h', toks := tk } → Q () { s with heap := h', toks := tk }) : wpAny (model prog w) A (storeName env x v) Q E s :=
  store_any (sl := sl) (ad' := updA ad x a) F (by rw [lookup_kind F.ec.scope]; exact hk) (fun y hy => updA_ne hy) (fun _ => by rw [updA_self]; exact ⟨hwa, hap.l, hap.c, fun y sl' e o _ => hap.o y sl' e o, hap.z⟩)
    (fun h' kw hn hk' => hsl h' kw hn fun o q => by have := hk' hown; rw [updA_self] at this; exact this o q) hQ

theorem FS.sameZ {env : Env} {W Z Z' : Addr → Prop} {ad : Str → Addr} {h : Heap} (F : FS G sc env W Z ad ρ h) (k : ∀ a, Z' a → Z a) : FS G sc env W Z' ad ρ h := F.zsub k

theorem repL_int {P : Addr → Obj → Prop} {vs : List Value} {k : Int} (r : RepL P vs [.int k]) : ∀ P', RepL P' vs [.int k] := fun P' => by
  cases r with
  | cons a b =>
    cases b
    obtain ⟨t, rfl⟩ := rep_int a
    exact .cons (.int _ _) .nil

theorem x1_four {x1 x2 x3 x4 : Str} {p1 p2 p3 p4 tp vp pos : Pos} {e1 e2 e3 e4 : Expr} {k1 k2 k3 k4 : Int} {k k' : Nat} {ρ₁ ρ₂ : Store}
    (h1 : EvF prog w G n sc ρ e1 [.int k1]) (h2 : EvF prog w G n sc ρ e2 [.int k2]) (h3 : EvF prog w G n sc ρ e3 [.int k3]) (h4 : EvF prog w G n sc ρ e4 [.int k4])
    (b1 : bindN sc x1 (.list [.int k1]) ρ = some ρ₁) (b2 : bindN sc x2 (.list [.int k2]) ρ₁ = some ρ₂) (c3 : sc.names.lookup x3 = some .local ∨ sc.names.lookup x3 = some .cell) (c4 : sc.names.lookup x4 = some .local ∨ sc.names.lookup x4 = some .cell)
    (n1 : NS e1 := by intro _ _; rfl) (n2 : NS e2 := by intro _ _; rfl) (n3 : NS e3 := by intro _ _; rfl) (n4 : NS e4 := by intro _ _; rfl)
    (hs : ∀ env, swapsWithSole [.Tuple [.Name x1 p1, .Name x2 p2, .Name x3 p3, .Name x4 p4] k tp] (.Tuple [e1, e2, e3, e4] k' vp) pos.line env = pure false := by intro _; rfl)
    (hw : ∀ env, env.scope = sc → swappedStores [.Tuple [.Name x1 p1, .Name x2 p2, .Name x3 p3, .Name x4 p4] k tp] (.Tuple [e1, e2, e3, e4] k' vp) env = pure none := by intro _ _; rfl) :
    Ex1 prog w G n sc ρ (.Assign [.Tuple [.Name x1 p1, .Name x2 p2, .Name x3 p3, .Name x4 p4] k tp] (.Tuple [e1, e2, e3, e4] k' vp) pos) (To ((x4, .li [.int k4]) :: (x3, .li [.int k3]) :: ρ₂)) := by
  intro A env W Z ad s Q E hA F hQ
  refine Assign_Tuple (wpAny_Tuple (wpAny_items_cons (h1 A env W ad s _ E hA F.ec fun v₁ s₁ j₁ r₁ => wpAny_items_cons (h2 A env W ad s₁ _ E hA (F.ec.keeps j₁.1) fun v₂ s₂ j₂ r₂ => wpAny_items_cons (h3 A env W ad s₂ _ E hA ((F.ec.keeps j₁.1).keeps j₂.1) fun v₃ s₃ j₃ r₃ => wpAny_items_cons (h4 A env W ad s₃ _ E hA (((F.ec.keeps j₁.1).keeps j₂.1).keeps j₃.1) fun v₄ s₄ j₄ r₄ => wpAny_items_nil ⟨by rw [sizeLine_eq]; show (4 : Nat) ≤ _; decide, ?_⟩) (n4 _ _)) (n3 _ _)) (n2 _ _)) (n1 _ _))) (hs env) (hw env F.ec.scope)
  obtain ⟨a₁, vs₁, m₁, rfl, new₁, o₁, q₁⟩ := r₁
  obtain ⟨a₂, vs₂, m₂, rfl, new₂, o₂, q₂⟩ := r₂
  obtain ⟨a₃, vs₃, m₃, rfl, new₃, o₃, q₃⟩ := r₃
  obtain ⟨a₄, vs₄, m₄, rfl, new₄, o₄, q₄⟩ := r₄
  have back : ∀ {s s' : Shared} (j : Kp s s') {a : Addr}, s'.heap.get? a = none → s.heap.get? a = none := fun {s s'} j a e => by
    cases q : s.heap.get? a with
    | none => rfl
    | some o => rw [j.1 a o q] at e; cases e
  have N₃ := back j₁ (back j₂ new₃)
  have N₄ := back j₁ (back j₂ (back j₃ new₄))
  have ne : ∀ {s : Shared} {a b : Addr} {o : Obj}, s.heap.get? a = some o → s.heap.get? b = none → a ≠ b := fun e e' q => by rw [q, e'] at e; cases e
  have n34 : a₃ ≠ a₄ := ne o₃ new₄
  have n13 : a₁ ≠ a₃ := ne (j₂.1 _ _ o₁) new₃
  have n14 : a₁ ≠ a₄ := ne (j₃.1 _ _ (j₂.1 _ _ o₁)) new₄
  have n23 : a₂ ≠ a₃ := ne o₂ new₃
  have n24 : a₂ ≠ a₄ := ne (j₃.1 _ _ o₂) new₄
  refine assign_Tuple_tuple hA.1 ⟨_, Heap.get?_push_size _ rfl, rfl, 0, rfl⟩ rfl rfl fun h₆ he => ?_
  have kk := Off.ofExt he
  have kp : ∀ b o, s₄.heap.get? b = some o → h₆.get? b = some o := fun b o e => kk.1 b o (Heap.get?_push_of_some _ e)
  have k₆ : ∀ b o, s.heap.get? b = some o → h₆.get? b = some o := fun b o e => kp b o (j₄.1 b o (j₃.1 b o (j₂.1 b o (j₁.1 b o e))))
  have g₁ := kp _ _ (j₄.1 _ _ (j₃.1 _ _ (j₂.1 _ _ o₁)))
  have g₂ := kp _ _ (j₄.1 _ _ (j₃.1 _ _ o₂))
  have g₃ := kp _ _ (j₄.1 _ _ o₃)
  have g₄ := kp _ _ o₄
  have F₆ := F.growSZ (S := fun a => a = a₃ ∨ a = a₄) k₆ (fun a h => h.elim (fun q => q ▸ N₃) fun q => q ▸ N₄) (fun a h => h.elim (fun q => ⟨_, q ▸ g₃⟩) fun q => ⟨_, q ▸ g₄⟩)
  have nW : ∀ {a : Addr}, s.heap.get? a = none → ¬ W a := fun {a} e hw => by obtain ⟨o, ho⟩ := F.ec.live a hw; rw [e] at ho; cases ho
  have R₁ : Rep (HW h₆ (fun a => W a ∨ (a = a₃ ∨ a = a₄))) (.ref a₁) (.list [.int k1]) := .list (n := m₁) ⟨g₁, fun q => q.elim (nW new₁) fun q => q.elim n13 n14⟩ (repL_int q₁ _)
  have R₂ : Rep (HW h₆ (fun a => W a ∨ (a = a₃ ∨ a = a₄))) (.ref a₂) (.list [.int k2]) := .list (n := m₂) ⟨g₂, fun q => q.elim (nW (back j₁ new₂)) fun q => q.elim n23 n24⟩ (repL_int q₂ _)
  have e₁ := (bindN_kind b1).2
  have e₂ := (bindN_kind b2).2
  show wpAny (model prog w) A (assignInOrder ((assignEach [.Name x1 p1, .Name x2 p2, .Name x3 p3, .Name x4 p4] env).map (·.2)) [.ref a₁, .ref a₂, .ref a₃, .ref a₄]) _ E _
  refine assign_one (store_bind F₆ b1 R₁ fun h₇ t₇ F₇ f₇ => ?_)
  refine assign_one (store_bind F₇ b2 (R₂.mono f₇.hw) fun h₈ t₈ F₈ f₈ => ?_)
  have G₃ : h₈.get? a₃ = some (listOf vs₃.toArray m₃) := f₈.keep _ _ (fun _ => .inr (.inl rfl)) (f₇.keep _ _ (fun _ => .inr (.inl rfl)) g₃)
  have G₄ : h₈.get? a₄ = some (listOf vs₄.toArray m₄) := f₈.keep _ _ (fun _ => .inr (.inr rfl)) (f₇.keep _ _ (fun _ => .inr (.inr rfl)) g₄)
  have P₃ : ApF env ad ρ₂ Z a₃ := by rw [e₂, e₁]; exact (F.fresh N₃).im.im
  have P₄ : ApF env ad ρ₂ Z a₄ := by rw [e₂, e₁]; exact (F.fresh N₄).im.im
  refine assign_one (store_own (a := a₃) (sl := .li [.int k3]) (F₈.zsub (Z' := fun a => Z a ∨ a = a₄) fun a h => h.elim .inl fun q => .inr (.inr q)) (.inr (.inl rfl)) ⟨P₃.l, P₃.c, P₃.o, fun q => q.elim P₃.z n34⟩ c3 rfl
    (fun h' kw hn hk => slot_li (updA_self ad x3 a₃) hn (.inr (.inl rfl)) (hk _ G₃) (repL_int q₃ _)) fun h₉ t₉ F₉ f₉ => ?_)
  have G₄' : h₉.get? a₄ = some (listOf vs₄.toArray m₄) := f₉.keep _ _ (fun _ => .inr rfl) G₄
  refine assign_one (store_own (a := a₄) (sl := .li [.int k4]) (F₉.zsub (Z' := Z) fun a h => .inl h) (.inr (.inr rfl)) (P₄.own (Ne.symm n34)) c4 rfl
    (fun h' kw hn hk => slot_li (updA_self _ x4 a₄) hn (.inr (.inr rfl)) (hk _ G₄') (repL_int q₄ _)) fun h' t' F' f' => ?_)
  refine assign_none (hQ _ _ _ .next .next _ ⟨rfl, rfl⟩ F' ⟨fun a h => h.elim .inl fun q => .inr (q.elim (fun q => q ▸ N₃) fun q => q ▸ N₄), fun a o hz e => ?_, ?_, ?_, fun a h => .inl h⟩ .next)
  · have nS : ¬ (a = a₃ ∨ a = a₄) := fun q => by
      rcases q with q | q
      · rw [q, N₃] at e; cases e
      · rw [q, N₄] at e; cases e
    have hz' : W a ∨ (a = a₃ ∨ a = a₄) → Z a := fun q => q.elim hz fun q => absurd q nS
    exact f'.keep a o hz' (f₉.keep a o (fun q => .inl (hz' q)) (f₈.keep a o (fun q => .inl (hz' q)) (f₇.keep a o (fun q => .inl (hz' q)) (k₆ a o e))))
  · exact f'.gens.trans (f₉.gens.trans (f₈.gens.trans (f₇.gens.trans (j₄.2.1.trans (j₃.2.1.trans (j₂.2.1.trans j₁.2.1))))))
  · exact f'.os.trans (f₉.os.trans (f₈.os.trans (f₇.os.trans (j₄.2.2.trans (j₃.2.2.trans (j₂.2.2.trans j₁.2.2))))))
end
end Mine
end

section
open PySem PySem.W PyProof.Rows
namespace Mine
section
variable {prog : Program} {w : World} {G : Gd} {n : Nat} {sc : Scope} {ρ : Store}

noncomputable def TurnIs (prog : Program) (w : World) (G : Gd) (n : Nat) (sc : Scope) (ρ : Store) (tg : Expr) (ifs : List Expr) (t : Env → Value → Sem Unit) (d : PV) (out : List PV) : Prop :=
  ∃ ρ' b, bindC sc tg d ρ = some ρ' ∧ EIf prog w G n sc ρ' ifs b ∧ (b = true → CB prog w G n sc ρ' t out) ∧ (b = false → out = [])
theorem turn_all {tg elt : Expr} {d e : PV} {ρ' : Store} (hb : bindC sc tg d ρ = some ρ') (h : EvT prog w G n sc ρ' elt e) : TurnIs prog w G n sc ρ tg [] (emitOf elt) d [e] :=
  ⟨ρ', true, hb, if_nil, fun _ => cb_emit h, fun q => nomatch q⟩
theorem turn_if {tg elt c : Expr} {d e : PV} {ρ' : Store} {b : Bool} (hb : bindC sc tg d ρ = some ρ') (hc : EvB prog w G n sc ρ' c b) (h : b = true → EvT prog w G n sc ρ' elt e) : TurnIs prog w G n sc ρ tg [c] (emitOf elt) d (bif b then [e] else []) :=
  ⟨ρ', b, hb, if_one hc, fun q => by subst q; exact cb_emit (h rfl), fun q => by subst q; rfl⟩

theorem level_of {elt : Expr} {gens : List Comprehension} {scope : Scope} {pos : Pos} {depth : Nat} {g : Comprehension} {t : Env → Value → Sem Unit} {pl : Bool} {ds : List PV} {φ : PV → List PV}
    (hct : ∀ it acc env, compTurn (.ListComp elt gens scope pos) depth it acc env = (do
      standAt g.iter.pos
      match ← pyNext it with
      | none => pure (.done .next)
      | some v =>
        letOwnedTupleGo g.target it v
        assign g.target env v
        let mut ok := true
        for c in g.ifs do
          if ok then ok ← isTrue c env (eval c env)
        if ok then
          t env acc
        again (.compLoop (.ListComp elt gens scope pos) depth it acc env)))
    (turn : ∀ d ∈ ds, TurnIs prog w G n sc ρ g.target g.ifs t d (φ d)) (hgo : (∀ it v, letOwnedTupleGo g.target it v = pure ()) ∨ pl = true) :
    Level prog w G n sc ρ elt gens scope pos depth g t pl ds (ds.map φ) :=
  ⟨hct, List.length_map _, fun i d out hd ho => by
    rw [List.getElem?_map, hd] at ho
    cases ho
    exact turn d (List.mem_of_getElem? hd), hgo⟩

theorem ev_comp1 {elt tg it : Expr} {ifs : List Expr} {scope : Scope} {pos : Pos} {pl : Bool} {ds es : List PV} {φ : PV → List PV} {ρc : Store} {sr : Scope}
    (hi : EvIt prog w G pl n sc ρ it ds) (ok : compOk scope sc ρ = true) (hρ : capOf scope.names ρ = ρc) (hsr : relabelS scope sc = sr)
    (turn : ∀ d ∈ ds, TurnIs prog w G n sr ρc tg ifs (emitOf elt) d (φ d)) (he : (ds.map φ).flatten = es) (hsz : es.length ≤ sizeLine)
    (hgo : (∀ it v, letOwnedTupleGo tg it v = pure ()) ∨ pl = true := by first | exact .inl fun _ _ => rfl | exact .inr rfl)
    (hs : ∀ env x, foldedSetIterable it env x = pure x := by intro _ _; rfl) : EvF prog w G n sc ρ (.ListComp elt [⟨tg, it, ifs, 0⟩] scope pos) es := by
  subst he
  exact ev_comp (g := ⟨tg, it, ifs, 0⟩) hi ok hρ hsr (level_of (fun _ _ _ => rfl) turn hgo) hsz rfl hs
theorem x1_assignC1 {x : Str} {p pos cpos : Pos} {ρ' : Store} {elt tg it : Expr} {ifs : List Expr} {scope : Scope} {pl : Bool} {ds es : List PV} {φ : PV → List PV} {ρc : Store} {sr : Scope}
    (hi : EvIt prog w G pl n sc ρ it ds) (ok : compOk scope sc ρ = true) (hρ : capOf scope.names ρ = ρc) (hsr : relabelS scope sc = sr)
    (turn : ∀ d ∈ ds, TurnIs prog w G n sr ρc tg ifs (emitOf elt) d (φ d)) (he : (ds.map φ).flatten = es) (hsz : es.length ≤ sizeLine) (hb : bindN sc x (.list es) ρ = some ρ')
    (hsw : ∀ env, env.scope = sc → swapsWith (.ListComp elt [⟨tg, it, ifs, 0⟩] scope cpos) (some (.Name x p)) pos.line env = pure true)
    (hgo : (∀ it v, letOwnedTupleGo tg it v = pure ()) ∨ pl = true := by first | exact .inl fun _ _ => rfl | exact .inr rfl)
    (hs : ∀ env x, foldedSetIterable it env x = pure x := by intro _ _; rfl) : Ex1 prog w G n sc ρ (.Assign [.Name x p] (.ListComp elt [⟨tg, it, ifs, 0⟩] scope cpos) pos) (To ρ') := by
  subst he
  exact x1_assignC (g := ⟨tg, it, ifs, 0⟩) hi ok hρ hsr (level_of (fun _ _ _ => rfl) turn hgo) hsz hb hsw rfl hs

theorem hct2 {elt tg₀ it₀ tg it : Expr} {ifs ifs₀ : List Expr} {scope : Scope} {pos : Pos} (I acc : Value) (env : Env) : compTurn (.ListComp elt [⟨tg₀, it₀, ifs₀, 0⟩, ⟨tg, it, ifs, 0⟩] scope pos) 0 I acc env = (do
      standAt it₀.pos
      match ← pyNext I with
      | none => pure (.done .next)
      | some v =>
        letOwnedTupleGo tg₀ I v
        assign tg₀ env v
        let mut ok := true
        for c in ifs₀ do
          if ok then ok ← isTrue c env (eval c env)
        if ok then
          innerOf (.ListComp elt [⟨tg₀, it₀, ifs₀, 0⟩, ⟨tg, it, ifs, 0⟩] scope pos) it env acc
        again (.compLoop (.ListComp elt [⟨tg₀, it₀, ifs₀, 0⟩, ⟨tg, it, ifs, 0⟩] scope pos) 0 I acc env)) := by
  unfold innerOf
  simp only [bind_assoc, pure_bind]
  rfl

theorem turn_in {e₀ elt tg₀ it₀ tg it : Expr} {ifs : List Expr} {ifs₀ : List Expr} {scope : Scope} {pos : Pos} {pl : Bool} {d : PV} {ds : List PV} {out : List PV} {ψ : PV → List PV} {ρ' : Store} (hb : bindC sc tg₀ d ρ = some ρ') (hi : EvIt prog w G pl n sc ρ' it ds)
    (turn : ∀ e ∈ ds, TurnIs prog w G n sc ρ' tg ifs (emitOf elt) e (ψ e)) (hgo : (∀ it v, letOwnedTupleGo tg it v = pure ()) ∨ pl = true) (hs : ∀ env x, foldedSetIterable it env x = pure x) (ho : (ds.map ψ).flatten = out) :
    TurnIs prog w G n sc ρ tg₀ [] (innerOf (.ListComp elt [⟨tg₀, it₀, ifs₀, 0⟩, ⟨tg, it, ifs, 0⟩] scope pos) it) d out := by
  subst ho
  exact ⟨ρ', true, hb, if_nil, fun _ => cb_inner (g₀ := ⟨tg₀, it₀, ifs₀, 0⟩) hi (level_of (g := ⟨tg, it, ifs, 0⟩) (fun _ _ _ => rfl) turn hgo) hs, fun q => nomatch q⟩
theorem ev_comp2 {elt tg₀ it₀ tg it : Expr} {ifs : List Expr} {scope : Scope} {pos : Pos} {pl : Bool} {ds es : List PV} {φ : PV → List PV} {ρc : Store} {sr : Scope}
    (hi : EvIt prog w G pl n sc ρ it₀ ds) (ok : compOk scope sc ρ = true) (hρ : capOf scope.names ρ = ρc) (hsr : relabelS scope sc = sr)
    (turn : ∀ d ∈ ds, TurnIs prog w G n sr ρc tg₀ [] (innerOf (.ListComp elt [⟨tg₀, it₀, [], 0⟩, ⟨tg, it, ifs, 0⟩] scope pos) it) d (φ d)) (he : (ds.map φ).flatten = es) (hsz : es.length ≤ sizeLine)
    (hgo : (∀ it v, letOwnedTupleGo tg₀ it v = pure ()) ∨ pl = true := by first | exact .inl fun _ _ => rfl | exact .inr rfl)
    (hs : ∀ env x, foldedSetIterable it₀ env x = pure x := by intro _ _; rfl) : EvF prog w G n sc ρ (.ListComp elt [⟨tg₀, it₀, [], 0⟩, ⟨tg, it, ifs, 0⟩] scope pos) es := by
  subst he
  exact ev_comp (g := ⟨tg₀, it₀, [], 0⟩) hi ok hρ hsr (level_of (g := ⟨tg₀, it₀, [], 0⟩) (fun I acc env => hct2 I acc env) turn hgo) hsz rfl hs
theorem x1_assignC2 {x : Str} {p pos cpos : Pos} {ρ' : Store} {elt tg₀ it₀ tg it : Expr} {ifs : List Expr} {scope : Scope} {pl : Bool} {ds es : List PV} {φ : PV → List PV} {ρc : Store} {sr : Scope}
    (hi : EvIt prog w G pl n sc ρ it₀ ds) (ok : compOk scope sc ρ = true) (hρ : capOf scope.names ρ = ρc) (hsr : relabelS scope sc = sr)
    (turn : ∀ d ∈ ds, TurnIs prog w G n sr ρc tg₀ [] (innerOf (.ListComp elt [⟨tg₀, it₀, [], 0⟩, ⟨tg, it, ifs, 0⟩] scope cpos) it) d (φ d)) (he : (ds.map φ).flatten = es) (hsz : es.length ≤ sizeLine) (hb : bindN sc x (.list es) ρ = some ρ')
    (hsw : ∀ env, env.scope = sc → swapsWith (.ListComp elt [⟨tg₀, it₀, [], 0⟩, ⟨tg, it, ifs, 0⟩] scope cpos) (some (.Name x p)) pos.line env = pure true)
    (hgo : (∀ it v, letOwnedTupleGo tg₀ it v = pure ()) ∨ pl = true := by first | exact .inl fun _ _ => rfl | exact .inr rfl)
    (hs : ∀ env x, foldedSetIterable it₀ env x = pure x := by intro _ _; rfl) : Ex1 prog w G n sc ρ (.Assign [.Name x p] (.ListComp elt [⟨tg₀, it₀, [], 0⟩, ⟨tg, it, ifs, 0⟩] scope cpos) pos) (To ρ') := by
  subst he
  exact x1_assignC (g := ⟨tg₀, it₀, [], 0⟩) hi ok hρ hsr (level_of (g := ⟨tg₀, it₀, [], 0⟩) (fun I acc env => hct2 I acc env) turn hgo) hsz hb hsw rfl hs
end
end Mine
end

section
open PySem PySem.W PyProof.Rows
namespace Mine

noncomputable def sumsOf (ws : List Int) : List Int := ws.foldl (fun s w => s ++ s.map (· + w)) [0]
noncomputable def sizesOf (ws : List Int) : List Int := ws.foldl (fun s _ => s ++ s.map (· + 1)) [0]
noncomputable def waysL : List Int := [1, 1, 2, 6]
noncomputable def partsOf (S Z U D : List Int) (top rest : Nat) : Nat → Int × Int
  | 0 => (0, 0)
  | p + 1 =>
    let q := partsOf S Z U D top rest p
    if p &&& rest = p then
      (if S.getD (top + p) 0 > 0 then (q.1 + waysL.getD (Z.getD p 0).toNat 0 * U.getD (rest - p) 0, q.2) else (q.1, q.2 + waysL.getD (Z.getD p 0).toNat 0 * D.getD (rest - p) 0))
    else q
noncomputable def restsOf (S Z : List Int) (top : Nat) (UD : List Int × List Int) : Nat → List Int × List Int
  | 0 => UD
  | r + 1 =>
    let q := restsOf S Z top UD r
    let t := partsOf S Z q.1 q.2 top r (r + 1)
    (q.1 ++ [t.1], q.2 ++ [t.2])
noncomputable def topsOf (S Z : List Int) : Nat → List Int × List Int
  | 0 => ([1], [1])
  | k + 1 => restsOf S Z (2 ^ k) (topsOf S Z k) (2 ^ k)
theorem restsOf_len (S Z : List Int) (top : Nat) (UD : List Int × List Int) : ∀ r, (restsOf S Z top UD r).1.length = UD.1.length + r ∧ (restsOf S Z top UD r).2.length = UD.2.length + r
  | 0 => ⟨rfl, rfl⟩
  | r + 1 => by
    obtain ⟨a, b⟩ := restsOf_len S Z top UD r
    constructor
    · show (_ ++ [_]).length = _; rw [List.length_append, a]; rfl
    · show (_ ++ [_]).length = _; rw [List.length_append, b]; rfl
theorem topsOf_len (S Z : List Int) : ∀ k, (topsOf S Z k).1.length = 2 ^ k ∧ (topsOf S Z k).2.length = 2 ^ k
  | 0 => ⟨rfl, rfl⟩
  | k + 1 => by
    obtain ⟨a, b⟩ := topsOf_len S Z k
    obtain ⟨c, d⟩ := restsOf_len S Z (2 ^ k) (topsOf S Z k) (2 ^ k)
    rw [topsOf, c, d, a, b, Nat.pow_succ]
    omega
noncomputable def setsOf (ws : List Int) : List (Int × Int) := (List.range 16).map fun noted => ((sumsOf ws).getD noted 0, (topsOf (sumsOf ws) (sizesOf ws) 4).1.getD noted 0 * (topsOf (sumsOf ws) (sizesOf ws) 4).2.getD (15 - noted) 0)

theorem sumsOf_succ {ws : List Int} {i : Nat} {x : Int} (h : ws[i]? = some x) : sumsOf (ws.take (i + 1)) = sumsOf (ws.take i) ++ (sumsOf (ws.take i)).map (· + x) := by
  unfold sumsOf
  rw [List.take_add_one, h, List.foldl_append]
  rfl
theorem sizesOf_succ {ws : List Int} {i : Nat} {x : Int} (h : ws[i]? = some x) : sizesOf (ws.take (i + 1)) = sizesOf (ws.take i) ++ (sizesOf (ws.take i)).map (· + 1) := by
  unfold sizesOf
  rw [List.take_add_one, h, List.foldl_append]
  rfl
theorem sumsOf_len : ∀ (ws s : List Int), (ws.foldl (fun s w => s ++ s.map (· + w)) s).length = s.length * 2 ^ ws.length
  | [], s => by simp
  | w :: ws, s => by rw [List.foldl_cons, sumsOf_len ws]; simp [Nat.pow_succ]; grind
theorem sizesOf_len : ∀ (ws s : List Int), (ws.foldl (fun s w => s ++ s.map (· + 1)) s).length = s.length * 2 ^ ws.length
  | [], s => by simp
  | w :: ws, s => by rw [List.foldl_cons, sizesOf_len ws]; simp [Nat.pow_succ]; grind

noncomputable def plusOf (x : Int) : PV → List PV
  | .int a => [.int (a + x)]
  | _ => []
theorem plusOf_flat (x : Int) : ∀ (l : List Int), ((l.map PV.int).map (plusOf x)).flatten = (l.map (· + x)).map PV.int
  | [] => rfl
  | a :: l => by
    have := plusOf_flat x l
    simp only [List.map_cons, List.flatten_cons, this]
    rfl
theorem getD_map {l : List Int} {k : Nat} (h : k < l.length) : (l.map PV.int)[k]? = some (.int (l.getD k 0)) := by
  rw [List.getElem?_map, List.getD_eq_getElem?_getD, List.getElem?_eq_getElem h]; rfl
end Mine
end

section
open PySem PySem.W PyProof.Rows
namespace Mine
section
variable {prog : Program} {w : World} {G : Gd} {n : Nat}
theorem ev_nth {sc : Scope} {ρ : Store} {v sl : Expr} {pos : Pos} {l : List Int} {k : Int} (i : Nat) (hv : EvL prog w G n sc ρ v (l.map PV.int)) (hi : EvT prog w G n sc ρ sl (.int k)) (e : k = (i : Int)) (h : i < l.length) (h2 : l.length ≤ 16)
    (hs : ∀ o i, subscripted sl false o i = operate [o, i] (getItem o i) := by intro _ _; rfl) : EvT prog w G n sc ρ (.Subscript v sl pos) (.int (l.getD i 0)) := by
  subst e
  exact ev_item hv hi (Int.natCast_nonneg i) (by rw [Int.toNat_natCast]; exact getD_map h) (by omega) hs
theorem two_line : (2 : Nat) ≤ sizeLine := by rw [sizeLine_eq]; decide
theorem four_line : (4 : Nat) ≤ sizeLine := by rw [sizeLine_eq]; decide
theorem dbl_line {l m : List Int} (h : l.length ≤ 1024) (e : m.length = l.length) : (l.map PV.int).length + (m.map PV.int).length ≤ sizeLine := by
  rw [List.length_map, List.length_map, e, sizeLine_eq]; omega
theorem one_line {l : List Int} (h : l.length ≤ 1024) : (l.map PV.int).length ≤ sizeLine := by
  rw [List.length_map, sizeLine_eq]; omega
noncomputable abbrev scS : Scope := scopeOf (stAt 11)
noncomputable abbrev iL (l : List Int) : PV := .list (l.map PV.int)
noncomputable def cA (ws : List Int) (i : Nat) : Store := [im "sums" (iL (sumsOf (ws.take i))), im "sizes" (iL (sizesOf (ws.take i))), li "up" [.int 1], li "down" [.int 1]]
noncomputable def cB (S Z U D : List Int) : Store := [im "sums" (iL S), im "sizes" (iL Z), li "up" (U.map PV.int), li "down" (D.map PV.int)]
noncomputable def cC (S Z U D : List Int) (top : Int) : Store := im "top" (.int top) :: cB S Z U D
noncomputable def cD (S Z U D : List Int) (top rest : Int) (q : Int × Int) : Store := [im "ups" (.int q.1), im "downs" (.int q.2), im "rest" (.int rest), im "top" (.int top), im "sums" (iL S), im "sizes" (iL Z), li "up" (U.map PV.int), li "down" (D.map PV.int)]

theorem sets_one {ws : List Int} {i : Nat} {x : Int} (hx : ws[i]? = some x) (hlen : ws.length ≤ 10) :
    Ex prog w G n scS (im "worth" (.int x) :: cA ws i) (match stAt 11 with | .FunctionDef _ _ (_ :: .For _ _ b _ _ :: _) _ _ _ _ _ _ _ => b | _ => []) (fun ρ fl => fl = .next ∧ Cov (cA ws (i + 1)) ρ) := by
  have hi : i < ws.length := (List.getElem?_eq_some_iff.mp hx).1
  have l1 : (sumsOf (ws.take i)).length ≤ 1024 := by
    rw [show sumsOf (ws.take i) = _ from rfl]
    unfold sumsOf
    rw [sumsOf_len, List.length_take]
    show 1 * 2 ^ _ ≤ 2 ^ 10
    rw [Nat.one_mul]
    exact Nat.pow_le_pow_right (by decide) (Nat.le_trans (Nat.min_le_right _ _) hlen)
  have l2 : (sizesOf (ws.take i)).length ≤ 1024 := by
    unfold sizesOf
    rw [sizesOf_len, List.length_take]
    show 1 * 2 ^ _ ≤ 2 ^ 10
    rw [Nat.one_mul]
    exact Nat.pow_le_pow_right (by decide) (Nat.le_trans (Nat.min_le_right _ _) hlen)
  have e1 := sumsOf_succ hx
  have e2 := sizesOf_succ hx
  have hz : (2048 : Nat) ≤ sizeLine := by rw [sizeLine_eq]; decide
  unfold cA
  rw [e1, e2]
  generalize sumsOf (ws.take i) = S at *
  generalize sizesOf (ws.take i) = Z at *
  refine ex_seq (x1_unpack (ds := [iL (S ++ S.map (· + x)), iL (Z ++ Z.map (· + 1))]) (ev_tuple (each_cons ?_ (each_cons ?_ each_nil)) two_line) rfl (fun _ => rfl) (fun env h => ?_)) (ex_nil ⟨rfl, rfl, rfl, rfl, rfl, trivial⟩)
  · refine ev_of (EvF.toT (ev_catL (es := (S.map (· + x)).map PV.int) (EvT.toL (ev_name rfl)) (EvF.toL (ev_comp1 (φ := plusOf x) (ρc := [im "worth" (.int x)]) (it_list (ds := S.map PV.int) (ev_name rfl)) rfl rfl rfl (fun d hd => ?_) (plusOf_flat x S) ?_)) ?_)) ?_
    · obtain ⟨a, _, rfl⟩ := List.mem_map.mp hd
      exact turn_all rfl (ev_add (ev_name rfl) (ev_name rfl))
    · exact one_line (by rw [List.length_map]; exact l1)
    · exact dbl_line l1 (List.length_map _)
    · rw [← List.map_append]
  · refine ev_of (EvF.toT (ev_catL (es := (Z.map (· + 1)).map PV.int) (EvT.toL (ev_name rfl)) (EvF.toL (ev_comp1 (φ := plusOf 1) (ρc := []) (it_list (ds := Z.map PV.int) (ev_name rfl)) rfl rfl rfl (fun d hd => ?_) (plusOf_flat 1 Z) ?_)) ?_)) ?_
    · obtain ⟨a, _, rfl⟩ := List.mem_map.mp hd
      exact turn_all rfl (ev_add (ev_name rfl) ev_int)
    · exact one_line (by rw [List.length_map]; exact l2)
    · exact dbl_line l2 (List.length_map _)
    · rw [← List.map_append]
  · unfold swappedStores Env.blockKind Env.kindOf
    rw [h]; rfl

theorem bitAnd_nat (a b : Nat) : Builtin.bitAnd (a : Int) (b : Int) = ((a &&& b : Nat) : Int) := by
  unfold Builtin.bitAnd
  have h1 : decide (0 ≤ (a : Int)) = true := decide_eq_true (Int.natCast_nonneg a)
  have h2 : decide (0 ≤ (b : Int)) = true := decide_eq_true (Int.natCast_nonneg b)
  rw [h1, h2]
  rfl
theorem eq_int (a b : Nat) : intCmp .Eq (a : Int) (b : Int) = some (decide (a = b)) := by
  show some (decide _) = some (decide _)
  congr 1
  exact decide_eq_decide.mpr Int.natCast_inj

theorem nat_lt4 {z : Int} (h : z < 4) : z.toNat < 4 := by omega
theorem lt_big {z : Int} (h : z < 4) : z < 2 ^ 63 := by omega
theorem sets_part {S Z U D : List Int} {top rest p : Nat} {q : Int × Int} (hp : p ≤ rest) (hr : rest < top) (ht : top ≤ 8) (hS : S.length = 16) (hZ : Z.length = 16) (hU : U.length = top + rest) (hD : D.length = top + rest) (hz : ∀ k < 16, 0 ≤ Z.getD k 0 ∧ (k < 8 → Z.getD k 0 < 4)) :
    Ex prog w G n scS (im "part" (.int p) :: cD S Z U D top rest q) (match stAt 11 with | .FunctionDef _ _ (_ :: _ :: .For _ _ [.For _ _ (_ :: .For _ _ b _ _ :: _) _ _] _ _ :: _) _ _ _ _ _ _ _ => b | _ => [])
      (fun ρ fl => fl = .next ∧ Cov (cD S Z U D top rest (if p &&& rest = p then (if S.getD (top + p) 0 > 0 then (q.1 + waysL.getD (Z.getD p 0).toNat 0 * U.getD (rest - p) 0, q.2) else (q.1, q.2 + waysL.getD (Z.getD p 0).toNat 0 * D.getD (rest - p) 0)) else q)) ρ) := by
  have p8 : p < 8 := Nat.lt_of_le_of_lt hp (Nat.lt_of_lt_of_le hr ht)
  obtain ⟨z0, z1⟩ := hz p (Nat.lt_trans p8 (by decide))
  have z2 := z1 p8
  have h4 : (Z.getD p 0).toNat < waysL.length := nat_lt4 z2
  have t16 : top + p < 16 := Nat.add_lt_add_of_le_of_lt ht p8
  have u16 : top + rest ≤ 16 := Nat.add_le_add ht (Nat.le_of_lt (Nat.lt_of_lt_of_le hr ht))
  have rp : rest - p < top + rest := Nat.lt_of_le_of_lt (Nat.sub_le _ _) (Nat.lt_add_of_pos_left (Nat.zero_lt_of_lt hr))
  have ri : (rest : Int) - p = ((rest - p : Nat) : Int) := (Int.ofNat_sub hp).symm
  have hw : waysL[(Z.getD p 0).toNat]? = some (waysL.getD (Z.getD p 0).toNat 0) := by
    generalize (Z.getD p 0).toNat = z at h4 ⊢
    rw [List.getD_eq_getElem?_getD, List.getElem?_eq_getElem h4]; rfl
  have hw2 : Builtin.Int.intBits (waysL.getD (Z.getD p 0).toNat 0) ≤ 64 := by
    have : ∀ k < 4, Builtin.Int.intBits (waysL.getD k 0) ≤ 64 := by decide +kernel
    exact this _ h4
  generalize hW : waysL.getD (Z.getD p 0).toNat 0 = W at *
  refine ex_last (x1_if (c := decide (p &&& rest = p)) (eb_cmpi (ev_and (ev_name rfl) (ev_name rfl)) (ev_name rfl) (by rw [bitAnd_nat]; exact eq_int _ _)) (fun hc => ?_) fun hc => ?_)
  · rw [if_pos (of_decide_eq_true hc)]
    refine ex_seq (x1_assign (d := .int W) (ev_item (k := Z.getD p 0) (EvF.toL (ev_list (each_cons ev_int (each_cons ev_int (each_cons ev_int (each_cons ev_int each_nil)))))) (ev_nth p (EvT.toL (ev_name rfl)) (ev_name rfl) rfl (hZ ▸ Nat.lt_trans p8 (by decide)) (Nat.le_of_eq hZ)) z0 ?_ (lt_big z2)) rfl) ?_
    · show (waysL.map PV.int)[_]? = _
      rw [List.getElem?_map, hw]; rfl
    refine ex_last (x1_if (c := decide (S.getD (top + p) 0 > 0)) (eb_cmpi (ev_nth (top + p) (EvT.toL (ev_name rfl)) (ev_add (ev_name rfl) (ev_name rfl)) rfl (hS ▸ t16) (Nat.le_of_eq hS)) ev_int rfl) (fun hc => ?_) fun hc => ?_)
    · rw [if_pos (of_decide_eq_true hc)]
      refine ex_last ((x1_iadd rfl (ev_mul (ev_name rfl) (ev_nth (rest - p) (ev_nameL rfl) (ev_sub (ev_name rfl) (ev_name rfl)) ri (hU ▸ rp) (hU ▸ u16)) (IntMulOk.of_left hw2)) rfl).mono fun ρ' fl h => ?_)
      obtain ⟨rfl, rfl⟩ := h
      exact ⟨rfl, rfl, rfl, rfl, rfl, rfl, rfl, rfl, rfl, trivial⟩
    · rw [if_neg (of_decide_eq_false hc)]
      refine ex_last ((x1_iadd rfl (ev_mul (ev_name rfl) (ev_nth (rest - p) (ev_nameL rfl) (ev_sub (ev_name rfl) (ev_name rfl)) ri (hD ▸ rp) (hD ▸ u16)) (IntMulOk.of_left hw2)) rfl).mono fun ρ' fl h => ?_)
      obtain ⟨rfl, rfl⟩ := h
      exact ⟨rfl, rfl, rfl, rfl, rfl, rfl, rfl, rfl, rfl, trivial⟩
  · rw [if_neg (of_decide_eq_false hc)]
    exact ex_nil ⟨rfl, rfl, rfl, rfl, rfl, rfl, rfl, rfl, rfl, trivial⟩

theorem swap_none {env : Env} {sc : Scope} {ts : List Expr} {v : Expr} {r : Option (List Str)} (h : env.scope = sc) (e : ∀ env' : Env, env'.scope = sc → swappedStores ts v env' = pure r) : swappedStores ts v env = pure r := e env h
theorem sets_rest (hr : GVal G "range" (.type "range")) {S Z U D : List Int} {top r : Nat} (hrt : r < top) (ht : top ≤ 8) (hS : S.length = 16) (hZ : Z.length = 16) (hU : U.length = top + r) (hD : D.length = top + r) (hz : ∀ k < 16, 0 ≤ Z.getD k 0 ∧ (k < 8 → Z.getD k 0 < 4)) :
    Ex prog w G n scS (im "rest" (.int r) :: cC S Z U D top) (match stAt 11 with | .FunctionDef _ _ (_ :: _ :: .For _ _ [.For _ _ b _ _] _ _ :: _) _ _ _ _ _ _ _ => b | _ => [])
      (fun ρ fl => fl = .next ∧ Cov (cC S Z (U ++ [(partsOf S Z U D top r (r + 1)).1]) (D ++ [(partsOf S Z U D top r (r + 1)).2]) top) ρ) := by
  have hsz : (16 : Nat) ≤ sizeLine := by rw [sizeLine_eq]; decide
  refine ex_seq (x1_unpack (ds := [.int 0, .int 0]) (ev_tuple (each_cons ev_int (each_cons ev_int each_nil)) two_line) rfl (fun _ => rfl) (fun env h => by unfold swappedStores Env.blockKind Env.kindOf; rw [h]; rfl)) ?_
  have hlen : (intsFrom 0 ((r : Int) + 1).toNat).length = r + 1 := by rw [intsFrom_len]; omega
  refine ex_consC (x1_forK (canon := fun p => cD S Z U D top r (partsOf S Z U D top r p)) (it_range1 rfl hr (ev_add (ev_name rfl) ev_int) (by omega) (by omega)) ⟨rfl, rfl, rfl, rfl, rfl, rfl, rfl, rfl, trivial⟩ fun p d hd => ?_) ?_
  · have hp : p < ((r : Int) + 1).toNat := by have := (List.getElem?_eq_some_iff.mp hd).1; rwa [intsFrom_len] at this
    rw [intsFrom_get _ _ _ hp, Int.zero_add] at hd
    cases hd
    exact ⟨_, rfl, sets_part (q := partsOf S Z U D top r p) (by omega) hrt ht hS hZ hU hD hz⟩
  · rw [hlen]
    generalize partsOf S Z U D top r (r + 1) = q
    refine ex_seq (x1_append rfl (ev_name rfl) (by rw [List.length_map]; omega)) ?_
    refine ex_last ((x1_append rfl (ev_name rfl) (by rw [List.length_map]; omega)).mono fun ρ' fl h => ?_)
    obtain ⟨rfl, rfl⟩ := h
    have e1 : (U ++ [q.1]).map PV.int = U.map PV.int ++ [.int q.1] := by rw [List.map_append]; rfl
    have e2 : (D ++ [q.2]).map PV.int = D.map PV.int ++ [.int q.2] := by rw [List.map_append]; rfl
    unfold cC cB
    rw [e1, e2]
    exact ⟨rfl, rfl, rfl, rfl, rfl, rfl, trivial⟩

theorem sets_top (hr : GVal G "range" (.type "range")) {S Z : List Int} {k : Nat} (hk : k < 4) (hS : S.length = 16) (hZ : Z.length = 16) (hz : ∀ k < 16, 0 ≤ Z.getD k 0 ∧ (k < 8 → Z.getD k 0 < 4)) :
    Ex prog w G n scS (im "top" (.int ((2 ^ k : Nat) : Int)) :: cB S Z (topsOf S Z k).1 (topsOf S Z k).2) (match stAt 11 with | .FunctionDef _ _ (_ :: _ :: .For _ _ b _ _ :: _) _ _ _ _ _ _ _ => b | _ => [])
      (fun ρ fl => fl = .next ∧ Cov (cB S Z (topsOf S Z (k + 1)).1 (topsOf S Z (k + 1)).2) ρ) := by
  have hp8 : 2 ^ k ≤ 8 := by
    have : 2 ^ k ≤ 2 ^ 3 := Nat.pow_le_pow_right (by decide) (by omega)
    omega
  obtain ⟨u1, u2⟩ := topsOf_len S Z k
  rw [topsOf]
  generalize topsOf S Z k = UD at *
  generalize 2 ^ k = top at *
  have hlen : (intsFrom 0 (top : Int).toNat).length = top := by rw [intsFrom_len]; omega
  refine ex_last ((x1_forK (canon := fun r => cC S Z (restsOf S Z top UD r).1 (restsOf S Z top UD r).2 top) (it_range1 rfl hr (ev_name rfl) (by omega) (by omega)) ⟨rfl, rfl, rfl, rfl, rfl, trivial⟩ fun r d hd => ?_).mono fun ρ' fl h => ?_)
  · have hp : r < (top : Int).toNat := by have := (List.getElem?_eq_some_iff.mp hd).1; rwa [intsFrom_len] at this
    rw [intsFrom_get _ _ _ hp, Int.zero_add] at hd
    cases hd
    obtain ⟨v1, v2⟩ := restsOf_len S Z top UD r
    exact ⟨_, rfl, sets_rest hr (by omega) hp8 hS hZ (by rw [v1, u1]) (by rw [v2, u2]) hz⟩
  · rw [hlen] at h
    exact ⟨h.1, h.2.2⟩

theorem sizes4 {ws : List Int} (h : ws.length = 4) : sizesOf ws = [0, 1, 1, 2, 1, 2, 2, 3, 1, 2, 2, 3, 2, 3, 3, 4] := by
  obtain ⟨a, ws, rfl⟩ : ∃ a t, ws = a :: t := by cases ws with | nil => cases h | cons a t => exact ⟨a, t, rfl⟩
  obtain ⟨b, ws, rfl⟩ : ∃ a t, ws = a :: t := by cases ws with | nil => cases h | cons a t => exact ⟨a, t, rfl⟩
  obtain ⟨c, ws, rfl⟩ : ∃ a t, ws = a :: t := by cases ws with | nil => cases h | cons a t => exact ⟨a, t, rfl⟩
  obtain ⟨d, ws, rfl⟩ : ∃ a t, ws = a :: t := by cases ws with | nil => cases h | cons a t => exact ⟨a, t, rfl⟩
  cases ws with
  | nil => simp [sizesOf]
  | cons a t => simp at h
theorem intsFrom_eq : ∀ (k a : Nat), intsFrom (a : Int) k = (List.range' a k).map (fun i => PV.int (i : Nat))
  | 0, _ => rfl
  | k + 1, a => by
    have := intsFrom_eq k (a + 1)
    rw [intsFrom, List.range'_succ, List.map_cons, ← this]
    rfl
noncomputable def overInts (g : Nat → PV) : PV → List PV
  | .int i => [g i.toNat]
  | _ => []
theorem overInts_flat (g : Nat → PV) (m : Nat) : ((intsFrom 0 m).map (overInts g)).flatten = (List.range m).map g := by
  have e := intsFrom_eq m 0
  rw [show ((0 : Nat) : Int) = 0 from rfl] at e
  rw [e, List.range_eq_range']
  generalize List.range' 0 m = l
  induction l with
  | nil => rfl
  | cons a l ih =>
    simp only [List.map_cons, List.flatten_cons] at ih ⊢
    rw [ih]; rfl
noncomputable def pairOf (p : Int × Int) : PV := .tuple [.int p.1, .int p.2]
theorem bits_small {a : Int} (h : a.natAbs < 1000) : Builtin.Int.intBits a ≤ 64 := by
  unfold Builtin.Int.intBits
  split
  · exact Nat.zero_le _
  · by_cases h0 : a.natAbs = 0
    · rw [h0]; decide
    · have : a.natAbs.log2 < 10 := (Nat.log2_lt h0).mpr (by omega)
      omega
theorem sets_end (hr : GVal G "range" (.type "range")) {S Z : List Int} {UD : List Int × List Int} (hS : S.length = 16) (u1 : UD.1.length = 16) (u2 : UD.2.length = 16) (hb : ∀ k < 16, (UD.1.getD k 0).natAbs < 1000) :
    Ex prog w G n scS (cB S Z UD.1 UD.2) (match stAt 11 with | .FunctionDef _ _ (_ :: _ :: _ :: b) _ _ _ _ _ _ _ => b | _ => []) (fun _ fl => fl = .ret (.list ((List.range 16).map fun k => pairOf (S.getD k 0, UD.1.getD k 0 * UD.2.getD (15 - k) 0)))) := by
  have hsz : (16 : Nat) ≤ sizeLine := by rw [sizeLine_eq]; decide
  refine ex_ret (EvF.toT (ev_comp1 (φ := overInts fun k => pairOf (S.getD k 0, UD.1.getD k 0 * UD.2.getD (15 - k) 0)) (ρc := [li "down" (UD.2.map PV.int), im "sums" (iL S), li "up" (UD.1.map PV.int)]) (it_range1 rfl hr ev_int (by decide) (by decide)) rfl rfl rfl (fun d hd => ?_) (overInts_flat _ 16) ?_))
  · have e := intsFrom_eq 16 0
    rw [show ((0 : Nat) : Int) = 0 from rfl] at e
    change d ∈ intsFrom 0 16 at hd
    rw [e] at hd
    obtain ⟨k, hk, rfl⟩ := List.mem_map.mp hd
    have hk : k < 16 := by obtain ⟨i, hi, e⟩ := List.mem_range'.mp hk; rw [e, Nat.zero_add, Nat.one_mul]; exact hi
    refine turn_all (e := pairOf (S.getD k 0, UD.1.getD k 0 * UD.2.getD (15 - k) 0)) rfl (ev_tuple (each_cons (ev_nth k (EvT.toL (ev_name rfl)) (ev_name rfl) rfl (hS ▸ hk) (Nat.le_of_eq hS)) (each_cons (ev_mul (ev_nth k (ev_nameL rfl) (ev_name rfl) rfl (u1 ▸ hk) (Nat.le_of_eq u1)) (ev_nth (15 - k) (ev_nameL rfl) (ev_sub ev_int (ev_name rfl)) (Int.ofNat_sub (m := k) (n := 15) (Nat.le_of_lt_succ hk)).symm (u2 ▸ Nat.lt_of_le_of_lt (Nat.sub_le 15 k) (by decide)) (Nat.le_of_eq u2)) ?_) each_nil)) two_line)
    exact IntMulOk.of_left (bits_small (hb k hk))
  · rw [List.length_map, List.length_range]; exact hsz
end

section
variable {prog : Program} {w : World} {G : Gd} {n : Nat}
theorem sets_top_all (hr : GVal G "range" (.type "range")) {S Z : List Int} (hS : S.length = 16) (hZ : Z.length = 16) (hz : ∀ k < 16, 0 ≤ Z.getD k 0 ∧ (k < 8 → Z.getD k 0 < 4)) :
    Ex1 prog w G n scS (cB S Z [1] [1]) (match stAt 11 with | .FunctionDef _ _ (_ :: _ :: b :: _) _ _ _ _ _ _ _ => b | x => x) (fun ρ fl => fl = .next ∧ Cov (cB S Z (topsOf S Z 4).1 (topsOf S Z 4).2) ρ) := by
  have hsz : (16 : Nat) ≤ sizeLine := by rw [sizeLine_eq]; decide
  refine x1_forK (ds := [.int 1, .int 2, .int 4, .int 8]) (canon := fun k => cB S Z (topsOf S Z k).1 (topsOf S Z k).2) (it_tuple (ev_tuple (each_cons ev_int (each_cons ev_int (each_cons ev_int (each_cons ev_int each_nil)))) four_line)) ⟨rfl, rfl, rfl, rfl, trivial⟩ fun k d hd => ?_
  have hk : k < 4 := (List.getElem?_eq_some_iff.mp hd).1
  have e : d = .int ((2 ^ k : Nat) : Int) := by
    match k, hk with
    | 0, _ => cases hd; rfl
    | 1, _ => cases hd; rfl
    | 2, _ => cases hd; rfl
    | 3, _ => cases hd; rfl
  subst e
  exact ⟨_, rfl, sets_top hr hk hS hZ hz⟩
theorem one_list (k : Int) {ρ : Store} {p q : Pos} : EvF prog w G n scS ρ (.List [.Constant (.int k) 0 p] q) [.int k] := ev_list (each_cons ev_int each_nil) (by rw [sizeLine_eq]; show (1 : Nat) ≤ _; decide)
theorem sets_worths {ws : List Int} (h4 : ws.length = 4) :
    Ex1 prog w G n scS [li "down" [.int 1], li "up" [.int 1], im "sizes" (iL [0]), im "sums" (iL [0]), im "worths" (iL ws)] (match stAt 11 with | .FunctionDef _ _ (_ :: b :: _) _ _ _ _ _ _ _ => b | x => x) (fun ρ fl => fl = .next ∧ Cov (cB (sumsOf ws) (sizesOf ws) [1] [1]) ρ) := by
  refine (x1_forK (ds := ws.map PV.int) (canon := cA ws) (it_list (ev_name rfl)) ⟨rfl, rfl, rfl, rfl, trivial⟩ fun i d hd => ?_).mono fun ρ' fl h => ?_
  · rw [List.getElem?_map] at hd
    obtain ⟨x, hx, rfl⟩ := Option.map_eq_some_iff.mp hd
    exact ⟨_, rfl, sets_one hx (by omega)⟩
  · rw [List.length_map] at h
    unfold cA at h
    rw [List.take_length] at h
    exact h
theorem sets_split : ∃ a b c d, bodyOf (stAt 11) = a :: b :: c :: d ∧ a = (match stAt 11 with | .FunctionDef _ _ (b :: _) _ _ _ _ _ _ _ => b | x => x) ∧ b = (match stAt 11 with | .FunctionDef _ _ (_ :: b :: _) _ _ _ _ _ _ _ => b | x => x) ∧ c = (match stAt 11 with | .FunctionDef _ _ (_ :: _ :: b :: _) _ _ _ _ _ _ _ => b | x => x) ∧ d = (match stAt 11 with | .FunctionDef _ _ (_ :: _ :: _ :: b) _ _ _ _ _ _ _ => b | _ => []) := ⟨_, _, _, _, rfl, rfl, rfl, rfl, rfl⟩
theorem sets_first {ws : List Int} : Ex1 prog w G n scS [im "worths" (iL ws)] (match stAt 11 with | .FunctionDef _ _ (b :: _) _ _ _ _ _ _ _ => b | x => x) (To [li "down" [.int 1], li "up" [.int 1], im "sizes" (iL [0]), im "sums" (iL [0]), im "worths" (iL ws)]) :=
  x1_four (one_list 0) (one_list 0) (one_list 1) (one_list 1) rfl rfl (.inr rfl) (.inr rfl)
theorem sets_body (hr : GVal G "range" (.type "range")) {ws : List Int} (h4 : ws.length = 4) (hb : ∀ k < 16, ((topsOf (sumsOf ws) (sizesOf ws) 4).1.getD k 0).natAbs < 1000) :
    Ex prog w G n scS [im "worths" (iL ws)] (bodyOf (stAt 11)) (fun _ fl => fl = .ret (.list ((setsOf ws).map pairOf))) := by
  have hS : (sumsOf ws).length = 16 := by unfold sumsOf; rw [sumsOf_len, h4]; rfl
  have hZ : (sizesOf ws).length = 16 := by unfold sizesOf; rw [sizesOf_len, h4]; rfl
  have eZ := sizes4 h4
  have hz : ∀ k < 16, 0 ≤ (sizesOf ws).getD k 0 ∧ (k < 8 → (sizesOf ws).getD k 0 < 4) := by rw [eZ]; decide +kernel
  obtain ⟨u1, u2⟩ := topsOf_len (sumsOf ws) (sizesOf ws) 4
  have E1 := sets_first (prog := prog) (w := w) (G := G) (n := n) (ws := ws)
  have E2 := sets_worths (prog := prog) (w := w) (G := G) (n := n) h4
  have E3 := sets_top_all (prog := prog) (w := w) (n := n) hr hS hZ hz
  have E4 := sets_end (prog := prog) (w := w) (n := n) (Z := sizesOf ws) hr hS u1 u2 hb
  obtain ⟨a, b, c, d, e, ea, eb, ec, ed⟩ := sets_split
  rw [e]
  rw [← ea] at E1
  rw [← eb] at E2
  rw [← ec] at E3
  rw [← ed] at E4
  refine ex_seq E1 (ex_consC E2 (ex_consC E3 (E4.mono fun _ fl h => ?_)))
  rw [h]
  unfold setsOf
  rw [List.map_map]
  rfl
end
end Mine
end

section
open PySem PySem.W PyProof.Rows
namespace Mine

theorem handed_rep {P : Addr → Obj → Prop} {v : Value} {d : PV} (r : Rep P v d) : handedIn v = true := by cases r <;> rfl
theorem repF_get {P : Addr → Obj → Prop} {es : List DictEntry} {fs : List (Str × PV)} (r : RepF P es fs) {x : Str} : (∀ d, fs.lookup x = some d → ∃ v, getL x es = some (some v) ∧ Rep P v d) ∧ (fs.lookup x = none → getL x es = some none ∧ es.any (·.key.isStr x) = false) := by
  induction es generalizing fs with
  | nil => cases r; exact ⟨(fun d e => nomatch e), fun _ => ⟨rfl, rfl⟩⟩
  | cons e es ih =>
    cases r with
    | cons rv r =>
      rename_i h y t v d0 fs
      have key : (Value.str y t).isStr x = (x == y) := by
        have : (Value.str y t).isStr x = (y == x) := rfl
        rw [this]
        by_cases hxy : x = y
        · subst hxy; simp
        · rw [beq_eq_false_iff_ne.mpr hxy, beq_eq_false_iff_ne.mpr (Ne.symm hxy)]
      have key' : (⟨h, Value.str y t, v⟩ : DictEntry).key.isStr x = (x == y) := key
      obtain ⟨i1, i2⟩ := ih r
      refine ⟨fun d e => ?_, fun e => ?_⟩
      · rw [List.lookup_cons] at e
        unfold getL
        rw [List.find?_cons]
        rw [key']
        cases hxy : x == y with
        | true => rw [hxy] at e; cases e; exact ⟨_, rfl, rv⟩
        | false =>
          rw [hxy] at e
          obtain ⟨v', h1, h2⟩ := i1 d e
          refine ⟨v', ?_, h2⟩
          unfold getL at h1
          dsimp only
          cases hf : List.find? (fun x_1 => x_1.key.isStr x) es with
          | some en => rw [hf] at h1; exact h1
          | none => rw [hf] at h1; dsimp only at h1; split at h1 <;> cases h1
      · rw [List.lookup_cons] at e
        cases hxy : x == y with
        | true => rw [hxy] at e; cases e
        | false =>
          rw [hxy] at e
          obtain ⟨h1, h2⟩ := i2 e
          have h3 : (List.any (⟨h, .str y t, v⟩ :: es) fun x_1 => x_1.key.isStr x) = false := by
            rw [List.any_cons, h2]
            show ((Value.str y t).isStr x || false) = false
            rw [key, hxy]; rfl
          refine ⟨?_, h3⟩
          unfold getL at h1 ⊢
          rw [List.find?_cons]
          rw [key', hxy]
          dsimp only
          cases hf : List.find? (fun x_1 => x_1.key.isStr x) es with
          | some en => rw [hf] at h1; exact h1
          | none =>
            rw [hf] at h1
            dsimp only at h1 ⊢
            split at h1
            · cases h1
            · rename_i hq
              have hr : (⟨h, .str y t, v⟩ : DictEntry).refKey = false := rfl
              rw [List.any_cons, hr, Bool.false_or, if_neg hq]
theorem repF_put {P : Addr → Obj → Prop} {x : Str} {hs : Int} {t : Tok} {v : Value} {d : PV} (rv : Rep P v d) : ∀ {es : List DictEntry} {fs : List (Str × PV)}, RepF P es fs → fs.lookup x = none → RepF P (putL x hs (.str x t) v es) (fs ++ [(x, d)]) := by
  intro es
  induction es with
  | nil => intro fs r _; cases r; exact .cons rv .nil
  | cons e es ih =>
    intro fs r hn
    have hany := (repF_get r (x := x)).2 hn
    cases r with
    | cons rv' r =>
      rename_i h y t' v' d0 fs
      have h2 := hany.2
      rw [List.any_cons, Bool.or_eq_false_iff] at h2
      rw [List.lookup_cons] at hn
      cases hxy : x == y with
      | true => rw [hxy] at hn; cases hn
      | false =>
        rw [hxy] at hn
        have := ih r hn
        show RepF P (if _ then _ else _) _
        rw [if_neg (by rw [h2.1]; decide)]
        exact .cons rv' this
theorem repF_len {P : Addr → Obj → Prop} {es : List DictEntry} {fs : List (Str × PV)} (r : RepF P es fs) : es.length = fs.length := by
  induction es generalizing fs with
  | nil => cases r; rfl
  | cons e es ih =>
    cases r with
    | cons _ r => rw [List.length_cons, List.length_cons, ih r]

noncomputable def SelfT (a C : Addr) (fs : List (Str × PV)) : OwT := ⟨fun P v dx o => ∃ es n, v = .ref a ∧ P a (instObj C dx) ∧ o = dictOf es n ∧ RepF P es fs, fun k ⟨es, n, e, p, q, r⟩ => ⟨es, n, e, k _ _ p, q, r.mono k⟩⟩

structure ClsOk (G : Gd) (C : Addr) : Prop where
  dict : hasDictIn G.K C = true
  get : findIn G.K (.ref C) "__getattribute__" = some (some (.builtin "object.__getattribute__"))
  noget : findIn G.K (.ref C) "__getattr__" = some none
  set : findIn G.K (.ref C) "__setattr__" = some (some (.builtin "object.__setattr__"))
  over : plainOver G.K C = true
structure FieldOk (G : Gd) (C : Addr) (x : Str) : Prop where
  none : findIn G.K (.ref C) x = some Option.none
  taker : takerIn G.K C x = some Option.none

section
variable {prog : Program} {w : World} {G : Gd} {n : Nat} {sc : Scope} {ρ : Store}

theorem inst_at {h : Heap} {x C dx : Addr} {es : List DictEntry} {m : Nat} (hx : h.get? x = some (instObj C dx)) (hd : h.get? dx = some (dictOf es m)) : InstAt h x (instObj C dx) C (some (dictOf es m)) := ⟨hx, rfl, rfl, hd⟩

theorem get_field {A : Around} {s : Shared} {Q : Value → Shared → Prop} {E : Value → Shared → Prop} {x C dx : Addr} {es : List DictEntry} {m : Nat} {name : Str} {v : Value} {expr : Bool} (K : ClsOk G C) (F : FieldOk G C name) (X : G.K.In s.heap) (hx : s.heap.get? x = some (instObj C dx)) (hd : s.heap.get? dx = some (dictOf es m))
    (hv : getL name es = some (some v)) (hh : handedIn v = true) (h : Q v { s with toks := s.toks + 1 }) : wpAny (model prog w) A (getAttr (.ref x) name expr) Q E s :=
  get_value X (inst_at hx hd) K.get (findObj_own K.dict F.none rfl ((lookIn_dict name es m).trans hv)) hh h

theorem ev_attr {e : Expr} {name : Str} {pos : Pos} {C : Addr} {fs : List (Str × PV)} {d : PV} (K : ClsOk G C) (F : FieldOk G C name) (he : EvT prog w G n sc ρ e (.inst C fs)) (hl : fs.lookup name = some d)
    (hbase : ∀ env, attributeBase e name env (eval e env) = eval e env := by intro _; rfl) (ht : ∀ o r, letTemporaryGo e o r = pure () := by intro _ _; rfl) : EvT prog w G n sc ρ (.Attribute e name pos) d := by
  intro A env W ad s Q E hA hE hQ
  rw [arm_eval_Attribute, hbase]
  refine wpAny_bind (he A env W ad s _ E hA hE fun v s₁ k r => wpAny_bind (wpAny_standAt (wpAny_bind (wpAny_holding ?_))))
  cases r with
  | inst ha hd rf =>
    obtain ⟨v', h1, h2⟩ := (repF_get rf).1 d hl
    refine get_field K F (hE.keeps k.1).ground.gr.X ha.1 hd.1 h1 (handed_rep h2) ?_
    rw [ht]
    exact wpAny_pure (hQ _ _ (k.trans (Kp.tok ..)) h2)

theorem ev_attrS {x name : Str} {p pos : Pos} {a C : Addr} {fs : List (Str × PV)} {d : PV} (K : ClsOk G C) (F : FieldOk G C name) (hx : ρ.lookup x = some (.di (SelfT a C fs))) (hl : fs.lookup name = some d) (hd : (x == ("__debug__" : Str)) = false := by decide)
    (hbase : ∀ env, attributeBase (.Name x p) name env (eval (.Name x p) env) = eval (.Name x p) env := by intro _; rfl) (ht : ∀ o r, letTemporaryGo (.Name x p) o r = pure () := by intro _ _; rfl) : EvT prog w G n sc ρ (.Attribute (.Name x p) name pos) d := by
  intro A env W ad s Q E hA hE hQ
  rw [arm_eval_Attribute, hbase]
  obtain ⟨v, o, N, hw, ho, es, m, rfl, ha, rfl, rf⟩ := hE.names x _ hx
  refine wpAny_bind (wpAny_Name (load_name (hE.scope ▸ hE.kind) N (wpAny_bind (wpAny_standAt (wpAny_bind (wpAny_holding ?_))))) hd)
  obtain ⟨v', h1, h2⟩ := (repF_get rf).1 d hl
  refine get_field K F hE.ground.gr.X ha.1 ho h1 (handed_rep h2) ?_
  rw [ht]
  exact wpAny_pure (hQ _ _ (Kp.tok ..) h2)
end
end Mine
end

section
open PySem PySem.W PyProof.Rows
namespace Mine
section
variable {prog : Program} {w : World} {G : Gd} {n : Nat} {sc : Scope} {ρ : Store}

theorem FS.reown {h h' : Heap} {env : Env} {W Z : Addr → Prop} {ad : Str → Addr} {x : Str} {sl₀ sl : Slt} (F : FS G sc env W Z ad ρ h) (hx : ρ.lookup x = some sl₀) (o₀ : sl₀.own = true) (hw : W (ad x)) (hs : Heap.SameBut (ad x) h h') (lv : ∃ o, h'.get? (ad x) = some o) (o₁ : sl.own = true)
    (hsl : (∀ b o, HW h W b o → HW h' W b o) → (∀ v, NameIs env h x v → NameIs env h' x v) → SlotIs env h' W ad x sl) : FS G sc env W Z ad ((x, sl) :: ρ) h' := by
  have kw : ∀ b o, HW h W b o → HW h' W b o := fun b o q => ⟨(hs.2 b fun e => q.2 (e ▸ hw)).trans q.1, q.2⟩
  have nk : ∀ y v, NameIs env h y v → NameIs env h' y v := fun y v n => by
    rcases n with ⟨a, m, n, e⟩ | ⟨a, c, e, ⟨o, ho, hd⟩⟩
    · exact .inl ⟨a, m, n.sameBut hs (Ne.symm (F.ol x _ hx o₀)), e⟩
    · rcases a with a | ⟨a, _⟩
      · exact .inr ⟨.inl a, c, e, ⟨o, (hs.2 c (Ne.symm (F.oc x _ hx o₀ y c a e))).trans ho, hd⟩⟩
      · exact absurd a (F.nf y)
  have hlk : ∀ y sl', List.lookup y ((x, sl) :: ρ) = some sl' → (y = x ∧ sl' = sl) ∨ (y ≠ x ∧ ρ.lookup y = some sl') := fun y sl' e => by
    rw [List.lookup_cons] at e
    by_cases hy : y = x
    · subst hy; simp at e; exact .inl ⟨rfl, e.symm⟩
    · have : (y == x) = false := beq_eq_false_iff_ne.mpr hy
      rw [this] at e; exact .inr ⟨hy, e⟩
  have old : ∀ y sl', List.lookup y ((x, sl) :: ρ) = some sl' → sl'.own = true → ∃ sl₀, ρ.lookup y = some sl₀ ∧ sl₀.own = true := fun y sl' e o => by
    rcases hlk y sl' e with ⟨rfl, rfl⟩ | ⟨hy, e⟩
    · exact ⟨_, hx, o₀⟩
    · exact ⟨_, e, o⟩
  refine ⟨⟨F.ec.scope, F.ec.kind, F.ec.glob, F.ec.blt, F.ec.ground.mono kw, fun a ha => ?_, ?_, fun y sl' e => ?_⟩, F.wl, fun y c p q => ?_, F.ci, F.nf, F.ce, fun y sl' e o => ?_, fun y sl' e o => ?_, fun y sl' z sl'' e o e' o' => ?_, F.zw, F.zl, F.zc, fun y sl' e o => ?_⟩
  · by_cases hax : a = ad x
    · rw [hax]; exact lv
    · obtain ⟨o, q⟩ := F.ec.live a ha; exact ⟨o, (hs.2 a hax).trans q⟩
  · obtain ⟨m, n⟩ := F.ec.ns; exact ⟨m, n.sameBut hs (Ne.symm (F.ol x _ hx o₀))⟩
  · rcases hlk y sl' e with ⟨rfl, rfl⟩ | ⟨hy, e⟩
    · exact hsl kw (nk y)
    · exact (F.ec.names y sl' e).turn kw (nk y) fun o => ⟨rfl, id, fun ob q => (hs.2 _ (F.oo y sl' x _ e o hx o₀ hy)).trans q⟩
  · obtain ⟨a, b, v, o, q', r⟩ := F.cl y c p q
    exact ⟨a, b, v, o, (hs.2 c (Ne.symm (F.oc x _ hx o₀ y c p q))).trans q', r⟩
  · obtain ⟨s0, e0, o0⟩ := old y sl' e o; exact F.ol y s0 e0 o0
  · obtain ⟨s0, e0, o0⟩ := old y sl' e o; exact F.oc y s0 e0 o0
  · obtain ⟨s0, e0, o0⟩ := old y sl' e o
    obtain ⟨s1, e1, o1⟩ := old z sl'' e' o'
    exact F.oo y s0 z s1 e0 o0 e1 o1
  · obtain ⟨s0, e0, o0⟩ := old y sl' e o; exact F.zo y s0 e0 o0

theorem osa_self {A : Around} {s : Shared} {R : Result → Shared → Prop} {x C dx : Addr} {es : List DictEntry} {m : Nat} {name : Str} {tk : Tok} {v : Value} (K : ClsOk G C) (F : FieldOk G C name) (X : G.K.In s.heap) (hx : s.heap.get? x = some (instObj C dx)) (hd : s.heap.get? dx = some (dictOf es m))
    (hl : getL name es = some none) (hany : es.any (·.key.isStr name) = false) (hz : (putL name (PyData.keyHash w.params name) (.str name s.toks) v es).length ≤ 900)
    (h : ∀ h' tk t, h'.get? dx = some (dictOf (putL name (PyData.keyHash w.params name) (.str name t) v es) (putN name es m)) → Heap.SameBut dx s.heap h' → R (.ok (.ret .none)) { s with heap := h', toks := tk }) :
    codeAny (model prog w) A (.call (.builtin "object.__setattr__") ⟨[.ref x, .str name tk, v], []⟩) R s := by
  have I := inst_at hx hd
  refine osa_open X I K.over F.taker fun b => ?_
  obtain ⟨cd, hc, hd'⟩ := any_some K.dict
  refine wpAny_bind (wpAny_pure (wpAny_bind (wpAny_bind (wpAny_loadPart hx (wpAny_bind ((looks_clsIn X hc).here ?_))))))
  rw [hd']
  refine wpAny_pure (a := some dx) (wpAny_bind (wpAny_pure (wpAny_bind ?_)))
  unfold nsSet
  refine wpAny_bind (wpAny_bind (wpAny_askSetting (wpAny_pure (wpAny_bind (wpAny_mkText (wpAny_bind (wpAny_loadPart hd ?_)))))))
  have hr : es.any (·.refKey) = false := by
    unfold getL at hl
    split at hl
    · cases hl
    · split at hl
      · cases hl
      · rename_i q; exact Bool.eq_false_iff.mpr q
  have c : aRefKeyMayBeTheName name es.toArray = false := by
    rw [aRefKeyMayBeTheName_at, List.any_toArray, List.any_toArray, hany, hr]; rfl
  show wpAny _ _ (if aRefKeyMayBeTheName name es.toArray = true then _ else _) _ _ _
  rw [c, if_neg (by decide)]
  refine wpAny_updatePart hd ?_
  have D' : (s.heap.update dx (Obj.putName name (PyData.keyHash w.params name) (.str name s.toks) v)).get? dx = some (dictOf (putL name (PyData.keyHash w.params name) (.str name s.toks) v es) (putN name es m)) := by
    rw [← putName_dict]
    exact Heap.get?_update_self _ hd (by rw [putName_dict]; rfl)
  refine wpAny_bind (wpAny_lookBehind D' (pastItsLine_dict (by rw [List.size_toArray, sizeLine_eq]; omega)) ?_)
  exact wpAny_pure (h _ _ _ D' (Heap.SameBut.update ..))

theorem set_self {A : Around} {s : Shared} {Q : Unit → Shared → Prop} {E : Value → Shared → Prop} {x C dx : Addr} {es : List DictEntry} {m : Nat} {name : Str} {v : Value} (K : ClsOk G C) (F : FieldOk G C name) (X : G.K.In s.heap) (hx : s.heap.get? x = some (instObj C dx)) (hd : s.heap.get? dx = some (dictOf es m))
    (hl : getL name es = some none) (hany : es.any (·.key.isStr name) = false) (hz : ∀ t, (putL name (PyData.keyHash w.params name) (.str name t) v es).length ≤ 900)
    (h : ∀ h' tk t, h'.get? dx = some (dictOf (putL name (PyData.keyHash w.params name) (.str name t) v es) (putN name es m)) → Heap.SameBut dx s.heap h' → Q () { s with heap := h', toks := tk }) : wpAny (model prog w) A (setAttr (.ref x) name v) Q E s :=
  set_plain X (inst_at hx hd) K.set (osa_self (s := { s with toks := s.toks + 1 }) K F X hx hd hl hany (hz _) h)

theorem x1_setA {x name : Str} {p ap pos : Pos} {e : Expr} {a C : Addr} {fs : List (Str × PV)} {d : PV} (K : ClsOk G C) (F : FieldOk G C name) (hx : ρ.lookup x = some (.di (SelfT a C fs))) (he : EvT prog w G n sc ρ e d) (hn : fs.lookup name = none) (hz : fs.length < 800) (hd : (x == ("__debug__" : Str)) = false := by decide)
    (hs : ∀ env, swapsWith e (some (.Attribute (.Name x p) name ap)) pos.line env = pure false := by intro _; rfl) : Ex1 prog w G n sc ρ (.Assign [.Attribute (.Name x p) name ap] e pos) (To ((x, .di (SelfT a C (fs ++ [(name, d)]))) :: ρ)) := by
  intro A env W Z ad s Q E hA FF hQ
  refine plainObj_wpAny_Assign_Attribute (he A env W ad s _ E hA FF.ec fun v s₁ k r => ?_) (hs env)
  have F₁ := FF.keeps k.1
  obtain ⟨vx, o, N, hw, ho, es, m, rfl, ha, rfl, rf⟩ := F₁.ec.names x _ hx
  refine wpAny_Name (load_name (F₁.ec.scope ▸ F₁.ec.kind) N ?_) hd
  obtain ⟨g1, g2⟩ := (repF_get rf).2 hn
  refine set_self K F F₁.ec.ground.gr.X ha.1 ho g1 g2 (fun t => ?_) fun h' tk t D' sb => ?_
  · have := repF_len (repF_put (hs := PyData.keyHash w.params name) (t := t) r rf hn)
    rw [this, List.length_append]
    show fs.length + 1 ≤ 900
    omega
  · have F₂ := F₁.reown (sl := .di (SelfT a C (fs ++ [(name, d)]))) hx rfl hw sb ⟨_, D'⟩ rfl fun kw nk => ⟨_, _, nk _ N, hw, D', _, _, rfl, kw _ _ ha, rfl, (repF_put r rf hn).mono kw⟩
    refine hQ W ad _ .next .next { s₁ with heap := h', toks := tk } ⟨rfl, rfl⟩ F₂ ⟨fun b h => .inl h, fun b o hz e => ?_, k.2.1, k.2.2, fun a h => h⟩ .next
    exact (sb.2 b fun q => FF.zo x _ hx rfl (q ▸ hz (q ▸ hw))).trans (k.1 b o e)
end
end Mine
end

section
open PySem PySem.W PyProof.Rows
namespace Mine
section
variable {prog : Program} {w : World} {G : Gd} {n : Nat} {sc : Scope} {ρ : Store}

theorem FS.enterI {h h₁ : Heap} {W : Addr → Prop} {env : Env} {m : Str → Option Value} {self : Str} {x dx C : Addr} (hg : GB G h W) (hW : ∀ a, W a → ∃ o, h.get? a = some o) (k : ∀ b o, h.get? b = some o → h₁.get? b = some o) (hL : h.get? env.locals = none) (hn : h₁.Ns env.locals m)
    (hsc : env.scope = sc) (hk : sc.kind = .function) (hgl : env.globals = mainGlobals) (hb : env.builtins = builtinsNs) (hc : ∀ x ∈ sc.names, x.2 ≠ .cell ∧ x.2 ≠ .free) (hnm : ∀ y sl, ρ.lookup y = some sl → ∃ v d, sl = .im d ∧ sc.names.lookup y = some .local ∧ m y = some v ∧ Rep (HW h W) v d)
    (hs : sc.names.lookup self = some .local) (hm : m self = some (.ref x)) (nx : h.get? x = none) (nd : h.get? dx = none) (gx : h₁.get? x = some (instObj C dx)) (gd : h₁.get? dx = some (dictOf [] 0)) (xl : x ≠ env.locals) (dl : dx ≠ env.locals) (xd : x ≠ dx) :
    FS G sc env (fun a => (W a ∨ a = env.locals) ∨ a = dx) W (fun _ => dx) ((self, .di (SelfT x C [])) :: ρ) h₁ := by
  have ne : ∀ b o, h.get? b = some o → b ≠ env.locals ∧ b ≠ dx := fun b o e => ⟨fun q => (by rw [q, hL] at e; cases e), fun q => (by rw [q, nd] at e; cases e)⟩
  have kw : ∀ b o, HW h W b o → HW h₁ (fun a => (W a ∨ a = env.locals) ∨ a = dx) b o := fun b o q => ⟨k b o q.1, fun z => z.elim (fun z => z.elim q.2 (ne b o q.1).1) (ne b o q.1).2⟩
  have nocell : ∀ y : Str, env.kindOf y ≠ some .cell ∧ env.kindOf y ≠ some .free := fun y => by
    rw [lookup_kind hsc]
    exact ⟨fun e => (hc _ (lookup_mem e)).1 rfl, fun e => (hc _ (lookup_mem e)).2 rfl⟩
  have nW : ∀ a, h.get? a = none → ¬ W a := fun a e hw => by obtain ⟨o, q⟩ := hW a hw; rw [e] at q; cases q
  have hlk : ∀ y sl, List.lookup y ((self, Slt.di (SelfT x C [])) :: ρ) = some sl → (y = self ∧ sl = .di (SelfT x C [])) ∨ (y ≠ self ∧ ρ.lookup y = some sl) := fun y sl e => by
    rw [List.lookup_cons] at e
    by_cases hy : y = self
    · subst hy; simp at e; exact .inl ⟨rfl, e.symm⟩
    · have : (y == self) = false := beq_eq_false_iff_ne.mpr hy
      rw [this] at e; exact .inr ⟨hy, e⟩
  have own : ∀ y sl, List.lookup y ((self, Slt.di (SelfT x C [])) :: ρ) = some sl → sl.own = true → y = self := fun y sl e o => by
    rcases hlk y sl e with ⟨h, _⟩ | ⟨_, e⟩
    · exact h
    · obtain ⟨v, d, rfl, _⟩ := hnm y sl e; cases o
  refine ⟨⟨hsc, hk, hgl, hb, hg.mono kw, fun a ha => ?_, ⟨m, hn⟩, fun y sl e => ?_⟩, .inl (.inr rfl), fun y c p _ => absurd p (nocell y).1, fun y z c p _ _ _ => absurd p (nocell y).1, fun y => (nocell y).2, fun y p => absurd p (nocell y).1,
    fun y sl e o => dl, fun y sl e o z c p => absurd p (nocell z).1, fun y sl z sl' e o e' o' hyz => absurd ((own y sl e o).trans (own z sl' e' o').symm) hyz, fun a h => .inl (.inl h), nW _ hL, fun y c p _ => absurd p (nocell y).1, fun y sl e o => nW _ nd⟩
  · rcases ha with (ha | rfl) | rfl
    · obtain ⟨o, q⟩ := hW a ha; exact ⟨o, k _ _ q⟩
    · obtain ⟨o, _, _, q, _⟩ := hn; exact ⟨o, q⟩
    · exact ⟨_, gd⟩
  · rcases hlk y sl e with ⟨rfl, rfl⟩ | ⟨hy, e⟩
    · exact ⟨.ref x, _, .inl ⟨by rw [lookup_kind hsc]; exact hs, m, hn, hm⟩, .inr rfl, gd, [], 0, rfl, ⟨gx, fun z => z.elim (fun z => z.elim (nW _ nx) xl) xd⟩, rfl, .nil⟩
    · obtain ⟨v, d, rfl, hl, hv, r⟩ := hnm y sl e
      exact ⟨v, .inl ⟨by rw [lookup_kind hsc]; exact hl, m, hn, hv⟩, r.mono kw⟩

theorem cls_fn {C f : Addr} {params : Arguments} {body : List Stmt} {name self : Str} {names : List Str} {ds : List PV} {fs : List (Str × PV)} (D : DefAt G f name params body sc) (hm : makesIn G.K C = true) (hi : findIn G.K (.ref C) "__init__" = some (some (.ref f))) (hty : typeIn G.K (.ref f) = some (.type "function"))
    (hlen : names.length = ds.length) (hb : ∀ vs, vs.length = names.length + 1 → bindArgs (fnOf name D.qual params body sc D.dV D.kV D.doc D.pm D.an D.cdv D.ct) ⟨vs, []⟩ = pure ((self :: names).zip vs))
    (hself : sc.names.lookup self = some .local) (hloc : ∀ x ∈ names, sc.names.lookup x = some .local) (hnn : self ∉ names) (hc : ∀ x ∈ sc.names, x.2 ≠ .cell ∧ x.2 ≠ .free)
    (hbody : ∀ x, Ex prog w G n sc ((self, .di (SelfT x C [])) :: (argsOf names ds).reverse) body (fun ρ fl => fl = .next ∧ ρ.lookup self = some (.di (SelfT x C fs))))
    (hk : sc.kind = .function := by rfl) (hco : sc.isCoroutine = false := by rfl) (hgen : sc.isGenerator = false := by rfl) : Fn prog w G (n + 2) (.ref C) ds (.inst C fs) := by
  intro A W vs s Q E hA hG hW rs hQ
  have g := hG.gr
  have hvs : vs.length = names.length := by rw [rs.length, hlen]
  obtain ⟨hh, gg, dd, tt, os⟩ := s
  refine wpAny_call (make_core (makes_of g.X hm) (looks_findIn g.X hi) (fun z => bind_fn g.X z hty) (.inl rfl) ?_)
  have kk : ∀ b o, hh.get? b = some o → ((hh.push emptyDict).push (instObj C hh.objs.size)).get? b = some o := fun b o e => Heap.get?_push_of_some _ (Heap.get?_push_of_some _ e)
  have gr2 := g.keeps kk
  have gx : ((hh.push emptyDict).push (instObj C hh.objs.size)).get? (hh.objs.size + 1) = some (instObj C hh.objs.size) := by
    have := Heap.get?_push_size (hh.push emptyDict) (o := instObj C hh.objs.size) rfl
    rwa [Heap.size_push] at this
  have gd : ((hh.push emptyDict).push (instObj C hh.objs.size)).get? hh.objs.size = some (dictOf [] 0) := Heap.get?_push_of_some _ (Heap.get?_push_size _ rfl)
  have nx : hh.get? (hh.objs.size + 1) = none := Heap.get?_none_of_le (Nat.le_succ _)
  have nd : hh.get? hh.objs.size = none := fresh_get _
  have sz : ((hh.push emptyDict).push (instObj C hh.objs.size)).objs.size = hh.objs.size + 2 := by rw [Heap.size_push, Heap.size_push]
  have ud : (A.under (.builtin "type.__call__" ⟨.ref C :: vs, []⟩)).depth = A.depth + 1 := rfl
  have uu : (A.under (.builtin "type.__call__" ⟨.ref C :: vs, []⟩)).units = A.units + 1 := rfl
  have uh : (A.under (.builtin "type.__call__" ⟨.ref C :: vs, []⟩)).handled = A.handled := rfl
  generalize A.under (.builtin "type.__call__" ⟨.ref C :: vs, []⟩) = B at *
  refine codeAny_call_def (fd := fnOf name D.qual params body sc D.dV D.kV D.doc D.pm D.an D.cdv D.ct) (binds := (self :: names).zip (.ref (hh.objs.size + 1) :: vs)) (by have := hA.2.1; rw [ud]; omega) (gr2.X _ _ D.look) rfl gr2.T.nolimit (codeRec_of gr2.X D.code) rfl
    (BindsTo.of_eq (hb _ (by rw [List.length_cons, hvs]))) (fun x hx => (hc x hx).1) (fun x hx => ?_) (fun h₁ hn hk₁ => ?_) hco hgen hk
  · rcases List.mem_cons.mp (List.of_mem_zip hx).1 with h | h
    · rw [h]; exact hself
    · exact hloc _ h
  · have hL : hh.get? ((hh.push emptyDict).push (instObj C hh.objs.size)).objs.size = none := Heap.get?_none_of_le (by rw [sz]; omega)
    have hLs : (callEnv (fnOf name D.qual params body sc D.dV D.kV D.doc D.pm D.an D.cdv D.ct) ((hh.push emptyDict).push (instObj C hh.objs.size)).objs.size f).locals = hh.objs.size + 2 := sz
    have hx1 := hk₁ _ _ gx
    have hd1 := hk₁ _ _ gd
    have F : FS G sc (callEnv (fnOf name D.qual params body sc D.dV D.kV D.doc D.pm D.an D.cdv D.ct) ((hh.push emptyDict).push (instObj C hh.objs.size)).objs.size f) _ W (fun _ => hh.objs.size) ((self, .di (SelfT (hh.objs.size + 1) C [])) :: (argsOf names ds).reverse) h₁ :=
      FS.enterI (env := callEnv (fnOf name D.qual params body sc D.dV D.kV D.doc D.pm D.an D.cdv D.ct) ((hh.push emptyDict).push (instObj C hh.objs.size)).objs.size f) hG hW (fun b o e => hk₁ b o (kk b o e)) hL hn rfl hk rfl rfl hc (fun y sl e => by
        obtain ⟨v, d, rfl, h1, h2⟩ := (Al.zip rs).reverse.look e
        have hx : y ∈ names := (List.of_mem_zip (List.mem_reverse.mp (lookup_mem2 h1))).1
        refine ⟨v, d, rfl, hloc y hx, ?_, h2⟩
        show (((self, Value.ref (hh.objs.size + 1)) :: names.zip vs).reverse).lookup y = some v
        rw [List.reverse_cons, List.lookup_append, h1]; rfl) hself (by
        show (((self, Value.ref (hh.objs.size + 1)) :: names.zip vs).reverse).lookup self = _
        rw [List.reverse_cons, List.lookup_append]
        cases q : (names.zip vs).reverse.lookup self with
        | some v => exact absurd (List.of_mem_zip (List.mem_reverse.mp (lookup_mem2 q))).1 hnn
        | none => simp) nx nd hx1 hd1 (fun e => absurd (e.trans hLs) (Nat.ne_of_lt (Nat.lt_succ_self (hh.objs.size + 1)))) (fun e => absurd (e.trans hLs) (Nat.ne_of_lt (Nat.lt_add_of_pos_right (by decide : 0 < 2)))) (Nat.succ_ne_self _)
    refine hbody (hh.objs.size + 1) _ _ _ W (fun _ => hh.objs.size) _ _ _ ⟨uh.trans hA.1, by have := hA.2.1; show B.depth + 1 + n < _; omega, by have := hA.2.2; show B.units + 3 + 3 * n + 8 < _; omega⟩ F fun W' ad' ρ' fl f' s' hK F' o r => ?_
    obtain ⟨rfl, hself'⟩ := hK
    cases r with
    | next =>
      refine ⟨rfl, ?_⟩
      obtain ⟨v, ob, N, hw, ho, es, m, rfl, ha, rfl, rf⟩ := F'.ec.names self _ hself'
      have nW : ∀ a, hh.get? a = none → ¬ W a := fun a e hw => by obtain ⟨o, q⟩ := hW a hw; rw [e] at q; cases q
      refine hQ _ s' ⟨fun b ob e => o.keep b ob (fun hw => ?_) (hk₁ b ob (kk b ob e)), o.gens, o.os⟩ (.inst ⟨ha.1, nW _ nx⟩ ⟨ho, F'.zo self _ hself' rfl⟩ (rf.mono fun b ob x => ⟨x.1, fun hw => x.2 (o.up b (.inl (.inl hw)))⟩))
      rcases hw with (hw | hw) | hw
      · exact hw
      · rw [hw] at e
        exact absurd (hL.symm.trans e) (fun q => nomatch q)
      · rw [hw, nd] at e; cases e
end
end Mine
end

section
open PySem PySem.W PyProof.Rows
namespace Mine
section
variable {prog : Program} {w : World} {G : Gd} {n : Nat} {sc : Scope} {ρ : Store}

theorem ev_cattr {x name : Str} {p pos : Pos} {C : Addr} {mc v : Value} {d : PV} (hx : sc.names.lookup x = some .globalImplicit) (hf : GVal G x (.ref C)) (hr : readsIn G.K C mc = true) (e : findCls G.K (.ref C) mc name = some (.val v)) (hv : ∀ P, Rep P v d) (hd : (x == ("__debug__" : Str)) = false := by decide)
    (hbase : ∀ env, attributeBase (.Name x p) name env (eval (.Name x p) env) = eval (.Name x p) env := by intro _; rfl) (ht : ∀ o r, letTemporaryGo (.Name x p) o r = pure () := by intro _ _; rfl) : EvT prog w G n sc ρ (.Attribute (.Name x p) name pos) d := by
  intro A env W ad s Q E hA hE hQ
  rw [arm_eval_Attribute, hbase]
  refine wpAny_bind (ev_glob hx hf hd A env W ad s _ E hA hE fun v s₁ k r => wpAny_bind (wpAny_standAt (wpAny_bind (wpAny_holding ?_))))
  subst r
  refine cls_value (hE.keeps k.1).ground.gr.X hr e (handed_rep (hv fun _ _ => True)) ?_
  rw [ht]
  exact wpAny_pure (hQ _ _ (k.trans (Kp.tok ..)) (hv _))

theorem ev_methK {o e : Expr} {es : List Expr} {name : Str} {apos pos : Pos} {C f : Addr} {fs : List (Str × PV)} {ds : List PV} {d : PV} {pl : Env → Sem Bool} (K : ClsOk G C) (ho : EvT prog w G n sc ρ o (.inst C fs)) (he : EvEach prog w G n sc ρ (e :: es) ds) (hf : findIn G.K (.ref C) name = some (some (.ref f))) (hty : typeIn G.K (.ref f) = some (.type "function"))
    (hsh : fs.lookup name = none) (hk : keepIn G.K (.ref f) = true) (hfn : Fn prog w G n (.ref f) (.inst C fs :: ds) d)
    (he' : ∀ env, eval (.Call (.Attribute o name apos) (e :: es) [] pos) env = (do
      let ov ← eval o env
      standAt apos.atName
      let (f, first) ← holding [ov] (getMethod ov name (pl env))
      callWith pos f first (backTo pos (starEach (e :: es) env)) (backToKw pos (keywordEach [] env))) := by intro _; rfl)
    (ns : NS e := by intro _ _; rfl) (hpl : ∀ env, (backTo pos (starEach es env)).any (·.1) = false := by intro _; rfl) : EvT prog w G n sc ρ (.Call (.Attribute o name apos) (e :: es) [] pos) d := by
  intro A env W ad s Q E hA hE hQ
  refine methodCall_KW (pl := pl env) (ho A env W ad s _ E hA hE fun v s₁ k₁ r₁ => ?_) (he' env)
  obtain ⟨a, dx, es', m, rfl, ha, hd, rf⟩ : ∃ a dx es' m, v = .ref a ∧ HW s₁.heap W a (instObj C dx) ∧ HW s₁.heap W dx (dictOf es' m) ∧ RepF (HW s₁.heap W) es' fs := by
    cases r₁ with
    | inst ha hd rf => exact ⟨_, _, _, _, rfl, ha, hd, rf⟩
  have hX := (hE.keeps k₁.1).ground.gr.X
  have g := ((repF_get rf).2 hsh).1
  refine method_fn hX (inst_at ha.1 hd.1) K.get K.noget hf hty (by show (lookIn name (dictOf es' m)).map _ = _; rw [lookIn_dict, g]; rfl) ?_
  have hr : Rep (HW s₁.heap W) (.ref a) (.inst C fs) := .inst ha hd rf
  refine callWith_each (first := [.ref a]) (Callable.own hk) hA (hE.keeps k₁.1) he (fun vs s₂ k₂ rs => ?_) ns hpl
  refine hfn A W (.ref a :: vs) s₂ Q E hA (hE.ground.mono ((k₁.trans k₂).hw)) (fun b hb => let ⟨o, q⟩ := hE.live b hb; ⟨o, (k₁.trans k₂).1 _ _ q⟩) (.cons (hr.mono k₂.hw) rs) fun v' s' k' r' => hQ v' s' ((k₁.trans k₂).trans k') r'

theorem x1_three {x y z : Str} {px py pz : Pos} {e : Expr} {pos : Pos} {k : Int} {ρ₁ ρ₂ ρ₃ : Store} (he : EvT prog w G n sc ρ e (.int k)) (h1 : bindN sc x (.int k) ρ = some ρ₁) (h2 : bindN sc y (.int k) ρ₁ = some ρ₂) (h3 : bindN sc z (.int k) ρ₂ = some ρ₃)
    (hw : ∀ env, swappedStores [.Name x px, .Name y py, .Name z pz] e env = pure none := by intro _; rfl) : Ex1 prog w G n sc ρ (.Assign [.Name x px, .Name y py, .Name z pz] e pos) (To ρ₃) := by
  intro A env W Z ad s Q E hA F hQ
  refine wpAny_Assign_three (he A env W ad s _ E hA F.ec fun v s₁ k₁ r => ?_) rfl (hw env)
  obtain ⟨t, rfl⟩ := rep_int r
  refine wpAny_assign_Name (store_bind (F.keeps k₁.1) h1 (.int _ _) fun h₂ t₂ F₂ o₂ => ?_)
  refine wpAny_assign_Name (store_bind (s := { s₁ with heap := h₂, toks := t₂ }) F₂ h2 (.int _ _) fun h₃ t₃ F₃ o₃ => ?_)
  refine wpAny_assign_Name (store_bind (s := { s₁ with heap := h₃, toks := t₃ }) F₃ h3 (.int _ _) fun h₄ t₄ F₄ o₄ => ?_)
  exact hQ W ad _ .next .next _ ⟨rfl, rfl⟩ F₄ ((Off.ofKp k₁).trans (o₂.trans (o₃.trans o₄))) .next
end

structure Ws where
  cnt : List Int
  b : Nat
  n : Nat
  nt : Nat
noncomputable def growC (c : List Int) (b : Nat) : List Int := if c.length ≤ b then c ++ List.replicate (b - c.length + 1) 0 else c
noncomputable def wsStep (q : Ws) (c : Nat) : Ws := if c = 32 then ⟨q.cnt, q.b + 1, q.n + 1, q.nt⟩ else ⟨(growC q.cnt q.b).set q.b ((growC q.cnt q.b).getD q.b 0 + 1), 0, q.n + 1, q.nt + 1⟩
noncomputable def wsOf (l : List Nat) : Ws := l.foldl wsStep ⟨[], 0, 0, 0⟩
theorem wsOf_succ {l : List Nat} {i c : Nat} (h : l[i]? = some c) : wsOf (l.take (i + 1)) = wsStep (wsOf (l.take i)) c := by
  unfold wsOf
  rw [List.take_add_one, h, List.foldl_append]
  rfl
noncomputable def wsFields (x : Str) (q : Ws) : List (Str × PV) := [("raw", .str x), ("n", .int q.n), ("nt", .int q.nt), ("norm", .tuple [.tuple (q.cnt.map PV.int), .int q.b]), ("is_simple", .bool (decide (q.cnt.length ≤ 1)))]
end Mine
end

section
open PySem PySem.W PyProof.Rows
namespace Mine
noncomputable def fnAt (i : Nat) : Stmt := (bodyOf (stAt 7)).getD i (.Pass default)

theorem wsStep_sp (q : Ws) : wsStep q 32 = ⟨q.cnt, q.b + 1, q.n + 1, q.nt⟩ := rfl
theorem growC_len (c : List Int) (b : Nat) : b < (growC c b).length ∧ (growC c b).length ≤ max c.length (b + 1) := by
  unfold growC
  split
  · rename_i h
    rw [List.length_append, List.length_replicate, ← Nat.add_assoc, Nat.add_sub_cancel' h]
    exact ⟨Nat.lt_succ_self b, Nat.le_max_right _ _⟩
  · rename_i h
    exact ⟨Nat.lt_of_not_le h, Nat.le_max_left _ _⟩
theorem ws_bound {l : List Nat} : ∀ i, i ≤ l.length → (wsOf (l.take i)).b ≤ i ∧ (wsOf (l.take i)).cnt.length ≤ i
  | 0, _ => ⟨Nat.le_refl _, Nat.le_refl _⟩
  | i + 1, h => by
    obtain ⟨h1, h2⟩ := ws_bound (l := l) i (Nat.le_of_succ_le h)
    rw [wsOf_succ (List.getElem?_eq_getElem (show i < l.length from h))]
    generalize wsOf (l.take i) = q at *
    unfold wsStep
    split
    · exact ⟨Nat.succ_le_succ h1, Nat.le_succ_of_le h2⟩
    · refine ⟨Nat.zero_le _, ?_⟩
      show ((growC q.cnt q.b).set _ _).length ≤ _
      rw [List.length_set]
      exact Nat.le_trans (growC_len q.cnt q.b).2 (Nat.max_le.mpr ⟨Nat.le_succ_of_le h2, Nat.succ_le_succ h1⟩)
theorem repL_zero : ∀ k, repL [PV.int 0] k = (List.replicate k (0 : Int)).map PV.int
  | 0 => rfl
  | k + 1 => by rw [repL, repL_zero k, List.replicate_succ', List.map_append]; rfl
theorem tab_eq : ((⟨#[9]⟩ : Str) == ("\t" : Str)) = true ∧ ((⟨#[9]⟩ : Str) == (" " : Str)) = false ∧ ((⟨#[120]⟩ : Str) == (" " : Str)) = false ∧ ((⟨#[120]⟩ : Str) == ("\t" : Str)) = false := by decide +kernel

structure WsCls (G : Gd) (C : Addr) (mc : Value) where
  K : ClsOk G C
  raw : FieldOk G C "raw"
  n : FieldOk G C "n"
  nt : FieldOk G C "nt"
  norm : FieldOk G C "norm"
  simple : FieldOk G C "is_simple"
  glob : GVal G "Whitespace" (.ref C)
  reads : readsIn G.K C mc = true
  tS : Tok
  tT : Tok
  S : findCls G.K (.ref C) mc "S" = some (.val (.str " " tS))
  T : findCls G.K (.ref C) mc "T" = some (.val (.str "\t" tT))

noncomputable def cW (a C : Addr) (x : Str) (q : Ws) : Store := [("self", .di (SelfT a C [("raw", .str x)])), im "S" (.str " "), im "T" (.str "\t"), li "count" (q.cnt.map PV.int), im "b" (.int q.b), im "n" (.int q.n), im "nt" (.int q.nt)]
section
variable {prog : Program} {w : World} {G : Gd} {n : Nat}
noncomputable abbrev scW : Scope := scopeOf (fnAt 1)

theorem ws_sp {a C : Addr} {x : Str} {q : Ws} : Ex prog w G n scW (im "ch" (.str ⟨#[32]⟩) :: cW a C x q) (match fnAt 1 with | .FunctionDef _ _ (_ :: _ :: _ :: _ :: .For _ _ b _ _ :: _) _ _ _ _ _ _ _ => b | _ => []) (fun ρ fl => fl = .next ∧ Cov (cW a C x (wsStep q 32)) ρ) := by
  refine ex_last (x1_if (c := true) (eb_of (eb_eqs (ev_name rfl) (ev_name rfl)) (by decide +kernel)) (fun _ => ?_) fun h => nomatch h)
  refine ex_seq (x1_assign (d := .int ((q.n + 1 : Nat) : Int)) (ev_of (ev_add (ev_name rfl) ev_int) (by push_cast; rfl)) rfl) ?_
  refine ex_seq (x1_assign (d := .int ((q.b + 1 : Nat) : Int)) (ev_of (ev_add (ev_name rfl) ev_int) (by push_cast; rfl)) rfl) ?_
  exact ex_nil ⟨rfl, rfl, rfl, rfl, rfl, rfl, rfl, rfl, trivial⟩
theorem lo62 (i : Nat) : -(2 ^ 62 : Int) ≤ (i : Int) := by omega
theorem hi62 {i : Nat} (h : i ≤ 10000) : (i : Int) < 2 ^ 62 := by omega
theorem hi63 {i : Nat} (h : i ≤ 10000) : (i : Int) < 2 ^ 63 := by omega
theorem tab_lo {m b : Nat} (h : m ≤ b) : 0 ≤ (b : Int) - m + 1 := by omega
theorem tab_hi {m b : Nat} (h : b ≤ 2000) : (b : Int) - m + 1 ≤ 2001 := by omega
theorem tab_len {m b : Nat} (h : b ≤ 2000) (h2 : m ≤ 2000) : m + ((b : Int) - m + 1).toNat ≤ 10000 := by omega
theorem map_room {l : List Int} {m : Nat} (h : l.length ≤ m) (hm : m < 2 ^ 60) : (l.map PV.int).length < 2 ^ 60 := by rw [List.length_map]; exact Nat.lt_of_le_of_lt h hm
theorem ws_tab (hlen : GVal G "len" (.builtin "len")) {a C : Addr} {x : Str} {q : Ws} (h1 : q.b ≤ 2000) (h2 : q.cnt.length ≤ 2000) : Ex prog w G n scW (im "ch" (.str ⟨#[9]⟩) :: cW a C x q) (match fnAt 1 with | .FunctionDef _ _ (_ :: _ :: _ :: _ :: .For _ _ b _ _ :: _) _ _ _ _ _ _ _ => b | _ => []) (fun ρ fl => fl = .next ∧ Cov (cW a C x (wsStep q 9)) ρ) := by
  have hsz : (10000 : Nat) ≤ sizeLine := by rw [sizeLine_eq]; decide
  refine ex_last (x1_if (c := false) (eb_of (eb_eqs (ev_name rfl) (ev_name rfl)) tab_eq.2.1) (fun h => nomatch h) fun _ => ?_)
  refine ex_last (x1_if (c := true) (eb_of (eb_eqs (ev_name rfl) (ev_name rfl)) tab_eq.1) (fun _ => ?_) fun h => nomatch h)
  refine ex_seq (x1_assign (d := .int ((q.n + 1 : Nat) : Int)) (ev_of (ev_add (ev_name rfl) ev_int) (by push_cast; rfl)) rfl) ?_
  refine ex_seq (x1_assign (d := .int ((q.nt + 1 : Nat) : Int)) (ev_of (ev_add (ev_name rfl) ev_int) (by push_cast; rfl)) rfl) ?_
  have g := growC_len q.cnt q.b
  refine ex_consC (canon := [("self", .di (SelfT a C [("raw", .str x)])), im "S" (.str " "), im "T" (.str "\t"), li "count" ((growC q.cnt q.b).map PV.int), im "b" (.int q.b), im "n" (.int (q.n + 1 : Nat)), im "nt" (.int (q.nt + 1 : Nat))]) (x1_if (c := decide (q.cnt.length ≤ q.b)) (eb_cmpi (ev_name rfl) (ev_len rfl hlen (ev_nameL rfl) (map_room h2 (by decide))) ?_) (fun hc => ?_) fun hc => ?_) ?_
  · show some (decide _) = some _
    congr 1
    rw [List.length_map]
    exact decide_eq_decide.mpr Int.ofNat_le
  · have hc' := of_decide_eq_true hc
    refine ex_seq (x1_assignF (ev_catL (ev_nameL rfl) (EvF.toL (ev_repL (k := (q.b : Int) - q.cnt.length + 1) (EvF.toL (ev_list (each_cons ev_int each_nil) (Nat.le_trans (by decide : (1 : Nat) ≤ 10000) hsz))) (ev_of (ev_add (ev_sub (ev_name rfl) (ev_len rfl hlen (ev_nameL rfl) (map_room h2 (by decide)))) ev_int) (by rw [List.length_map])) (by intro h; cases h) (tab_lo hc') (Int.lt_of_le_of_lt (tab_hi h1) (by decide)) (by show 1 * _ ≤ _; rw [Nat.one_mul]; exact Nat.le_trans (Nat.le_add_left _ _) (Nat.le_trans (tab_len (m := q.cnt.length) h1 h2) (by decide))))) ?_) (.inl rfl)) (ex_nil ⟨rfl, rfl, rfl, rfl, ?_, rfl, rfl, rfl, trivial⟩)
    · rw [List.length_map, repL_zero, List.length_map, List.length_replicate]; exact Nat.le_trans (tab_len h1 h2) hsz
    · show some (Slt.li _) = some (Slt.li _)
      rw [repL_zero, ← List.map_append]
      unfold growC
      rw [if_pos hc']
      congr 5
      omega
  · have hc' := of_decide_eq_false hc
    refine ex_nil ⟨rfl, rfl, rfl, rfl, ?_, rfl, rfl, rfl, trivial⟩
    show some (Slt.li _) = some (Slt.li _)
    unfold growC
    rw [if_neg hc']
  · refine ex_seq (x1_setL (k := (q.b : Int)) rfl (ev_add (ev_item (k := (q.b : Int)) (ev_nameL rfl) (ev_name rfl) (Int.natCast_nonneg _) (getD_map g.1) (hi63 (Nat.le_trans h1 (by decide)))) ev_int) (ev_name rfl) (Int.natCast_nonneg _) (by rw [Int.toNat_natCast, List.length_map]; exact g.1) (hi63 (Nat.le_trans h1 (by decide)))) ?_
    refine ex_seq (x1_assign (d := .int ((0 : Nat) : Int)) (ev_of ev_int rfl) rfl) (ex_nil ⟨rfl, rfl, rfl, rfl, ?_, rfl, rfl, rfl, trivial⟩)
    show some (Slt.li _) = some (Slt.li _)
    congr 2
    rw [Int.toNat_natCast]
    show List.set (List.map PV.int (growC q.cnt q.b)) q.b (PV.int ((growC q.cnt q.b).getD q.b 0 + 1)) = List.map PV.int ((growC q.cnt q.b).set q.b ((growC q.cnt q.b).getD q.b 0 + 1))
    rw [List.map_set]

theorem ws_x {a C : Addr} {x : Str} {q : Ws} {K : Store → FlowP → Prop} (hK : ∀ ρ, Cov (cW a C x q) ρ → K ρ .brk) : Ex prog w G n scW (im "ch" (.str ⟨#[120]⟩) :: cW a C x q) (match fnAt 1 with | .FunctionDef _ _ (_ :: _ :: _ :: _ :: .For _ _ b _ _ :: _) _ _ _ _ _ _ _ => b | _ => []) K := by
  refine ex_last (x1_if (c := false) (eb_of (eb_eqs (ev_name rfl) (ev_name rfl)) tab_eq.2.2.1) (fun h => nomatch h) fun _ => ?_)
  refine ex_last (x1_if (c := false) (eb_of (eb_eqs (ev_name rfl) (ev_name rfl)) tab_eq.2.2.2) (fun h => nomatch h) fun _ => ?_)
  refine ex_last (x1_brk.mono fun ρ' fl h => ?_)
  obtain ⟨rfl, rfl⟩ := h
  exact hK _ ⟨rfl, rfl, rfl, rfl, rfl, rfl, rfl, trivial⟩

theorem ws_for (hlen : GVal G "len" (.builtin "len")) {a C mc} (H : WsCls G C mc) {x : Str} {pre post : List Nat} (hx : x.cps.toList = pre ++ 120 :: post) (hp : ∀ c ∈ pre, c = 32 ∨ c = 9) (hl : pre.length ≤ 1000) {ρ : Store} (h0 : Cov (cW a C x ⟨[], 0, 0, 0⟩) ρ) :
    Ex1 prog w G n scW ρ (match fnAt 1 with | .FunctionDef _ _ (_ :: _ :: _ :: _ :: b :: _) _ _ _ _ _ _ _ => b | s => s) (fun ρ fl => fl = .next ∧ Cov (cW a C x (wsOf pre)) ρ) := by
  have hds : (x.cps.toList.map fun c => PV.str ⟨#[c]⟩).length = pre.length + 1 + post.length := by rw [List.length_map, hx, List.length_append, List.length_cons, Nat.add_assoc, Nat.add_comm 1]
  refine x1_for (fun i ρ => i ≤ pre.length ∧ Cov (cW a C x (wsOf (pre.take i))) ρ) (it_str (x := x) (ev_attrS H.K H.raw (a := a) (C := C) (fs := [("raw", .str x)]) (h0.1) rfl)) ⟨Nat.zero_le _, h0⟩ (fun i d ρ₁ hd hj => ?_) (fun ρ₁ hj => ?_)
  · obtain ⟨hi, hcov⟩ := hj
    rw [List.getElem?_map, hx] at hd
    obtain ⟨c, hc, rfl⟩ := Option.map_eq_some_iff.mp hd
    obtain ⟨ρ', hb, hlk⟩ := bindT_cov (sc := scW) (t := .Name "ch" default) (d := .str ⟨#[c]⟩) hcov rfl
    refine ⟨ρ', hb, ?_⟩
    have bd := ws_bound (l := pre) i hi
    have hi' : i ≤ 2000 := Nat.le_trans hi (Nat.le_trans hl (by decide))
    by_cases hlt : i < pre.length
    · rw [List.getElem?_append_left hlt] at hc
      have hs := wsOf_succ hc
      rcases hp c (List.mem_of_getElem? hc) with rfl | rfl
      · refine Ex.sub ((ws_sp (q := wsOf (pre.take i))).mono fun ρ₂ fl h => ?_) hlk
        obtain ⟨rfl, h⟩ := h
        rw [← hs] at h
        exact ⟨hlt, h⟩
      · refine Ex.sub ((ws_tab hlen (q := wsOf (pre.take i)) (Nat.le_trans bd.1 hi') (Nat.le_trans bd.2 hi')).mono fun ρ₂ fl h => ?_) hlk
        obtain ⟨rfl, h⟩ := h
        rw [← hs] at h
        exact ⟨hlt, h⟩
    · have he : i = pre.length := i_done hi hlt
      subst he
      rw [List.getElem?_append_right (Nat.le_refl _), Nat.sub_self] at hc
      have hc : 120 = c := by simpa using hc
      subst hc
      rw [List.take_length] at hlk
      exact Ex.sub (ws_x fun ρ₂ h => ⟨rfl, h⟩) hlk
  · have := hj.1
    rw [hds] at this
    omega
end
end Mine
end

section
open PySem PySem.W PyProof.Rows
namespace Mine
section
variable {prog : Program} {w : World} {G : Gd} {n : Nat}

theorem ws_head {a C mc} (H : WsCls G C mc) {x : Str} {K : Store → FlowP → Prop} {rest : List Stmt} (hr : ∀ ρ, Cov (cW a C x ⟨[], 0, 0, 0⟩) ρ → Ex prog w G n scW ρ rest K) :
    Ex prog w G n scW [("self", .di (SelfT a C [])), im "ws" (.str x)] ((match fnAt 1 with | .FunctionDef _ _ (p :: q :: r :: s :: _) _ _ _ _ _ _ _ => [p, q, r, s] | _ => []) ++ rest) K := by
  refine ex_seq (x1_setA H.K H.raw rfl (ev_name rfl) rfl (by decide)) ?_
  refine ex_seq (x1_swap2 (ev_tuple (each_cons (ev_cattr rfl H.glob H.reads H.S (fun _ => .str _ _)) (each_cons (ev_cattr rfl H.glob H.reads H.T (fun _ => .str _ _)) each_nil)) (by rw [sizeLine_eq]; show (2 : Nat) ≤ _; decide)) rfl rfl (fun _ => rfl) (fun env h => by unfold swappedStores Env.blockKind Env.kindOf; rw [h]; rfl)) ?_
  refine ex_seq (x1_assignF (ev_list each_nil) (.inl rfl)) ?_
  refine ex_seq (x1_three ev_int rfl rfl rfl) ?_
  exact hr _ ⟨rfl, rfl, rfl, rfl, rfl, rfl, rfl, trivial⟩
theorem ws_tail (hlen : GVal G "len" (.builtin "len")) (htup : GVal G "tuple" (.type "tuple")) {a C mc} (H : WsCls G C mc) {x : Str} {q : Ws} (hq : q.cnt.length ≤ 2000) :
    Ex prog w G n scW (cW a C x q) (match fnAt 1 with | .FunctionDef _ _ (_ :: _ :: _ :: _ :: _ :: b) _ _ _ _ _ _ _ => b | _ => []) (fun ρ fl => fl = .next ∧ ρ.lookup ("self" : Str) = some (Slt.di (SelfT a C (wsFields x q)))) := by
  have hsz : (10000 : Nat) ≤ sizeLine := by rw [sizeLine_eq]; decide
  refine ex_seq (x1_setA H.K H.n rfl (ev_name rfl) rfl (by show (1 : Nat) < _; decide)) ?_
  refine ex_seq (x1_setA H.K H.nt rfl (ev_name rfl) rfl (by show (2 : Nat) < _; decide)) ?_
  refine ex_seq (x1_setA H.K H.norm rfl (ev_tuple (each_cons (ev_tupOf rfl htup (ev_nameL rfl) (by rw [List.length_map]; exact Nat.le_trans hq (Nat.le_trans (by decide) hsz))) (each_cons (ev_name rfl) each_nil)) two_line) rfl (by show (3 : Nat) < _; decide)) ?_
  refine ex_seq (x1_setA (d := .bool (decide (q.cnt.length ≤ 1))) H.K H.simple rfl (ev_cmpi (ev_len rfl hlen (ev_nameL rfl) (map_room hq (by decide))) ev_int ?_) rfl (by show (4 : Nat) < _; decide)) (ex_nil ⟨rfl, rfl⟩)
  show some (decide _) = some _
  congr 1
  rw [List.length_map]
  exact decide_eq_decide.mpr (by omega)
theorem ws_split : ∃ b c, bodyOf (fnAt 1) = (match fnAt 1 with | .FunctionDef _ _ (p :: q :: r :: s :: _) _ _ _ _ _ _ _ => [p, q, r, s] | _ => []) ++ b :: c ∧ b = (match fnAt 1 with | .FunctionDef _ _ (_ :: _ :: _ :: _ :: b :: _) _ _ _ _ _ _ _ => b | s => s) ∧ c = (match fnAt 1 with | .FunctionDef _ _ (_ :: _ :: _ :: _ :: _ :: b) _ _ _ _ _ _ _ => b | _ => []) := ⟨_, _, rfl, rfl, rfl⟩
theorem ws_init (hlen : GVal G "len" (.builtin "len")) (htup : GVal G "tuple" (.type "tuple")) {C mc} (H : WsCls G C mc) {x : Str} {pre post : List Nat} (hx : x.cps.toList = pre ++ 120 :: post) (hp : ∀ c ∈ pre, c = 32 ∨ c = 9) (hl : pre.length ≤ 1000) (a : Addr) :
    Ex prog w G n scW [("self", .di (SelfT a C [])), im "ws" (.str x)] (bodyOf (fnAt 1)) (fun ρ fl => fl = .next ∧ ρ.lookup ("self" : Str) = some (Slt.di (SelfT a C (wsFields x (wsOf pre))))) := by
  obtain ⟨b, c, e, eb, ec⟩ := ws_split
  rw [e]
  refine ws_head H fun ρ h0 => ?_
  have E2 := ws_for (prog := prog) (w := w) (n := n) hlen H hx hp hl h0
  have hq := (ws_bound (l := pre) pre.length (Nat.le_refl _)).2
  rw [List.take_length] at hq
  have E3 := ws_tail (prog := prog) (w := w) (n := n) (a := a) hlen htup H (x := x) (q := wsOf pre) (Nat.le_trans hq (Nat.le_trans hl (by decide)))
  have E2' : Ex1 prog w G n scW ρ b (fun ρ fl => fl = .next ∧ Cov (cW a C x (wsOf pre)) ρ) := by rw [eb]; exact E2
  have E3' : Ex prog w G n scW (cW a C x (wsOf pre)) c (fun ρ fl => fl = .next ∧ ρ.lookup ("self" : Str) = some (Slt.di (SelfT a C (wsFields x (wsOf pre))))) := by rw [ec]; exact E3
  exact ex_consC E2' E3'

noncomputable def ilOf (cnt : List Int) (size : Nat) : Nat → Int
  | 0 => 0
  | k + 1 => ilOf cnt size k + (((size : Int) + k).fdiv size) * cnt.getD (size + k) 0
noncomputable def levelOf (q : Ws) (size : Nat) : Int := (q.b : Int) + size * (ilOf q.cnt size (q.cnt.length - size) + q.nt)
theorem level_body (hlen : GVal G "len" (.builtin "len")) (hr : GVal G "range" (.type "range")) {C mc} (H : WsCls G C mc) {x : Str} {q : Ws} {size : Nat} (hs : 0 < size) (hs2 : size ≤ 900) (hq : q.cnt.length ≤ 900) :
    Ex prog w G n (scopeOf (fnAt 3)) [im "tabsize" (.int size), im "self" (.inst C (wsFields x q))] (bodyOf (fnAt 3)) (fun _ fl => fl = .ret (.int (levelOf q size))) := by
  refine ex_seq (x1_unpack (ds := [.tuple (q.cnt.map PV.int), .int q.b]) (ev_attr H.K H.norm (ev_name rfl) rfl) rfl) ?_
  refine ex_seq (x1_assign ev_int rfl) ?_
  have hlen2 : (intsFrom (size : Int) ((q.cnt.length : Int) - size).toNat).length = q.cnt.length - size := by rw [intsFrom_len, Int.toNat_sub]
  refine ex_consC (x1_forK (canon := fun k => [im "il" (.int (ilOf q.cnt size k)), im "count" (.tuple (q.cnt.map PV.int)), im "trailing" (.int q.b), im "tabsize" (.int size), im "self" (.inst C (wsFields x q))]) (it_range2 (a := (size : Int)) (b := (q.cnt.length : Int)) rfl hr (ev_name rfl) (ev_of (ev_lenT rfl hlen (ev_name rfl) (map_room hq (by decide))) (by rw [List.length_map])) (lo62 _) (hi62 (Nat.le_trans hs2 (by decide))) (lo62 _) (hi62 (Nat.le_trans hq (by decide)))) ⟨rfl, rfl, rfl, rfl, rfl, trivial⟩ fun k d hd => ?_) ?_
  · have hk : k < ((q.cnt.length : Int) - size).toNat := by have := (List.getElem?_eq_some_iff.mp hd).1; rwa [intsFrom_len] at this
    rw [intsFrom_get _ _ _ hk] at hd
    cases hd
    refine ⟨_, rfl, ?_⟩
    rw [Int.toNat_sub] at hk
    have hk2 : size + k < q.cnt.length := Nat.add_lt_of_lt_sub' hk
    have hz : (size : Int) ≠ 0 := fun h => Nat.ne_of_gt hs (Int.ofNat_eq_zero.mp h)
    refine ex_seq (x1_assign (ev_add (ev_name rfl) (ev_mul (ev_fdiv (ev_name rfl) (ev_name rfl) hz (Nat.lt_of_le_of_lt hs2 (by decide))) (ev_itemT (k := (size : Int) + k) (ev_name rfl) (ev_name rfl) (Int.natCast_nonneg (size + k)) (getD_map hk2) (hi63 (Nat.le_trans (Nat.le_of_lt hk2) (Nat.le_trans hq (by decide))))) (IntMulOk.of_left (bits_small ?_)))) rfl) (ex_nil ⟨rfl, rfl, rfl, rfl, rfl, rfl, trivial⟩)
    rw [Int.fdiv_eq_ediv_of_nonneg _ (Int.natCast_nonneg size)]
    exact Nat.lt_of_le_of_lt (Nat.div_le_self (size + k) size) (Nat.lt_trans hk2 (Nat.lt_of_le_of_lt hq (by decide)))
  · rw [hlen2]
    refine ex_ret (ev_add (ev_name rfl) (ev_mul (ev_name rfl) (ev_add (ev_name rfl) (ev_attr H.K H.nt (ev_name rfl) rfl)) (IntMulOk.of_left (bits_small (Nat.lt_of_le_of_lt hs2 (by decide))))))
end
end Mine
end

section
open PySem PySem.W PyProof.Rows
namespace Mine
inductive KV : List (Str × Value) → List (Str × Int) → Prop
  | nil : KV [] []
  | cons {k : Str} {i : Int} {t : Tok} {r : List (Str × Value)} {s : List (Str × Int)} : KV r s → KV ((k, .int i t) :: r) ((k, i) :: s)
theorem KV.append {r r' : List (Str × Value)} {s s' : List (Str × Int)} (a : KV r s) (b : KV r' s') : KV (r ++ r') (s ++ s') := by
  induction a with
  | nil => exact b
  | cons _ ih => exact .cons ih
theorem KV.length {r : List (Str × Value)} {s : List (Str × Int)} (a : KV r s) : r.length = s.length := by
  induction a with
  | nil => rfl
  | cons _ ih => rw [List.length_cons, List.length_cons, ih]
theorem KV.any {r : List (Str × Value)} {s : List (Str × Int)} (a : KV r s) (k : Str) : (r.any fun kv => decide (kv.1 = k)) = s.any fun kv => decide (kv.1 = k) := by
  induction a with
  | nil => rfl
  | cons _ ih => rw [List.any_cons, List.any_cons, ih]
theorem KV.value {r : List (Str × Value)} {s : List (Str × Int)} (a : KV r s) {k : Str} {i : Int} (h : (s.find? fun kv => decide (kv.1 = k)).map (·.2) = some i) : ∃ t, valueAt r k = some (.int i t) := by
  induction a with
  | nil => cases h
  | cons a ih =>
    rename_i k' i' t r s
    unfold valueAt
    rw [List.find?_cons] at h ⊢
    dsimp only at h ⊢
    cases hk : decide (k' = k) with
    | true => rw [hk] at h; cases h; exact ⟨t, rfl⟩
    | false => rw [hk] at h; exact ih h

section
variable (prog : Program) (w : World)
noncomputable def DictT (kvs : List (Str × Int)) : OwT := ⟨fun _ v a o => v = .ref a ∧ (a == sysModules) = false ∧ ∃ kv, o.IsDictOf (strKind prog w) kv ∧ KV kv kvs, fun _ h => h⟩
noncomputable def DictR (kvs : List (Str × Int)) (_ : Addr → Prop) (_ h' : Heap) (v : Value) : Prop := ∃ a kv, v = .ref a ∧ (a == sysModules) = false ∧ h'.DictOf (strKind prog w) a kv ∧ KV kv kvs
end
section
variable {prog : Program} {w : World} {G : Gd} {n : Nat} {sc : Scope} {ρ : Store}
theorem ev_nameD {x : Str} {pos : Pos} {kvs : List (Str × Int)} (h : ρ.lookup x = some (.di (DictT prog w kvs))) (hd : (x == ("__debug__" : Str)) = false := by decide) : Ev prog w G n sc ρ (.Name x pos) (DictR prog w kvs) :=
  fun A env W ad s Q E _ hE hQ => by
    obtain ⟨v, o, N, _, ho, rfl, hs, kv, hd', hk⟩ := hE.names x _ h
    exact wpAny_Name (load_name (hE.scope ▸ hE.kind) N (hQ _ s (Kp.refl s) ⟨_, kv, rfl, hs, Heap.dictOf_iff.mpr ⟨o, ho, hd'⟩, hk⟩)) hd

theorem hits_same {A : Around} {s : Shared} {kb : List (Str × Value)} {sb : List (Str × Int)} (hb : KV kb sb) : ∀ {ka : List (Str × Value)} {sa : List (Str × Int)}, KV ka sa → (∀ p ∈ sa, (sb.find? fun kv => decide (kv.1 = p.1)).map (·.2) = some p.2) → KeqHits A s kb ka true
  | _, _, .nil, _ => .nil
  | _, _, .cons (k := k) (i := i) (t := t) a, h => by
    obtain ⟨u, hu⟩ := hb.value (h (k, i) (.head _))
    have := KeqHits.hit (A := A) (s := s) (v := .int i t) hu (SeqAt.EqAt.int_int i t i u) (hits_same hb a fun p hp => h p (.tail _ hp))
    simpa using this
theorem eb_neD {l r : Expr} {pos : Pos} {sa sb : List (Str × Int)} (hl : Ev prog w G n sc ρ l (DictR prog w sa)) (hr : Ev prog w G n sc ρ r (DictR prog w sb)) (hlen : sa.length = sb.length) (hall : ∀ p ∈ sa, (sb.find? fun kv => decide (kv.1 = p.1)).map (·.2) = some p.2)
    (hm : behindInMarks .NotEq r = false := by with_unfolding_all rfl) : EvB prog w G n sc ρ (.Compare l [.NotEq] [r] pos) false :=
  eb_cmp hl hr (fun A W s s₁ s₂ a b Q E hA hG hW k₁ k₂ r₁ r₂ hQ => by
    obtain ⟨a, ka, rfl, la, da, va⟩ := r₁
    obtain ⟨b, kb, rfl, lb, db, vb⟩ := r₂
    refine keq_ne (r := true) la lb (da.keep k₂.1) db (by have := hA.2.2; omega) (fun _ => hits_same vb va hall) ?_
    have e : (!(ka.length == kb.length && true)) = false := by rw [va.length, vb.length, hlen]; simp
    rw [e]
    exact hQ s₂ (Kp.refl _)) hm

theorem x1_setD {x : Str} {p spos pos : Pos} {e i : Expr} {kvs : List (Str × Int)} {k : Str} {v : Int} (hx : ρ.lookup x = some (.di (DictT prog w kvs))) (he : EvT prog w G n sc ρ e (.int v)) (hi : EvT prog w G n sc ρ i (.str k)) (hn : (kvs.any fun kv => decide (kv.1 = k)) = false) (hsz : kvs.length ≤ sizeLine) (hd : (x == ("__debug__" : Str)) = false := by decide)
    (hs : ∀ env, swapsWith e (some (.Subscript (.Name x p) i spos)) pos.line env = pure false := by intro _; rfl) :
    Ex1 prog w G n sc ρ (.Assign [.Subscript (.Name x p) i spos] e pos) (To ((x, .di (DictT prog w (kvs ++ [(k, v)]))) :: ρ)) :=
  fun A env W Z ad s Q E hA F hQ => by
    have hki : env.scope.kind = .function := F.ec.scope ▸ F.ec.kind
    refine wpAny_Assign_Subscript (he A env W ad s _ E hA F.ec fun ve s₁ k₁ r₁ => ?_) (hs env)
    obtain ⟨tv, rfl⟩ := rep_int r₁
    have F₁ := F.keeps k₁.1
    obtain ⟨vx, o, N, hw, ho, rfl, hsm, kv, hdo, hkv⟩ := F₁.ec.names x _ hx
    refine wpAny_Name (load_name hki N ?_) hd
    refine hi A env W ad s₁ _ E hA F₁.ec fun iv s₂ k₂ r₂ => ?_
    obtain ⟨t, rfl⟩ := rep_str r₂
    refine wpAny_setItem_pairs (knd := strKind prog w) (k := k) (kvs := kv) (strKind_is prog w k t) (Heap.dictOf_iff.mpr ⟨o, k₂.1 _ _ ho, hdo⟩) (fun h' hd' sb => ?_) (by rw [hkv.length]; exact hsz)
    have es : stored kv k (.int v tv) = kv ++ [(k, .int v tv)] := by
      unfold stored
      rw [hkv.any k, hn]; rfl
    rw [es] at hd'
    obtain ⟨o', ho', hdo'⟩ := Heap.dictOf_iff.mp hd'
    have F₂ := (F₁.keeps k₂.1).reown (sl := .di (DictT prog w (kvs ++ [(k, v)]))) hx rfl hw sb ⟨o', ho'⟩ rfl fun kw nk => ⟨_, o', nk _ (N.keeps k₂.1), hw, ho', rfl, hsm, _, hdo', hkv.append (.cons .nil)⟩
    refine hQ W ad _ .next .next { s₂ with heap := h', toks := s₂.toks + 1 } ⟨rfl, rfl⟩ F₂ ⟨fun a h => .inl h, fun a o hz e => ?_, k₂.2.1.trans k₁.2.1, k₂.2.2.trans k₁.2.2, fun a h => h⟩ .next
    exact (sb.2 a fun q => F.zo x _ hx rfl (q ▸ hz (q ▸ hw))).trans (k₂.1 a o (k₁.1 a o e))

theorem new_dict {h : Heap} : ({ cls := .type "dict", data := .dict #[] } : Obj).IsDictOf (strKind prog w) [] := by
  obtain ⟨o, ho, hd⟩ := Heap.dictOf_iff.mp (Heap.DictOf.new (knd := strKind prog w) h)
  rw [Heap.get?_push_size _ rfl] at ho
  exact (Option.some.inj ho) ▸ hd
theorem not_mod {env : Env} {W : Addr → Prop} {ad : Str → Addr} {h : Heap} (E : EC G sc env W ad ρ h) : (h.objs.size == sysModules) = false := by
  have g := E.ground.gr.T.g
  obtain ⟨o, es, ep, ho, _⟩ := g
  have hlt := Heap.lt_size ho
  have : sysModules < h.objs.size := Nat.lt_of_le_of_lt (by decide) hlt
  exact beq_eq_false_iff_ne.mpr (Nat.ne_of_gt this)

theorem x1_dicts {x y : Str} {px py p q tp vp pos : Pos} {k k' : Nat} (cx : sc.names.lookup x = some .local ∨ sc.names.lookup x = some .cell) (cy : sc.names.lookup y = some .local ∨ sc.names.lookup y = some .cell)
    (hs : ∀ env, swapsWithSole [.Tuple [.Name x px, .Name y py] k tp] (.Tuple [.Dict [] [] p, .Dict [] [] q] k' vp) pos.line env = pure false := by intro _; rfl)
    (hw : ∀ env, env.scope = sc → swappedStores [.Tuple [.Name x px, .Name y py] k tp] (.Tuple [.Dict [] [] p, .Dict [] [] q] k' vp) env = pure (some [x, y])) :
    Ex1 prog w G n sc ρ (.Assign [.Tuple [.Name x px, .Name y py] k tp] (.Tuple [.Dict [] [] p, .Dict [] [] q] k' vp) pos) (To ((x, .di (DictT prog w [])) :: (y, .di (DictT prog w [])) :: ρ)) := by
  intro A env W Z ad s Q E hA F hQ
  refine Assign_Tuple_swapped (names := [x, y]) ?_ (hs env) (hw env F.ec.scope)
  have n₁ := not_mod F.ec
  have k₁ := Kp.push s { cls := .type "dict", data := .dict #[] } s.toks
  have n₂ := not_mod (F.ec.keeps k₁.1)
  refine wpAny_Tuple (wpAny_items_cons (wpAny_Dict_empty (wpAny_items_cons (wpAny_Dict_empty (wpAny_items_nil ⟨by rw [sizeLine_eq]; show (2 : Nat) ≤ _; decide, ?_⟩)) rfl)) rfl)
  have k₂ := Kp.push { s with heap := s.heap.push { cls := .type "dict", data := .dict #[] } } { cls := .type "dict", data := .dict #[] } s.toks
  refine unpackItems_tuple (items := [Value.ref s.heap.objs.size, Value.ref (s.heap.push { cls := .type "dict", data := .dict #[] }).objs.size].toArray) hA.1 ⟨_, Heap.get?_push_size _ rfl, rfl, 0, rfl⟩ fun h₆ he => ?_
  have kk := Off.ofExt he
  have kp : ∀ b o, ((s.heap.push { cls := .type "dict", data := .dict #[] }).push { cls := .type "dict", data := .dict #[] }).get? b = some o → h₆.get? b = some o := fun b o e => kk.1 b o (Heap.get?_push_of_some _ e)
  have o₁ : (s.heap.push { cls := .type "dict", data := .dict #[] }).get? s.heap.objs.size = some { cls := .type "dict", data := .dict #[] } := Heap.get?_push_size _ rfl
  have o₂ : ((s.heap.push { cls := .type "dict", data := .dict #[] }).push { cls := .type "dict", data := .dict #[] }).get? (s.heap.push { cls := .type "dict", data := .dict #[] }).objs.size = some { cls := .type "dict", data := .dict #[] } := Heap.get?_push_size _ rfl
  have g₁ := kp _ _ (k₂.1 _ _ o₁)
  have g₂ := kp _ _ o₂
  have N₁ : s.heap.get? s.heap.objs.size = none := fresh_get _
  have N₂ : s.heap.get? (s.heap.push { cls := .type "dict", data := .dict #[] }).objs.size = none := Heap.get?_none_of_le (by rw [Heap.size_push]; exact Nat.le_succ _)
  have n12 : s.heap.objs.size ≠ (s.heap.push { cls := .type "dict", data := .dict #[] }).objs.size := by rw [Heap.size_push]; exact Nat.ne_of_lt (Nat.lt_succ_self _)
  have k₆ : ∀ b o, s.heap.get? b = some o → h₆.get? b = some o := fun b o e => kp b o (k₂.1 b o (k₁.1 b o e))
  generalize s.heap.objs.size = a₁ at *
  generalize (s.heap.push { cls := .type "dict", data := .dict #[] }).objs.size = a₂ at *
  have F₆ := F.growSZ (S := fun a => a = a₁ ∨ a = a₂) k₆ (fun a h => h.elim (fun q => q ▸ N₁) fun q => q ▸ N₂) (fun a h => h.elim (fun q => ⟨_, q ▸ g₁⟩) fun q => ⟨_, q ▸ g₂⟩)
  have P₁ := F.fresh N₁
  have P₂ := F.fresh N₂
  refine swap_two ?_
  refine store_own (s := { s with heap := h₆ }) (a := a₂) (sl := .di (DictT prog w [])) (F₆.zsub (Z' := fun a => Z a ∨ a = a₁) fun a h => h.elim .inl fun q => .inr (.inl q)) (.inr (.inr rfl)) ⟨P₂.l, P₂.c, P₂.o, fun q => q.elim P₂.z (Ne.symm n12)⟩ cy rfl
    (fun h' kw hn hk => ⟨_, _, hn, .inr (by rw [updA_self]; exact .inr rfl), by rw [updA_self]; exact hk _ g₂, by rw [updA_self], by rw [updA_self]; exact n₂, [], new_dict (h := s.heap), .nil⟩) fun h₇ t₇ F₇ f₇ => ?_
  have G₁ : h₇.get? a₁ = some { cls := .type "dict", data := .dict #[] } := f₇.keep _ _ (fun _ => .inr rfl) g₁
  refine store_own (s := { s with heap := h₇, toks := t₇ }) (a := a₁) (sl := .di (DictT prog w [])) (F₇.zsub (Z' := Z) fun a h => .inl h) (.inr (.inl rfl)) (P₁.own n12) cx rfl
    (fun h' kw hn hk => ⟨_, _, hn, .inr (by rw [updA_self]; exact .inl rfl), by rw [updA_self]; exact hk _ G₁, by rw [updA_self], by rw [updA_self]; exact n₁, [], new_dict (h := s.heap), .nil⟩) fun h' t' F' f' => ?_
  refine hQ _ _ _ .next .next _ ⟨rfl, rfl⟩ F' ⟨fun a h => h.elim .inl fun q => .inr (q.elim (fun q => q ▸ N₁) fun q => q ▸ N₂), fun a o hz e => ?_, f'.gens.trans f₇.gens, f'.os.trans f₇.os, fun a h => .inl h⟩ .next
  have nS : ¬ (a = a₁ ∨ a = a₂) := fun q => by
    rcases q with q | q
    · rw [q, N₁] at e; cases e
    · rw [q, N₂] at e; cases e
  have hz' : W a ∨ (a = a₁ ∨ a = a₂) → Z a := fun q => q.elim hz fun q => absurd q nS
  exact f'.keep a o hz' (f₇.keep a o (fun q => .inl (hz' q)) (k₆ a o e))
end
end Mine
end

section
open PySem PySem.W PyProof.Rows
namespace Mine
noncomputable abbrev byT (w : World) : Bool := w.params.followText "set-order"

theorem put_led (t : SetTable) (j : Nat) : (t.put j).1.led = t.led ∧ (t.put j).1.plain = t.plain := ⟨rfl, rfl⟩
theorem stand_led (t : SetTable) (n : Nat) : (t.orStandIn n).led = t.led ∧ (t.plain = false → (t.orStandIn n).plain = false) := by
  unfold SetTable.orStandIn
  split
  · exact ⟨rfl, id⟩
  · exact ⟨rfl, fun _ => rfl⟩
theorem layNew_led (t : SetTable) (es : Array (Int × Value)) (h : Int) (x : Value) : (layNew t es h x).2.1.led = t.led ∧ (t.plain = false → (layNew t es h x).2.1.plain = false) := by
  unfold layNew
  split
  · rename_i slot wd _
    obtain ⟨a, b⟩ := put_led t slot
    dsimp only
    have := stand_led (t.put slot).1 (SetTable.insertAt es (t.put slot).2 (h, x)).size
    exact ⟨this.1.trans a, fun q => this.2 (b.trans q)⟩
  · exact ⟨rfl, fun _ => rfl⟩
theorem relaid_led {t t' : SetTable} {hs : Array Int} {n : Nat} {o : Array Nat} (h : t.relaid hs n = some (t', o)) : t'.led = t.led ∧ t'.plain = t.plain := by
  unfold SetTable.relaid SetTable.laid at h
  obtain ⟨ow, _, h2⟩ := Option.bind_eq_some_iff.mp h
  have := (Prod.mk.inj (Option.some.inj h2)).1
  subst this
  exact ⟨rfl, rfl⟩
theorem relayAll_led (t : SetTable) (es : Array (Int × Value)) (n : Nat) : (relayAll t es n).2.1.led = t.led ∧ (t.plain = false → (relayAll t es n).2.1.plain = false) := by
  unfold relayAll
  split
  · rename_i t' o h
    obtain ⟨a, b⟩ := relaid_led h
    dsimp only
    split
    · exact ⟨a, fun q => b.trans q⟩
    · exact ⟨rfl, fun _ => rfl⟩
  · exact ⟨rfl, fun _ => rfl⟩

section
variable (prog : Program) (w : World)
noncomputable def SetS (o : Obj) (ys : List Str) : Prop :=
  o.ExactSet ∧ ∃ es ep t, o.data = .set es ep t ∧ ElemsOf (strKind prog w) es.toList ∧ es.toList.map (fun e => strOf e.2) = ys ∧ ys.Nodup ∧ t.fits es.size = true ∧ t.led = !byT w ∧ (es.size = 0 ∨ t.plain = false)
end
section
variable {prog : Program} {w : World} {A : Around} {E : Value → Shared → Prop} {s : Shared}

theorem elem_str {es : List (Int × Value)} (h : ElemsOf (strKind prog w) es) : ∀ e ∈ es, ∃ t, e.2 = .str (strOf e.2) t := fun e he => by
  obtain ⟨⟨k, hk, _⟩, _⟩ := h e he
  obtain ⟨t, e2⟩ := Value.isStrOf_shape hk
  exact ⟨t, by rw [e2]; rfl⟩
theorem find_none {es : List (Int × Value)} {x : Str} (hel : ElemsOf (strKind prog w) es) (hr : es.findIdx? (fun e => (strKind prog w).is x e.2) = none) : x ∉ es.map (fun e => strOf e.2) := fun hm => by
  obtain ⟨e, he, q⟩ := List.mem_map.mp hm
  have h1 := List.findIdx?_eq_none_iff.mp hr e he
  obtain ⟨t, e2⟩ := elem_str hel e he
  rw [e2, q] at h1
  have : (strKind prog w).is x (.str x t) = true := strKind_is prog w x t
  rw [this] at h1; cases h1
theorem find_some {es : List (Int × Value)} {x : Str} {j : Nat} (hr : es.findIdx? (fun e => (strKind prog w).is x e.2) = some j) : x ∈ es.map (fun e => strOf e.2) := by
  obtain ⟨hj, hp, _⟩ := List.findIdx?_eq_some_iff_getElem.mp hr
  obtain ⟨t, e2⟩ := Value.isStrOf_shape hp
  exact List.mem_map.mpr ⟨_, List.getElem_mem hj, by rw [e2]; rfl⟩

theorem setS_fresh : SetS prog w { cls := .type "set", dict := none, data := .set #[] 0 (.fresh 0 0 (!byT w)) } [] :=
  ⟨⟨rfl, rfl, rfl⟩, #[], 0, _, rfl, fun e he => by simp at he, rfl, List.nodup_nil, rfl, rfl, .inl rfl⟩

theorem setS_put {a : Addr} {o : Obj} {es : Array (Int × Value)} {ep : Nat} {t : SetTable} (ho : s.heap.get? a = some o) (hex : o.ExactSet) (hd : o.data = .set es ep t) {es' : Array (Int × Value)} {t' : SetTable}
    (hel : ElemsOf (strKind prog w) es'.toList) (hn : (es'.toList.map (fun e => strOf e.2)).Nodup) (hf : t'.fits es'.size = true) (hl : t'.led = !byT w) (hp : t'.plain = false) :
    ∃ o', (s.heap.update a (Obj.putSet es' t')).get? a = some o' ∧ o'.data = .set es' (ep + 1) t' ∧ SetS prog w o' (es'.toList.map (fun e => strOf e.2)) := by
  have hg : (s.heap.update a (Obj.putSet es' t')).get? a = some { o with data := .set es' (ep + 1) t' } := by
    have := Heap.get?_update_self (Obj.putSet es' t') ho (by rw [putSet_of es' t' hd]; rfl)
    rw [putSet_of es' t' hd] at this; exact this
  exact ⟨_, hg, rfl, hex, es', ep + 1, t', rfl, hel, rfl, hn, hf, hl, .inr hp⟩

theorem rule_any {b : Bool} {tag : String} {Q : Unit → Shared → Prop} (h : Q () s) : wpAny (model prog w) A (match b with | true => rule tag | false => pure ()) Q E s := by
  cases b
  · exact wpAny_pure h
  · exact wpAny_rule h

theorem setS_add {a : Addr} {o : Obj} {ys : List Str} {x : Str} {tk : Tok} {Q : Bool → Shared → Prop} (ho : s.heap.get? a = some o) (hS : SetS prog w o ys) (hroom : ys.length + 1 < scanBound)
    (h : ∀ b h' o' ys', Heap.SameBut a s.heap h' → h'.get? a = some o' → SetS prog w o' ys' → (∀ y, y ∈ ys' ↔ y ∈ ys ∨ y = x) → ys'.length ≤ ys.length + 1 → Q b { s with heap := h' }) :
    wpAny (model prog w) A (setAddHashed a (.str x tk) ((strKind prog w).hash x)) Q E s := by
  obtain ⟨hex, es, ep, t, hd, hel, rfl, hnd, hf, hl, hp⟩ := id hS
  have hkey : (strKind prog w).is x (.str x tk) = true := strKind_is prog w x tk
  have hb : es.size < scanBound := by rw [List.length_map, Array.length_toList] at hroom; omega
  unfold setAddHashed setAddHashedIn
  refine wpAny_holding (wpAny_bind (wpAny_setState_of ho hd hf ?_))
  dsimp only
  rw [byScan_of rfl hb hel]
  simp only [↓reduceIte]
  unfold setAddByScan
  refine wpAny_bind (wpAny_bind (wpAny_rule (wpAny_bind (wpAny_setScan_of hkey ho hd hf hel ?_))))
  cases hr : es.toList.findIdx? (fun e => (strKind prog w).is x e.2) with
  | some j =>
    dsimp only
    have hm := find_some hr
    refine wpAny_pure (wpAny_pure ?_)
    exact h _ s.heap o _ (Heap.SameBut.refl a s.heap) ho hS (fun y => ⟨.inl, fun q => q.elim id fun e => e ▸ hm⟩) (Nat.le_succ _)
  | none =>
    dsimp only
    have hnm := find_none hel hr
    have P1 := layNew_perm t es ((strKind prog w).hash x) (.str x tk)
    have F1 := layNew_fits t es ((strKind prog w).hash x) (.str x tk)
    have L1 := layNew_led t es ((strKind prog w).hash x) (.str x tk)
    generalize layNew t es ((strKind prog w).hash x) (.str x tk) = Lr at P1 F1 L1 ⊢
    obtain ⟨es1, t1, wd, gave⟩ := Lr
    dsimp only at P1 F1 L1 ⊢
    rw [Array.toList_push] at P1
    have hel1 : ElemsOf (strKind prog w) es1.toList := (hel.push hkey rfl).perm P1
    have M1 := P1.map (fun e => strOf e.2)
    rw [List.map_append] at M1
    have N1 : (es1.toList.map (fun e => strOf e.2)).Nodup := M1.nodup_iff.mpr (List.nodup_append.mpr ⟨hnd, by simp, fun y hy z hz q => by
      have hz' : z = x := by simpa [strOf] using hz
      exact hnm (hz' ▸ q ▸ hy)⟩)
    have mem1 : ∀ y, y ∈ es1.toList.map (fun e => strOf e.2) ↔ y ∈ es.toList.map (fun e => strOf e.2) ∨ y = x := fun y => by
      rw [M1.mem_iff, List.mem_append]
      exact or_congr Iff.rfl (by simp [strOf])
    have len1 : es1.size = es.size + 1 := by rw [← Array.length_toList, P1.length_eq, List.length_append, Array.length_toList]; rfl
    have z1 : es1.size ≤ sizeLine := by have h1 : scanBound = 4096 := rfl; rw [h1] at hb; rw [sizeLine_eq]; omega
    refine wpAny_bind (rule_any ?_)
    have tail : ∀ t2 : SetTable, t2.fits es1.size = true → t2.led = !byT w → t2.plain = false → wpAny (model prog w) A (do
        storeSet a es1 t2
        if (!wd && t2.tooFull) = true then do
            (match (relayAll t2 es1 (SetTable.grown es1.size)).2.2 with | true => rule "set.scan.the-table-gave-way" | false => pure ())
            storeSet a (relayAll t2 es1 (SetTable.grown es1.size)).1 (relayAll t2 es1 (SetTable.grown es1.size)).2.1
            pure (some true)
          else pure (some true)) (fun (r : Option Bool) s' => ∃ h' o' ys', r = some true ∧ s' = { s with heap := h' } ∧ Heap.SameBut a s.heap h' ∧ h'.get? a = some o' ∧ SetS prog w o' ys' ∧ (∀ y, y ∈ ys' ↔ y ∈ es.toList.map (fun e => strOf e.2) ∨ y = x) ∧ ys'.length ≤ es.size + 1) E s := by
      intro t2 f2 l2 p2
      obtain ⟨o1, g1, d1, S1⟩ := setS_put ho hex hd hel1 N1 f2 l2 p2
      refine wpAny_bind (wpAny_storeSet_of ho hd ?_ z1)
      have sb1 : Heap.SameBut a s.heap (s.heap.update a (Obj.putSet es1 t2)) := Heap.SameBut.update ..
      split
      · have P2 := relayAll_perm t2 es1 (SetTable.grown es1.size)
        have F2 := relayAll_fits t2 es1 (SetTable.grown es1.size)
        have L2 := relayAll_led t2 es1 (SetTable.grown es1.size)
        generalize relayAll t2 es1 (SetTable.grown es1.size) = Rl at P2 F2 L2 ⊢
        obtain ⟨es2, t3, gave2⟩ := Rl
        dsimp only at P2 F2 L2 ⊢
        have M2 := P2.map (fun e => strOf e.2)
        have len2 : es2.size = es1.size := by rw [← Array.length_toList, P2.length_eq, Array.length_toList]
        refine wpAny_bind (rule_any ?_)
        obtain ⟨o2, g2, d2, S2⟩ := setS_put (s := { s with heap := s.heap.update a (Obj.putSet es1 t2) }) g1 S1.1 d1 (hel1.perm P2) (M2.nodup_iff.mpr N1) F2 (L2.1.trans l2) (L2.2 p2)
        refine wpAny_bind (wpAny_storeSet_of (s := { s with heap := s.heap.update a (Obj.putSet es1 t2) }) g1 d1 ?_ (len2 ▸ z1))
        refine wpAny_pure ⟨_, o2, _, rfl, rfl, sb1.trans (Heap.SameBut.update ..), g2, S2, fun y => (M2.mem_iff).trans (mem1 y), ?_⟩
        rw [List.length_map, Array.length_toList, len2, len1]; exact Nat.le_refl _
      · refine wpAny_pure ⟨_, o1, _, rfl, rfl, sb1, g1, S1, mem1, ?_⟩
        rw [List.length_map, Array.length_toList, len1]; exact Nat.le_refl _
    have fin : ∀ t2 : SetTable, t2.fits es1.size = true → t2.led = !byT w → t2.plain = false → wpAny (model prog w) A (do
        storeSet a es1 t2
        if (!wd && t2.tooFull) = true then do
            (match (relayAll t2 es1 (SetTable.grown es1.size)).2.2 with | true => rule "set.scan.the-table-gave-way" | false => pure ())
            storeSet a (relayAll t2 es1 (SetTable.grown es1.size)).1 (relayAll t2 es1 (SetTable.grown es1.size)).2.1
            pure (some true)
          else pure (some true)) (fun (r : Option Bool) s' => r = some true ∧ Q true s') E s := fun t2 a1 a2 a3 =>
      wpAny_mono (tail t2 a1 a2 a3) (fun r s' ⟨h', o', ys', e1, e2, e3, e4, e5, e6, e7⟩ => ⟨e1, e2 ▸ h true h' o' ys' e3 e4 e5 e6 (by rw [List.length_map, Array.length_toList]; exact e7)⟩) fun _ _ q => q
    have post : ∀ (r : Option Bool) s', (r = some true ∧ Q true s') → wpAny (model prog w) A (match r with | some b => pure b | none => setAddHashedIn a (.str x tk) ((strKind prog w).hash x) 99999) Q E s' := fun r s' ⟨e, q⟩ => by subst e; exact wpAny_pure q
    split
    · refine wpAny_bind ?_
      rw [hashByValue_scannable 8 (x := .str x tk) rfl]
      refine wpAny_pure ?_
      refine wpAny_mono (fin _ (SetTable.fits_plain_off F1) (L1.1.trans hl) rfl) post fun _ _ q => q
    · rename_i hpl
      refine wpAny_bind (wpAny_pure ?_)
      simp only [↓reduceIte]
      refine wpAny_mono (fin _ F1 (L1.1.trans hl) (by simpa using hpl)) post fun _ _ q => q
end
end Mine
end

section
open PySem PySem.W PyProof.Rows
namespace Mine
section
variable {prog : Program} {w : World} {A : Around} {R : Result → Shared → Prop} {I : Addr} {fp wr : List Addr} {Gn : Array GenState → Array GenState → Prop} {n : Nat} {P : Nat → Value → Prop} {St : Nat → Shared → Prop}

theorem set_fill (W : WalksS prog w A.in1 I fp wr Gn n P St) (S : Addr) (hSf : S ∉ fp) (xs : List Str) (hxs : xs.length = n) (hval : ∀ i v x, P i v → xs[i]? = some x → ∃ t, v = .str x t) (hb : n + 1 < scanBound) :
    ∀ (k i : Nat) (s : Shared) (o : Obj) (ys : List Str), n - i = k → i ≤ n → St i s → s.heap.get? S = some o → SetS prog w o ys → (∀ y, y ∈ ys ↔ y ∈ xs.take i) → ys.length ≤ i →
      (∀ s' o' ys', Moved (S :: wr) Gn s s' → s'.heap.get? S = some o' → SetS prog w o' ys' → (∀ y, y ∈ ys' ↔ y ∈ xs) → R (.ok (.ret .none)) s') →
      codeAny (model prog w) A (.builtin "set.update.loop" ⟨[.ref S, .ref I], []⟩) R s := by
  have hSw : S ∉ wr := fun h => hSf (W.sub _ h)
  have hsub : ∀ b ∈ wr, b ∈ S :: wr := fun b hb => List.mem_cons_of_mem _ hb
  intro k
  induction k with
  | zero =>
    intro i s o ys hk hi hst hS hso hmem _ hR
    have hin : i = n := by omega
    subst hin
    refine codeAny_builtin PyProof.Rows.F.entry_set_update_loop ?_
    rw [Around.under_plainId PyProof.Rows.F.plain_set_update_loop _]
    show wpAny _ A.in1 (pyNext (.ref I) >>= _) _ _ s
    refine wpAny_bind (W.done s _ _ hst fun s' hm => ?_)
    show wpAny _ A.in1 (ret Value.none) _ _ s'
    refine wpAny_pure (hR s' o ys (hm.mono hsub) (hm.heap S o hSw hS) hso fun y => ?_)
    rw [hmem y, ← hxs, List.take_length]
  | succ k ih =>
    intro i s o ys hk hi hst hS hso hmem hlen hR
    have hlt : i < n := by omega
    have hx : xs[i]? = some (xs[i]'(by omega)) := List.getElem?_eq_getElem (by omega)
    refine codeAny_builtin PyProof.Rows.F.entry_set_update_loop ?_
    rw [Around.under_plainId PyProof.Rows.F.plain_set_update_loop _]
    show wpAny _ A.in1 (pyNext (.ref I) >>= _) _ _ s
    refine wpAny_bind (W.item i s _ _ hlt hst fun v s' hP hst' hm => ?_)
    obtain ⟨t, rfl⟩ := hval i v _ hP hx
    generalize xs[i]'(by omega) = x at hx
    have hS' := hm.heap S o hSw hS
    show wpAny _ A.in1 (holding [Value.str x t] (setAdd S (.str x t)) >>= _) _ _ s'
    refine wpAny_bind (wpAny_holding ?_)
    unfold setAdd
    refine wpAny_holding (wpAny_bind ((strKind prog w).pyHash (k := x) (strKind_is prog w x t) ?_))
    refine setS_add (s := { s' with toks := s'.toks + 1 }) hS' hso (by omega) fun b h' o' ys' hsb hg hso' hmem' hlen' => ?_
    refine wpAny_pure ⟨plainId_quiet PyProof.Rows.F.plain_set_update_loop _, ih (i + 1) _ o' ys' (by omega) hlt (W.frame _ s' _ _ hst' (Nat.le_succ _) fun b hb o e => ?_) hg hso' (fun y => ?_) (by omega) fun s'' o'' ys'' hm'' hS'' => ?_⟩
    · exact (hsb.2 b (fun h : b = S => hSf (by rw [← h]; exact hb))).trans e
    · rw [hmem' y, hmem y, List.take_add_one, hx, List.mem_append]
      exact or_congr Iff.rfl (by simp)
    · refine hR s'' o'' ys'' (Moved.trans W.gtrans ((hm.mono hsub).then_heap (Nat.le_succ _) fun b o hb e => ?_) hm'') hS''
      exact (hsb.2 b (fun h : b = S => hb (by rw [h]; exact List.mem_cons_self))).trans e
end

section
variable {prog : Program} {w : World} {A : Around} {E : Value → Shared → Prop} {s : Shared}
theorem setnew_led (a : Value) {Q₁ : Value → Shared → Prop} (h : Q₁ (.ref s.heap.objs.size) { s with heap := s.heap.push { cls := .type "set", dict := none, data := .set #[] 0 (.fresh 0 0 (!byT w)) } }) :
    codeAny (model prog w) A (.call (.builtin "set.__new__") ⟨[.type "set", a], []⟩) (wants Q₁ E) s := by
  refine codeAny_of_tree ?_
  show wpAny _ A.in1 (do checkBuiltinCall "set.__new__" ⟨[.type "set", a], []⟩; again (.builtin "set.__new__" ⟨[.type "set", a], []⟩)) _ _ s
  refine wpAny_bind (wpAny_of_eq (PySem.F.newCall_set_1 a) (wpAny_pure ⟨plainId_quiet PySem.F.plain_set_new _, codeAny_builtin PySem.F.entry_set_new ?_⟩))
  rw [Around.under_plainId PySem.F.plain_set_new _]
  unfold Builtin.«set.__new__» Builtin.Frozenset.newClass
  have hsub := sub_set_self
  obtain ⟨hp, g, d, tk, os⟩ := s
  dsimp only
  wp_walk
  refine wpAny_askSetting (wpAny_pure ?_)
  dsimp only
  simp only [newObj]
  exact wpAny_bind (wpAny_alloc (wpAny_pure (wpAny_pure h)))

set_option maxHeartbeats 3200000 in
theorem call_setS {l : Addr} {vs : List Value} {xs : List Str} {Q : Value → Shared → Prop} (hh : A.handled = none) (hl : s.heap.IsList l vs.toArray) (hi : StrsAre vs xs) (hb : xs.length + 1 < scanBound)
    (h : ∀ (h' : Heap) (tk : Nat) o ys, h'.get? s.heap.objs.size = some o → SetS prog w o ys → (∀ y, y ∈ ys ↔ y ∈ xs) → (∀ b o, s.heap.get? b = some o → h'.get? b = some o) → Q (.ref s.heap.objs.size) { s with heap := h', toks := tk }) :
    wpAny (model prog w) A (call (.type "set") [.ref l]) Q E s := by
  have hmade := PySem.F.called_set.made
  have hsub := PySem.F.called_set.sub
  obtain ⟨c, tl, hmro⟩ := PySem.F.called_set.mro
  refine wpAny_call (codeAny_of_tree ?_)
  show wpAny _ _ (callAny (.type "set") _) _ _ _
  refine wpAny_pure ⟨Code.quiet_builtin _ (by decide +kernel), codeAny_builtin PySem.F.entry_type_call ?_⟩
  rw [Around.under_plain (weight_type_call_type "set" [.ref l] []) rfl]
  have h1 := PySem.F.called_set.notType
  have h2 := PySem.F.called_set.canCreate
  have hct := PySem.F.typeCall_set_1 (.ref l)
  repeat (any_goals (first | assumption | wp_step))
  refine codeAny_mono (setnew_led (.ref l) (E := E) (Q₁ := fun obj s₁ => obj = .ref s.heap.objs.size ∧ s₁ = { s with heap := s.heap.push { cls := .type "set", dict := none, data := .set #[] 0 (.fresh 0 0 (!byT w)) } }) ⟨rfl, rfl⟩) fun r s₁ hr => ?_
  cases r with
  | error e => exact hr
  | ok fl =>
    cases fl with
    | ret obj =>
      obtain ⟨rfl, rfl⟩ := hr
      have hS : (s.heap.push { cls := .type "set", dict := none, data := .set #[] 0 (.fresh 0 0 (!byT w)) }).get? s.heap.objs.size = some { cls := .type "set", dict := none, data := .set #[] 0 (.fresh 0 0 (!byT w)) } := Heap.get?_push_size _ rfl
      have hT : Shared.TypeIs { s with heap := s.heap.push { cls := .type "set", dict := none, data := .set #[] 0 (.fresh 0 0 (!byT w)) } } (.ref s.heap.objs.size) "set" := ⟨_, hS, rfl⟩
      have hli := PySem.F.called_set.init.lookup
      have hbi := PySem.F.called_set.init.bind (.ref s.heap.objs.size)
      repeat (any_goals (first | assumption | wp_step))
      refine codeAny_mono (codeAny_call_builtin (R := wants (fun r s₂ => r = .none ∧ Q (.ref s.heap.objs.size) s₂) E) PySem.F.called_set.init.plain PySem.F.entry_set_init (check_set_init_1 hT ?_)) fun r₂ s₂ hr₂ => ?_
      · obtain ⟨ol, hol, hcl, nl, hdl⟩ := hl
        obtain ⟨ocls, odict, odata, oslots⟩ := ol
        simp only at hcl hdl
        subst hcl; subst hdl
        have hlS : l < s.heap.objs.size := Heap.lt_size hol
        have hol' : (s.heap.push { cls := .type "set", dict := none, data := .set #[] 0 (.fresh 0 0 (!byT w)) }).get? l = some { cls := .type "list", dict := odict, data := .seq vs.toArray nl, slots := oslots } := Heap.get?_push_of_some _ hol
        have hl1 : (s.heap.push { cls := .type "set", dict := none, data := .set #[] 0 (.fresh 0 0 (!byT w)) }).IsList l vs.toArray := ⟨_, hol', rfl, nl, rfl⟩
        have hsls := PySem.F.sub_list_set
        have hslf := PySem.F.sub_list_frozenset
        have hne : (Value.type "list" == Value.type "dict") = false := by decide
        unfold Builtin.«set.__init__» noKeywords Builtin.Frozenset.updateFrom
        generalize hPI : pyIter = PI
        wp_walk
        subst hPI
        refine wpAny_pyIter_list hl1 ?_
        refine wpAny_bind (wpAny_runValue ?_)
        have hh3 : A.in1.in1.in1.handled = none := by simp [hh]
        have size2 : (s.heap.push { cls := .type "set", dict := none, data := .set #[] 0 (.fresh 0 0 (!byT w)) }).objs.size = s.heap.objs.size + 1 := Heap.size_push ..
        have hneI : l ≠ (s.heap.push { cls := .type "set", dict := none, data := .set #[] 0 (.fresh 0 0 (!byT w)) }).objs.size := by rw [size2]; exact Nat.ne_of_lt (Nat.lt_succ_of_lt hlS)
        have hSf : s.heap.objs.size ∉ [(s.heap.push { cls := .type "set", dict := none, data := .set #[] 0 (.fresh 0 0 (!byT w)) }).objs.size, l] := by
          rw [size2]; simp only [List.mem_cons, List.not_mem_nil, or_false, not_or]
          exact ⟨Nat.ne_of_lt (Nat.lt_succ_self _), Nat.ne_of_gt hlS⟩
        have hlen : xs.length = vs.toArray.size := by rw [List.size_toArray]; exact (StrsAre.length hi).symm
        refine set_fill ((Walks.list hh3 _ l hneI vs.toArray).toS) s.heap.objs.size hSf xs hlen (fun i v x hv hx => ?_) (by rw [← hlen]; exact hb) (vs.toArray.size - 0) 0 _ _ [] (by omega) (Nat.zero_le _)
          ⟨⟨_, Heap.get?_push_size _ rfl, rfl, rfl⟩, hl1.push _⟩ (Heap.get?_push_of_some _ hS) setS_fresh (fun y => by simp) (Nat.zero_le _) fun s' o' ys' hm hS' hso hmem => ?_
        · have e := hi.strs
          rw [List.getElem?_toArray] at hv
          obtain ⟨y, t, rfl⟩ := hi.all v (List.mem_of_getElem? hv)
          rw [← e, List.getElem?_map, hv] at hx
          exact ⟨t, by rw [← (Option.some.inj hx : strOf (.str y t) = x)]; rfl⟩
        · obtain ⟨h', g', d', tk', os'⟩ := s'
          have eg : g' = s.gens := hm.gens
          have ed : d' = s.drawn := hm.drawn
          have eo : os' = s.os := hm.os
          subst eg; subst ed; subst eo
          show wpAny _ _ _ _ _ _
          refine wpAny_pure ?_
          show wpAny _ _ (ret Value.none) _ _ _
          refine wpAny_pure ⟨rfl, h h' tk' o' ys' hS' hso hmem fun b o e => ?_⟩
          have hlt := Heap.lt_size e
          refine hm.heap b o ?_ (Heap.get?_push_of_some _ (Heap.get?_push_of_some _ e))
          simp only [List.mem_cons, List.not_mem_nil, or_false, not_or]
          exact ⟨Nat.ne_of_lt hlt, by rw [size2]; exact Nat.ne_of_lt (Nat.lt_succ_of_lt hlt)⟩
      · cases r₂ with
        | error e => exact hr₂
        | ok fl₂ =>
          cases fl₂ with
          | ret r =>
            obtain ⟨rfl, hq⟩ := hr₂
            repeat (any_goals (first | assumption | wp_step))
          | _ => exact hr₂.elim
    | _ => exact hr.elim
end
end Mine
end

section
open PySem PySem.W PyProof.Rows
namespace Mine

theorem slot_setit_next : Slot "set_iterator" "__next__" "set_iterator.__next__" :=
  .of (owner := "set_iterator") (n := "__next__") (by rw [typeLookup_type, builtinLookup_eq_fast]; kernel_rfl) (by decide +kernel) (by decide +kernel) (by decide +kernel)
    (by first | exact .inl (by decide +kernel) | exact .inr (by decide +kernel)) (by rw [isSubtype_type]; kernel_rfl)
theorem slot_setit_iter : Slot "set_iterator" "__iter__" "set_iterator.__iter__" :=
  .of (owner := "set_iterator") (n := "__iter__") (by rw [typeLookup_type, builtinLookup_eq_fast]; kernel_rfl) (by decide +kernel) (by decide +kernel) (by decide +kernel)
    (by first | exact .inl (by decide +kernel) | exact .inr (by decide +kernel)) (by rw [isSubtype_type]; kernel_rfl)
theorem entry_setit_next : entryFor table "set_iterator.__next__" = some Builtin.«set_iterator.__next__» := entryFor_of_tree (by kernel_rfl)
theorem entry_setit_iter : entryFor table "set_iterator.__iter__" = some Builtin.«dict_keyiterator.__iter__» :=
  entryFor_alias (id' := "dict_keyiterator.__iter__") (by rw [fastTable_eq_tree]; kernel_rfl) rfl (by decide +kernel) (by rw [fastTable_eq_tree]; kernel_rfl)
theorem entry_setS_iter : entryFor table "set.__iter__" = some Builtin.«frozenset.__iter__» :=
  entryFor_alias (id' := "frozenset.__iter__") (by rw [fastTable_eq_tree]; kernel_rfl) rfl (by decide +kernel) (by rw [fastTable_eq_tree]; kernel_rfl)
theorem owner_setit : Manifest.owners.lookup (String.ofList ['r', 'o', 't', 'a', 'r', 'e', 't', 'i', '_', 't', 'e', 's'].reverse) = some Manifest.sig_set_iterator := by kernel_rfl
theorem args_setit_next (a : Value) : argsOk "set_iterator.__next__" ⟨[a], []⟩ := by
  unfold argsOk; rw [signature?_of (id := "set_iterator.__next__") (n := ['_', '_', 't', 'x', 'e', 'n', '_', '_']) (o := ['r', 'o', 't', 'a', 'r', 'e', 't', 'i', '_', 't', 'e', 's']) (by kernel_rfl) owner_setit]; kernel_rfl
theorem args_setit_iter (a : Value) : argsOk "set_iterator.__iter__" ⟨[a], []⟩ := by
  unfold argsOk; rw [signature?_of (id := "set_iterator.__iter__") (n := ['_', '_', 'r', 'e', 't', 'i', '_', '_']) (o := ['r', 'o', 't', 'a', 'r', 'e', 't', 'i', '_', 't', 'e', 's']) (by kernel_rfl) owner_setit]; kernel_rfl
theorem setit_no_len : typeLookup (.type "set_iterator") "__len__" = pure none := by rw [typeLookup_type, builtinLookup_eq_fast]; kernel_rfl
theorem setit_hint : typeLookup (.type "set_iterator") "__length_hint__" = pure (some (.builtin "set_iterator.__length_hint__")) := by rw [typeLookup_type, builtinLookup_eq_fast]; kernel_rfl
theorem setit_sub : isSubtype (.type "set_iterator") (.type "set_iterator") = pure true := by rw [isSubtype_type]; kernel_rfl

noncomputable abbrev itO (first : Value) (i : Nat) (S : Addr) (n ep : Nat) : Obj := { cls := .type "set_iterator", data := .fields #[first, .int i 0, .ref S, .int n 0, .int ep 0] }

section
variable {prog : Program} {w : World} {A : Around} {E : Value → Shared → Prop} {s : Shared}

theorem erase_perm {α : Type} {l : List α} {i : Nat} (h : i < l.length) : (l[i] :: l.eraseIdx i).Perm l := by
  rw [List.eraseIdx_eq_take_drop_succ]
  refine List.perm_middle.symm.trans ?_
  rw [← List.drop_eq_getElem_cons h, List.take_append_drop]
theorem choose_any {src : Source} {n : Nat} {Q : Nat → Shared → Prop} (hn : 0 < n) (h : ∀ i d, i < n → Q i { s with drawn := d }) : wpAny (model prog w) A (choose src n) Q E s :=
  fun Γ p hΓ => ⟨Nat.ne_of_gt hn, h _ _ (Nat.mod_lt _ hn)⟩
theorem draw_any {α : Type} : ∀ (n : Nat) (xs : List α) (s : Shared) {Q : List α → Shared → Prop}, xs.length = n → (∀ ys d, ys.Perm xs → Q ys { s with drawn := d }) → wpAny (model prog w) A (drawOrder n xs) Q E s
  | 0, xs, s, Q, hn, h => by
    rw [List.length_eq_zero_iff] at hn
    subst hn
    exact wpAny_pure (h [] s.drawn (List.Perm.refl _))
  | n + 1, [], s, Q, hn, h => by cases hn
  | n + 1, x :: r, s, Q, hn, h => by
    show wpAny (model prog w) A (choose .order (x :: r).length >>= fun i => match (x :: r)[i]? with
      | some y => do return y :: (← drawOrder n ((x :: r).eraseIdx i))
      | none => unsupported "internal:drawOrder") Q E s
    generalize x :: r = xs at *
    refine wpAny_bind (choose_any (by omega) fun i d hi => ?_)
    rw [List.getElem?_eq_getElem hi]
    dsimp only
    refine wpAny_bind (draw_any n (xs.eraseIdx i) { s with drawn := d } (by rw [List.length_eraseIdx_of_lt hi]; omega) fun ys d' hp => wpAny_pure ?_)
    refine h _ d' ?_
    exact ((List.Perm.cons _ hp)).trans (erase_perm hi)

theorem pickGo_perm {α : Type} (next : Nat → Nat) : ∀ (fuel k : Nat) (left : List α) (out : Array α), left.length ≤ fuel → (pickOrder.go next fuel k left out).toList.Perm (out.toList ++ left)
  | 0, k, left, out, h => by
    have : left = [] := List.length_eq_zero_iff.mp (by omega)
    subst this
    rw [List.append_nil]; exact List.Perm.refl _
  | fuel + 1, k, left, out, h => by
    unfold pickOrder.go
    cases left with
    | nil => simp
    | cons x r =>
      have hlt : next k % (x :: r).length < (x :: r).length := Nat.mod_lt _ (by simp)
      generalize hl : x :: r = left at *
      rw [List.getElem?_eq_getElem hlt]
      dsimp only
      refine (pickGo_perm next fuel (k + 1) _ _ (by rw [List.length_eraseIdx_of_lt hlt]; omega)).trans ?_
      rw [Array.toList_push, List.append_assoc]
      exact List.Perm.append_left _ (erase_perm hlt)
theorem pick_perm {α : Type} (next : Nat → Nat) (xs : Array α) : (pickOrder next xs).toList.Perm xs.toList := by
  have := pickGo_perm next xs.size 0 xs.toList #[] (by rw [Array.length_toList]; exact Nat.le_refl _)
  simpa [pickOrder] using this

theorem stop_here {Q : Option Value → Shared → Prop} (hh : A.handled = none) {T : String} {I : Addr} (h : ∀ h', (∀ b o, s.heap.get? b = some o → h'.get? b = some o) → Q none { s with heap := h' }) :
    wpAny (model prog w) A.in1 (do raiseNew (← newExc (.type "StopIteration") []) : Sem Fin) (fun fin s' => ∃ v, fin = .done (.ret v) ∧ wpAny (model prog w) A (pure (some v)) Q E s')
      (fun e s' => wpAny (model prog w) A (do if ← isInstance e (.type "StopIteration") then pure none else throw e) Q E s') s := by
  refine wpAny_bind ?_
  simp only [newExc, newTuple]
  refine wpAny_bind (wpAny_newObj_type ?_ (by size_fits))
  refine wpAny_bind (m := firstArgMember _ _) (wpAny_of_eq (a := Value.none) (by first | rfl | (simp only [firstArgMember]; rfl)) ?_)
  refine wpAny_newObj_type ?_ (by size_fits)
  refine wpAny_raiseNew_none (by simpa using hh) ?_
  refine wpAny_bind (wpAny_isInstance (T := "StopIteration") (b := true) ⟨_, Heap.get?_push_size _ rfl, rfl⟩ isSubtype_stop ?_)
  exact wpAny_pure (h _ fun b o e => Heap.get?_push_of_some _ (Heap.get?_push_of_some _ e))

theorem sit_next {I S : Addr} {slot i n ep : Nat} {o : Obj} {es : Array (Int × Value)} {t : SetTable} {r : Option (Value × Nat)} {Q : Option Value → Shared → Prop} (hh : A.handled = none) (hI : s.heap.get? I = some (itO (.int slot 0) i S n ep)) (ho : s.heap.get? S = some o) (hd : o.data = .set es ep t) (hf : t.fits es.size = true) (hn : es.size = n)
    (hr : ∀ (s : Shared) (Q : Option (Value × Nat) → Shared → Prop) (E : Value → Shared → Prop), s.heap.get? S = some o → Q r s → wpAny (model prog w) A.in1 (setNext S slot i ep) Q E s)
    (h : match r with
      | some (x, nx) => ∀ h', h'.get? I = some (itO (.int nx 0) (i + 1) S n ep) → Heap.SameBut I s.heap h' → Q (some x) { s with heap := h' }
      | none => ∀ h', (∀ b o, b ≠ I → s.heap.get? b = some o → h'.get? b = some o) → Q none { s with heap := h' }) :
    wpAny (model prog w) A (pyNext (.ref I)) Q E s := by
  have hT : s.TypeIs (.ref I) "set_iterator" := ⟨_, hI, rfl⟩
  unfold pyNext
  refine wpAny_bind (wpAny_attempt (wpAny_callSpecial?_slot (name := Str.ofString "__next__") hT slot_setit_next (wpAny_call_entry slot_setit_next hT entry_setit_next ?_ (args_setit_next _))))
  unfold Builtin.«set_iterator.__next__»
  refine wpAny_bind (m := slotArgs "__next__" 0 _) (wpAny_pure ?_)
  refine wpAny_bind (wpAny_fieldsOf hI rfl ?_)
  dsimp only
  refine wpAny_bind (wpAny_setEntries_of ho hd hf ?_)
  have hne : ((es.size : Int) != (n : Int)) = false := by rw [hn]; simp
  rw [hne]
  simp only [Bool.false_eq_true, if_false]
  show wpAny _ _ (setNext S slot i ep >>= _) _ _ s
  refine wpAny_bind (hr s _ _ ho ?_)
  cases r with
  | some p =>
    obtain ⟨x, nx⟩ := p
    dsimp only
    refine wpAny_bind (wpAny_setField hI rfl (by simp) ?_)
    have h1 := Heap.get?_update_self (Obj.mapFields (·.setIfInBounds 0 (rawInt nx))) hI rfl
    refine wpAny_bind (wpAny_setField (s := { s with heap := _ }) h1 rfl (by simp) (wpAny_pure ⟨x, rfl, wpAny_pure ?_⟩))
    refine h _ ?_ ((Heap.SameBut.update ..).trans (Heap.SameBut.update ..))
    exact Heap.get?_update_self _ h1 rfl
  | none =>
    dsimp only
    refine wpAny_bind (wpAny_setField hI rfl (by simp) ?_)
    refine stop_here (T := "") (I := I) hh fun h' hk => ?_
    exact h h' fun b o hb e => hk b o ((Heap.get?_update_other _ _ (Ne.symm hb)).trans e)

theorem sit_drawn {I S T : Addr} {i n ep m : Nat} {o : Obj} {es : Array (Int × Value)} {t : SetTable} {ps : List Nat} {Q : Option Value → Shared → Prop} (hh : A.handled = none) (hI : s.heap.get? I = some (itO (.ref T) i S n ep)) (ho : s.heap.get? S = some o) (hd : o.data = .set es ep t) (hf : t.fits es.size = true) (hn : es.size = n)
    (hTt : s.heap.get? T = some (tupOf (ps.map fun (k : Nat) => rawInt k).toArray m))
    (h : match (ps[i]?).bind (es[·]?) with
      | some e => ∀ h', h'.get? I = some (itO (.ref T) (i + 1) S n ep) → Heap.SameBut I s.heap h' → Q (some e.2) { s with heap := h' }
      | none => ps[i]? = none ∧ ∀ h', (∀ b o, b ≠ I → s.heap.get? b = some o → h'.get? b = some o) → Q none { s with heap := h' }) :
    wpAny (model prog w) A (pyNext (.ref I)) Q E s := by
  have hT : s.TypeIs (.ref I) "set_iterator" := ⟨_, hI, rfl⟩
  unfold pyNext
  refine wpAny_bind (wpAny_attempt (wpAny_callSpecial?_slot (name := Str.ofString "__next__") hT slot_setit_next (wpAny_call_entry slot_setit_next hT entry_setit_next ?_ (args_setit_next _))))
  unfold Builtin.«set_iterator.__next__»
  refine wpAny_bind (m := slotArgs "__next__" 0 _) (wpAny_pure ?_)
  refine wpAny_bind (wpAny_fieldsOf hI rfl ?_)
  dsimp only
  refine wpAny_bind (wpAny_setEntries_of ho hd hf ?_)
  have hne : ((es.size : Int) != (n : Int)) = false := by rw [hn]; simp
  rw [hne]
  simp only [Bool.false_eq_true, if_false]
  show wpAny _ _ (seqItems? (.ref T) >>= _) _ _ s
  refine wpAny_bind (wpAny_seqItems hTt rfl ?_)
  have hidx : (ps.map fun (k : Nat) => rawInt k).toArray[(i : Int).toNat]? = (ps[i]?).map fun (k : Nat) => rawInt k := by rw [Int.toNat_natCast, List.getElem?_toArray, List.getElem?_map]
  dsimp only
  rw [hidx]
  cases hp : ps[i]? with
  | some k =>
    rw [hp, Option.bind_some] at h
    dsimp only [Option.map_some, rawInt]
    cases he : es[k]? with
    | some e =>
      rw [he] at h
      unfold setNextDrawn
      refine wpAny_bind (wpAny_bind (wpAny_setState_of ho hd hf ?_))
      dsimp only
      rw [show (ep != (ep : Int).toNat) = false by simp, Int.toNat_natCast, he]
      simp only [Bool.false_eq_true, if_false]
      refine wpAny_pure ?_
      refine wpAny_bind (wpAny_setField hI rfl (by simp) (wpAny_pure ⟨e.2, rfl, wpAny_pure ?_⟩))
      exact h _ (Heap.get?_update_self _ hI rfl) (Heap.SameBut.update ..)
    | none => rw [he] at h; exact absurd h.1 (by simp)
  | none =>
    rw [hp] at h
    dsimp only [Option.map_none]
    refine wpAny_bind (wpAny_setField hI rfl (by simp) ?_)
    have h1 := Heap.get?_update_self (Obj.mapFields (·.setIfInBounds 0 (rawInt 0))) hI rfl
    refine wpAny_bind (wpAny_setField (s := { s with heap := _ }) h1 rfl (by simp) ?_)
    refine stop_here (T := "") (I := I) hh fun h' hk => ?_
    exact h.2 h' fun b o hb e => hk b o ((Heap.get?_update_other _ _ (Ne.symm hb)).trans ((Heap.get?_update_other _ _ (Ne.symm hb)).trans e))
end
end Mine
end

section
open PySem PySem.W PyProof.Rows
namespace Mine
section
variable {prog : Program} {w : World} {A : Around} {E : Value → Shared → Prop} {s : Shared}

theorem setit_self {I : Addr} {ob : Obj} {Q : Value → Shared → Prop} (hI : s.heap.get? I = some ob) (hc : ob.cls = .type "set_iterator") (h : Q (.ref I) s) : wpAny (model prog w) A (pyIter (.ref I)) Q E s := by
  have hT : s.TypeIs (.ref I) "set_iterator" := ⟨ob, hI, hc⟩
  refine wpAny_pyIter_slot hT slot_setit_iter (wpAny_call_entry slot_setit_iter hT entry_setit_iter ?_ (args_setit_iter _))
  show wpAny _ _ (ret (.ref I)) _ _ s
  exact wpAny_pure ⟨_, rfl, "set_iterator", _, hT, slot_setit_next.lookup, h⟩

theorem next_text {S : Addr} {slot i ep : Nat} {o : Obj} {es : Array (Int × Value)} {t : SetTable} {Q : Option (Value × Nat) → Shared → Prop} (hb : byT w = true) (ho : s.heap.get? S = some o) (hd : o.data = .set es ep t) (hf : t.fits es.size = true)
    (h : Q (((pickOrder (w.params.setOrder S ep) es)[i]?).map fun e => (e.2, slot)) s) : wpAny (model prog w) A (setNext S slot i ep) Q E s := by
  unfold setNext setsByText
  refine wpAny_bind (wpAny_setState_of ho hd hf ?_)
  dsimp only
  refine wpAny_bind (wpAny_bind (wpAny_askSetting (wpAny_pure ?_)))
  dsimp only
  rw [show (model prog w).w.params.followText "set-order" = true from hb, if_pos rfl, show (ep != ep) = false by simp]
  simp only [Bool.false_eq_true, if_false]
  refine wpAny_bind ?_
  unfold setWalk setsByText
  refine wpAny_bind (wpAny_setState_of ho hd hf ?_)
  dsimp only
  refine wpAny_bind (wpAny_bind (wpAny_askSetting (wpAny_pure ?_)))
  dsimp only
  rw [show (model prog w).w.params.followText "set-order" = true from hb, if_pos rfl]
  refine wpAny_bind (wpAny_askSetting (wpAny_pure ?_))
  exact wpAny_pure h
theorem below_one (j slot : Nat) : SetTable.below #[j] slot = if j < slot then 1 else 0 := by
  unfold SetTable.below
  simp only [List.size_toArray, List.length_cons, List.length_nil, Nat.zero_add]
  rw [SetTable.below.go]
  simp [SetTable.below.go]
theorem arr_one {α : Type} {a : Array α} (h : a.size = 1) : ∃ x, a = #[x] := by
  obtain ⟨l⟩ := a
  match l, h with
  | [x], _ => exact ⟨x, rfl⟩
theorem next_one {S : Addr} {slot i ep j : Nat} {o : Obj} {e : Int × Value} {t : SetTable} {Q : Option (Value × Nat) → Shared → Prop} (hb : byT w = false) (ho : s.heap.get? S = some o) (hd : o.data = .set #[e] ep t) (hf : t.fits 1 = true) (hl : t.led = true) (hp : t.place = #[j])
    (h : Q (if j < slot then none else some (e.2, j + 1)) s) : wpAny (model prog w) A (setNext S slot i ep) Q E s := by
  unfold setNext setsByText
  refine wpAny_bind (wpAny_setState_of ho hd hf ?_)
  dsimp only
  refine wpAny_bind (wpAny_bind (wpAny_askSetting (wpAny_pure ?_)))
  dsimp only
  rw [show (model prog w).w.params.followText "set-order" = false from hb]
  simp only [Bool.false_eq_true, if_false]
  show wpAny _ _ (if (!t.plain && decide ((#[e] : Array (Int × Value)).size > 1)) = true then _ else _) _ _ _
  rw [show (!t.plain && decide ((#[e] : Array (Int × Value)).size > 1)) = false by simp]
  simp only [Bool.false_eq_true, if_false]
  refine wpAny_bind (Q := _) ?_
  show wpAny _ _ (if (!t.led && !(#[e] : Array (Int × Value)).isEmpty) = true then _ else _) _ _ _
  rw [show (!t.led && !(#[e] : Array (Int × Value)).isEmpty) = false by rw [hl]; rfl]
  simp only [Bool.false_eq_true, if_false]
  refine wpAny_pure ?_
  rw [hp, below_one]
  by_cases hj : j < slot
  · rw [if_pos hj] at h ⊢
    exact wpAny_pure h
  · rw [if_neg hj] at h ⊢
    exact wpAny_pure h

structure SetWalk (prog : Program) (w : World) (s : Shared) (S : Addr) (ys : List Str) (I : Addr) (fp : List Addr) (P : Nat → Value → Prop) (St : Nat → Heap → Prop) (s' : Shared) : Prop where
  walks : ∀ A : Around, A.handled = none → Walks prog w A I fp [I] ys.length P St
  start : St 0 s'.heap
  typ : ∀ i h, St i h → ∃ o, h.get? I = some o ∧ o.cls = .type "set_iterator"
  new : s.heap.get? I = none
  live : ∀ b ∈ fp, (∃ o, s'.heap.get? b = some o) ∧ (s.heap.get? b = none ∨ b = S)
  vals : ∃ zs : List Value, zs.length = ys.length ∧ (∀ i v, P i v → zs[i]? = some v) ∧ ∃ ys', StrsAre zs ys' ∧ ys'.Perm ys

theorem setIter_of {S : Addr} {o : Obj} {ys : List Str} {Q : Value → Shared → Prop} (hh : A.handled = none) (ho : s.heap.get? S = some o) (hS : SetS prog w o ys) (hne : ys ≠ []) (hsz : ys.length ≤ sizeLine)
    (h : ∀ I fp P St s', Kp s s' → SetWalk prog w s S ys I fp P St s' → Q (.ref I) s') : wpAny (model prog w) A (pyIter (.ref S)) Q E s := by
  obtain ⟨hex, es, ep, t, hd, hel, rfl, hnd, hf, hl, hp⟩ := id hS
  have hT : s.TypeIs (.ref S) "set" := ⟨o, ho, hex.1⟩
  have hlen : (es.toList.map (fun e => strOf e.2)).length = es.size := by rw [List.length_map, Array.length_toList]
  have hsS : S < s.heap.objs.size := Heap.lt_size ho
  have tys : ∀ (l : List (Int × Value)), l.Perm es.toList → ∃ ys', StrsAre (l.map (·.2)) ys' ∧ ys'.Perm (es.toList.map (fun e => strOf e.2)) := fun l hl => by
    refine ⟨(l.map (·.2)).map strOf, strsAre_map _ fun v hv => ?_, ?_⟩
    · obtain ⟨e, he, rfl⟩ := List.mem_map.mp hv
      obtain ⟨t, e2⟩ := elem_str hel e (hl.mem_iff.mp he)
      exact ⟨_, t, e2⟩
    · rw [List.map_map]
      exact hl.map _
  refine wpAny_pyIter_slot hT PySem.F.slot_set_iter (wpAny_call_entry PySem.F.slot_set_iter hT entry_setS_iter ?_ (PySem.F.args_set_iter_1 _))
  unfold Builtin.«frozenset.__iter__» Builtin.Frozenset.slot0 slotArgs
  simp only [List.isEmpty_nil, Bool.not_true, Bool.false_eq_true, ↓reduceIte, bind_assoc, List.length_nil, bne_self_eq_false]
  unfold Builtin.Frozenset.addrOf Builtin.Frozenset.sizeOf
  refine wpAny_bind (wpAny_pure ?_)
  try dsimp only
  refine wpAny_bind (wpAny_pure ?_)
  refine wpAny_bind (wpAny_bind (wpAny_setEntries_of ho hd hf (wpAny_pure ?_)))
  refine wpAny_bind ?_
  unfold setDrawn setsByText
  refine wpAny_bind (wpAny_setState_of ho hd hf ?_)
  dsimp only
  refine wpAny_bind (wpAny_bind (wpAny_askSetting (wpAny_pure (wpAny_pure ?_))))
  dsimp only
  show wpAny _ _ (if (!(byT w) && (!t.plain && decide (es.size > 1))) = true then _ else _) _ _ _
  cases hb : byT w with
  | true =>
    simp only [Bool.not_true, Bool.false_and, Bool.false_eq_true, if_false]
    refine wpAny_bind (wpAny_pure ?_)
    refine wpAny_bind (wpAny_setEpoch_of ho hd hf ?_)
    refine wpAny_bind (wpAny_newObj_type (wpAny_pure ⟨_, rfl, "set_iterator", _, ⟨_, Heap.get?_push_size _ rfl, rfl⟩, slot_setit_next.lookup, ?_⟩))
    have hI0 : (s.heap.push { cls := .type "set_iterator", data := .fields #[.int 0 0, .int ((0 : Nat) : Int) 0, .ref S, .int es.size 0, .int ep 0] }).get? s.heap.objs.size = some (itO (.int ((0 : Nat) : Int) 0) 0 S es.size ep) := Heap.get?_push_size _ rfl
    have pp := pick_perm (w.params.setOrder S ep) es
    refine h s.heap.objs.size [s.heap.objs.size, S] (fun i v => ((pickOrder (w.params.setOrder S ep) es)[i]?).map (·.2) = some v) (fun i h => h.get? s.heap.objs.size = some (itO (.int ((0 : Nat) : Int) 0) i S es.size ep) ∧ h.get? S = some o) _ (Kp.push s _ s.toks) ⟨fun A' hh' => ⟨fun b hb => by simp at hb; simp [hb], fun i h₁ h₂ st k => ⟨k _ (by simp) _ st.1, k _ (by simp) _ st.2⟩, fun i s₁ Q₁ E₁ hi st hQ => ?_, fun s₁ Q₁ E₁ st hQ => ?_, fun i s₁ Q₁ E₁ st hQ => setit_self st.1 rfl hQ⟩, ⟨hI0, Heap.get?_push_of_some _ ho⟩, fun i h₁ st => ⟨_, st.1, rfl⟩, fresh_get _, fun b hb => ?_, ?_⟩
    · rw [hlen] at hi
      have hi' : i < (pickOrder (w.params.setOrder S ep) es).size := by rw [← Array.length_toList, pp.length_eq, Array.length_toList]; exact hi
      have hget : (pickOrder (w.params.setOrder S ep) es)[i]? = some ((pickOrder (w.params.setOrder S ep) es)[i]'hi') := Array.getElem?_eq_getElem hi'
      refine sit_next (slot := 0) (r := some (((pickOrder (w.params.setOrder S ep) es)[i]'hi').2, 0)) hh' st.1 st.2 hd hf rfl (fun s₂ Q₂ E₂ ho₂ hq => next_text hb ho₂ hd hf (by rw [hget]; exact hq)) fun h' hI' sb => ?_
      refine hQ _ h' s₁.toks (by rw [hget]; rfl) ⟨hI', (sb.2 S ?_).trans st.2⟩ fun b o' hb e => (sb.2 b fun q => hb (by rw [q]; exact List.mem_singleton.mpr rfl)).trans e
      intro q; have := Heap.lt_size ho; rw [q] at this; exact absurd this (Nat.lt_irrefl _)
    · rw [hlen] at st
      have hget : (pickOrder (w.params.setOrder S ep) es)[es.size]? = none := Array.getElem?_eq_none (by rw [← Array.length_toList, pp.length_eq, Array.length_toList]; exact Nat.le_refl _)
      refine sit_next (slot := 0) (r := none) hh' st.1 st.2 hd hf rfl (fun s₂ Q₂ E₂ ho₂ hq => next_text hb ho₂ hd hf (by rw [hget]; exact hq)) fun h' k => ?_
      exact hQ h' s₁.toks fun b o' hb e => k b o' (fun q => hb (by rw [q]; exact List.mem_singleton.mpr rfl)) e
    · rcases List.mem_cons.mp hb with rfl | hb
      · exact ⟨⟨_, hI0⟩, .inl (fresh_get _)⟩
      · rw [List.mem_singleton.mp hb]; exact ⟨⟨_, Heap.get?_push_of_some _ ho⟩, .inr rfl⟩
    · obtain ⟨ys', y1, y2⟩ := tys _ pp
      refine ⟨(pickOrder (w.params.setOrder S ep) es).toList.map (·.2), ?_, fun i v hv => ?_, ys', y1, y2⟩
      · rw [List.length_map, pp.length_eq, hlen, Array.length_toList]
      · rw [List.getElem?_map, Array.getElem?_toList]; exact hv
  | false =>
    have hled : t.led = true := by rw [hl, hb]; rfl
    have hpos : 0 < es.size := Nat.pos_of_ne_zero fun q => hne (List.length_eq_zero_iff.mp (hlen.trans q))
    have hpl : t.plain = false := hp.resolve_left (Nat.ne_of_gt hpos)
    by_cases h1 : es.size > 1
    · rw [hpl, decide_eq_true h1]
      simp only [Bool.not_false, Bool.and_self, if_true]
      refine wpAny_bind (draw_any es.size (List.range es.size) s (List.length_range) fun ps d hpp => wpAny_bind ?_)
      have hps : ps.length = es.size := by rw [hpp.length_eq, List.length_range]
      refine wpAny_newTuple ?_ (by rw [List.length_map, hps, ← hlen]; exact hsz)
      dsimp only
      have ho2 : (s.heap.push (tupOf (ps.map fun (k : Nat) => rawInt k).toArray 0)).get? S = some o := Heap.get?_push_of_some _ ho
      refine wpAny_bind (wpAny_setEpoch_of (s := { s with heap := s.heap.push (tupOf (ps.map fun (k : Nat) => rawInt k).toArray 0), drawn := d }) ho2 hd hf ?_)
      refine wpAny_bind (wpAny_newObj_type (wpAny_pure ⟨_, rfl, "set_iterator", _, ⟨_, Heap.get?_push_size _ rfl, rfl⟩, slot_setit_next.lookup, ?_⟩))
      dsimp only
      have size2 : (s.heap.push (tupOf (ps.map fun (k : Nat) => rawInt k).toArray 0)).objs.size = s.heap.objs.size + 1 := Heap.size_push ..
      have hI0 : ((s.heap.push (tupOf (ps.map fun (k : Nat) => rawInt k).toArray 0)).push { cls := .type "set_iterator", data := .fields #[.ref s.heap.objs.size, .int 0 0, .ref S, .int es.size 0, .int ep 0] }).get? (s.heap.push (tupOf (ps.map fun (k : Nat) => rawInt k).toArray 0)).objs.size = some (itO (.ref s.heap.objs.size) 0 S es.size ep) := Heap.get?_push_size _ rfl
      have hT0 : ((s.heap.push (tupOf (ps.map fun (k : Nat) => rawInt k).toArray 0)).push { cls := .type "set_iterator", data := .fields #[.ref s.heap.objs.size, .int 0 0, .ref S, .int es.size 0, .int ep 0] }).get? s.heap.objs.size = some (tupOf (ps.map fun (k : Nat) => rawInt k).toArray 0) := Heap.get?_push_of_some _ (Heap.get?_push_size _ rfl)
      have kk : Kp s { s with heap := (s.heap.push (tupOf (ps.map fun (k : Nat) => rawInt k).toArray 0)).push { cls := .type "set_iterator", data := .fields #[.ref s.heap.objs.size, .int 0 0, .ref S, .int es.size 0, .int ep 0] }, drawn := d } := ⟨fun b o e => Heap.get?_push_of_some _ (Heap.get?_push_of_some _ e), rfl, rfl⟩
      have nSI : S ≠ (s.heap.push (tupOf (ps.map fun (k : Nat) => rawInt k).toArray 0)).objs.size := by rw [size2]; exact Nat.ne_of_lt (Nat.lt_succ_of_lt hsS)
      have nTI : s.heap.objs.size ≠ (s.heap.push (tupOf (ps.map fun (k : Nat) => rawInt k).toArray 0)).objs.size := by rw [size2]; exact Nat.ne_of_lt (Nat.lt_succ_self _)
      have nI : s.heap.get? (s.heap.push (tupOf (ps.map fun (k : Nat) => rawInt k).toArray 0)).objs.size = none := Heap.get?_none_of_le (by rw [size2]; exact Nat.le_succ _)
      generalize (s.heap.push (tupOf (ps.map fun (k : Nat) => rawInt k).toArray 0)).objs.size = I at *
      have hin : ∀ i < es.size, ∃ k e, ps[i]? = some k ∧ es[k]? = some e := fun i hi => by
        have h1 : i < ps.length := by rw [hps]; exact hi
        have hk : ps[i] < es.size := List.mem_range.mp (hpp.mem_iff.mp (List.getElem_mem h1))
        exact ⟨ps[i], es[ps[i]], List.getElem?_eq_getElem h1, Array.getElem?_eq_getElem hk⟩
      refine h I [I, S, s.heap.objs.size] (fun i v => ((ps[i]?).bind (es[·]?)).map (·.2) = some v) (fun i h => h.get? I = some (itO (.ref s.heap.objs.size) i S es.size ep) ∧ h.get? S = some o ∧ h.get? s.heap.objs.size = some (tupOf (ps.map fun (k : Nat) => rawInt k).toArray 0)) _ kk ⟨fun A' hh' => ⟨fun b hb => by simp at hb; simp [hb], fun i h₁ h₂ st k => ⟨k _ (by simp) _ st.1, k _ (by simp) _ st.2.1, k _ (by simp) _ st.2.2⟩, fun i s₁ Q₁ E₁ hi st hQ => ?_, fun s₁ Q₁ E₁ st hQ => ?_, fun i s₁ Q₁ E₁ st hQ => setit_self st.1 rfl hQ⟩, ⟨hI0, kk.1 _ _ ho, hT0⟩, fun i h₁ st => ⟨_, st.1, rfl⟩, nI, fun b hb => ?_, ?_⟩
      · rw [hlen] at hi
        obtain ⟨k, e, hk, he⟩ := hin i hi
        have hbnd : (ps[i]?).bind (es[·]?) = some e := by rw [hk]; exact he
        refine sit_drawn hh' st.1 st.2.1 hd hf rfl st.2.2 ?_
        rw [hbnd]
        dsimp only
        intro h' hI' sb
        refine hQ _ h' s₁.toks (by rw [hbnd]; rfl) ⟨hI', (sb.2 S nSI).trans st.2.1, (sb.2 _ nTI).trans st.2.2⟩ fun b o' hb e => (sb.2 b fun q => hb (by rw [q]; exact List.mem_singleton.mpr rfl)).trans e
      · rw [hlen] at st
        have hbnd : ps[es.size]? = none := List.getElem?_eq_none (by rw [hps]; exact Nat.le_refl _)
        refine sit_drawn hh' st.1 st.2.1 hd hf rfl st.2.2 ?_
        rw [hbnd]
        dsimp only [Option.bind_none]
        exact ⟨rfl, fun h' k => hQ h' s₁.toks fun b o' hb e => k b o' (fun q => hb (by rw [q]; exact List.mem_singleton.mpr rfl)) e⟩
      · rcases List.mem_cons.mp hb with rfl | hb
        · exact ⟨⟨_, hI0⟩, .inl nI⟩
        · rcases List.mem_cons.mp hb with rfl | hb
          · exact ⟨⟨_, kk.1 _ _ ho⟩, .inr rfl⟩
          · rw [List.mem_singleton.mp hb]; exact ⟨⟨_, hT0⟩, .inl (fresh_get _)⟩
      · have lp : (ps.filterMap (es[·]?)).Perm es.toList := (hpp.filterMap _).trans (by rw [filterMap_getElem?_range])
        obtain ⟨ys', y1, y2⟩ := tys _ lp
        have lens : ∀ (l : List Nat), (∀ k ∈ l, k < es.size) → ∀ i : Nat, (l.filterMap (fun (k : Nat) => es[k]?))[i]? = (l[i]?).bind (fun (k : Nat) => es[k]?) := by
          intro l
          induction l with
          | nil => intro _ i; rfl
          | cons k l ih =>
            intro hl i
            have hk := hl k (.head _)
            rw [List.filterMap_cons_some (b := es[k]) (Array.getElem?_eq_getElem hk)]
            cases i with
            | zero => rw [List.getElem?_cons_zero, List.getElem?_cons_zero, Option.bind_some, Array.getElem?_eq_getElem hk]
            | succ i => rw [List.getElem?_cons_succ, List.getElem?_cons_succ]; exact ih (fun k hk => hl k (.tail _ hk)) i
        refine ⟨(ps.filterMap (es[·]?)).map (·.2), ?_, fun i v hv => ?_, ys', y1, y2⟩
        · rw [List.length_map, lp.length_eq, hlen, Array.length_toList]
        · rw [List.getElem?_map, lens ps (fun k hk => List.mem_range.mp (hpp.mem_iff.mp hk)) i]; exact hv
    · have h1 : es.size = 1 := by omega
      obtain ⟨e, rfl⟩ := arr_one h1
      obtain ⟨j, hj⟩ : ∃ j, t.place = #[j] := arr_one (by
        unfold SetTable.fits at hf
        rw [Bool.and_eq_true] at hf
        exact beq_iff_eq.mp hf.1)
      rw [show (!false && (!t.plain && decide ((#[e] : Array (Int × Value)).size > 1))) = false by simp]
      simp only [Bool.false_eq_true, if_false]
      refine wpAny_bind (wpAny_pure ?_)
      refine wpAny_bind (wpAny_setEpoch_of ho hd hf ?_)
      refine wpAny_bind (wpAny_newObj_type (wpAny_pure ⟨_, rfl, "set_iterator", _, ⟨_, Heap.get?_push_size _ rfl, rfl⟩, slot_setit_next.lookup, ?_⟩))
      have hI0 : (s.heap.push { cls := .type "set_iterator", data := .fields #[.int 0 0, .int ((0 : Nat) : Int) 0, .ref S, .int 1 0, .int ep 0] }).get? s.heap.objs.size = some (itO (.int ((0 : Nat) : Int) 0) 0 S 1 ep) := Heap.get?_push_size _ rfl
      refine h s.heap.objs.size [s.heap.objs.size, S] (fun i v => i = 0 ∧ v = e.2) (fun i h => h.get? s.heap.objs.size = some (itO (.int ((if i = 0 then 0 else j + 1 : Nat) : Int) 0) i S 1 ep) ∧ h.get? S = some o) _ (Kp.push s _ s.toks) ⟨fun A' hh' => ⟨fun b hb => by simp at hb; simp [hb], fun i h₁ h₂ st k => ⟨k _ (by simp) _ st.1, k _ (by simp) _ st.2⟩, fun i s₁ Q₁ E₁ hi st hQ => ?_, fun s₁ Q₁ E₁ st hQ => ?_, fun i s₁ Q₁ E₁ st hQ => setit_self st.1 rfl hQ⟩, ⟨hI0, Heap.get?_push_of_some _ ho⟩, fun i h₁ st => ⟨_, st.1, rfl⟩, fresh_get _, fun b hb => ?_, [e.2], rfl, fun i v hv => ?_, tys [e] (List.Perm.refl _)⟩
      · have hi0 : i = 0 := by rw [hlen] at hi; simp at hi; omega
        subst hi0
        refine sit_next (slot := 0) (r := some (e.2, j + 1)) hh' st.1 st.2 hd hf rfl (fun s₂ Q₂ E₂ ho₂ hq => next_one hb ho₂ hd hf hled hj (by rw [if_neg (Nat.not_lt_zero _)]; exact hq)) fun h' hI' sb => ?_
        refine hQ _ h' s₁.toks ⟨rfl, rfl⟩ ⟨hI', (sb.2 S ?_).trans st.2⟩ fun b o' hb e => (sb.2 b fun q => hb (by rw [q]; exact List.mem_singleton.mpr rfl)).trans e
        intro q; have := Heap.lt_size ho; rw [q] at this; exact absurd this (Nat.lt_irrefl _)
      · rw [hlen] at st
        refine sit_next (slot := j + 1) (i := 1) (r := none) hh' st.1 st.2 hd hf rfl (fun s₂ Q₂ E₂ ho₂ hq => next_one hb ho₂ hd hf hled hj (by rw [if_pos (Nat.lt_succ_self _)]; exact hq)) fun h' k => ?_
        exact hQ h' s₁.toks fun b o' hb e => k b o' (fun q => hb (by rw [q]; exact List.mem_singleton.mpr rfl)) e
      · rcases List.mem_cons.mp hb with rfl | hb
        · exact ⟨⟨_, hI0⟩, .inl (fresh_get _)⟩
        · rw [List.mem_singleton.mp hb]; exact ⟨⟨_, Heap.get?_push_of_some _ ho⟩, .inr rfl⟩
      · obtain ⟨rfl, rfl⟩ := hv; rfl
end
end Mine
end

section
open PySem PySem.W PyProof.Rows PySem.Spec
namespace Mine
section
variable {prog : Program} {w : World} {A : Around} {E : Value → Shared → Prop} {s : Shared}

theorem hint_setS {S : Addr} {o : Obj} {Q : Bool → Shared → Prop} (ho : s.heap.get? S = some o) (hc : o.cls = .type "set") (h : Q false s) : wpAny (model prog w) A (Builtin.List.listLengthHint (.ref S)) Q E s := by
  have hT : s.TypeIs (.ref S) "set" := ⟨o, ho, hc⟩
  unfold Builtin.List.listLengthHint
  refine wpAny_bind (wpAny_specialOf hT PySem.F.slot_set_len.lookup ?_)
  dsimp only
  rw [show splitId "set.__len__" = some ("set", "__len__") by kernel_rfl]
  dsimp only
  refine wpAny_bind (wpAny_isInstance hT sub_set_self ?_)
  simp only [Bool.not_true, Bool.false_eq_true, if_false]
  rw [if_pos (by decide +kernel)]
  refine wpAny_bind (wpAny_typeOf hT ?_)
  exact wpAny_pure h

set_option maxHeartbeats 1000000 in
theorem collect_setS {S : Addr} {o : Obj} {ys : List Str} {Q : List Value → Shared → Prop} (hh : A.handled = none) (ho : s.heap.get? S = some o) (hS : SetS prog w o ys) (hne : ys ≠ []) (hsz : ys.length ≤ sizeLine)
    (h : ∀ s' zs ys', Kp s s' → StrsAre zs ys' → ys'.Perm ys → Q zs s') : wpAny (model prog w) A (collect (.ref S)) Q E s := by
  have hlt := Heap.lt_size ho
  have hT : s.TypeIs (.ref S) "set" := ⟨o, ho, hS.1.1⟩
  have hSL : s.heap.objs.size ≠ S := Nat.ne_of_gt hlt
  unfold collect
  refine wpAny_bind (wpAny_runValue (codeAny_builtin PySem.F.entry_proto_collect ?_))
  rw [Around.under_plainId PySem.F.plain_proto_collect _]
  show wpAny _ A.in1 (newList [] >>= fun l => again (.builtin "list.__iadd__" ⟨[l, .ref S], []⟩)) _ _ s
  refine wpAny_bind (wpAny_newObj_type ?_)
  refine wpAny_pure ⟨plainId_quiet PySem.F.plain_list_iadd _, codeAny_builtin PySem.F.entry_list_iadd ?_⟩
  rw [Around.under_plainId PySem.F.plain_list_iadd _]
  have ho₁ : (s.heap.push { cls := .type "list", data := .seq ([] : List Value).toArray }).get? S = some o := Heap.get?_push_of_some _ ho
  have hL₁ : (s.heap.push { cls := .type "list", data := .seq ([] : List Value).toArray }).get? s.heap.objs.size = some (listOf ([] : List Value).toArray 0) := Heap.get?_push_size _ rfl
  show wpAny _ A.in1 (Builtin.List.listExtendWith (.ref s.heap.objs.size) (.ref S) (.ref s.heap.objs.size)) _ _ _
  unfold Builtin.List.listExtendWith
  refine wpAny_bind (wpAny_typeOf (T := "set") ⟨o, ho₁, hS.1.1⟩ ?_)
  have h1 : Builtin.List.listSameRef (.ref s.heap.objs.size) (.ref S) = false := by simp [Builtin.List.listSameRef, hSL]
  have h2 : (Value.type "set" == Value.type "list") = false := by decide
  have h3 : (Value.type "set" == Value.type "tuple") = false := by decide
  simp only [h1, h2, h3, Bool.or_false, Bool.false_eq_true, if_false]
  refine wpAny_bind (setIter_of (s := { s with heap := s.heap.push { cls := .type "list", data := .seq ([] : List Value).toArray } }) (by simp [hh]) ho₁ hS hne hsz fun I fp P St s₂ k₂ W => ?_)
  have k₁ : Kp s { s with heap := s.heap.push { cls := .type "list", data := .seq ([] : List Value).toArray } } := ⟨fun _ _ e => Heap.get?_push_of_some _ e, rfl, rfl⟩
  refine wpAny_bind (wpAny_holding (hint_setS (k₂.1 _ _ ho₁) hS.1.1 ?_))
  have hL₂ := k₂.1 _ _ hL₁
  have hIL : I ≠ s.heap.objs.size := fun q => by
    have := W.new; rw [q] at this; rw [hL₁] at this; cases this
  simp only [Bool.false_or]
  rw [if_pos (by decide +kernel)]
  refine wpAny_bind (wpAny_rule (wpAny_bind ?_))
  show wpAny _ A.in1 (Builtin.List.listUpdate (.ref s.heap.objs.size) (·.push .none) >>= fun _ => Builtin.List.listUpdate (.ref s.heap.objs.size) (·.pop)) _ _ _
  refine wpAny_bind (wpAny_updateSeq hL₂ rfl ?_)
  have hL₃ := Heap.get?_update_self (Obj.mapSeq (·.push Value.none)) hL₂ rfl
  refine wpAny_updateSeq (s := { s₂ with heap := _ }) hL₃ rfl ?_
  have hL₄ := Heap.get?_update_self (Obj.mapSeq (·.pop)) hL₃ rfl
  have oth : ∀ b ob', b ≠ s.heap.objs.size → s₂.heap.get? b = some ob' → ((s₂.heap.update s.heap.objs.size (Obj.mapSeq (·.push Value.none))).update s.heap.objs.size (Obj.mapSeq (·.pop))).get? b = some ob' :=
    fun b ob' hb e => (Heap.get?_update_other _ _ (Ne.symm hb)).trans ((Heap.get?_update_other _ _ (Ne.symm hb)).trans e)
  have Wk := W.walks A.in1 (by simp [hh])
  have hfp : s.heap.objs.size ∉ fp := fun q => by
    rcases (W.live _ q).2 with e | e
    · rw [hL₁] at e; cases e
    · exact hSL e
  have hst := Wk.frame 0 _ _ W.start fun b hb ob' e => oth b ob' (fun q => hfp (q ▸ hb)) e
  obtain ⟨zs, z1, z2, ys', z3, z4⟩ := W.vals
  refine wpAny_pure ⟨plainId_quiet PySem.F.plain_extend_loop _, codeAny_extend_loopS Wk.toS hsz _ hfp _ ys.length 0 _ _ _ rfl (Nat.zero_le _) hst hL₄ (ItemsOf.nil P) fun s' acc' c' hm hS' hacc => ?_⟩
  show wpAny _ A (load s.heap.objs.size >>= _) _ _ s'
  refine wpAny_bind (wpAny_load hS' (wpAny_pure ?_))
  have e : acc'.toList = zs := by
    refine List.ext_getElem? fun i => ?_
    by_cases hi : i < acc'.size
    · have := z2 i acc'[i] (hacc.2 i acc'[i] (Array.getElem?_eq_getElem hi))
      rw [this, Array.getElem?_toList, Array.getElem?_eq_getElem hi]
    · rw [List.getElem?_eq_none (by rw [Array.length_toList]; omega), List.getElem?_eq_none (by rw [z1, ← hacc.1]; omega)]
  rw [e]
  refine h s' zs ys' ⟨fun b ob' e => ?_, hm.gens.trans k₂.2.1, hm.os.trans k₂.2.2⟩ z3 z4
  have hb := Heap.lt_size e
  refine hm.heap b ob' (fun q => ?_) (oth b ob' (Nat.ne_of_lt hb) (k₂.1 _ _ (k₁.1 _ _ e)))
  rcases List.mem_cons.mp q with q | q
  · exact Nat.ne_of_lt hb q
  · have := W.new
    rw [← List.mem_singleton.mp q] at this
    rw [show ({ s with heap := s.heap.push { cls := .type "list", data := .seq ([] : List Value).toArray } } : Shared).heap.get? b = some ob' from Heap.get?_push_of_some _ e] at this
    cases this

noncomputable def leS (a b : Str) : Bool := !ltCps b.cps.toList a.cps.toList
noncomputable def ddp : List Str → List Str
  | [] => []
  | x :: r => if x ∈ ddp r then ddp r else x :: ddp r
theorem ddp_mem {y : Str} : ∀ {l : List Str}, y ∈ ddp l ↔ y ∈ l
  | [] => Iff.rfl
  | x :: r => by
    have ih := ddp_mem (y := y) (l := r)
    unfold ddp
    split
    · rename_i h
      rw [ih, List.mem_cons]
      exact ⟨.inr, fun q => q.elim (fun q => ih.mp (q ▸ h)) id⟩
    · rw [List.mem_cons, List.mem_cons, ih]
theorem ddp_nodup : ∀ (l : List Str), (ddp l).Nodup
  | [] => List.nodup_nil
  | x :: r => by
    unfold ddp
    split
    · exact ddp_nodup r
    · exact List.nodup_cons.mpr ⟨by assumption, ddp_nodup r⟩
theorem ddp_len : ∀ (l : List Str), (ddp l).length ≤ l.length
  | [] => Nat.le_refl _
  | x :: r => by
    have := ddp_len r
    unfold ddp
    split
    · exact Nat.le_succ_of_le this
    · exact Nat.succ_le_succ this
noncomputable def upS (xs : List Str) : List Str := (ddp xs).mergeSort leS
theorem leS_iff (a b : Str) : leS a b = true ↔ a.cps.toList ≤ b.cps.toList := by
  unfold leS
  rw [ltCps_eq, Bool.not_eq_true', decide_eq_false_iff_not]
  exact List.not_lt
theorem leS_trans (a b c : Str) (h : leS a b = true) (k : leS b c = true) : leS a c = true := (leS_iff a c).mpr (List.le_trans ((leS_iff a b).mp h) ((leS_iff b c).mp k))
theorem leS_total (a b : Str) : (leS a b || leS b a) = true := by
  rw [Bool.or_eq_true, leS_iff, leS_iff]
  exact List.le_total _ _
theorem leS_anti {a b : Str} (h : leS a b = true) (k : leS b a = true) : a = b := by
  have e := List.le_antisymm ((leS_iff a b).mp h) ((leS_iff b a).mp k)
  exact PySem.Str.ext' (Array.toList_inj.mp e)
theorem rising_pair : ∀ (l : List Str) (p : Str), risingS p l = true → (p :: l).Pairwise (fun a b => leS a b = true)
  | [], p, _ => List.pairwise_singleton ..
  | x :: r, p, h => by
    have h' : (!ltCps x.cps.toList p.cps.toList && risingS x r) = true := h
    rw [Bool.and_eq_true] at h'
    have ih := rising_pair r x h'.2
    refine List.pairwise_cons.mpr ⟨fun y hy => ?_, ih⟩
    have h1 : leS p x = true := h'.1
    rcases List.mem_cons.mp hy with rfl | hy
    · exact h1
    · exact leS_trans p x y h1 ((List.pairwise_cons.mp ih).1 y hy)
theorem sorted_pair : ∀ (l : List Str), sortedS l = true → l.Pairwise (fun a b => leS a b = true)
  | [], _ => .nil
  | x :: r, h => rising_pair r x h
theorem upS_sorted (xs : List Str) : (upS xs).Pairwise (fun a b => leS a b = true) := List.pairwise_mergeSort leS_trans leS_total _
theorem upS_mem {xs : List Str} {y : Str} : y ∈ upS xs ↔ y ∈ xs := by unfold upS; rw [List.mem_mergeSort, ddp_mem]
theorem upS_nodup (xs : List Str) : (upS xs).Nodup := (List.mergeSort_perm _ _).nodup_iff.mpr (ddp_nodup xs)
theorem upS_eq {xs ys zs : List Str} (hn : ys.Nodup) (hm : ∀ y, y ∈ ys ↔ y ∈ xs) (hp : zs.Perm ys) (hs : sortedS zs = true) : zs = upS xs := by
  have p : zs.Perm (upS xs) := hp.trans ((List.perm_ext_iff_of_nodup hn (upS_nodup xs)).mpr fun y => (hm y).trans upS_mem.symm)
  exact List.Perm.eq_of_pairwise (fun a b _ _ h k => leS_anti h k) (sorted_pair zs hs) (upS_sorted xs) p
theorem upS_len (xs : List Str) : (upS xs).length ≤ xs.length := by
  have h1 : (upS xs).length = (ddp xs).length := (List.mergeSort_perm _ _).length_eq
  rw [h1]
  exact ddp_len xs

theorem sh_old {h : Heap} {vs : List Value} {out : Array Value} (b : Addr) (o : Obj) (hb : h.get? b = some o) : (sortedHeap (h.push (seqObj "list" vs.toArray 0)) h.objs.size vs out).get? b = some o := by
  have hlt := Heap.lt_size hb
  have hlt2 : b < (h.push (seqObj "list" vs.toArray 0)).objs.size := by rw [size_push']; exact Nat.lt_succ_of_lt hlt
  rw [sortedHeap_old (Nat.ne_of_lt hlt) hlt2]
  exact Heap.get?_push_of_some _ hb
set_option maxHeartbeats 1000000 in
theorem sorted_setS {S : Addr} {o : Obj} {xs ys : List Str} {Q : Value → Shared → Prop} (hh : A.handled = none) (ho : s.heap.get? S = some o) (hS : SetS prog w o ys) (hne : ys ≠ []) (h64 : ys.length < 64) (hm : ∀ y, y ∈ ys ↔ y ∈ xs)
    (h : ∀ a s' vs n, Kp s s' → s.heap.get? a = none → s'.heap.get? a = some (listOf (List.toArray vs) n) → StrsAre vs (upS xs) → Q (.ref a) s') : wpAny (model prog w) A (call (.builtin "sorted") [.ref S]) Q E s := by
  refine Calls.call_function_entry kind_sorted plain_sorted entry_sorted (args_sorted1 _) ?_
  unfold Builtin.«sorted»
  refine wpAny_bind (m := checkCount "sorted" 1 1 _) (wpAny_pure ?_)
  refine wpAny_bind (collect_setS (by simp [hh]) ho hS hne (by rw [sizeLine_eq]; omega) fun s₁ zs ys' k₁ hzs hp => ?_)
  have hlen : zs.length < 64 := by rw [StrsAre.length hzs, hp.length_eq]; exact h64
  refine wpAny_bind (wpAny_newList ?_ (by rw [sizeLine_eq]; omega))
  have hoL : (s₁.heap.push (seqObj "list" zs.toArray 0)).get? s₁.heap.objs.size = some (seqObj "list" zs.toArray 0) := Heap.get?_push_size _ rfl
  refine wpAny_bind (wpAny_holding (wpAny_call_entry slot_list_sort ⟨_, hoL, rfl⟩ entry_list_sort (list_sort_treeK (s := { s₁ with heap := s₁.heap.push (seqObj "list" zs.toArray 0) }) strKind_oneLt hoL hzs.keysOf (fun v₁ v₂ rest e => keyKind_strs (by rw [← e]; exact hzs)) hlen fun st' a1 a2 => ⟨_, rfl, ?_⟩) (args_list_sort _)))
  obtain ⟨ss', b1, b2, b3⟩ := sorted_out_str hzs a1 a2
  have e := upS_eq hS.2.choose_spec.choose_spec.choose_spec.2.2.2.1 hm (b2.trans hp) b3
  obtain ⟨n, hn⟩ := sortedHeap_at (vs := zs) (out := (arrOf st').map (·.2)) hoL
  refine wpAny_pure ⟨_, rfl, ?_⟩
  refine h s₁.heap.objs.size { s₁ with heap := sortedHeap (s₁.heap.push (seqObj "list" zs.toArray 0)) s₁.heap.objs.size zs ((arrOf st').map (·.2)) } ((arrOf st').map (·.2)).toList n ⟨fun b ob eb => sh_old b ob (k₁.1 _ _ eb), k₁.2.1, k₁.2.2⟩ (fresh_old k₁) ?_ (e ▸ b1)
  rw [Array.toArray_toList]; exact hn
end
end Mine
end

section
open PySem PySem.W PyProof.Rows
namespace Mine
section
variable {prog : Program} {w : World} {G : Gd} {n : Nat} {sc : Scope} {ρ : Store}

theorem eb_neL {l r : Expr} {pos : Pos} {is js : List Int} (hl : EvL prog w G n sc ρ l (is.map PV.int)) (hr : EvL prog w G n sc ρ r (js.map PV.int)) (hn : 20 ≤ n)
    (hm : behindInMarks .NotEq r = false := by with_unfolding_all rfl) : EvB prog w G n sc ρ (.Compare l [.NotEq] [r] pos) (!decide (is = js)) :=
  eb_cmp hl hr (fun A W s s₁ s₂ a b Q E hA hG hW k₁ k₂ r₁ r₂ hQ => by
    obtain ⟨a, vs, m, rfl, ha, rs⟩ := r₁
    obtain ⟨b, us, m', rfl, hb, ru⟩ := r₂
    exact ke_ne_ints (xs := vs) (ys := us) ⟨_, k₂.1 _ _ ha, rfl, m, rfl⟩ ⟨_, hb, rfl, m', rfl⟩ (repL_ints rs) (repL_ints ru) (by have := hA.2.2; omega) (hQ s₂ (Kp.refl _))) hm

theorem strs_repL {P : Addr → Obj → Prop} : ∀ {ys : List Str} {vs : List Value}, StrsAre vs ys → RepL P vs (ys.map PV.str)
  | _, _, .nil => .nil
  | _, _, .cons x t r => .cons (.str x t) (strs_repL r)

noncomputable def SetR (prog : Program) (w : World) (xs : List Str) (_ : Addr → Prop) (_ h' : Heap) (v : Value) : Prop := ∃ a o ys, v = .ref a ∧ h'.get? a = some o ∧ SetS prog w o ys ∧ ∀ y, y ∈ ys ↔ y ∈ xs
theorem ev_setS {x : Str} {np pos : Pos} {e : Expr} {xs : List Str} (hx : sc.names.lookup x = some .globalImplicit) (hf : GVal G x (.type "set")) (he : EvL prog w G n sc ρ e (xs.map PV.str)) (hsz : xs.length < 64)
    (ns : NS e := by intro _ _; rfl) (hd : (x == ("__debug__" : Str)) = false := by decide) : Ev prog w G n sc ρ (.Call (.Name x np) [e] [] pos) (SetR prog w xs) :=
  ev_call1 hx hf (.type _) he (fun A W s s₁ v Q E hA hG hW k hr hQ => by
    obtain ⟨h₀, _, a, vs, m, rfl, ha, rs⟩ := hr
    refine call_setS (vs := vs) hA.1 ⟨_, ha, rfl, m, rfl⟩ (repL_strs rs) (by have h1 : scanBound = 4096 := rfl; omega) fun h' tk o ys ho hS hm hk => ?_
    exact hQ _ _ ⟨hk, rfl, rfl⟩ ⟨_, o, ys, rfl, ho, hS, hm⟩) ns hd
theorem ev_sortedS {x : Str} {np pos : Pos} {e : Expr} {xs : List Str} (hx : sc.names.lookup x = some .globalImplicit) (hf : GVal G x (.builtin "sorted")) (he : Ev prog w G n sc ρ e (SetR prog w xs)) (hne : xs ≠ []) (hsz : xs.length < 64)
    (ns : NS e := by intro _ _; rfl) (hd : (x == ("__debug__" : Str)) = false := by decide) : EvT prog w G n sc ρ (.Call (.Name x np) [e] [] pos) (.list ((upS xs).map PV.str)) :=
  ev_call1 hx hf (.builtin _) he (fun A W s s₁ v Q E hA hG hW k hr hQ => by
    obtain ⟨h₀, _, a, o, ys, rfl, ho, hS, hm⟩ := hr
    have p : ys.Perm (upS xs) := (List.perm_ext_iff_of_nodup hS.2.choose_spec.choose_spec.choose_spec.2.2.2.1 (upS_nodup xs)).mpr fun y => (hm y).trans upS_mem.symm
    have hlen : ys.length < 64 := by have := upS_len xs; rw [p.length_eq]; omega
    have hne' : ys ≠ [] := fun q => by
      obtain ⟨y, hy⟩ := List.exists_mem_of_ne_nil xs hne
      rw [q] at hm; exact absurd ((hm y).mpr hy) List.not_mem_nil
    refine sorted_setS hA.1 ho hS hne' hlen hm fun b s' vs m k' hb0 hb hvs => ?_
    refine hQ _ s' k' (.list (vs := vs) (n := m) ⟨hb, fun hw => ?_⟩ (strs_repL hvs))
    obtain ⟨ob, hob⟩ := hW b hw
    have := k.1 _ _ hob
    rw [hb0] at this; cases this) ns hd

theorem x1_assignE {e : Expr} {pos : Pos} {d : PV} {ρ' : Store} {x : Str} {p : Pos} (he : EvT prog w G n sc ρ e d) (hb : bindN sc x d ρ = some ρ')
    (hs : ∀ env, env.scope = sc → swapsWith e (some (.Name x p)) pos.line env = pure false) : Ex1 prog w G n sc ρ (.Assign [.Name x p] e pos) (To ρ') :=
  fun A env W Z ad s Q E hA F hQ => wpAny_Assign_Name (he A env W ad s _ E hA F.ec fun v s₁ k r => store_bind (F.keeps k.1) hb r fun h' tk F' o =>
    hQ W ad ρ' .next .next _ ⟨rfl, rfl⟩ F' ((Off.ofKp k).trans o) .next) (hs env F.ec.scope)
theorem Ex1.sub {st : Stmt} {ρ' : Store} {K : Store → FlowP → Prop} (h : Ex1 prog w G n sc ρ' st K) (k : ∀ x sl, ρ'.lookup x = some sl → ρ.lookup x = some sl) : Ex1 prog w G n sc ρ st K :=
  fun A env W Z ad s Q E hA F hQ => h A env W Z ad s Q E hA (F.sub k) hQ
theorem ex1_to {st : Stmt} {ss : List Stmt} {canon : Store} {K : Store → FlowP → Prop} (h : Ex1 prog w G n sc ρ st (fun ρ' fl => fl = .next ∧ Cov canon ρ')) (h1 : Ex prog w G n sc canon ss K) : Ex prog w G n sc ρ (st :: ss) K := ex_consC h h1
theorem sorted_srt (is : List Int) : (is.mergeSort (fun a b => decide (a ≤ b))).Pairwise (· ≤ ·) := by
  have := List.pairwise_mergeSort (le := fun a b : Int => decide (a ≤ b)) (fun a b c h k => by simp at h k ⊢; omega) (fun a b => by simp; omega) is
  exact this.imp fun h => by simpa using h
noncomputable def srt (is : List Int) : List Int := is.mergeSort (fun a b => decide (a ≤ b))
theorem srt_eq {is js : List Int} (h : is.Perm js) : srt is = srt js :=
  pairwise_perm_eq (((List.mergeSort_perm is _).trans h).trans (List.mergeSort_perm js _).symm) (sorted_srt is) (sorted_srt js)
theorem ev_sorted' {x : Str} {np pos : Pos} {e : Expr} {is : List Int} (hx : sc.names.lookup x = some .globalImplicit) (hf : GVal G x (.builtin "sorted")) (he : EvL prog w G n sc ρ e (is.map PV.int)) (h64 : is.length < 64)
    (ns : NS e := by intro _ _; rfl) (hd : (x == ("__debug__" : Str)) = false := by decide) : EvT prog w G n sc ρ (.Call (.Name x np) [e] [] pos) (.list ((srt is).map PV.int)) :=
  ev_sorted hx hf he h64 (List.mergeSort_perm is _) (sorted_srt is) ns hd
end
end Mine
end

section
open PySem PySem.W PyProof.Rows
namespace Mine
noncomputable abbrev Deed := Nat × Nat × Int
noncomputable def deedPV (d : Deed) : PV := .tuple [.int d.1, .int d.2.1, .int d.2.2]
structure Row where
  done : Nat
  L : Nat
  R : Nat
  first : Nat
  both : Nat
noncomputable def rowPV (r : Row) : PV := .tuple [.int r.done, .str (pad r.L r.R), .int r.first, .int r.both]
noncomputable def stepL (d : Deed) (r : Row) : Nat := r.L + d.1 - took d.2.2 (r.L + d.1)
noncomputable def stepR (d : Deed) (r : Row) : Nat := r.R + d.2.1 - took (d.2.2 - took d.2.2 (r.L + d.1)) (r.R + d.2.1)
noncomputable def stepRow (d : Deed) (k : Nat) (r : Row) : Row :=
  ⟨r.done + 2 ^ k, stepL d r, stepR d r, bif decide (0 < stepL d r) then r.first + 2 ^ k else 0, bif decide (0 < stepL d r + stepR d r) then r.both + 2 ^ k else 0⟩
noncomputable def growOf {α : Type} (done : α → Nat) (f : Nat → α → α) (rows : List α) : List α :=
  (rows.map fun r => ((List.range 4).filter fun k => !(done r).testBit k).map fun k => f k r).flatten
noncomputable def rowsOf (D : List Deed) : Nat → List Row
  | 0 => [⟨0, 0, 0, 0, 0⟩]
  | t + 1 => growOf (·.done) (fun k => stepRow (D.getD k (0, 0, 0)) k) (rowsOf D t)
structure DeedOk (d : Deed) : Prop where
  a : d.1 ≤ 2
  b : d.2.1 ≤ 1
  t0 : -1 ≤ d.2.2
  t1 : d.2.2 ≤ 4

noncomputable def donesOf : Nat → List Nat
  | 0 => [0]
  | t + 1 => growOf id (fun k d => d + 2 ^ k) (donesOf t)
theorem grow_map {α β : Type} {da : α → Nat} {db : β → Nat} {fa : Nat → α → α} {fb : Nat → β → β} (g : α → β) (hd : ∀ r, db (g r) = da r) (hf : ∀ k r, g (fa k r) = fb k (g r)) (rows : List α) : (growOf da fa rows).map g = growOf db fb (rows.map g) := by
  unfold growOf
  rw [List.map_flatten, List.map_map, List.map_map]
  congr 1
  refine List.map_congr_left fun r _ => ?_
  simp only [Function.comp, hd, List.map_map]
  exact List.map_congr_left fun k _ => hf k r
theorem rows_done (D : List Deed) : ∀ t, (rowsOf D t).map (·.done) = donesOf t
  | 0 => rfl
  | t + 1 => by
    rw [rowsOf, donesOf, ← rows_done D t]
    exact grow_map (da := Row.done) (db := id) (fa := fun k => stepRow (D.getD k (0, 0, 0)) k) (fb := fun k d => d + 2 ^ k) Row.done (fun _ => rfl) (fun _ _ => rfl) _
theorem dones_len : (donesOf 4).length = 24 := by decide +kernel
theorem rows_len (D : List Deed) : (rowsOf D 4).length = 24 := by
  have := congrArg List.length (rows_done D 4)
  rwa [List.length_map, dones_len] at this
theorem rows_len_le (D : List Deed) : ∀ t ≤ 4, (rowsOf D t).length ≤ 24 := fun t ht => by
  have := congrArg List.length (rows_done D t)
  rw [List.length_map] at this
  rw [this]
  have : ∀ t ≤ 4, (donesOf t).length ≤ 24 := by decide +kernel
  exact this t ht
theorem dones_lt : ∀ t ≤ 4, ∀ d ∈ donesOf t, d < 16 := by decide +kernel
theorem row_done {D : List Deed} {t : Nat} (ht : t ≤ 4) {r : Row} (hr : r ∈ rowsOf D t) : r.done < 16 :=
  dones_lt t ht _ (by rw [← rows_done D t]; exact List.mem_map_of_mem hr)
theorem mem_grow {α : Type} {done : α → Nat} {f : Nat → α → α} {rows : List α} {r : α} (h : r ∈ growOf done f rows) : ∃ q k, q ∈ rows ∧ k < 4 ∧ (done q).testBit k = false ∧ r = f k q := by
  unfold growOf at h
  obtain ⟨l, hl, hr⟩ := List.mem_flatten.mp h
  obtain ⟨q, hq, rfl⟩ := List.mem_map.mp hl
  obtain ⟨k, hk, rfl⟩ := List.mem_map.mp hr
  obtain ⟨h1, h2⟩ := List.mem_filter.mp hk
  exact ⟨q, k, hq, List.mem_range.mp h1, by simpa using h2, rfl⟩
theorem row_small {D : List Deed} (hD : ∀ d ∈ D, DeedOk d) : ∀ t, ∀ r ∈ rowsOf D t, r.L ≤ 2 * t ∧ r.R ≤ t
  | 0, r, hr => by
    have : r = ⟨0, 0, 0, 0, 0⟩ := by simpa [rowsOf] using hr
    subst this; exact ⟨Nat.le_refl _, Nat.le_refl _⟩
  | t + 1, r, hr => by
    obtain ⟨q, k, hq, hk, _, rfl⟩ := mem_grow hr
    obtain ⟨h1, h2⟩ := row_small hD t q hq
    have hd : (D.getD k (0, 0, 0)).1 ≤ 2 ∧ (D.getD k (0, 0, 0)).2.1 ≤ 1 := by
      rw [List.getD_eq_getElem?_getD]
      cases e : D[k]? with
      | none => exact ⟨Nat.zero_le _, Nat.zero_le _⟩
      | some d => exact ⟨(hD d (List.mem_of_getElem? e)).a, (hD d (List.mem_of_getElem? e)).b⟩
    refine ⟨?_, ?_⟩
    · show q.L + (D.getD k (0, 0, 0)).1 - _ ≤ _; omega
    · show q.R + (D.getD k (0, 0, 0)).2.1 - _ ≤ _; omega

noncomputable def worthOf (side : Int) (d : Deed) : Int := if d.2.2 ≥ 0 then d.1 + d.2.1 * (side - 2) - d.2.2 else -99
noncomputable def tableOf (side : Int) (D : List Deed) : List (Int × Int) := setsOf (D.map (worthOf side))
noncomputable def cameOf (side : Nat) (rows : List Row) : List Nat := rows.map fun r => if side = 2 then r.first else r.both
noncomputable def partOf (side : Nat) (D : List Deed) : List (Int × Int) := (tableOf side D).filter fun p => decide (p.2 > 0)

noncomputable def deedOf (h : Int) : Deed := ((h.fmod 3).toNat, ((h.fdiv 3).fmod 2).toNat, (h.fdiv 6).fmod 6 - 1)
theorem deedOf_ok (h : Int) : DeedOk (deedOf h) := by
  have a1 := Int.fmod_nonneg_of_pos h (show (0 : Int) < 3 by decide)
  have a2 := Int.fmod_lt_of_pos h (show (0 : Int) < 3 by decide)
  have b1 := Int.fmod_nonneg_of_pos (h.fdiv 3) (show (0 : Int) < 2 by decide)
  have b2 := Int.fmod_lt_of_pos (h.fdiv 3) (show (0 : Int) < 2 by decide)
  have c1 := Int.fmod_nonneg_of_pos (h.fdiv 6) (show (0 : Int) < 6 by decide)
  have c2 := Int.fmod_lt_of_pos (h.fdiv 6) (show (0 : Int) < 6 by decide)
  exact ⟨by show (h.fmod 3).toNat ≤ 2; omega, by show ((h.fdiv 3).fmod 2).toNat ≤ 1; omega, by show -1 ≤ (h.fdiv 6).fmod 6 - 1; omega, by show (h.fdiv 6).fmod 6 - 1 ≤ 4; omega⟩
theorem deedOf_pv (h : Int) : PV.tuple [.int (h.fmod 3), .int ((h.fdiv 3).fmod 2), .int ((h.fdiv 6).fmod 6 - 1)] = deedPV (deedOf h) := by
  have a1 := Int.fmod_nonneg_of_pos h (show (0 : Int) < 3 by decide)
  have b1 := Int.fmod_nonneg_of_pos (h.fdiv 3) (show (0 : Int) < 2 by decide)
  unfold deedPV deedOf
  dsimp only
  rw [Int.toNat_of_nonneg a1, Int.toNat_of_nonneg b1]

noncomputable def everyL (xs : List Int) (k : Nat) : List Int := (sliceRange (sliceBounds (some (k : Int)) none (some 4) xs.length).1 (sliceBounds (some (k : Int)) none (some 4) xs.length).2.1 (sliceBounds (some (k : Int)) none (some 4) xs.length).2.2).filterMap (xs[·]?)
theorem pickD_ints (xs : List Int) (a b c : Option Int) : pickD (xs.map PV.int) a b c = ((sliceRange (sliceBounds a b c xs.length).1 (sliceBounds a b c xs.length).2.1 (sliceBounds a b c xs.length).2.2).filterMap (xs[·]?)).map PV.int := by
  unfold pickD
  rw [List.length_map, List.map_filterMap]
  congr 1
  funext i
  rw [List.getElem?_map]
noncomputable def heapsOf (xs : List Int) : List Int := (List.range 4).map fun k => [14, 21, 16, 35].getD k 0 + (everyL xs k).sum
noncomputable def deedsOf (xs : List Int) : List Deed := (heapsOf xs).map deedOf
noncomputable def shiftOf (xs : List Int) : Nat := (xs.sum.fmod 9).toNat
end Mine
end

section
open PySem PySem.W PyProof.Rows
namespace Mine
noncomputable abbrev scL : Scope := scopeOf (stAt 12)
noncomputable def stL (i : Nat) : Stmt := (bodyOf (stAt 12)).getD i (.Pass default)
theorem law_split : bodyOf (stAt 12) = [stL 0, stL 1, stL 2, stL 3, stL 4, stL 5, stL 6, stL 7, stL 8, stL 9, stL 10] := rfl
noncomputable abbrev deedsPV (D : List Deed) : PV := .list (D.map deedPV)
noncomputable abbrev rowsPV (rs : List Row) : PV := .list (rs.map rowPV)
section
variable {prog : Program} {w : World} {G : Gd} {n : Nat}

theorem law0 (hr : GVal G "range" (.type "range")) (hs : GVal G "sum" (.builtin "sum")) {xs : List Int} (h63 : xs.length ≤ 63) :
    Ex1 prog w G n scL [im "script" (iL xs)] (stL 0) (fun ρ fl => fl = .next ∧ Cov [im "heaps" (iL (heapsOf xs)), im "script" (iL xs)] ρ) := by
  have hsz : (1000 : Nat) ≤ sizeLine := by rw [sizeLine_eq]; decide
  refine (x1_assignC1 (φ := overInts fun k => .int ([14, 21, 16, 35].getD k 0 + (everyL xs k).sum)) (es := (heapsOf xs).map PV.int) (ρc := [im "script" (iL xs)]) (it_range1 rfl hr ev_int (by decide) (by decide)) rfl rfl rfl (fun d hd => ?_) ?_ ?_ rfl (fun env h => by unfold swapsWith Env.blockKind Env.kindOf; rw [h]; rfl)).mono fun ρ' fl h => ?_
  · change d ∈ intsFrom 0 4 at hd
    have e := intsFrom_eq 4 0
    rw [show ((0 : Nat) : Int) = 0 from rfl] at e
    rw [e] at hd
    obtain ⟨k, hk, rfl⟩ := List.mem_map.mp hd
    have hk : k < 4 := by have := List.mem_range'.mp hk; omega
    refine turn_all (e := .int ([14, 21, 16, 35].getD k 0 + (everyL xs k).sum)) rfl (ev_add (ev_item (k := (k : Int)) (EvF.toL (ev_list (each_cons ev_int (each_cons ev_int (each_cons ev_int (each_cons ev_int each_nil)))) (by show (4 : Nat) ≤ _; omega))) (ev_name rfl) (by omega) ?_ (by omega)) (ev_sum (is := everyL xs k) rfl hs (pickD_ints xs (some (k : Int)) none (some 4) ▸ EvF.toL (ev_lslice (EvT.toL (ev_name rfl)) (ep_int (ev_name rfl)) ep_none (ep_int ev_int) (by decide) (by rw [List.length_map]; omega)))))
    rw [Int.toNat_natCast]
    have : ∀ k < 4, ([PV.int 14, .int 21, .int 16, .int 35] : List PV)[k]? = some (.int (([14, 21, 16, 35] : List Int).getD k 0)) := by
      intro k hk
      match k, hk with
      | 0, _ => rfl
      | 1, _ => rfl
      | 2, _ => rfl
      | 3, _ => rfl
    exact this k hk
  · show ((intsFrom 0 4).map _).flatten = _
    rw [overInts_flat]
    unfold heapsOf
    rw [List.map_map]; rfl
  · rw [List.length_map]; unfold heapsOf; rw [List.length_map, List.length_range]; omega
  · obtain ⟨rfl, rfl⟩ := h
    exact ⟨rfl, rfl, rfl, trivial⟩

noncomputable def deedFlat : PV → List PV
  | .int h => [deedPV (deedOf h)]
  | _ => []
theorem deedFlat_flat : ∀ hs : List Int, ((hs.map PV.int).map deedFlat).flatten = (hs.map deedOf).map deedPV
  | [] => rfl
  | h :: hs => by
    have := deedFlat_flat hs
    simp only [List.map_cons, List.flatten_cons, this]
    rfl
theorem law1 {xs : List Int} :
    Ex1 prog w G n scL [im "heaps" (iL (heapsOf xs)), im "script" (iL xs)] (stL 1) (fun ρ fl => fl = .next ∧ Cov [im "deeds" (deedsPV (deedsOf xs)), im "script" (iL xs)] ρ) := by
  have hsz : (1000 : Nat) ≤ sizeLine := by rw [sizeLine_eq]; decide
  refine (x1_assignE (d := deedsPV (deedsOf xs)) (EvF.toT (ev_comp1 (φ := deedFlat) (ρc := []) (it_list (ds := (heapsOf xs).map PV.int) (ev_name rfl)) rfl rfl rfl (fun d hd => ?_) (deedFlat_flat _) ?_)) rfl (fun env h => by unfold swapsWith Env.blockKind Env.kindOf; rw [h]; rfl)).mono fun ρ' fl h => ?_
  · obtain ⟨a, _, rfl⟩ := List.mem_map.mp hd
    refine turn_all (e := deedPV (deedOf a)) rfl (ev_of (ev_tuple (each_cons (ev_mod (ev_name rfl) ev_int (by decide)) (each_cons (ev_mod (ev_fdiv (ev_name rfl) ev_int (by decide) (by decide)) ev_int (by decide)) (each_cons (ev_sub (ev_mod (ev_fdiv (ev_name rfl) ev_int (by decide) (by decide)) ev_int (by decide)) ev_int) each_nil))) (by show (3 : Nat) ≤ _; omega)) (deedOf_pv a))
  · unfold deedsOf heapsOf; simp only [List.length_map, List.length_range]; omega
  · obtain ⟨rfl, rfl⟩ := h
    exact ⟨rfl, rfl, rfl, trivial⟩
theorem law2 (hs : GVal G "sum" (.builtin "sum")) {xs : List Int} {D : PV} :
    Ex1 prog w G n scL [im "deeds" D, im "script" (iL xs)] (stL 2) (fun ρ fl => fl = .next ∧ Cov [im "shift" (.int (shiftOf xs)), im "deeds" D] ρ) := by
  refine (x1_assign (d := .int (shiftOf xs)) (ev_of (ev_mod (ev_sum (is := xs) rfl hs (EvT.toL (ev_name rfl))) ev_int (by decide)) ?_) rfl).mono fun ρ' fl h => ?_
  · unfold shiftOf
    rw [Int.toNat_of_nonneg (Int.fmod_nonneg_of_pos _ (by decide))]
  · obtain ⟨rfl, rfl⟩ := h
    exact ⟨rfl, rfl, rfl, trivial⟩
theorem law3 {S D : PV} : Ex1 prog w G n scL [im "shift" S, im "deeds" D] (stL 3) (fun ρ fl => fl = .next ∧ Cov [im "rows" (rowsPV [⟨0, 0, 0, 0, 0⟩]), im "shift" S, im "deeds" D] ρ) := by
  have hsz : (1000 : Nat) ≤ sizeLine := by rw [sizeLine_eq]; decide
  refine (x1_assign (d := rowsPV [⟨0, 0, 0, 0, 0⟩]) (ev_of (EvF.toT (ev_list (each_cons (ev_tuple (each_cons ev_int (each_cons ev_str (each_cons ev_int (each_cons ev_int each_nil)))) (by show (4 : Nat) ≤ _; omega)) each_nil) (by show (1 : Nat) ≤ _; omega))) ?_) rfl).mono fun ρ' fl h => ?_
  · show PV.list [.tuple [.int 0, .str "\t", .int 0, .int 0]] = .list [.tuple [.int 0, .str (pad 0 0), .int 0, .int 0]]
    have : (pad 0 0) = ("\t" : Str) := by decide +kernel
    rw [this]
  · obtain ⟨rfl, rfl⟩ := h
    exact ⟨rfl, rfl, rfl, rfl, trivial⟩
theorem law5 {ρ : Store} : Ex1 prog w G n scL ρ (stL 5) (To (li "tables" [] :: ρ)) :=
  x1_assignF (ev_list each_nil (Nat.zero_le _)) (.inl rfl)
end
end Mine
end

section
open PySem PySem.W PyProof.Rows
namespace Mine
section
variable {prog : Program} {w : World} {G : Gd} {n : Nat} {sc : Scope} {ρ : Store} {α β : Type}

theorem level_on {elt : Expr} {gens : List Comprehension} {scope : Scope} {pos : Pos} {depth : Nat} {g : Comprehension} {t : Env → Value → Sem Unit} {pl : Bool} {rs : List α} {f : α → PV} {ψ : α → List PV}
    (hct : ∀ it acc env, compTurn (.ListComp elt gens scope pos) depth it acc env = (do
      standAt g.iter.pos
      match ← pyNext it with
      | none => pure (.done .next)
      | some v =>
        letOwnedTupleGo g.target it v
        assign g.target env v
        let mut ok := true
        for c in g.ifs do
          if ok then ok ← isTrue c env (eval c env)
        if ok then
          t env acc
        again (.compLoop (.ListComp elt gens scope pos) depth it acc env)))
    (turn : ∀ r ∈ rs, TurnIs prog w G n sc ρ g.target g.ifs t (f r) (ψ r)) (hgo : (∀ it v, letOwnedTupleGo g.target it v = pure ()) ∨ pl = true) :
    Level prog w G n sc ρ elt gens scope pos depth g t pl (rs.map f) (rs.map ψ) :=
  ⟨hct, by rw [List.length_map, List.length_map], fun i d out hd ho => by
    rw [List.getElem?_map] at hd ho
    obtain ⟨r, hr, rfl⟩ := Option.map_eq_some_iff.mp hd
    rw [hr] at ho
    cases ho
    exact turn r (List.mem_of_getElem? hr), hgo⟩
theorem ev_on1 {elt tg it : Expr} {ifs : List Expr} {scope : Scope} {pos : Pos} {pl : Bool} {rs : List α} {f : α → PV} {ψ : α → List PV} {es : List PV} {ρc : Store} {sr : Scope}
    (hi : EvIt prog w G pl n sc ρ it (rs.map f)) (ok : compOk scope sc ρ = true) (hρ : capOf scope.names ρ = ρc) (hsr : relabelS scope sc = sr)
    (turn : ∀ r ∈ rs, TurnIs prog w G n sr ρc tg ifs (emitOf elt) (f r) (ψ r)) (he : (rs.map ψ).flatten = es) (hsz : es.length ≤ sizeLine)
    (hgo : (∀ it v, letOwnedTupleGo tg it v = pure ()) ∨ pl = true := by first | exact .inl fun _ _ => rfl | exact .inr rfl)
    (hs : ∀ env x, foldedSetIterable it env x = pure x := by intro _ _; rfl) : EvF prog w G n sc ρ (.ListComp elt [⟨tg, it, ifs, 0⟩] scope pos) es := by
  subst he
  exact ev_comp (g := ⟨tg, it, ifs, 0⟩) hi ok hρ hsr (level_on (fun _ _ _ => rfl) turn hgo) hsz rfl hs
theorem x1_on1 {x : Str} {p pos cpos : Pos} {ρ' : Store} {elt tg it : Expr} {ifs : List Expr} {scope : Scope} {pl : Bool} {rs : List α} {f : α → PV} {ψ : α → List PV} {es : List PV} {ρc : Store} {sr : Scope}
    (hi : EvIt prog w G pl n sc ρ it (rs.map f)) (ok : compOk scope sc ρ = true) (hρ : capOf scope.names ρ = ρc) (hsr : relabelS scope sc = sr)
    (turn : ∀ r ∈ rs, TurnIs prog w G n sr ρc tg ifs (emitOf elt) (f r) (ψ r)) (he : (rs.map ψ).flatten = es) (hsz : es.length ≤ sizeLine) (hb : bindN sc x (.list es) ρ = some ρ')
    (hsw : ∀ env, env.scope = sc → swapsWith (.ListComp elt [⟨tg, it, ifs, 0⟩] scope cpos) (some (.Name x p)) pos.line env = pure true)
    (hgo : (∀ it v, letOwnedTupleGo tg it v = pure ()) ∨ pl = true := by first | exact .inl fun _ _ => rfl | exact .inr rfl)
    (hs : ∀ env x, foldedSetIterable it env x = pure x := by intro _ _; rfl) : Ex1 prog w G n sc ρ (.Assign [.Name x p] (.ListComp elt [⟨tg, it, ifs, 0⟩] scope cpos) pos) (To ρ') := by
  subst he
  exact x1_assignC (g := ⟨tg, it, ifs, 0⟩) hi ok hρ hsr (level_on (fun _ _ _ => rfl) turn hgo) hsz hb hsw rfl hs
theorem turn_on {elt tg₀ it₀ tg it : Expr} {ifs : List Expr} {ifs₀ : List Expr} {scope : Scope} {pos : Pos} {pl : Bool} {d : PV} {rs : List β} {f : β → PV} {ψ : β → List PV} {out : List PV} {ρ' : Store} (hb : bindC sc tg₀ d ρ = some ρ') (hi : EvIt prog w G pl n sc ρ' it (rs.map f))
    (turn : ∀ r ∈ rs, TurnIs prog w G n sc ρ' tg ifs (emitOf elt) (f r) (ψ r)) (ho : (rs.map ψ).flatten = out)
    (hgo : (∀ it v, letOwnedTupleGo tg it v = pure ()) ∨ pl = true := by first | exact .inl fun _ _ => rfl | exact .inr rfl) (hs : ∀ env x, foldedSetIterable it env x = pure x := by intro _ _; rfl) :
    TurnIs prog w G n sc ρ tg₀ [] (innerOf (.ListComp elt [⟨tg₀, it₀, ifs₀, 0⟩, ⟨tg, it, ifs, 0⟩] scope pos) it) d out := by
  subst ho
  exact ⟨ρ', true, hb, if_nil, fun _ => cb_inner (g₀ := ⟨tg₀, it₀, ifs₀, 0⟩) hi (level_on (g := ⟨tg, it, ifs, 0⟩) (fun _ _ _ => rfl) turn hgo) hs, fun q => nomatch q⟩
theorem ev_on2 {elt tg₀ it₀ tg it : Expr} {ifs : List Expr} {scope : Scope} {pos : Pos} {pl : Bool} {rs : List α} {f : α → PV} {ψ : α → List PV} {es : List PV} {ρc : Store} {sr : Scope}
    (hi : EvIt prog w G pl n sc ρ it₀ (rs.map f)) (ok : compOk scope sc ρ = true) (hρ : capOf scope.names ρ = ρc) (hsr : relabelS scope sc = sr)
    (turn : ∀ r ∈ rs, TurnIs prog w G n sr ρc tg₀ [] (innerOf (.ListComp elt [⟨tg₀, it₀, [], 0⟩, ⟨tg, it, ifs, 0⟩] scope pos) it) (f r) (ψ r)) (he : (rs.map ψ).flatten = es) (hsz : es.length ≤ sizeLine)
    (hgo : (∀ it v, letOwnedTupleGo tg₀ it v = pure ()) ∨ pl = true := by first | exact .inl fun _ _ => rfl | exact .inr rfl)
    (hs : ∀ env x, foldedSetIterable it₀ env x = pure x := by intro _ _; rfl) : EvF prog w G n sc ρ (.ListComp elt [⟨tg₀, it₀, [], 0⟩, ⟨tg, it, ifs, 0⟩] scope pos) es := by
  subst he
  exact ev_comp (g := ⟨tg₀, it₀, [], 0⟩) hi ok hρ hsr (level_on (g := ⟨tg₀, it₀, [], 0⟩) (fun I acc env => hct2 I acc env) turn hgo) hsz rfl hs
theorem x1_on2 {x : Str} {p pos cpos : Pos} {ρ' : Store} {elt tg₀ it₀ tg it : Expr} {ifs : List Expr} {scope : Scope} {pl : Bool} {rs : List α} {f : α → PV} {ψ : α → List PV} {es : List PV} {ρc : Store} {sr : Scope}
    (hi : EvIt prog w G pl n sc ρ it₀ (rs.map f)) (ok : compOk scope sc ρ = true) (hρ : capOf scope.names ρ = ρc) (hsr : relabelS scope sc = sr)
    (turn : ∀ r ∈ rs, TurnIs prog w G n sr ρc tg₀ [] (innerOf (.ListComp elt [⟨tg₀, it₀, [], 0⟩, ⟨tg, it, ifs, 0⟩] scope cpos) it) (f r) (ψ r)) (he : (rs.map ψ).flatten = es) (hsz : es.length ≤ sizeLine) (hb : bindN sc x (.list es) ρ = some ρ')
    (hsw : ∀ env, env.scope = sc → swapsWith (.ListComp elt [⟨tg₀, it₀, [], 0⟩, ⟨tg, it, ifs, 0⟩] scope cpos) (some (.Name x p)) pos.line env = pure true)
    (hgo : (∀ it v, letOwnedTupleGo tg₀ it v = pure ()) ∨ pl = true := by first | exact .inl fun _ _ => rfl | exact .inr rfl)
    (hs : ∀ env x, foldedSetIterable it₀ env x = pure x := by intro _ _; rfl) : Ex1 prog w G n sc ρ (.Assign [.Name x p] (.ListComp elt [⟨tg₀, it₀, [], 0⟩, ⟨tg, it, ifs, 0⟩] scope cpos) pos) (To ρ') := by
  subst he
  exact x1_assignC (g := ⟨tg₀, it₀, [], 0⟩) hi ok hρ hsr (level_on (g := ⟨tg₀, it₀, [], 0⟩) (fun I acc env => hct2 I acc env) turn hgo) hsz hb hsw rfl hs
theorem it_of {pl : Bool} {e : Expr} {ds ds' : List PV} (h : EvIt prog w G pl n sc ρ e ds) (e' : ds = ds') : EvIt prog w G pl n sc ρ e ds' := e' ▸ h
theorem ints_of (m : Nat) : intsFrom 0 m = (List.range m).map (fun (k : Nat) => PV.int k) := by
  have e := intsFrom_eq m 0
  rw [show ((0 : Nat) : Int) = 0 from rfl] at e
  rw [e, List.range_eq_range']
theorem flat_one {f : α → PV} (l : List α) : (l.map fun r => [f r]).flatten = l.map f := by
  induction l with
  | nil => rfl
  | cons a l ih => rw [List.map_cons, List.flatten_cons, ih]; rfl
theorem flat_if {c : α → Bool} {f : α → PV} (l : List α) : (l.map fun r => bif c r then [f r] else []).flatten = (l.filter c).map f := by
  induction l with
  | nil => rfl
  | cons a l ih =>
    rw [List.map_cons, List.flatten_cons, ih, List.filter_cons]
    cases c a <;> rfl
end

theorem bit_fact : ∀ d : Nat, d < 16 → ∀ k : Nat, k < 4 → (Builtin.bitAnd ((d : Int).fdiv (2 ^ (k : Int).toNat)) 1 != 0) = d.testBit k := by decide +kernel
theorem getD_mem' {α : Type} {l : List α} {k : Nat} {x : α} (h : k < l.length) : l.getD k x ∈ l := by
  rw [List.getD_eq_getElem?_getD, List.getElem?_eq_getElem h]
  exact List.getElem_mem h
section
variable {prog : Program} {w : World} {G : Gd} {n : Nat}

noncomputable def NextFn (prog : Program) (w : World) (G : Gd) (n : Nat) (f : Value) : Prop := ∀ (d : Deed) (k : Nat) (r : Row), DeedOk d → k < 4 → r.L ≤ 50 → r.R ≤ 50 → Fn prog w G n f [rowPV r, .int k, deedPV d] (rowPV (stepRow d k r))

theorem law4_turn (hr : GVal G "range" (.type "range")) {fN : Value} (hN : GVal G "_law_next" fN) (hc : Callable G fN) (hfn : NextFn prog w G n fN) {D : List Deed} (hD : ∀ d ∈ D, DeedOk d) (h4 : D.length = 4) {S : PV} {t : Nat} (ht : t < 4) :
    Ex prog w G n scL [im "turn" (.int t), im "rows" (rowsPV (rowsOf D t)), im "shift" S, im "deeds" (deedsPV D)] (match stL 4 with | .For _ _ b _ _ => b | _ => []) (fun ρ fl => fl = .next ∧ Cov [im "rows" (rowsPV (rowsOf D (t + 1))), im "shift" S, im "deeds" (deedsPV D)] ρ) := by
  have hsz : (1000 : Nat) ≤ sizeLine := by rw [sizeLine_eq]; decide
  have hl := rows_len_le D (t + 1) (by omega)
  refine ex_last ((x1_on2 (ψ := fun r => ((List.range 4).filter fun k => !r.done.testBit k).map fun k => rowPV (stepRow (D.getD k (0, 0, 0)) k r)) (es := (rowsOf D (t + 1)).map rowPV) (rs := rowsOf D t) (f := rowPV) (ρc := [im "deeds" (deedsPV D)]) (it_list (ev_name rfl)) rfl rfl rfl (fun r hrm => ?_) ?_ ?_ rfl (fun env h => by unfold swapsWith Env.blockKind Env.kindOf; rw [h]; rfl)).mono fun ρ' fl h => ?_)
  · have hdone := row_done (by omega) hrm
    obtain ⟨s1, s2⟩ := row_small hD t r hrm
    refine turn_on (rs := List.range 4) (f := fun (k : Nat) => .int k) (ψ := fun k => bif !r.done.testBit k then [rowPV (stepRow (D.getD k (0, 0, 0)) k r)] else []) rfl (it_of (it_range1 rfl hr ev_int (by decide) (by decide)) (ints_of 4)) (fun k hk => ?_) (flat_if _)
    have hk := List.mem_range.mp hk
    have hb := bit_fact r.done hdone k hk
    refine turn_if rfl (eb_of (eb_not (eb_int (ev_and (ev_shr (b := (k : Int)) (ev_itemT (k := 0) (ev_name rfl) ev_int (by decide) rfl (by decide)) (ev_name rfl) (by omega)) ev_int))) (by rw [hb])) (fun hc' => ?_)
    refine ev_callF rfl hN hc (each_cons (ev_name rfl) (each_cons (ev_name rfl) (each_cons (d := deedPV (D.getD k (0, 0, 0))) (ev_item (k := (k : Int)) (EvT.toL (ev_name rfl)) (ev_name rfl) (by omega) ?_ (by omega)) each_nil))) (hfn _ k r (hD _ (getD_mem' (by omega))) hk (by omega) (by omega))
    rw [Int.toNat_natCast, List.getElem?_map, List.getElem?_eq_getElem (by omega), List.getD_eq_getElem?_getD, List.getElem?_eq_getElem (by omega)]; rfl
  · rw [rowsOf]
    unfold growOf
    rw [List.map_flatten, List.map_map]
    congr 1
    refine List.map_congr_left fun r _ => ?_
    simp only [Function.comp, List.map_map]
    rfl
  · rw [List.length_map]; omega
  · obtain ⟨rfl, rfl⟩ := h
    exact ⟨rfl, rfl, rfl, rfl, trivial⟩
theorem law4 (hr : GVal G "range" (.type "range")) {fN : Value} (hN : GVal G "_law_next" fN) (hc : Callable G fN) (hfn : NextFn prog w G n fN) {D : List Deed} (hD : ∀ d ∈ D, DeedOk d) (h4 : D.length = 4) {S : PV} :
    Ex1 prog w G n scL [im "rows" (rowsPV [⟨0, 0, 0, 0, 0⟩]), im "shift" S, im "deeds" (deedsPV D)] (stL 4) (fun ρ fl => fl = .next ∧ Cov [im "rows" (rowsPV (rowsOf D 4)), im "shift" S, im "deeds" (deedsPV D)] ρ) := by
  have hlen0 : (intsFrom 0 (Int.toNat 4)).length = 4 := intsFrom_len _ _
  refine (x1_forK (canon := fun t => [im "rows" (rowsPV (rowsOf D t)), im "shift" S, im "deeds" (deedsPV D)]) (it_range1 rfl hr ev_int (by decide) (by decide)) ⟨rfl, rfl, rfl, trivial⟩ fun t d hd => ?_).mono fun ρ' fl h => ?_
  · have ht : t < 4 := by have := (List.getElem?_eq_some_iff.mp hd).1; rwa [hlen0] at this
    change (intsFrom 0 4)[t]? = some d at hd
    rw [intsFrom_get _ _ _ ht, Int.zero_add] at hd
    cases hd
    exact ⟨_, rfl, law4_turn hr hN hc hfn hD h4 ht⟩
  · rw [hlen0] at h; exact h
end
end Mine
end

section
open PySem PySem.W PyProof.Rows
namespace Mine
noncomputable def keyOf (m s : Nat) : Str := Txt.join ", " (prettyOf (m * 2 ^ s))
noncomputable def namesOf (m s : Nat) : List Str := ((List.range 4).filter fun k => m.testBit k).map fun k => lawNames.getD (s + k) ""
theorem key_apart : ∀ s : Nat, s < 9 → ∀ m : Nat, m < 16 → ∀ j : Nat, j < m → (keyOf j s == keyOf m s) = false := by decide +kernel
theorem idx_fact : ∀ s : Nat, s < 9 → ∀ m : Nat, m < 16 → (((List.range 4).filter fun k => m.testBit k).map (s + ·)) = (List.range 12).filter fun i => (m * 2 ^ s).testBit i := by decide +kernel
theorem key_long : ∀ s : Nat, s < 9 → ∀ m : Nat, m < 16 → m = 0 ∨ ((keyOf m s).length == 0) = false := by decide +kernel
theorem names_pretty {s m : Nat} (hs : s < 9) (hm : m < 16) (h : m * 2 ^ s ≠ 0) : namesOf m s = prettyOf (m * 2 ^ s) := by
  unfold namesOf prettyOf flagNames
  rw [if_neg h, ← idx_fact s hs m hm, List.map_map]
  rfl
theorem key_due (s : Nat) (hs : s < 9) (m : Nat) (hm : m < 16) : (bif (Txt.join ", " (namesOf m s)).length == 0 then ("0x0" : Str) else Txt.join ", " (namesOf m s)) = keyOf m s := by
  by_cases h : m = 0
  · subst h
    unfold keyOf
    rw [Nat.zero_mul]
    have e : namesOf 0 s = [] := by unfold namesOf; simp
    rw [e]
    exact beq_iff_eq.mp (by decide +kernel)
  · have e := names_pretty hs hm (Nat.mul_ne_zero h (Nat.ne_of_gt (Nat.two_pow_pos s)))
    have l := (key_long s hs m hm).resolve_left h
    unfold keyOf at l ⊢
    rw [e, l]
    rfl
theorem names_small : ∀ s : Nat, s < 9 → ∀ m : Nat, m < 16 → ((namesOf m s).map (·.length)).sum + (namesOf m s).length * (", " : Str).length ≤ 200 ∧ (Txt.join ", " (namesOf m s)).length ≤ 200 := by decide +kernel
theorem names_at : ∀ s : Nat, s < 9 → ∀ k : Nat, k < 4 → lawNames[s + k]? = some (lawNames.getD (s + k) "") := by decide +kernel
theorem bit_fact2 : ∀ m : Nat, m < 16 → ∀ k : Nat, k < 4 → (Builtin.bitAnd ((m : Int).fdiv (2 ^ (k : Int).toNat)) 1 != 0) = m.testBit k := bit_fact

noncomputable def seenOf (s : Nat) (came : List Nat) (m : Nat) : List (Str × Int) := ((List.range m).filter fun j => came.contains j).map fun j => (keyOf j s, (came.count j : Int))
noncomputable def dueOf (s : Nat) (T : List (Int × Int)) (m : Nat) : List (Str × Int) := ((List.range m).filter fun j => decide ((T.getD j (0, 0)).2 > 0)).map fun j => (keyOf j s, (T.getD j (0, 0)).2)
theorem dict_succ (s : Nat) (c : Nat → Bool) (g : Nat → Int) (m : Nat) : ((List.range (m + 1)).filter c).map (fun j => (keyOf j s, g j)) = bif c m then ((List.range m).filter c).map (fun j => (keyOf j s, g j)) ++ [(keyOf m s, g m)] else ((List.range m).filter c).map (fun j => (keyOf j s, g j)) := by
  rw [List.range_succ, List.filter_append, List.map_append]
  cases h : c m
  · rw [List.filter_cons_of_neg (by rw [h]; decide)]; simp
  · rw [List.filter_cons_of_pos h]; rfl
theorem seen_succ (s : Nat) (came : List Nat) (m : Nat) : seenOf s came (m + 1) = bif came.contains m then seenOf s came m ++ [(keyOf m s, (came.count m : Int))] else seenOf s came m := dict_succ s _ _ m
theorem due_succ (s : Nat) (T : List (Int × Int)) (m : Nat) : dueOf s T (m + 1) = bif decide ((T.getD m (0, 0)).2 > 0) then dueOf s T m ++ [(keyOf m s, (T.getD m (0, 0)).2)] else dueOf s T m := dict_succ s (fun j => decide ((T.getD j (0, 0)).2 > 0)) (fun j => (T.getD j (0, 0)).2) m
theorem key_new {s m : Nat} (hs : s < 9) (hm : m < 16) (c : Nat → Bool) (g : Nat → Int) : ((((List.range m).filter c).map fun j => (keyOf j s, g j)).any fun kv => decide (kv.1 = keyOf m s)) = false := by
  refine List.any_eq_false.mpr fun p hp => ?_
  obtain ⟨j, hj, rfl⟩ := List.mem_map.mp hp
  have := key_apart s hs m hm j (List.mem_range.mp (List.mem_filter.mp hj).1)
  rw [decide_eq_true_iff]
  exact beq_eq_false_iff_ne.mp this
theorem dict_len (s : Nat) (c : Nat → Bool) (g : Nat → Int) (m : Nat) : (((List.range m).filter c).map fun j => (keyOf j s, g j)).length ≤ m := by
  rw [List.length_map]
  exact Nat.le_trans (List.length_filter_le _ _) (by rw [List.length_range]; exact Nat.le_refl _)
theorem dict_find {s : Nat} (hs : s < 9) (c : Nat → Bool) (g : Nat → Int) : ∀ m : Nat, m ≤ 16 → ∀ p ∈ ((List.range m).filter c).map (fun j => (keyOf j s, g j)), ((((List.range m).filter c).map fun j => (keyOf j s, g j)).find? fun kv => decide (kv.1 = p.1)).map (·.2) = some p.2
  | 0, _, p, hp => by cases hp
  | m + 1, hm, p, hp => by
    have ih := dict_find hs c g m (by omega)
    rw [dict_succ] at hp ⊢
    cases hc : c m with
    | false =>
      rw [hc] at hp
      exact ih p hp
    | true =>
      rw [hc] at hp
      simp only [cond_true] at hp ⊢
      rw [List.find?_append]
      rcases List.mem_append.mp hp with hp | hp
      · have := ih p hp
        cases hf : (((List.range m).filter c).map fun j => (keyOf j s, g j)).find? fun kv => decide (kv.1 = p.1) with
        | some q => rw [hf] at this; exact this
        | none => rw [hf] at this; cases this
      · have hp : p = (keyOf m s, g m) := by simpa using hp
        subst hp
        have hn := key_new hs (by omega : m < 16) c g
        have : ((((List.range m).filter c).map fun j => (keyOf j s, g j)).find? fun kv => decide (kv.1 = keyOf m s)) = none := List.find?_eq_none.mpr fun q hq => List.any_eq_false.mp hn q hq
        rw [this, Option.none_or, List.find?_cons]
        simp

section
variable {prog : Program} {w : World} {G : Gd} {n : Nat}
structure LawFns (prog : Program) (w : World) (G : Gd) (n : Nat) where
  fS : Value
  fP : Value
  fM : Value
  gS : GVal G "_law_sets" fS
  gP : GVal G "pretty_flags" fP
  gM : GVal G "_law_name" fM
  cS : Callable G fS
  cP : Callable G fP
  cM : Callable G fM
  rng : GVal G "range" (.type "range")
  sum : GVal G "sum" (.builtin "sum")
  sets : ∀ ws : List Int, ws.length = 4 → (∀ k < 16, ((topsOf (sumsOf ws) (sizesOf ws) 4).1.getD k 0).natAbs < 1000) → Fn prog w G n fS [iL ws] (.list ((setsOf ws).map pairOf))
  pretty : ∀ m s : Nat, m < 16 → s < 9 → Fn prog w G n fP [.int (m * 2 ^ s : Nat)] (.str (keyOf m s))
  name : ∀ (k : Nat) (x : Str), k < 12 → lawNames[k]? = some x → Fn prog w G n fM [.int k] (.str x)

noncomputable def cS (prog : Program) (w : World) (se du : List (Str × Int)) (came : List Nat) (T : List (Int × Int)) (sd s : Nat) (ts : List PV) (rs : List Row) (D : List Deed) : Store :=
  [("seen", .di (DictT prog w se)), ("due", .di (DictT prog w du)), im "came" (iL (came.map fun (k : Nat) => (k : Int))), im "table" (.list (T.map pairOf)), im "side" (.int sd), li "tables" ts, im "rows" (rowsPV rs), im "shift" (.int s), im "deeds" (deedsPV D)]

theorem came_any (came : List Nat) (m : Nat) : ((came.map fun (k : Nat) => (k : Int)).any (· == (m : Int))) = came.contains m := by
  induction came with
  | nil => rfl
  | cons a l ih =>
    rw [List.map_cons, List.any_cons, ih, List.contains_cons]
    congr 1
    rw [Bool.eq_iff_iff, beq_iff_eq, beq_iff_eq]
    omega
theorem came_count (came : List Nat) (m : Nat) : ((came.map fun (k : Nat) => (k : Int)).count (m : Int)) = came.count m := by
  induction came with
  | nil => rfl
  | cons a l ih =>
    rw [List.map_cons, List.count_cons, List.count_cons, ih]
    congr 1
    have : ((a : Int) == (m : Int)) = (a == m) := by rw [Bool.eq_iff_iff, beq_iff_eq, beq_iff_eq]; omega
    rw [this]

noncomputable abbrev sideBody : List Stmt := match stL 6 with | .For _ _ b _ _ => b | _ => []
noncomputable abbrev sideB (i : Nat) : Stmt := sideBody.getD i (.Pass default)
theorem side_split : sideBody = [sideB 0, sideB 1, sideB 2, sideB 3, sideB 4, sideB 5] := rfl
noncomputable abbrev notedBody : List Stmt := match sideB 3 with | .For _ _ b _ _ => b | _ => []
noncomputable abbrev notedB (i : Nat) : Stmt := notedBody.getD i (.Pass default)
theorem noted_split : notedBody = [notedB 0, notedB 1] := rfl

theorem noted0 (H : LawFns prog w G n) {se du came T sd s ts rs D} (m : Nat) (hs : s < 9) (hm : m < 16) (hn : (se.any fun kv => decide (kv.1 = keyOf m s)) = false) (hl : se.length ≤ 16) :
    Ex1 prog w G n scL (im "noted" (.int m) :: cS prog w se du came T sd s ts rs D) (notedB 0) (fun ρ fl => fl = .next ∧ Cov (im "noted" (.int m) :: cS prog w (bif came.contains m then se ++ [(keyOf m s, (came.count m : Int))] else se) du came T sd s ts rs D) ρ) := by
  have hsz : (1000 : Nat) ≤ sizeLine := by rw [sizeLine_eq]; decide
  refine x1_if (c := came.contains m) (eb_of (eb_in (ev_name rfl) (EvT.toL (ev_name rfl))) (came_any came m)) (fun hc => ?_) (fun hc => ?_)
  · refine ex_last ((x1_setD (k := keyOf m s) (v := (came.count m : Int)) rfl (ev_of (ev_count (EvT.toL (ev_name rfl)) (ev_name rfl)) (by rw [came_count])) (ev_callF rfl H.gP H.cP (each_cons (d := .int (m * 2 ^ s : Nat)) (ev_of (ev_shl (b := (s : Int)) (ev_name rfl) (ev_name rfl) (by omega) (by omega) (by omega)) ?_) each_nil) (H.pretty m s hm hs)) hn (by omega)).mono fun ρ' fl h => ?_)
    · rw [Int.toNat_natCast]; congr 1
    · obtain ⟨rfl, rfl⟩ := h
      rw [hc]
      exact ⟨rfl, rfl, rfl, rfl, rfl, rfl, rfl, rfl, rfl, rfl, rfl, trivial⟩
  · rw [hc]
    exact ex_nil ⟨rfl, rfl, rfl, rfl, rfl, rfl, rfl, rfl, rfl, rfl, rfl, trivial⟩

theorem noted1 (H : LawFns prog w G n) {se du came T sd s ts rs D} (m : Nat) (hs : s < 9) (hm : m < 16) (hT : T.length = 16) (hn : (du.any fun kv => decide (kv.1 = keyOf m s)) = false) (hl : du.length ≤ 16) :
    Ex1 prog w G n scL (im "noted" (.int m) :: cS prog w se du came T sd s ts rs D) (notedB 1) (fun ρ fl => fl = .next ∧ Cov (cS prog w se (bif decide ((T.getD m (0, 0)).2 > 0) then du ++ [(keyOf m s, (T.getD m (0, 0)).2)] else du) came T sd s ts rs D) ρ) := by
  have hsz : (1000 : Nat) ≤ sizeLine := by rw [sizeLine_eq]; decide
  have hget : (T.map pairOf)[(m : Int).toNat]? = some (pairOf (T.getD m (0, 0))) := by
    rw [Int.toNat_natCast, List.getElem?_map, List.getD_eq_getElem?_getD, List.getElem?_eq_getElem (by omega)]; rfl
  have second : ∀ {q r1 : Pos} {ρ : Store}, ρ.lookup ("table" : Str) = some (.im (.list (T.map pairOf))) → ρ.lookup ("noted" : Str) = some (.im (.int m)) → ∀ {k1 : Nat} {p1 p2 p3 : Pos}, EvT prog w G n scL ρ (.Subscript (.Subscript (.Name ("table" : Str) p1) (.Name ("noted" : Str) p2) p3) (.Constant (.int 1) k1 q) r1) (.int (T.getD m (0, 0)).2) := fun {q r1 ρ} h1 h2 {k1 p1 p2 p3} =>
    ev_itemT (k := 1) (ev_item (k := (m : Int)) (EvT.toL (ev_name h1)) (ev_name h2) (by omega) hget (by omega)) ev_int (by decide) rfl (by decide)
  refine x1_if (c := decide ((T.getD m (0, 0)).2 > 0)) (eb_cmpi (second rfl rfl) ev_int rfl) (fun hc => ?_) (fun hc => ?_)
  · have key : (bif (Txt.join ", " (namesOf m s)).length == 0 then ("0x0" : Str) else Txt.join ", " (namesOf m s)) = keyOf m s := key_due s hs m hm
    obtain ⟨z1, z2⟩ := names_small s hs m hm
    refine ex_last ((x1_setD (k := keyOf m s) (v := (T.getD m (0, 0)).2) rfl (second rfl rfl) (ev_of (ev_orS (ev_join (ys := namesOf m s) ev_str (EvF.toL (ev_on1 (rs := List.range 4) (f := fun (k : Nat) => .int k) (ψ := fun k => bif m.testBit k then [.str (lawNames.getD (s + k) "")] else []) (ρc := [im "noted" (.int m), im "shift" (.int s)]) (it_of (it_range1 (b := 4) rfl H.rng ev_int (by decide) (by decide)) (ints_of 4)) rfl rfl rfl (fun k hk => ?_) ?_ ?_)) (by omega)) ev_str (by omega)) (congrArg PV.str key)) hn (by omega)).mono fun ρ' fl h => ?_)
    · have hk := List.mem_range.mp hk
      refine turn_if rfl (eb_of (eb_int (ev_and (ev_shr (b := (k : Int)) (ev_name rfl) (ev_name rfl) (by omega)) ev_int)) (bit_fact m hm k hk)) (fun hc' => ?_)
      refine ev_callF rfl H.gM H.cM (each_cons (d := .int ((s + k : Nat) : Int)) (ev_of (ev_add (ev_name rfl) (ev_name rfl)) (by push_cast; rfl)) each_nil) (H.name (s + k) _ (by omega) (names_at s hs k hk))
    · rw [flat_if]; unfold namesOf; rw [List.map_map]; rfl
    · rw [List.length_map]
      exact Nat.le_trans (Nat.le_trans (by unfold namesOf; rw [List.length_map]; exact List.length_filter_le _ _) (by rw [List.length_range]; exact Nat.le_refl 4)) (by omega)
    · obtain ⟨rfl, rfl⟩ := h
      rw [hc]
      exact ⟨rfl, rfl, rfl, rfl, rfl, rfl, rfl, rfl, rfl, rfl, trivial⟩
  · rw [hc]
    exact ex_nil ⟨rfl, rfl, rfl, rfl, rfl, rfl, rfl, rfl, rfl, rfl, trivial⟩

theorem side3 (H : LawFns prog w G n) {came T sd s ts rs D} (hs : s < 9) (hT : T.length = 16) :
    Ex1 prog w G n scL (cS prog w [] [] came T sd s ts rs D) (sideB 3) (fun ρ fl => fl = .next ∧ Cov (cS prog w (seenOf s came 16) (dueOf s T 16) came T sd s ts rs D) ρ) := by
  have hlen0 : (intsFrom 0 (Int.toNat 16)).length = 16 := intsFrom_len _ _
  refine (x1_forK (canon := fun m => cS prog w (seenOf s came m) (dueOf s T m) came T sd s ts rs D) (it_range1 rfl H.rng ev_int (by decide) (by decide)) ⟨rfl, rfl, rfl, rfl, rfl, rfl, rfl, rfl, rfl, trivial⟩ fun m d hd => ?_).mono fun ρ' fl h => ?_
  · have hm : m < 16 := by have := (List.getElem?_eq_some_iff.mp hd).1; rwa [hlen0] at this
    change (intsFrom 0 16)[m]? = some d at hd
    rw [intsFrom_get _ _ _ hm, Int.zero_add] at hd
    cases hd
    refine ⟨_, rfl, ?_⟩
    have l1 : (seenOf s came m).length ≤ 16 := Nat.le_trans (dict_len s _ _ m) (by omega)
    have l2 : (dueOf s T m).length ≤ 16 := Nat.le_trans (dict_len s _ _ m) (by omega)
    have E0 := noted0 H (se := seenOf s came m) (du := dueOf s T m) (came := came) (T := T) (sd := sd) (ts := ts) (rs := rs) (D := D) m hs hm (key_new hs hm _ _) l1
    have E1 := noted1 H (se := seenOf s came (m + 1)) (du := dueOf s T m) (came := came) (T := T) (sd := sd) (ts := ts) (rs := rs) (D := D) m hs hm hT (key_new hs hm _ _) l2
    rw [← seen_succ] at E0
    rw [← due_succ] at E1
    show Ex prog w G n scL _ notedBody _
    rw [noted_split]
    exact ex_consC E0 (ex_last E1)
  · rw [hlen0] at h; exact h
end
end Mine
end

section
open PySem PySem.W PyProof.Rows
namespace Mine
structure SideOk (sd : Nat) (D : List Deed) : Prop where
  up : ∀ k < 16, ((topsOf (sumsOf (D.map (worthOf sd))) (sizesOf (D.map (worthOf sd))) 4).1.getD k 0).natAbs < 1000
  cnt : ∀ m < 16, ((tableOf sd D).getD m (0, 0)).2 = ((cameOf sd (rowsOf D 4)).count m : Int)
theorem table_len (sd : Int) (D : List Deed) : (tableOf sd D).length = 16 := by unfold tableOf setsOf; rw [List.length_map, List.length_range]
theorem seen_due {sd : Nat} {D : List Deed} (h : SideOk sd D) (s : Nat) : seenOf s (cameOf sd (rowsOf D 4)) 16 = dueOf s (tableOf sd D) 16 := by
  unfold seenOf dueOf
  have e : (List.range 16).filter (fun j => (cameOf sd (rowsOf D 4)).contains j) = (List.range 16).filter (fun j => decide (((tableOf sd D).getD j (0, 0)).2 > 0)) := by
    refine List.filter_congr fun j hj => ?_
    have hj := List.mem_range.mp hj
    rw [h.cnt j hj, Bool.eq_iff_iff, List.contains_iff_mem, decide_eq_true_iff, ← List.count_pos_iff]
    omega
  rw [e]
  refine List.map_congr_left fun j hj => ?_
  have hj := List.mem_range.mp (List.mem_filter.mp hj).1
  rw [h.cnt j hj]
noncomputable def tblsOf (D : List Deed) (i : Nat) : List PV := ([2, 3].take i).map fun (sd : Nat) => .list ((partOf sd D).map pairOf)

section
variable {prog : Program} {w : World} {G : Gd} {n : Nat}

noncomputable def sS (sd s : Nat) (ts : List PV) (rs : List Row) (D : List Deed) : Store := [im "side" (.int sd), li "tables" ts, im "rows" (rowsPV rs), im "shift" (.int s), im "deeds" (deedsPV D)]
theorem side0 (H : LawFns prog w G n) {sd s : Nat} (hsd : sd = 2 ∨ sd = 3) {ts : List PV} {rs : List Row} {D : List Deed} (h4 : D.length = 4) (hD : ∀ d ∈ D, DeedOk d) (hu : ∀ k < 16, ((topsOf (sumsOf (D.map (worthOf sd))) (sizesOf (D.map (worthOf sd))) 4).1.getD k 0).natAbs < 1000) :
    Ex1 prog w G n scL (sS sd s ts rs D) (sideB 0) (fun ρ fl => fl = .next ∧ Cov (im "table" (.list ((tableOf sd D).map pairOf)) :: sS sd s ts rs D) ρ) := by
  have hsz : (1000 : Nat) ≤ sizeLine := by rw [sizeLine_eq]; decide
  refine (x1_assign (d := .list ((tableOf sd D).map pairOf)) (ev_callF rfl H.gS H.cS (each_cons (d := iL (D.map (worthOf sd))) (EvF.toT (ev_on1 (rs := D) (f := deedPV) (ψ := fun d => [.int (worthOf sd d)]) (ρc := [im "side" (.int sd)]) (it_list (ev_name rfl)) rfl rfl rfl (fun d hd => ?_) ?_ ?_)) each_nil) (H.sets _ (by rw [List.length_map, h4]) hu)) rfl).mono fun ρ' fl h => ?_
  · have ok := hD d hd
    have o1 := ok.a; have o2 := ok.b
    refine turn_all (e := .int (worthOf sd d)) rfl (ev_of (ev_ifT (b := decide (d.2.2 ≥ 0)) (eb_cmpi (ev_name rfl) ev_int rfl) (fun _ => ev_sub (ev_add (ev_name rfl) (ev_mul (ev_name rfl) (ev_sub (ev_name rfl) ev_int) (IntMulOk.of_left (bits_small (by omega))))) (ev_name rfl)) (fun _ => ev_neg ev_int)) ?_)
    unfold worthOf
    by_cases h : d.2.2 ≥ 0
    · rw [decide_eq_true h, if_pos h]; rfl
    · rw [decide_eq_false h, if_neg h]; rfl
  · rw [flat_one, List.map_map]; rfl
  · rw [List.length_map, List.length_map]; omega
  · obtain ⟨rfl, rfl⟩ := h
    exact ⟨rfl, rfl, rfl, rfl, rfl, rfl, rfl, trivial⟩
theorem side1 {sd s : Nat} (hsd : sd = 2 ∨ sd = 3) {T : PV} {ts : List PV} {rs : List Row} (hr : rs.length ≤ 24) {D : List Deed} :
    Ex1 prog w G n scL (im "table" T :: sS sd s ts rs D) (sideB 1) (fun ρ fl => fl = .next ∧ Cov (im "came" (iL ((cameOf sd rs).map fun (k : Nat) => (k : Int))) :: im "table" T :: sS sd s ts rs D) ρ) := by
  have hsz : (1000 : Nat) ≤ sizeLine := by rw [sizeLine_eq]; decide
  refine (x1_on1 (rs := rs) (f := rowPV) (ψ := fun r => [.int ((if sd = 2 then r.first else r.both : Nat) : Int)]) (es := ((cameOf sd rs).map fun (k : Nat) => (k : Int)).map PV.int) (ρc := [im "side" (.int sd)]) (it_list (ev_name rfl)) rfl rfl rfl (fun r hr => ?_) ?_ ?_ rfl (fun env h => by unfold swapsWith Env.blockKind Env.kindOf; rw [h]; rfl)).mono fun ρ' fl h => ?_
  · refine turn_all (e := .int ((if sd = 2 then r.first else r.both : Nat) : Int)) rfl (ev_itemT (k := (sd : Int)) (ev_name rfl) (ev_name rfl) (by omega) ?_ (by omega))
    rcases hsd with rfl | rfl <;> rfl
  · rw [flat_one]; unfold cameOf; rw [List.map_map, List.map_map]; rfl
  · unfold cameOf; rw [List.length_map, List.length_map, List.length_map]; omega
  · obtain ⟨rfl, rfl⟩ := h
    exact ⟨rfl, rfl, rfl, rfl, rfl, rfl, rfl, rfl, trivial⟩
theorem side2 {came : List Nat} {T : List (Int × Int)} {sd s : Nat} {ts : List PV} {rs : List Row} {D : List Deed} :
    Ex1 prog w G n scL (im "came" (iL (came.map fun (k : Nat) => (k : Int))) :: im "table" (.list (T.map pairOf)) :: sS sd s ts rs D) (sideB 2) (fun ρ fl => fl = .next ∧ Cov (cS prog w [] [] came T sd s ts rs D) ρ) := by
  refine (x1_dicts (.inl rfl) (.inl rfl) (fun _ => rfl) (fun env h => by unfold swappedStores Env.blockKind Env.kindOf; rw [h]; rfl)).mono fun ρ' fl h => ?_
  obtain ⟨rfl, rfl⟩ := h
  exact ⟨rfl, rfl, rfl, rfl, rfl, rfl, rfl, rfl, rfl, rfl, trivial⟩
theorem side4 {came : List Nat} {T : List (Int × Int)} {sd s : Nat} (hs : s < 9) {ts : List PV} {rs : List Row} {D : List Deed} (he : seenOf s came 16 = dueOf s T 16) :
    Ex1 prog w G n scL (cS prog w (seenOf s came 16) (dueOf s T 16) came T sd s ts rs D) (sideB 4) (fun ρ fl => fl = .next ∧ Cov (im "table" (.list (T.map pairOf)) :: sS sd s ts rs D) ρ) := by
  refine x1_if (c := false) (eb_neD (sa := seenOf s came 16) (sb := dueOf s T 16) (ev_nameD rfl) (ev_nameD rfl) (by rw [he]) (fun p hp => ?_)) (fun hc => nomatch hc) (fun _ => ex_nil ⟨rfl, rfl, rfl, rfl, rfl, rfl, rfl, trivial⟩)
  rw [he] at hp
  exact dict_find hs (fun j => decide ((T.getD j (0, 0)).2 > 0)) (fun j => (T.getD j (0, 0)).2) 16 (Nat.le_refl _) p hp
theorem side5 {T : List (Int × Int)} (hT : T.length = 16) {sd s : Nat} {ts : List PV} (hts : ts.length ≤ 2) {rs : List Row} {D : List Deed} :
    Ex1 prog w G n scL (im "table" (.list (T.map pairOf)) :: sS sd s ts rs D) (sideB 5) (fun ρ fl => fl = .next ∧ Cov [li "tables" (ts ++ [.list ((T.filter fun p => decide (p.2 > 0)).map pairOf)]), im "rows" (rowsPV rs), im "shift" (.int s), im "deeds" (deedsPV D)] ρ) := by
  have hsz : (1000 : Nat) ≤ sizeLine := by rw [sizeLine_eq]; decide
  refine (x1_append rfl (EvF.toT (ev_on1 (rs := T) (f := pairOf) (ψ := fun p => bif decide (p.2 > 0) then [pairOf p] else []) (ρc := []) (it_list (ev_name rfl)) rfl rfl rfl (fun p hp => turn_if rfl (eb_cmpi (ev_itemT (k := 1) (ev_name rfl) ev_int (by decide) rfl (by decide)) ev_int rfl) (fun _ => ev_name rfl)) (flat_if _) ?_)) (by omega)).mono fun ρ' fl h => ?_
  · rw [List.length_map]
    have := List.length_filter_le (fun p : Int × Int => decide (p.2 > 0)) T
    omega
  · obtain ⟨rfl, rfl⟩ := h
    exact ⟨rfl, rfl, rfl, rfl, rfl, trivial⟩

theorem law6 (H : LawFns prog w G n) {s : Nat} (hs : s < 9) {D : List Deed} (h4 : D.length = 4) (hD : ∀ d ∈ D, DeedOk d) (h2 : SideOk 2 D) (h3 : SideOk 3 D) :
    Ex1 prog w G n scL [li "tables" [], im "rows" (rowsPV (rowsOf D 4)), im "shift" (.int s), im "deeds" (deedsPV D)] (stL 6) (fun ρ fl => fl = .next ∧ Cov [li "tables" (tblsOf D 2), im "rows" (rowsPV (rowsOf D 4))] ρ) := by
  have hsz : (1000 : Nat) ≤ sizeLine := by rw [sizeLine_eq]; decide
  have hrl : (rowsOf D 4).length ≤ 24 := Nat.le_of_eq (rows_len D)
  refine (x1_forK (ds := [.int ((2 : Nat) : Int), .int ((3 : Nat) : Int)]) (canon := fun i => [li "tables" (tblsOf D i), im "rows" (rowsPV (rowsOf D 4)), im "shift" (.int s), im "deeds" (deedsPV D)]) (it_tuple (ev_tuple (each_cons ev_int (each_cons ev_int each_nil)) (by show (2 : Nat) ≤ _; omega))) ⟨rfl, rfl, rfl, rfl, trivial⟩ fun i d hd => ?_).mono fun ρ' fl h => ⟨h.1, h.2.1, h.2.2.1, trivial⟩
  obtain ⟨sd, hi, hsd, rfl, ok, hlen, htb⟩ : ∃ sd : Nat, i < 2 ∧ (sd = 2 ∨ sd = 3) ∧ d = .int sd ∧ SideOk sd D ∧ (tblsOf D i).length ≤ 2 ∧ tblsOf D (i + 1) = tblsOf D i ++ [.list ((partOf sd D).map pairOf)] := by
    match i, hd with
    | 0, hd => cases hd; exact ⟨2, by decide, .inl rfl, rfl, h2, (by show (0 : Nat) ≤ 2; decide), rfl⟩
    | 1, hd => cases hd; exact ⟨3, by decide, .inr rfl, rfl, h3, (by show (1 : Nat) ≤ 2; decide), rfl⟩
  refine ⟨_, rfl, ?_⟩
  show Ex prog w G n scL (sS sd s (tblsOf D i) (rowsOf D 4) D) sideBody _
  rw [side_split]
  refine ex_consC (side0 H hsd h4 hD ok.up) (ex_consC (side1 hsd hrl) (ex_consC side2 (ex_consC (side3 H hs (table_len sd D)) (ex_consC (side4 hs (seen_due ok s)) (ex_last ((side5 (table_len sd D) hlen).mono fun ρ' fl h => ?_))))))
  rw [htb]
  exact h
end
end Mine
end

section
open PySem PySem.W PyProof.Rows
namespace Mine
noncomputable def linesOf (rs : List Row) : List Str := rs.map fun r => pad r.L r.R
noncomputable def massOf (T : List (Int × Int)) : Int := (T.map fun p => p.2 * p.1).sum
noncomputable def tbl (T2 T3 : List (Int × Int)) : List PV := [.list (T2.map pairOf), .list (T3.map pairOf)]
theorem tbls_eq (D : List Deed) : tblsOf D 2 = tbl (partOf 2 D) (partOf 3 D) := rfl
theorem tbl_0 (T2 T3 : List (Int × Int)) : (tbl T2 T3)[(0 : Int).toNat]? = some (.list (T2.map pairOf)) := rfl
theorem tbl_1 (T2 T3 : List (Int × Int)) : (tbl T2 T3)[(1 : Int).toNat]? = some (.list (T3.map pairOf)) := rfl
structure TOk (T : List (Int × Int)) : Prop where
  many : ∀ p ∈ T, 0 < p.2 ∧ p.2 ≤ 24
  len : T.length ≤ 16
theorem getD_of_mem {α : Type} {l : List α} {p : α} (d : α) (h : p ∈ l) : ∃ m < l.length, l.getD m d = p := by
  obtain ⟨m, hm, rfl⟩ := List.getElem_of_mem h
  exact ⟨m, hm, by rw [List.getD_eq_getElem?_getD, List.getElem?_eq_getElem hm]; rfl⟩
theorem part_small {sd : Nat} {D : List Deed} (ok : SideOk sd D) {p : Int × Int} (h : p ∈ partOf sd D) : 0 < p.2 ∧ p.2 ≤ 24 := by
  obtain ⟨h1, h2⟩ := List.mem_filter.mp h
  have h2 : p.2 > 0 := of_decide_eq_true h2
  obtain ⟨m, hm, e⟩ := getD_of_mem (0, 0) h1
  rw [table_len] at hm
  have := ok.cnt m hm
  rw [e] at this
  have hc : (cameOf sd (rowsOf D 4)).count m ≤ (cameOf sd (rowsOf D 4)).length := List.count_le_length
  unfold cameOf at hc this
  rw [List.length_map, rows_len] at hc
  exact ⟨h2, by omega⟩
theorem part_ok {sd : Nat} {D : List Deed} (ok : SideOk sd D) : TOk (partOf sd D) := ⟨fun p hp => part_small ok hp, by
  unfold partOf
  exact Nat.le_trans (List.length_filter_le _ _) (Nat.le_of_eq (table_len sd D))⟩
theorem part_len (sd : Nat) (D : List Deed) : (partOf sd D).length ≤ 16 := by
  unfold partOf
  exact Nat.le_trans (List.length_filter_le _ _) (Nat.le_of_eq (table_len sd D))
section
variable {prog : Program} {w : World} {G : Gd} {n : Nat}

theorem law7 {ts : List PV} {rs : List Row} (hr : rs.length ≤ 24) :
    Ex1 prog w G n scL [li "tables" ts, im "rows" (rowsPV rs)] (stL 7) (fun ρ fl => fl = .next ∧ Cov [im "lines" (.list ((linesOf rs).map PV.str)), li "tables" ts] ρ) := by
  have hsz : (1000 : Nat) ≤ sizeLine := by rw [sizeLine_eq]; decide
  refine (x1_assignE (d := .list ((linesOf rs).map PV.str)) (EvF.toT (ev_on1 (rs := rs) (f := rowPV) (ψ := fun r => [.str (pad r.L r.R)]) (ρc := []) (it_list (ev_name rfl)) rfl rfl rfl (fun r hr => turn_all rfl (ev_itemT (k := 1) (ev_name rfl) ev_int (by decide) rfl (by decide))) ?_ ?_)) rfl (fun env h => by unfold swapsWith Env.blockKind Env.kindOf; rw [h]; rfl)).mono fun ρ' fl h => ?_
  · rw [flat_one]; unfold linesOf; rw [List.map_map]; rfl
  · unfold linesOf; rw [List.length_map, List.length_map]; omega
  · obtain ⟨rfl, rfl⟩ := h
    exact ⟨rfl, rfl, rfl, trivial⟩
theorem law8 (hs : GVal G "sum" (.builtin "sum")) {T2 T3 : List (Int × Int)} (h2 : TOk T2) (h3 : TOk T3) {L : PV} :
    Ex1 prog w G n scL [im "lines" L, li "tables" (tbl T2 T3)] (stL 8) (fun ρ fl => fl = .next ∧ Cov [im "back" (.int (massOf T3 - massOf T2)), im "lines" L, li "tables" (tbl T2 T3)] ρ) := by
  have hsz : (1000 : Nat) ≤ sizeLine := by rw [sizeLine_eq]; decide
  have l2 := h2.len; have l3 := h3.len
  have g0 := tbl_0 T2 T3
  have g1 := tbl_1 T2 T3
  unfold massOf
  generalize tbl T2 T3 = tb at g0 g1 ⊢
  refine (x1_assign (ev_sub (ev_sum (is := T3.map fun p => p.2 * p.1) rfl hs (EvF.toL (ev_on1 (rs := T3) (f := pairOf) (ψ := fun p => [.int (p.2 * p.1)]) (ρc := []) (it_list (ev_item (k := 1) (ev_nameL rfl) ev_int (by decide) g1 (by decide))) rfl rfl rfl (fun p hp => ?_) ?_ ?_))) (ev_sum (is := T2.map fun p => p.2 * p.1) rfl hs (EvF.toL (ev_on1 (rs := T2) (f := pairOf) (ψ := fun p => [.int (p.2 * p.1)]) (ρc := []) (it_list (ev_item (k := 0) (ev_nameL rfl) ev_int (by decide) g0 (by decide))) rfl rfl rfl (fun p hp => ?_) ?_ ?_)))) rfl).mono fun ρ' fl h => ?_
  · have := h3.many p hp
    exact turn_all rfl (ev_mul (ev_name rfl) (ev_name rfl) (IntMulOk.of_left (bits_small (by omega))))
  · rw [flat_one, List.map_map]; rfl
  · rw [List.length_map, List.length_map]; omega
  · have := h2.many p hp
    exact turn_all rfl (ev_mul (ev_name rfl) (ev_name rfl) (IntMulOk.of_left (bits_small (by omega))))
  · rw [flat_one, List.map_map]; rfl
  · rw [List.length_map, List.length_map]; omega
  · obtain ⟨rfl, rfl⟩ := h
    exact ⟨rfl, rfl, rfl, rfl, trivial⟩

noncomputable def wsText (once : Nat) (y : Str) : Str := repS y once ++ "x \t"
noncomputable def wsQ (once : Nat) (y : Str) : Ws := wsOf (repS y once).cps.toList
noncomputable def leadPV (C : Addr) (once : Nat) (ls : List Str) (y : Str) : PV := .tuple [.inst C (wsFields (wsText once y) (wsQ once y)), .int (ls.count y : Nat)]
theorem pad_signs (L R : Nat) : ∀ c ∈ (pad L R).cps.toList, c = 32 ∨ c = 9 := by
  intro c hc
  have hc : c ∈ List.replicate L 32 ++ 9 :: List.replicate R 32 := hc
  rcases List.mem_append.mp hc with h | h
  · exact .inl (List.eq_of_mem_replicate h)
  · rcases List.mem_cons.mp h with h | h
    · exact .inr h
    · exact .inl (List.eq_of_mem_replicate h)
theorem rep_list_aux (c : List Nat) : ∀ (k : Nat) (a : List Nat), ((List.replicate k c.toArray).foldl (· ++ ·) a.toArray).toList = a ++ (List.replicate k c).flatten
  | 0, a => by simp
  | k + 1, a => by
    rw [List.replicate_succ, List.foldl_cons, List.replicate_succ, List.flatten_cons]
    have := rep_list_aux c k (a ++ c)
    rw [List.append_toArray, this, List.append_assoc]
theorem repS_list (x : Str) (k : Nat) : (repS x k).cps.toList = (List.replicate k x.cps.toList).flatten := by
  have := rep_list_aux x.cps.toList k []
  rw [List.nil_append] at this
  exact this
structure WsFns (prog : Program) (w : World) (G : Gd) (n : Nat) where
  C : Addr
  fL : Addr
  gW : GVal G "Whitespace" (.ref C)
  cW : Callable G (.ref C)
  K : ClsOk G C
  fn : FieldOk G C "n"
  fs : FieldOk G C "is_simple"
  look : findIn G.K (.ref C) "indent_level" = some (some (.ref fL))
  typ : typeIn G.K (.ref fL) = some (.type "function")
  keep : keepIn G.K (.ref fL) = true
  make : ∀ (x : Str) (pre post : List Nat), x.cps.toList = pre ++ 120 :: post → (∀ c ∈ pre, c = 32 ∨ c = 9) → pre.length ≤ 1000 → Fn prog w G n (.ref C) [.str x] (.inst C (wsFields x (wsOf pre)))
  level : ∀ (x : Str) (q : Ws) (size : Nat), 0 < size → size ≤ 900 → q.cnt.length ≤ 900 → Fn prog w G n (.ref fL) [.inst C (wsFields x q), .int size] (.int (levelOf q size))
  srt : GVal G "sorted" (.builtin "sorted")
  set : GVal G "set" (.type "set")
  max : GVal G "max" (.builtin "max")
  rng : GVal G "range" (.type "range")
  sum : GVal G "sum" (.builtin "sum")
theorem text_cut (once : Nat) (y : Str) : (wsText once y).cps.toList = (repS y once).cps.toList ++ 120 :: [32, 9] := by
  show ((repS y once).cps ++ ("x \t" : Str).cps).toList = _
  rw [Array.toList_append]
  have : ("x \t" : Str).cps.toList = [120, 32, 9] := by decide +kernel
  rw [this]
noncomputable def oS (once : Nat) (B : Int) (ls : List Str) (tb : List PV) : Store := [im "once" (.int once), im "back" (.int B), im "lines" (.list (ls.map PV.str)), li "tables" tb]
noncomputable def small (ls : List Str) : Prop := ∀ y ∈ ls, ∃ L R, y = pad L R ∧ L ≤ 50 ∧ R ≤ 50
noncomputable abbrev onceBody : List Stmt := match stL 9 with | .For _ _ b _ _ => b | _ => []
noncomputable abbrev onceB (i : Nat) : Stmt := onceBody.getD i (.Pass default)
theorem once_split : onceBody = [onceB 0, onceB 1, onceB 2, onceB 3] := rfl

theorem once0 (H : WsFns prog w G n) {once : Nat} (ho : once = 1 ∨ once = 2) {B : Int} {ls : List Str} (hne : ls ≠ []) (h64 : ls.length < 64) (hs : small ls) {tb : List PV} :
    Ex1 prog w G n scL (oS once B ls tb) (onceB 0) (fun ρ fl => fl = .next ∧ Cov (im "leads" (.list ((upS ls).map (leadPV H.C once ls))) :: oS once B ls tb) ρ) := by
  have hsz : (1000 : Nat) ≤ sizeLine := by rw [sizeLine_eq]; decide
  refine (x1_on1 (rs := upS ls) (f := PV.str) (ψ := fun y => [leadPV H.C once ls y]) (ρc := [im "lines" (.list (ls.map PV.str)), im "once" (.int once)]) (it_list (ev_sortedS rfl H.srt (ev_setS rfl H.set (EvT.toL (ev_name rfl)) h64) hne h64)) rfl rfl rfl (fun y hy => ?_) (flat_one _) ?_ rfl (fun env h => by unfold swapsWith Env.blockKind Env.kindOf; rw [h]; rfl)).mono fun ρ' fl h => ?_
  · obtain ⟨L, R, rfl, hL, hR⟩ := hs y (upS_mem.mp hy)
    have hlen : (repS (pad L R) once).length ≤ 300 := by
      rw [repS_len, pad_len]
      rcases ho with rfl | rfl <;> omega
    refine turn_all rfl (ev_tuple (each_cons (ev_callF rfl H.gW H.cW (each_cons (d := .str (wsText once (pad L R))) (ev_cat (x := repS (pad L R) once) (y := "x \t") (ev_of (ev_rep (k := (once : Int)) (ev_name rfl) (ev_name rfl) (by omega) (by rw [pad_len]; omega) (by omega)) (by rw [Int.toNat_natCast])) ev_str ?_) each_nil) (H.make _ _ _ (text_cut once (pad L R)) ?_ ?_)) (each_cons (ev_countS (EvT.toL (ev_name rfl)) (ev_name rfl)) each_nil)) (by show (2 : Nat) ≤ _; omega))
    · have : ("x \t" : Str).length = 3 := by decide +kernel
      rw [this]; omega
    · intro c hc
      rw [repS_list] at hc
      obtain ⟨l, hl, hc⟩ := List.mem_flatten.mp hc
      rw [List.eq_of_mem_replicate hl] at hc
      exact pad_signs L R c hc
    · rw [Array.length_toList]
      exact Nat.le_trans hlen (by decide)
  · rw [List.length_map]; have := upS_len ls; omega
  · obtain ⟨rfl, rfl⟩ := h
    exact ⟨rfl, rfl, rfl, rfl, rfl, rfl, trivial⟩
end
end Mine
end

section
open PySem PySem.W PyProof.Rows
namespace Mine
noncomputable def runA (once : Nat) (ls : List Str) : List Int := ((upS ls).map fun y => List.replicate (ls.count y) ((wsQ once y).n : Int)).flatten
noncomputable def runB (once : Nat) (T3 : List (Int × Int)) : List Int := (T3.map fun p => List.replicate p.2.toNat ((once : Int) * (p.1 + 1))).flatten
noncomputable def simA (once : Nat) (ls : List Str) : List Int := ((upS ls).filter fun y => decide ((wsQ once y).cnt.length ≤ 1)).map fun y => (ls.count y : Int)
noncomputable def simB (T : List (Int × Int)) : List Int := (T.filter fun p => p.1 == 0).map (·.2)
noncomputable def colA (once : Nat) (ls : List Str) (size : Nat) : List Int := (upS ls).map fun y => (ls.count y : Int) * levelOf (wsQ once y) size
noncomputable def partsL (once : Nat) (T2 T3 : List (Int × Int)) : List (List (Int × Int)) := if once = 1 then [T2] else [T2, T3]
noncomputable def colB (once : Nat) (T2 T3 : List (Int × Int)) (size : Nat) : List Int := ((partsL once T2 T3).map fun T => T.map fun p => p.2 * (p.1.fdiv size + 1)).flatten
noncomputable def lastT (once : Nat) (T2 T3 : List (Int × Int)) : List (Int × Int) := if once = 1 then T2 else T3
structure OnceOk (once : Nat) (ls : List Str) (T2 T3 : List (Int × Int)) : Prop where
  runs : srt (runA once ls) = srt (runB once T3)
  lenA : (runA once ls).length < 64
  lenB : (runB once T3).length < 64
  sim : (simA once ls).sum = (simB (lastT once T2 T3)).sum
  max : ∃ M, M ∈ (lastT once T2 T3).map (·.1) ∧ (∀ a ∈ (lastT once T2 T3).map (·.1), a ≤ M) ∧ M ≤ 800 ∧ -800 ≤ M ∧
    ∀ size : Nat, 0 < size → (size : Int) ≤ 1 + M → (colA once ls size).sum = (massOf T3 - massOf T2) + size * (colB once T2 T3 size).sum
theorem flat_reps {α : Type} (g : α → PV) (c : α → Nat) (l : List α) (h : α → Int) (e : ∀ a, g a = .int (h a)) : (l.map fun y => List.replicate (c y) (g y)).flatten = ((l.map fun y => List.replicate (c y) (h y)).flatten).map PV.int := by
  rw [List.map_flatten, List.map_map]
  congr 1
  refine List.map_congr_left fun y _ => ?_
  simp only [Function.comp, List.map_replicate, e]
theorem range_const {β : Type} (x : β) (k : Nat) : ((List.range k).map fun _ => [x]).flatten = List.replicate k x := by
  induction k with
  | zero => rfl
  | succ k ih => rw [List.range_succ, List.map_append, List.flatten_append, ih, List.replicate_succ']; rfl

section
variable {prog : Program} {w : World} {G : Gd} {n : Nat}
noncomputable def lS (C : Addr) (once : Nat) (B : Int) (ls : List Str) (tb : List PV) : Store := im "leads" (.list ((upS ls).map (leadPV C once ls))) :: oS once B ls tb

theorem once1 (hn : 20 ≤ n) (H : WsFns prog w G n) {once : Nat} (ho : once = 1 ∨ once = 2) {B : Int} {ls : List Str} (h64 : ls.length < 64) {T2 T3 : List (Int × Int)} (h3 : TOk T3) {tb : List PV} (g1 : tb[(1 : Int).toNat]? = some (.list (T3.map pairOf)))
    (he : srt (runA once ls) = srt (runB once T3)) (lA : (runA once ls).length < 64) (lB : (runB once T3).length < 64) :
    Ex1 prog w G n scL (lS H.C once B ls tb) (onceB 1) (fun ρ fl => fl = .next ∧ Cov (lS H.C once B ls tb) ρ) := by
  have hsz : (1000 : Nat) ≤ sizeLine := by rw [sizeLine_eq]; decide
  have hu := upS_len ls
  refine x1_if (c := false) (eb_of (eb_neL (is := srt (runA once ls)) (js := srt (runB once T3)) (EvT.toL (ev_sorted' (is := runA once ls) rfl H.srt (EvF.toL (ev_on2 (rs := upS ls) (f := leadPV H.C once ls) (ψ := fun y => List.replicate (ls.count y) (.int (wsQ once y).n)) (ρc := []) (it_list (ev_name rfl)) rfl rfl rfl (fun y hy => ?_) ?_ ?_)) lA)) (EvT.toL (ev_sorted' (is := runB once T3) rfl H.srt (EvF.toL (ev_on2 (rs := T3) (f := pairOf) (ψ := fun p => List.replicate p.2.toNat (.int (once * (p.1 + 1)))) (ρc := [im "once" (.int once)]) (it_list (ev_item (k := 1) (ev_nameL rfl) ev_int (by decide) g1 (by decide))) rfl rfl rfl (fun p hp => ?_) ?_ ?_)) lB)) hn) ?_) (fun h => nomatch h) (fun _ => ex_nil ⟨rfl, rfl, rfl, rfl, rfl, rfl, trivial⟩)
  · have hc : ls.count y ≤ ls.length := List.count_le_length
    refine turn_on (rs := List.range (ls.count y)) (f := fun (k : Nat) => .int k) (ψ := fun _ => [.int (wsQ once y).n]) rfl (it_of (it_range1 (b := ((ls.count y : Nat) : Int)) rfl H.rng (ev_name rfl) (by omega) (by omega)) (by rw [Int.toNat_natCast]; exact ints_of _)) (fun k hk => turn_all rfl (ev_attr H.K H.fn (ev_name rfl) rfl)) (range_const _ _)
  · exact flat_reps _ _ _ _ fun _ => rfl
  · rw [List.length_map]; omega
  · have := h3.many p hp
    refine turn_on (rs := List.range p.2.toNat) (f := fun (k : Nat) => .int k) (ψ := fun _ => [.int (once * (p.1 + 1))]) rfl (it_of (it_range1 (b := p.2) rfl H.rng (ev_name rfl) (by omega) (by omega)) (ints_of _)) (fun k hk => turn_all rfl (ev_mul (ev_name rfl) (ev_add (ev_name rfl) ev_int) (IntMulOk.of_left (bits_small (by omega))))) (range_const _ _)
  · exact flat_reps _ _ _ _ fun _ => rfl
  · rw [List.length_map]; omega
  · rw [he]; simp

theorem once2 (H : WsFns prog w G n) {once : Nat} (ho : once = 1 ∨ once = 2) {B : Int} {ls : List Str} (h64 : ls.length < 64) {T : List (Int × Int)} (hT : TOk T) {tb : List PV} (g : tb[((once : Int) - 1).toNat]? = some (.list (T.map pairOf)))
    (he : (simA once ls).sum = (simB T).sum) :
    Ex1 prog w G n scL (lS H.C once B ls tb) (onceB 2) (fun ρ fl => fl = .next ∧ Cov (lS H.C once B ls tb) ρ) := by
  have hsz : (1000 : Nat) ≤ sizeLine := by rw [sizeLine_eq]; decide
  have hu := upS_len ls
  have hl := hT.len
  refine x1_if (c := false) (eb_cmpi (a := (simA once ls).sum) (b := (simB T).sum) (ev_sum (is := simA once ls) rfl H.sum (EvF.toL (ev_on1 (rs := upS ls) (f := leadPV H.C once ls) (ψ := fun y => bif decide ((wsQ once y).cnt.length ≤ 1) then [.int (ls.count y : Nat)] else []) (ρc := []) (it_list (ev_name rfl)) rfl rfl rfl (fun y hy => turn_if rfl (eb_bool (ev_attr H.K H.fs (ev_name rfl) rfl)) (fun _ => ev_name rfl)) ?_ ?_))) (ev_sum (is := simB T) rfl H.sum (EvF.toL (ev_on1 (rs := T) (f := pairOf) (ψ := fun p => bif p.1 == 0 then [.int p.2] else []) (ρc := []) (it_list (ev_item (k := (once : Int) - 1) (ev_nameL rfl) (ev_sub (ev_name rfl) ev_int) (by omega) g (by omega))) rfl rfl rfl (fun p hp => turn_if rfl (eb_cmpi (ev_name rfl) ev_int rfl) (fun _ => ev_name rfl)) ?_ ?_))) ?_) (fun h => nomatch h) (fun _ => ex_nil ⟨rfl, rfl, rfl, rfl, rfl, rfl, trivial⟩)
  · rw [flat_if]; unfold simA; rw [List.map_map]; rfl
  · unfold simA
    rw [List.length_map, List.length_map]
    have := List.length_filter_le (fun y => decide ((wsQ once y).cnt.length ≤ 1)) (upS ls)
    omega
  · rw [flat_if]; unfold simB; rw [List.map_map]; rfl
  · unfold simB
    rw [List.length_map, List.length_map]
    have := List.length_filter_le (fun p : Int × Int => p.1 == 0) T
    omega
  · rw [he]
    show some (_ != _) = some false
    simp

noncomputable abbrev sizeBody : List Stmt := match onceB 3 with | .For _ _ b _ _ => b | _ => []
noncomputable abbrev sizeB (i : Nat) : Stmt := sizeBody.getD i (.Pass default)
theorem size_split : sizeBody = [sizeB 0, sizeB 1] := rfl
theorem size0 (H : WsFns prog w G n) {once : Nat} (ho : once = 1 ∨ once = 2) {B : Int} {ls : List Str} (h64 : ls.length < 64) (hs : small ls) {tb : List PV} {size : Nat} (h0 : 0 < size) (h9 : size ≤ 900) :
    Ex1 prog w G n scL (im "size" (.int size) :: lS H.C once B ls tb) (sizeB 0) (fun ρ fl => fl = .next ∧ Cov (im "columns" (.int (colA once ls size).sum) :: im "size" (.int size) :: lS H.C once B ls tb) ρ) := by
  have hsz : (1000 : Nat) ≤ sizeLine := by rw [sizeLine_eq]; decide
  have hu := upS_len ls
  refine (x1_assign (d := .int (colA once ls size).sum) (ev_sum (is := colA once ls size) rfl H.sum (EvF.toL (ev_on1 (rs := upS ls) (f := leadPV H.C once ls) (ψ := fun y => [.int ((ls.count y : Int) * levelOf (wsQ once y) size)]) (ρc := [im "size" (.int size)]) (it_list (ev_name rfl)) rfl rfl rfl (fun y hy => ?_) ?_ ?_))) rfl).mono fun ρ' fl h => ?_
  · obtain ⟨L, R, rfl, hL, hR⟩ := hs y (upS_mem.mp hy)
    have hlen : (repS (pad L R) once).cps.toList.length ≤ 300 := by
      rw [Array.length_toList]
      show (repS (pad L R) once).length ≤ 300
      rw [repS_len, pad_len]
      rcases ho with rfl | rfl <;> omega
    have hq := (ws_bound (l := (repS (pad L R) once).cps.toList) _ (Nat.le_refl _)).2
    rw [List.take_length] at hq
    have hc : ls.count (pad L R) ≤ ls.length := List.count_le_length
    exact turn_all rfl (ev_mul (ev_name rfl) (ev_methK H.K (ev_name rfl) (each_cons (ev_name rfl) each_nil) H.look H.typ rfl H.keep (H.level (wsText once (pad L R)) (wsQ once (pad L R)) size h0 h9 (Nat.le_trans hq (Nat.le_trans hlen (by decide))))) (IntMulOk.of_left (bits_small (by omega))))
  · rw [flat_one]; unfold colA; rw [List.map_map]; rfl
  · unfold colA; rw [List.length_map, List.length_map]; omega
  · obtain ⟨rfl, rfl⟩ := h
    exact ⟨rfl, rfl, rfl, rfl, rfl, rfl, rfl, rfl, trivial⟩
theorem tb_take {once : Nat} (ho : once = 1 ∨ once = 2) (T2 T3 : List (Int × Int)) : pickD (tbl T2 T3) none (some (once : Int)) none = (partsL once T2 T3).map fun T => PV.list (T.map pairOf) := by
  rcases ho with rfl | rfl <;> rfl
theorem parts_mem {once : Nat} {T2 T3 T : List (Int × Int)} (h : T ∈ partsL once T2 T3) : T = T2 ∨ T = T3 := by
  unfold partsL at h
  split at h
  · exact .inl (List.mem_singleton.mp h)
  · rcases List.mem_cons.mp h with h | h
    · exact .inl h
    · exact .inr (List.mem_singleton.mp h)
theorem colB_len {once : Nat} {T2 T3 : List (Int × Int)} (h2 : TOk T2) (h3 : TOk T3) (size : Nat) : (colB once T2 T3 size).length ≤ 32 := by
  have l2 := h2.len; have l3 := h3.len
  unfold colB partsL
  split <;> simp only [List.map_cons, List.map_nil, List.flatten_cons, List.flatten_nil, List.length_append, List.length_map, List.length_nil] <;> omega
theorem size1 (H : WsFns prog w G n) {once : Nat} (ho : once = 1 ∨ once = 2) {B : Int} {ls : List Str} {T2 T3 : List (Int × Int)} (h2 : TOk T2) (h3 : TOk T3) {size : Nat} (h0 : 0 < size) (h9 : size ≤ 900)
    (he : (colA once ls size).sum = B + size * (colB once T2 T3 size).sum) :
    Ex1 prog w G n scL (im "columns" (.int (colA once ls size).sum) :: im "size" (.int size) :: lS H.C once B ls (tbl T2 T3)) (sizeB 1) (fun ρ fl => fl = .next ∧ Cov (lS H.C once B ls (tbl T2 T3)) ρ) := by
  have hsz : (1000 : Nat) ≤ sizeLine := by rw [sizeLine_eq]; decide
  have hp := tb_take ho T2 T3
  have hl := colB_len (once := once) h2 h3 size
  have lt : (tbl T2 T3).length ≤ sizeLine := by show (2 : Nat) ≤ _; omega
  generalize tbl T2 T3 = tb at hp lt ⊢
  refine x1_if (c := false) (eb_cmpi (a := (colA once ls size).sum) (b := B + size * (colB once T2 T3 size).sum) (ev_name rfl) (ev_add (ev_name rfl) (ev_mul (ev_name rfl) (ev_sum (is := colB once T2 T3 size) rfl H.sum (EvF.toL (ev_on2 (rs := partsL once T2 T3) (f := fun T => PV.list (T.map pairOf)) (ψ := fun T => T.map fun p => .int (p.2 * (p.1.fdiv size + 1))) (ρc := [im "size" (.int size)]) (it_of (it_list (EvF.toT (ev_lslice (ev_nameL rfl) ep_none (ep_int (ev_name rfl)) ep_none (by decide) lt))) hp) rfl rfl rfl (fun T hT => ?_) ?_ ?_))) (IntMulOk.of_left (bits_small (by omega))))) ?_) (fun h => nomatch h) (fun _ => ex_nil ⟨rfl, rfl, rfl, rfl, rfl, rfl, trivial⟩)
  · have ok : TOk T := by rcases parts_mem hT with rfl | rfl <;> assumption
    refine turn_on (rs := T) (f := pairOf) (ψ := fun p => [.int (p.2 * (p.1.fdiv size + 1))]) rfl (it_list (ev_name rfl)) (fun p hp => ?_) (flat_one _)
    have := ok.many p hp
    exact turn_all rfl (ev_mul (ev_name rfl) (ev_add (ev_fdiv (ev_name rfl) (ev_name rfl) (by omega) (by omega)) ev_int) (IntMulOk.of_left (bits_small (by omega))))
  · unfold colB
    rw [List.map_flatten, List.map_map]
    congr 1
    refine List.map_congr_left fun T _ => ?_
    simp only [Function.comp, List.map_map]
    rfl
  · rw [List.length_map]; omega
  · rw [he]
    show some (_ != _) = some false
    simp
end
end Mine
end

section
open PySem PySem.W PyProof.Rows
namespace Mine
section
variable {prog : Program} {w : World} {G : Gd} {n : Nat}
theorem last_at {once : Nat} (ho : once = 1 ∨ once = 2) (T2 T3 : List (Int × Int)) : (tbl T2 T3)[((once : Int) - 1).toNat]? = some (.list ((lastT once T2 T3).map pairOf)) := by
  rcases ho with rfl | rfl <;> rfl
theorem last_ok {once : Nat} {T2 T3 : List (Int × Int)} (h2 : TOk T2) (h3 : TOk T3) : TOk (lastT once T2 T3) := by
  unfold lastT; split <;> assumption
theorem intsFrom_one (k : Nat) (i : Nat) (h : i < k) : (intsFrom 1 k)[i]? = some (.int ((i + 1 : Nat) : Int)) := by
  rw [intsFrom_get _ _ _ h]; congr 2; omega
theorem once3 (H : WsFns prog w G n) {once : Nat} (ho : once = 1 ∨ once = 2) {B : Int} {ls : List Str} (h64 : ls.length < 64) (hs : small ls) {T2 T3 : List (Int × Int)} (h2 : TOk T2) (h3 : TOk T3)
    {M : Int} (hM : M ∈ (lastT once T2 T3).map (·.1)) (hle : ∀ a ∈ (lastT once T2 T3).map (·.1), a ≤ M) (m8 : M ≤ 800) (m9 : -800 ≤ M)
    (he : ∀ size : Nat, 0 < size → (size : Int) ≤ 1 + M → (colA once ls size).sum = B + size * (colB once T2 T3 size).sum) :
    Ex1 prog w G n scL (lS H.C once B ls (tbl T2 T3)) (onceB 3) (fun ρ fl => fl = .next ∧ Cov (lS H.C once B ls (tbl T2 T3)) ρ) := by
  have hsz : (1000 : Nat) ≤ sizeLine := by rw [sizeLine_eq]; decide
  have hl := (last_ok (once := once) h2 h3).len
  have hlen0 : (intsFrom 1 ((2 + M) - 1).toNat).length = ((2 + M) - 1).toNat := intsFrom_len _ _
  have hat := last_at ho T2 T3
  have E : ∀ size : Nat, 0 < size → (size : Int) ≤ 1 + M → Ex prog w G n scL (im "size" (.int size) :: lS H.C once B ls (tbl T2 T3)) sizeBody (fun ρ fl => fl = .next ∧ Cov (lS H.C once B ls (tbl T2 T3)) ρ) := fun size h0 h1 => by
    rw [size_split]
    exact ex_consC (size0 H ho h64 hs h0 (by omega)) (ex_last (size1 H ho h2 h3 h0 (by omega) (he size h0 h1)))
  generalize tbl T2 T3 = tb at hat E ⊢
  generalize lastT once T2 T3 = T at *
  refine (x1_forK (canon := fun _ => lS H.C once B ls tb) (it_range2 (a := 1) (b := 2 + M) rfl H.rng ev_int (ev_add ev_int (ev_max (is := T.map (·.1)) rfl H.max (EvF.toL (ev_on1 (rs := T) (f := pairOf) (ψ := fun p => [.int p.1]) (ρc := []) (it_list (ev_item (k := (once : Int) - 1) (ev_nameL rfl) (ev_sub (ev_name rfl) ev_int) (by omega) hat (by omega))) rfl rfl rfl (fun p hp => turn_all rfl (ev_name rfl)) ?_ ?_)) hM hle)) (by decide) (by decide) (by omega) (by omega)) ⟨rfl, rfl, rfl, rfl, rfl, trivial⟩ fun i d hd => ?_).mono fun ρ' fl h => h
  · rw [flat_one, List.map_map]; rfl
  · rw [List.length_map, List.length_map]; omega
  · have hi : i < ((2 + M) - 1).toNat := by have := (List.getElem?_eq_some_iff.mp hd).1; rwa [hlen0] at this
    rw [intsFrom_one _ _ hi] at hd
    cases hd
    exact ⟨_, rfl, E (i + 1) (Nat.succ_pos i) (by omega)⟩

theorem law9 (hn : 20 ≤ n) (H : WsFns prog w G n) {ls : List Str} (hne : ls ≠ []) (h64 : ls.length < 64) (hs : small ls) {T2 T3 : List (Int × Int)} (h2 : TOk T2) (h3 : TOk T3) (o1 : OnceOk 1 ls T2 T3) (o2 : OnceOk 2 ls T2 T3) :
    Ex1 prog w G n scL [im "back" (.int (massOf T3 - massOf T2)), im "lines" (.list (ls.map PV.str)), li "tables" (tbl T2 T3)] (stL 9) (fun ρ fl => fl = .next) := by
  have hsz : (1000 : Nat) ≤ sizeLine := by rw [sizeLine_eq]; decide
  have E : ∀ once : Nat, (once = 1 ∨ once = 2) → OnceOk once ls T2 T3 → Ex prog w G n scL (oS once (massOf T3 - massOf T2) ls (tbl T2 T3)) onceBody (fun ρ fl => fl = .next ∧ Cov [im "back" (.int (massOf T3 - massOf T2)), im "lines" (.list (ls.map PV.str)), li "tables" (tbl T2 T3)] ρ) := fun once ho ok => by
    obtain ⟨M, m1, m2, m3, m4, m5⟩ := ok.max
    rw [once_split]
    refine ex_consC (once0 H ho hne h64 hs) (ex_consC (once1 (T2 := T2) hn H ho h64 h3 (tbl_1 T2 T3) ok.runs ok.lenA ok.lenB) (ex_consC (once2 H ho h64 (last_ok h2 h3) (last_at ho T2 T3) ok.sim) (ex_last ((once3 H ho h64 hs h2 h3 m1 m2 m3 m4 m5).mono fun ρ' fl h => ?_))))
    exact ⟨h.1, h.2.2.2.1, h.2.2.2.2.1, h.2.2.2.2.2.1, trivial⟩
  generalize massOf T3 - massOf T2 = B at E ⊢
  generalize tbl T2 T3 = tb at E ⊢
  refine (x1_forK (ds := [.int ((1 : Nat) : Int), .int ((2 : Nat) : Int)]) (canon := fun _ => [im "back" (.int B), im "lines" (.list (ls.map PV.str)), li "tables" tb]) (it_tuple (ev_tuple (each_cons ev_int (each_cons ev_int each_nil)) (by show (2 : Nat) ≤ _; omega))) ⟨rfl, rfl, rfl, trivial⟩ fun i d hd => ?_).mono fun ρ' fl h => h.1
  match i, hd with
  | 0, hd => cases hd; exact ⟨_, rfl, E 1 (.inl rfl) o1⟩
  | 1, hd => cases hd; exact ⟨_, rfl, E 2 (.inr rfl) o2⟩

theorem law_body (hn : 20 ≤ n) (F : LawFns prog w G n) (H : WsFns prog w G n) {fN : Value} (hN : GVal G "_law_next" fN) (hc : Callable G fN) (hfn : NextFn prog w G n fN) {xs : List Int} (h63 : xs.length ≤ 63)
    (s2 : SideOk 2 (deedsOf xs)) (s3 : SideOk 3 (deedsOf xs)) (o1 : OnceOk 1 (linesOf (rowsOf (deedsOf xs) 4)) (partOf 2 (deedsOf xs)) (partOf 3 (deedsOf xs))) (o2 : OnceOk 2 (linesOf (rowsOf (deedsOf xs) 4)) (partOf 2 (deedsOf xs)) (partOf 3 (deedsOf xs))) :
    Ex prog w G n scL [im "script" (iL xs)] (bodyOf (stAt 12)) (fun _ fl => fl = .ret (.bool true)) := by
  have hD : ∀ d ∈ deedsOf xs, DeedOk d := fun d hd => by
    obtain ⟨h, _, rfl⟩ := List.mem_map.mp hd
    exact deedOf_ok h
  have h4 : (deedsOf xs).length = 4 := by unfold deedsOf heapsOf; rw [List.length_map, List.length_map, List.length_range]
  have hs : shiftOf xs < 9 := by
    have b1 := Int.fmod_nonneg_of_pos xs.sum (show (0 : Int) < 9 by decide)
    have b2 := Int.fmod_lt_of_pos xs.sum (show (0 : Int) < 9 by decide)
    show (xs.sum.fmod 9).toNat < 9
    omega
  have hr := rows_len (deedsOf xs)
  have hl : (linesOf (rowsOf (deedsOf xs) 4)).length = 24 := by unfold linesOf; rw [List.length_map, hr]
  have sm : small (linesOf (rowsOf (deedsOf xs) 4)) := fun y hy => by
    obtain ⟨r, hrm, rfl⟩ := List.mem_map.mp hy
    obtain ⟨a, b⟩ := row_small hD 4 r hrm
    exact ⟨r.L, r.R, rfl, by omega, by omega⟩
  have t2 := part_ok s2
  have t3 := part_ok s3
  have E0 := law0 (prog := prog) (w := w) (n := n) F.rng F.sum h63
  have E1 := law1 (prog := prog) (w := w) (G := G) (n := n) (xs := xs)
  have E2 := law2 (prog := prog) (w := w) (n := n) F.sum (xs := xs) (D := deedsPV (deedsOf xs))
  have E6 := law6 F hs h4 hD s2 s3
  rw [tbls_eq] at E6
  generalize deedsOf xs = D at *
  generalize shiftOf xs = sh at *
  have E3 := law3 (prog := prog) (w := w) (G := G) (n := n) (S := .int sh) (D := deedsPV D)
  have E4 := law4 F.rng hN hc hfn hD h4 (S := .int sh)
  generalize partOf 2 D = T2 at *
  generalize partOf 3 D = T3 at *
  have E8 := law8 (prog := prog) (w := w) (n := n) F.sum t2 t3 (L := .list ((linesOf (rowsOf D 4)).map PV.str))
  have E9 := law9 hn H (List.ne_nil_of_length_pos (by omega)) (by omega) sm t2 t3 o1 o2
  generalize rowsOf D 4 = rs at *
  have E7 := law7 (prog := prog) (w := w) (G := G) (n := n) (ts := tbl T2 T3) (rs := rs) (by omega)
  rw [law_split]
  refine ex_consC E0 (ex_consC E1 (ex_consC E2 (ex_consC E3 (ex_consC E4 (ex_seq law5 (ex_consC E6 (ex_consC E7 (ex_consC E8 ?_))))))))
  refine ex_cons E9 (fun ρ' _ => ex_ret ev_bool) (fun ρ' fl hn h => absurd h hn)
end
end Mine
end

section
open PySem PySem.W PyProof.Rows
namespace Mine
structure DefK (K : Frag) (f : Addr) (name : Str) (params : Arguments) (body : List Stmt) (sc : Scope) (pm cdv : Value) (qual : Str) : Prop where
  look : K.lookup f = some ⟨.type "function", none, .func (fnOf name qual params body sc .none .none .none pm none cdv .none), #[]⟩
  code : codeIn K cdv qual = true
  keep : keepIn K (.ref f) = true
noncomputable def DefK.at {K : Frag} {f name params body sc pm cdv qual} (D : DefK K f name params body sc pm cdv qual) (p : Program) (loose : List Str) (mg mb : Str → Option Value) : DefAt ⟨K, p, loose, mg, mb⟩ f name params body sc :=
  ⟨.type "function", none, #[], .none, pm, .none, .none, none, cdv, .none, qual, D.look, D.code⟩

noncomputable def flagK : List (Int × PyData) := [(1, .str "OPTIMIZED"), (2, .str "NEWLOCALS"), (4, .str "VARARGS"), (8, .str "VARKEYWORDS"), (16, .str "NESTED"), (32, .str "GENERATOR"), (64, .str "NOFREE"), (128, .str "COROUTINE"), (256, .str "ITERABLE_COROUTINE"), (512, .str "ASYNC_GENERATOR")]
theorem flagK_eq : flagK.map (fun p => (PyData.int p.1, p.2)) = flagD := rfl

structure Part (K : Frag) : Prop where
  nsN : nsIn K mainGlobals "_law_next" = some (some (.ref 116))
  nsS : nsIn K mainGlobals "_law_sets" = some (some (.ref 121))
  nsP : nsIn K mainGlobals "pretty_flags" = some (some (.ref 36))
  nsM : nsIn K mainGlobals "_law_name" = some (some (.ref 109))
  nsT : nsIn K mainGlobals "_strip_padding" = some (some (.ref 28))
  nsC : nsIn K mainGlobals "Whitespace" = some (some (.ref 98))
  nsD : nsIn K mainGlobals "COMPILER_FLAG_NAMES" = some (some (.ref 29))
  b1 : nsIn K mainGlobals "len" = some none
  b2 : nsIn K mainGlobals "range" = some none
  b3 : nsIn K mainGlobals "sum" = some none
  b4 : nsIn K mainGlobals "sorted" = some none
  b5 : nsIn K mainGlobals "set" = some none
  b6 : nsIn K mainGlobals "max" = some none
  b7 : nsIn K mainGlobals "hex" = some none
  b8 : nsIn K mainGlobals "tuple" = some none
  dN : DefK K 116 "_law_next" (paramsOf (stAt 10)) (bodyOf (stAt 10)) (scopeOf (stAt 10)) (.str ⟨#[108, 97, 119, 95, 119, 110, 48, 48, 56, 51, 95, 48, 49]⟩ 347) (.ref 115) "_law_next"
  dS : DefK K 121 "_law_sets" (paramsOf (stAt 11)) (bodyOf (stAt 11)) (scopeOf (stAt 11)) (.str ⟨#[108, 97, 119, 95, 119, 110, 48, 48, 56, 51, 95, 48, 49]⟩ 347) (.ref 120) "_law_sets"
  dP : DefK K 36 "pretty_flags" (paramsOf (stAt 5)) (bodyOf (stAt 5)) (scopeOf (stAt 5)) (.str ⟨#[99, 112, 121, 51, 49, 51, 46, 100, 105, 115]⟩ 206) (.ref 35) "pretty_flags"
  dM : DefK K 109 "_law_name" (paramsOf (stAt 9)) (bodyOf (stAt 9)) (scopeOf (stAt 9)) (.str ⟨#[108, 97, 119, 95, 119, 110, 48, 48, 56, 51, 95, 48, 49]⟩ 347) (.ref 108) "_law_name"
  dT : DefK K 28 "_strip_padding" (paramsOf (stAt 2)) (bodyOf (stAt 2)) (scopeOf (stAt 2)) (.str ⟨#[99, 112, 121, 51, 49, 51, 46, 108, 111, 99, 97, 108, 101]⟩ 194) (.ref 27) "_strip_padding"
  dI : DefK K 53 "__init__" (paramsOf (fnAt 1)) (bodyOf (fnAt 1)) (scopeOf (fnAt 1)) (.str ⟨#[99, 112, 121, 51, 49, 51, 46, 116, 97, 98, 110, 97, 110, 110, 121]⟩ 249) (.ref 52) "Whitespace.__init__"
  dL : DefK K 67 "indent_level" (paramsOf (fnAt 3)) (bodyOf (fnAt 3)) (scopeOf (fnAt 3)) (.str ⟨#[99, 112, 121, 51, 49, 51, 46, 116, 97, 98, 110, 97, 110, 110, 121]⟩ 249) (.ref 66) "Whitespace.indent_level"
  tI : typeIn K (.ref 53) = some (.type "function")
  tL : typeIn K (.ref 67) = some (.type "function")
  cK : keepIn K (.ref 98) = true
  cM : makesIn K 98 = true
  cI : findIn K (.ref 98) "__init__" = some (some (.ref 53))
  cL : findIn K (.ref 98) "indent_level" = some (some (.ref 67))
  cD : hasDictIn K 98 = true
  cG : findIn K (.ref 98) "__getattribute__" = some (some (.builtin "object.__getattribute__"))
  cg : findIn K (.ref 98) "__getattr__" = some none
  cs : findIn K (.ref 98) "__setattr__" = some (some (.builtin "object.__setattr__"))
  cO : plainOver K 98 = true
  cR : readsIn K 98 (.type "type") = true
  cS : findCls K (.ref 98) (.type "type") "S" = some (.val (.str " " 264))
  cT : findCls K (.ref 98) (.type "type") "T" = some (.val (.str "\t" 265))
  f1 : findIn K (.ref 98) "raw" = some none
  f2 : findIn K (.ref 98) "n" = some none
  f3 : findIn K (.ref 98) "nt" = some none
  f4 : findIn K (.ref 98) "norm" = some none
  f5 : findIn K (.ref 98) "is_simple" = some none
  g1 : takerIn K 98 "raw" = some none
  g2 : takerIn K 98 "n" = some none
  g3 : takerIn K 98 "nt" = some none
  g4 : takerIn K 98 "norm" = some none
  g5 : takerIn K 98 "is_simple" = some none
  tab : KTD.keyedLook (fun b => K.lookup b) 29 flagK = true

theorem two_of {α : Type} {l : List α} (h : l.length = 2) : ∃ a b, l = [a, b] := by
  match l, h with
  | [a, b], _ => exact ⟨a, b, rfl⟩
theorem three_of {α : Type} {l : List α} (h : l.length = 3) : ∃ a b c, l = [a, b, c] := by
  match l, h with
  | [a, b, c], _ => exact ⟨a, b, c, rfl⟩
theorem one_of {α : Type} {l : List α} (h : l.length = 1) : ∃ a, l = [a] := by
  match l, h with
  | [a], _ => exact ⟨a, rfl⟩

section
variable {K : Frag} (P : Part K) {p : Program} {loose : List Str} {mg mb : Str → Option Value} {h : Heap} (X : K.In h) (T : TopRead p loose mg mb h) {prog : Program} {w : World} {n : Nat}
include X T
theorem own_val {x : Str} {v : Value} (e : nsIn K mainGlobals x = some (some v)) : GVal ⟨K, p, loose, mg, mb⟩ x v := .inl (mg_of X T.g e)
theorem blt_val {x : Str} {v : Value} (e : nsIn K mainGlobals x = some none) (hv : bootBuiltins x = some v) (hn : x ≠ "__name__") : GVal ⟨K, p, loose, mg, mb⟩ x v := .inr ⟨mg_none_of X T.g e, (T.builtins x hn).trans hv⟩
include P
theorem v_len : GVal ⟨K, p, loose, mg, mb⟩ "len" (.builtin "len") := blt_val X T P.b1 rfl (by decide)
theorem v_range : GVal ⟨K, p, loose, mg, mb⟩ "range" (.type "range") := blt_val X T P.b2 rfl (by decide)
theorem v_sum : GVal ⟨K, p, loose, mg, mb⟩ "sum" (.builtin "sum") := blt_val X T P.b3 rfl (by decide)
theorem v_sorted : GVal ⟨K, p, loose, mg, mb⟩ "sorted" (.builtin "sorted") := blt_val X T P.b4 rfl (by decide)
theorem v_set : GVal ⟨K, p, loose, mg, mb⟩ "set" (.type "set") := blt_val X T P.b5 rfl (by decide)
theorem v_max : GVal ⟨K, p, loose, mg, mb⟩ "max" (.builtin "max") := blt_val X T P.b6 rfl (by decide)
theorem v_hex : GVal ⟨K, p, loose, mg, mb⟩ "hex" (.builtin "hex") := blt_val X T P.b7 rfl (by decide)
theorem v_tuple : GVal ⟨K, p, loose, mg, mb⟩ "tuple" (.type "tuple") := blt_val X T P.b8 rfl (by decide)

theorem strip_fn (L R : Nat) (a : Int) (hL : L ≤ 100) (hR : R ≤ 100) (ha : -1 ≤ a) : Fn prog w ⟨K, p, loose, mg, mb⟩ (n + 1) (.ref 28) [.str (pad L R), .int a] (.str (pad (L - took a L) (R - took (a - took a L) R))) :=
  fn_of (names := ["s", "amount"]) (P.dT.at p loose mg mb) rfl (fun vs hv => by obtain ⟨a, b, rfl⟩ := two_of hv; rfl) (by decide +kernel) (by decide +kernel) (strip_body (v_len P X T) L R a hL hR ha)
theorem next_fn : NextFn prog w ⟨K, p, loose, mg, mb⟩ (n + 2) (.ref 116) := fun d k r ok hk hL hR => by
  have o1 := ok.a; have o2 := ok.b; have o3 := ok.t0; have o4 := ok.t1
  have B := next_body (prog := prog) (w := w) (n := n + 1) (v_len P X T) (own_val X T P.nsT) (.own P.dT.keep) (fun L R a hL hR ha => strip_fn (n := n) P X T L R a hL hR ha) (done := (r.done : Int)) (first := (r.first : Int)) (both := (r.both : Int)) (taken := d.2.2) (L := r.L) (R := r.R) (ahead := d.1) (behind := d.2.1) (k := k) (by omega) (by omega) o3 (by omega) (L' := stepL d r) (R' := stepR d r) rfl rfl
  have e : PV.tuple [.int ((r.done : Int) + 2 ^ k), .str (pad (stepL d r) (stepR d r)), .int (bif decide (0 < stepL d r) then (r.first : Int) + 2 ^ k else 0), .int (bif decide (0 < stepL d r + stepR d r) then (r.both : Int) + 2 ^ k else 0)] = rowPV (stepRow d k r) := by
    have c : ∀ (b : Bool) (x : Nat), (bif b then (x : Int) + 2 ^ k else 0) = (((bif b then x + 2 ^ k else 0 : Nat)) : Int) := fun b x => by cases b <;> push_cast <;> rfl
    rw [c, c]
    show _ = PV.tuple [.int ((r.done + 2 ^ k : Nat) : Int), .str (pad (stepL d r) (stepR d r)), _, _]
    push_cast
    rfl
  rw [e] at B
  exact fn_of (names := ["row", "k", "deed"]) (P.dN.at p loose mg mb) rfl (fun vs hv => by obtain ⟨a, b, c, rfl⟩ := three_of hv; rfl) (by decide +kernel) (by decide +kernel) B
theorem sets_fn (ws : List Int) (h4 : ws.length = 4) (hb : ∀ k < 16, ((topsOf (sumsOf ws) (sizesOf ws) 4).1.getD k 0).natAbs < 1000) : Fn prog w ⟨K, p, loose, mg, mb⟩ (n + 1) (.ref 121) [iL ws] (.list ((setsOf ws).map pairOf))  := by
  have B := @sets_body prog w ⟨K, p, loose, mg, mb⟩ n (v_range P X T) ws h4 hb
  have D := P.dS
  generalize bodyOf (stAt 11) = b at B D
  exact fn_ofC (names := ["worths"]) (D.at p loose mg mb) rfl (fun vs hv => by obtain ⟨a, rfl⟩ := one_of hv; rfl) (by decide +kernel) (by decide +kernel) B
theorem pretty_fn (m s : Nat) (hm : m < 16) (hs : s < 9) : Fn prog w ⟨K, p, loose, mg, mb⟩ (n + 1) (.ref 36) [.int (m * 2 ^ s : Nat)] (.str (keyOf m s)) :=
  fn_of (names := ["flags"]) (P.dP.at p loose mg mb) rfl (fun vs hv => by obtain ⟨a, rfl⟩ := one_of hv; rfl) (by decide +kernel) (by decide +kernel)
    (pretty_body (a := 29) (v_range P X T) (v_hex P X T) (own_val X T P.nsD) (fun h' X' => by
      have := kt_keyed_in X' P.tab prog w
      rw [flagK_eq] at this
      exact this) hm hs)
theorem name_fn (k : Nat) (x : Str) (hk : k < 12) (hx : lawNames[k]? = some x) : Fn prog w ⟨K, p, loose, mg, mb⟩ (n + 1) (.ref 109) [.int k] (.str x)  := by
  have B := @name_body prog w ⟨K, p, loose, mg, mb⟩ n k x hk hx
  have D := P.dM
  generalize bodyOf (stAt 9) = b at B D
  exact fn_of (names := ["place"]) (D.at p loose mg mb) rfl (fun vs hv => by obtain ⟨a, rfl⟩ := one_of hv; rfl) (by decide +kernel) (by decide +kernel) B
theorem cls_ok : ClsOk ⟨K, p, loose, mg, mb⟩ 98 := ⟨P.cD, P.cG, P.cg, P.cs, P.cO⟩
noncomputable def ws_cls : WsCls ⟨K, p, loose, mg, mb⟩ 98 (.type "type") :=
  ⟨cls_ok P X T, ⟨P.f1, P.g1⟩, ⟨P.f2, P.g2⟩, ⟨P.f3, P.g3⟩, ⟨P.f4, P.g4⟩, ⟨P.f5, P.g5⟩, own_val X T P.nsC, P.cR, 264, 265, P.cS, P.cT⟩
theorem make_fn (x : Str) (pre post : List Nat) (hx : x.cps.toList = pre ++ 120 :: post) (hp : ∀ c ∈ pre, c = 32 ∨ c = 9) (hl : pre.length ≤ 1000) : Fn prog w ⟨K, p, loose, mg, mb⟩ (n + 2) (.ref 98) [.str x] (.inst 98 (wsFields x (wsOf pre))) :=
  cls_fn (names := ["ws"]) (self := "self") (P.dI.at p loose mg mb) P.cM P.cI P.tI rfl (fun vs hv => by obtain ⟨a, b, rfl⟩ := two_of hv; rfl) (by decide +kernel) (by decide +kernel) (by decide +kernel) (by decide +kernel) (fun a => ws_init (v_len P X T) (v_tuple P X T) (ws_cls P X T) hx hp hl a)
theorem level_fn (x : Str) (q : Ws) (size : Nat) (h0 : 0 < size) (h9 : size ≤ 900) (hq : q.cnt.length ≤ 900) : Fn prog w ⟨K, p, loose, mg, mb⟩ (n + 1) (.ref 67) [.inst 98 (wsFields x q), .int size] (.int (levelOf q size)) :=
  fn_of (names := ["self", "tabsize"]) (P.dL.at p loose mg mb) rfl (fun vs hv => by obtain ⟨a, b, rfl⟩ := two_of hv; rfl) (by decide +kernel) (by decide +kernel) (level_body (v_len P X T) (v_range P X T) (ws_cls P X T) h0 h9 hq)
noncomputable def law_fns : LawFns prog w ⟨K, p, loose, mg, mb⟩ (n + 2) :=
  ⟨.ref 121, .ref 36, .ref 109, own_val X T P.nsS, own_val X T P.nsP, own_val X T P.nsM, .own P.dS.keep, .own P.dP.keep, .own P.dM.keep, v_range P X T, v_sum P X T, sets_fn P X T, pretty_fn P X T, name_fn P X T⟩
noncomputable def ws_fns : WsFns prog w ⟨K, p, loose, mg, mb⟩ (n + 2) :=
  ⟨98, 67, own_val X T P.nsC, .own P.cK, cls_ok P X T, ⟨P.f2, P.g2⟩, ⟨P.f5, P.g5⟩, P.cL, P.tL, P.dL.keep, make_fn P X T, level_fn P X T, v_sorted P X T, v_set P X T, v_max P X T, v_range P X T, v_sum P X T⟩
end
end Mine
end

section
open PySem PySem.W PyProof.Rows
namespace Mine
noncomputable def tb (c m : Nat) : Bool := Nat.beq (Nat.land (Nat.shiftRight c m) 1) 1
noncomputable def wayN (p : Nat) : Nat := [1, 1, 1, 2, 1, 2, 2, 6].getD p 0
noncomputable def partsG (g : Nat → Bool) (U D : List Nat) (top rest : Nat) : Nat → Nat × Nat
  | 0 => (0, 0)
  | p + 1 =>
    match partsG g U D top rest p with
    | (a, b) =>
      bif Nat.beq (Nat.land p rest) p then
        bif g (Nat.add top p) then (Nat.add a (Nat.mul (wayN p) (U.getD (Nat.sub rest p) 0)), b) else (a, Nat.add b (Nat.mul (wayN p) (D.getD (Nat.sub rest p) 0)))
      else (a, b)
noncomputable def restsG (g : Nat → Bool) (top : Nat) (UD : List Nat × List Nat) : Nat → List Nat × List Nat
  | 0 => UD
  | r + 1 =>
    match restsG g top UD r with
    | (U, D) => match partsG g U D top r (r + 1) with
      | (a, b) => (U ++ [a], D ++ [b])
noncomputable def topsG (g : Nat → Bool) : Nat → List Nat × List Nat
  | 0 => ([1], [1])
  | k + 1 => restsG g (Nat.pow 2 k) (topsG g k) (Nat.pow 2 k)
noncomputable def endsG (g : Nat → Bool) : Nat → Nat → Nat → Nat
  | 0, _, noted => Nat.pow 2 (Nat.mul 5 noted)
  | t + 1, done, noted =>
    Nat.add (bif tb done 0 then 0 else endsG g t (Nat.add done 1) (bif g (Nat.add noted 1) then Nat.add noted 1 else 0))
      (Nat.add (bif tb done 1 then 0 else endsG g t (Nat.add done 2) (bif g (Nat.add noted 2) then Nat.add noted 2 else 0))
        (Nat.add (bif tb done 2 then 0 else endsG g t (Nat.add done 4) (bif g (Nat.add noted 4) then Nat.add noted 4 else 0))
          (bif tb done 3 then 0 else endsG g t (Nat.add done 8) (bif g (Nat.add noted 8) then Nat.add noted 8 else 0))))
noncomputable def packG : List Nat → List Nat → Nat
  | u :: U, d :: D => Nat.add (Nat.mul u d) (Nat.mul 32 (packG U D))
  | _, _ => 0
noncomputable def smallG : List Nat → List Nat → Bool
  | u :: U, d :: D => Nat.blt (Nat.mul u d) 32 && (Nat.blt u 32 && smallG U D)
  | _, _ => true
noncomputable def flagsOk (c : Nat) : Bool :=
  match topsG (fun m => tb c m) 4 with
  | (U, D) => Nat.beq (endsG (fun m => tb c m) 4 0 0) (packG U D.reverse) && smallG U D.reverse
noncomputable def ok2 (a b c : Bool) : Bool := (a != b) || (c == a)
noncomputable def codeOf : List Bool → Nat
  | [] => 0
  | b :: l => Nat.add (Nat.mul 2 (codeOf l)) (bif b then 1 else 0)
noncomputable def allB (f : Bool → Bool) : Bool := f false && f true
theorem allB_of {f : Bool → Bool} (h : allB f = true) : ∀ b, f b = true := by
  unfold allB at h
  rw [Bool.and_eq_true] at h
  intro b; cases b
  · exact h.1
  · exact h.2
theorem imp_of {c r : Bool} (h : (bif c then r else true) = true) (hc : c = true) : r = true := by subst hc; exact h
noncomputable def runAt (g1 g2 g4 g8 : Bool) : Bool := (allB fun g3 => bif ok2 g1 g2 g3 then (allB fun g5 => bif ok2 g1 g4 g5 then (allB fun g6 => bif ok2 g2 g4 g6 then (allB fun g9 => bif ok2 g1 g8 g9 then (allB fun g10 => bif ok2 g2 g8 g10 then (allB fun g12 => bif ok2 g4 g8 g12 then (allB fun g7 => bif (ok2 g1 g6 g7 && ok2 g2 g5 g7 && ok2 g3 g4 g7) then (allB fun g11 => bif (ok2 g1 g10 g11 && ok2 g2 g9 g11 && ok2 g3 g8 g11) then (allB fun g13 => bif (ok2 g1 g12 g13 && ok2 g4 g9 g13 && ok2 g5 g8 g13) then (allB fun g14 => bif (ok2 g2 g12 g14 && ok2 g4 g10 g14 && ok2 g6 g8 g14) then (allB fun g15 => bif (ok2 g1 g14 g15 && ok2 g2 g13 g15 && ok2 g3 g12 g15 && ok2 g4 g11 g15 && ok2 g5 g10 g15 && ok2 g6 g9 g15 && ok2 g7 g8 g15) then flagsOk (codeOf [false, g1, g2, g3, g4, g5, g6, g7, g8, g9, g10, g11, g12, g13, g14, g15]) else true) else true) else true) else true) else true) else true) else true) else true) else true) else true) else true)
theorem run_0 : runAt false false false false = true := by decide +kernel
theorem run_1 : runAt true false false false = true := by decide +kernel
theorem run_2 : runAt false true false false = true := by decide +kernel
theorem run_3 : runAt true true false false = true := by decide +kernel
theorem run_4 : runAt false false true false = true := by decide +kernel
theorem run_5 : runAt true false true false = true := by decide +kernel
theorem run_6 : runAt false true true false = true := by decide +kernel
theorem run_7 : runAt true true true false = true := by decide +kernel
theorem run_8 : runAt false false false true = true := by decide +kernel
theorem run_9 : runAt true false false true = true := by decide +kernel
theorem run_10 : runAt false true false true = true := by decide +kernel
theorem run_11 : runAt true true false true = true := by decide +kernel
theorem run_12 : runAt false false true true = true := by decide +kernel
theorem run_13 : runAt true false true true = true := by decide +kernel
theorem run_14 : runAt false true true true = true := by decide +kernel
theorem run_15 : runAt true true true true = true := by decide +kernel
theorem run_all : ∀ g1 g2 g4 g8 : Bool, runAt g1 g2 g4 g8 = true
  | false, false, false, false => run_0
  | true, false, false, false => run_1
  | false, true, false, false => run_2
  | true, true, false, false => run_3
  | false, false, true, false => run_4
  | true, false, true, false => run_5
  | false, true, true, false => run_6
  | true, true, true, false => run_7
  | false, false, false, true => run_8
  | true, false, false, true => run_9
  | false, true, false, true => run_10
  | true, true, false, true => run_11
  | false, false, true, true => run_12
  | true, false, true, true => run_13
  | false, true, true, true => run_14
  | true, true, true, true => run_15
theorem flags_all : ∀ g1 g2 g4 g8 : Bool, ∀ g3 : Bool, ok2 g1 g2 g3 = true → ∀ g5 : Bool, ok2 g1 g4 g5 = true → ∀ g6 : Bool, ok2 g2 g4 g6 = true → ∀ g9 : Bool, ok2 g1 g8 g9 = true → ∀ g10 : Bool, ok2 g2 g8 g10 = true → ∀ g12 : Bool, ok2 g4 g8 g12 = true → ∀ g7 : Bool, (ok2 g1 g6 g7 && ok2 g2 g5 g7 && ok2 g3 g4 g7) = true → ∀ g11 : Bool, (ok2 g1 g10 g11 && ok2 g2 g9 g11 && ok2 g3 g8 g11) = true → ∀ g13 : Bool, (ok2 g1 g12 g13 && ok2 g4 g9 g13 && ok2 g5 g8 g13) = true → ∀ g14 : Bool, (ok2 g2 g12 g14 && ok2 g4 g10 g14 && ok2 g6 g8 g14) = true → ∀ g15 : Bool, (ok2 g1 g14 g15 && ok2 g2 g13 g15 && ok2 g3 g12 g15 && ok2 g4 g11 g15 && ok2 g5 g10 g15 && ok2 g6 g9 g15 && ok2 g7 g8 g15) = true → flagsOk (codeOf [false, g1, g2, g3, g4, g5, g6, g7, g8, g9, g10, g11, g12, g13, g14, g15]) = true :=
  fun g1 g2 g4 g8 g3 h3 g5 h5 g6 h6 g9 h9 g10 h10 g12 h12 g7 h7 g11 h11 g13 h13 g14 h14 g15 h15 =>
  imp_of (allB_of (imp_of (allB_of (imp_of (allB_of (imp_of (allB_of (imp_of (allB_of (imp_of (allB_of (imp_of (allB_of (imp_of (allB_of (imp_of (allB_of (imp_of (allB_of (imp_of (allB_of (run_all g1 g2 g4 g8) g3) h3) g5) h5) g6) h6) g9) h9) g10) h10) g12) h12) g7) h7) g11) h11) g13) h13) g14) h14) g15) h15
end Mine
end

section
open PySem PySem.W PyProof.Rows
namespace Mine
theorem tb_eq (c m : Nat) : tb c m = c.testBit m := by
  unfold tb
  show Nat.beq ((c >>> m) &&& 1) 1 = _
  rw [Nat.testBit, Nat.one_and_eq_mod_two, Nat.and_one_is_mod]
  have h : (c >>> m) % 2 = 0 ∨ (c >>> m) % 2 = 1 := by omega
  rcases h with h | h <;> rw [h] <;> rfl

theorem sum_pick {x : Nat} (g : Nat → Int) : ∀ n : Nat, ((List.range n).map fun m => if x = m then g m else 0).sum = if x < n then g x else 0
  | 0 => by simp
  | n + 1 => by
    rw [List.range_succ, List.map_append, List.sum_append, sum_pick g n, List.map_cons, List.map_nil, List.sum_cons, List.sum_nil]
    by_cases h1 : x < n
    · rw [if_pos h1, if_neg (by omega), if_pos (by omega)]; omega
    · rw [if_neg h1]
      by_cases h2 : x = n
      · rw [if_pos h2, if_pos (by omega), h2]; omega
      · rw [if_neg h2, if_neg (by omega)]; omega
theorem sum_add {α : Type} (f g : α → Int) : ∀ l : List α, (l.map fun x => f x + g x).sum = (l.map f).sum + (l.map g).sum
  | [] => rfl
  | a :: l => by
    have := sum_add f g l
    simp only [List.map_cons, List.sum_cons]
    omega
theorem sum_zero {α : Type} : ∀ l : List α, (l.map fun _ => (0 : Int)).sum = 0
  | [] => rfl
  | a :: l => by rw [List.map_cons, List.sum_cons, sum_zero l]; rfl
theorem sum_count (g : Nat → Int) (n : Nat) : ∀ l : List Nat, (∀ x ∈ l, x < n) → ((List.range n).map fun m => (l.count m : Int) * g m).sum = (l.map g).sum
  | [], _ => by
    have : ((List.range n).map fun m => (([] : List Nat).count m : Int) * g m) = (List.range n).map fun _ => (0 : Int) := List.map_congr_left fun m _ => by simp
    rw [this, sum_zero]; rfl
  | x :: l, h => by
    have ih := sum_count g n l fun y hy => h y (.tail _ hy)
    have e : ((List.range n).map fun m => ((x :: l).count m : Int) * g m) = (List.range n).map fun m => (l.count m : Int) * g m + (if x = m then g m else 0) := List.map_congr_left fun m _ => by
      rw [List.count_cons]
      by_cases hm : x = m
      · subst hm; simp only [beq_self_eq_true, if_true]; push_cast; rw [Int.add_mul]; omega
      · rw [if_neg hm, beq_eq_false_iff_ne.mpr hm]; simp
    rw [e, sum_add, ih, sum_pick, if_pos (h x (.head _)), List.map_cons, List.sum_cons]
    omega

noncomputable def packN : List Nat → Nat
  | [] => 0
  | c :: l => c + 32 * packN l
theorem packN_inj : ∀ {a b : List Nat}, a.length = b.length → (∀ x ∈ a, x < 32) → (∀ x ∈ b, x < 32) → packN a = packN b → a = b
  | [], [], _, _, _, _ => rfl
  | x :: a, y :: b, hl, ha, hb, h => by
    have h1 := ha x (.head _)
    have h2 := hb y (.head _)
    simp only [packN] at h
    have e : x = y := by omega
    subst e
    rw [packN_inj (by simpa using hl) (fun z hz => ha z (.tail _ hz)) (fun z hz => hb z (.tail _ hz)) (by omega)]
theorem packG_eq : ∀ (U D : List Nat), packG U D = packN (List.zipWith (· * ·) U D)
  | [], _ => by simp [packG, packN]
  | _ :: _, [] => by simp [packG, packN]
  | u :: U, d :: D => by
    rw [List.zipWith_cons_cons, packN, ← packG_eq U D]; rfl
theorem smallG_mem : ∀ (U D : List Nat), U.length = D.length → smallG U D = true → (∀ x ∈ List.zipWith (· * ·) U D, x < 32) ∧ ∀ u ∈ U, u < 32
  | [], _, _, _ => ⟨fun x hx => by simp at hx, fun u hu => by cases hu⟩
  | u :: U, d :: D, hl, h => by
    have h' : (Nat.blt (u * d) 32 && (Nat.blt u 32 && smallG U D)) = true := h
    rw [Bool.and_eq_true, Bool.and_eq_true] at h'
    obtain ⟨i1, i2⟩ := smallG_mem U D (by simpa using hl) h'.2.2
    have a1 : u * d < 32 := Nat.blt_eq.mp h'.1
    have a2 : u < 32 := Nat.blt_eq.mp h'.2.1
    refine ⟨fun x hx => ?_, fun x hx => ?_⟩
    · rw [List.zipWith_cons_cons] at hx
      rcases List.mem_cons.mp hx with rfl | hx
      · exact a1
      · exact i1 x hx
    · rcases List.mem_cons.mp hx with rfl | hx
      · exact a2
      · exact i2 x hx
theorem packN_range (f : Nat → Nat) : ∀ (n a : Nat), ((packN ((List.range' a n).map f) : Nat) : Int) * 32 ^ a = ((List.range' a n).map fun m => (f m : Int) * 32 ^ m).sum
  | 0, a => by simp [packN]
  | n + 1, a => by
    have ih := packN_range f n (a + 1)
    rw [List.range'_succ, List.map_cons, List.map_cons, List.sum_cons, packN, ← ih]
    push_cast
    rw [Int.pow_succ]
    grind
noncomputable def endL (g : Nat → Bool) : Nat → Nat → Nat → List Nat
  | 0, _, noted => [noted]
  | t + 1, done, noted =>
    (bif done.testBit 0 then [] else endL g t (done + 1) (bif g (noted + 1) then noted + 1 else 0)) ++
      ((bif done.testBit 1 then [] else endL g t (done + 2) (bif g (noted + 2) then noted + 2 else 0)) ++
        ((bif done.testBit 2 then [] else endL g t (done + 4) (bif g (noted + 4) then noted + 4 else 0)) ++
          (bif done.testBit 3 then [] else endL g t (done + 8) (bif g (noted + 8) then noted + 8 else 0))))
theorem ends_sum (g : Nat → Bool) : ∀ t done noted, ((endsG g t done noted : Nat) : Int) = ((endL g t done noted).map fun x => (32 : Int) ^ x).sum
  | 0, done, noted => by
    show ((2 ^ (5 * noted) : Nat) : Int) = _
    rw [Nat.pow_mul, endL]
    simp
  | t + 1, done, noted => by
    have one : ∀ (j v : Nat), (((bif tb done j then 0 else endsG g t (done + v) (bif g (noted + v) then noted + v else 0) : Nat)) : Int) = ((bif done.testBit j then [] else endL g t (done + v) (bif g (noted + v) then noted + v else 0)).map fun x => (32 : Int) ^ x).sum := fun j v => by
      rw [tb_eq]
      cases done.testBit j
      · exact ends_sum g t _ _
      · rfl
    rw [endL, List.map_append, List.sum_append, List.map_append, List.sum_append, List.map_append, List.sum_append, ← one 0 1, ← one 1 2, ← one 2 4, ← one 3 8]
    rw [← Int.natCast_add, ← Int.natCast_add, ← Int.natCast_add]
    rfl
theorem flags_count {c : Nat} (h : flagsOk c = true) {U D : List Nat} (hUD : topsG (fun m => tb c m) 4 = (U, D)) (hU : U.length = 16) (hD : D.length = 16) (hlt : ∀ x ∈ endL (fun m => tb c m) 4 0 0, x < 16) (hlen : (endL (fun m => tb c m) 4 0 0).length < 32) :
    (∀ m < 16, (endL (fun m => tb c m) 4 0 0).count m = U.getD m 0 * D.getD (15 - m) 0) ∧ ∀ u ∈ U, u < 32 := by
  unfold flagsOk at h
  rw [hUD] at h
  dsimp only at h
  rw [Bool.and_eq_true] at h
  obtain ⟨h1, h2⟩ := h
  have h1 := Nat.eq_of_beq_eq_true h1
  have hl : U.length = D.reverse.length := by rw [List.length_reverse, hU, hD]
  obtain ⟨s1, s2⟩ := smallG_mem U D.reverse hl h2
  refine ⟨?_, s2⟩
  have e1 := ends_sum (fun m => tb c m) 4 0 0
  rw [h1, packG_eq] at e1
  generalize endL (fun m => tb c m) 4 0 0 = L at *
  have e2 := sum_count (fun m => (32 : Int) ^ m) 16 L hlt
  have e3 := packN_range (fun m => L.count m) 16 0
  rw [← List.range_eq_range', e2, ← e1, Int.pow_zero, Int.mul_one] at e3
  have e4 : packN ((List.range 16).map fun m => L.count m) = packN (List.zipWith (· * ·) U D.reverse) := Int.ofNat.inj e3
  have e5 := packN_inj (by rw [List.length_map, List.length_range, List.length_zipWith, List.length_reverse, hU, hD]; rfl) (fun x hx => by
    obtain ⟨m, _, rfl⟩ := List.mem_map.mp hx
    exact Nat.lt_of_le_of_lt List.count_le_length hlen) s1 e4
  intro m hm
  have e6 := congrArg (fun l : List Nat => l.getD m 0) e5
  simp only [List.getD_eq_getElem?_getD] at e6 ⊢
  rw [List.getElem?_map, List.getElem?_range hm, Option.map_some, Option.getD_some, List.getElem?_zipWith, List.getElem?_reverse (by omega), hD] at e6
  rw [e6, List.getElem?_eq_getElem (by omega : m < U.length), List.getElem?_eq_getElem (by omega : 16 - 1 - m < D.length)]
  rfl
end Mine
end

section
open PySem PySem.W PyProof.Rows
namespace Mine
noncomputable abbrev castL (l : List Nat) : List Int := l.map fun (x : Nat) => (x : Int)
theorem castL_getD (l : List Nat) (j : Nat) : (castL l).getD j 0 = ((l.getD j 0 : Nat) : Int) := by
  rw [List.getD_eq_getElem?_getD, List.getD_eq_getElem?_getD, List.getElem?_map]
  cases l[j]? <;> rfl
noncomputable def sizes16 : List Int := [0, 1, 1, 2, 1, 2, 2, 3, 1, 2, 2, 3, 2, 3, 3, 4]
theorem ways_at : ∀ p : Nat, p < 8 → waysL.getD (sizes16.getD p 0).toNat 0 = ((wayN p : Nat) : Int) := by decide +kernel
section
variable {S : List Int} {g : Nat → Bool}
theorem parts_cast (hg : ∀ m < 16, g m = decide (S.getD m 0 > 0)) {U D : List Nat} {top rest : Nat} (ht : top ≤ 8) (hr : rest < top) : ∀ p, p ≤ rest + 1 → partsOf S sizes16 (castL U) (castL D) top rest p = ((((partsG g U D top rest p).1 : Nat) : Int), (((partsG g U D top rest p).2 : Nat) : Int))
  | 0, _ => rfl
  | p + 1, hp => by
    have ih := parts_cast hg (U := U) (D := D) ht hr p (by omega)
    rw [partsOf, partsG]
    rw [ih]
    generalize partsG g U D top rest p = q
    obtain ⟨a, b⟩ := q
    dsimp only
    have hg' := hg (top + p) (by omega)
    have hw := ways_at p (by omega)
    by_cases hc : p &&& rest = p
    · rw [if_pos hc]
      have : Nat.beq (Nat.land p rest) p = true := Nat.beq_eq ▸ hc
      rw [this]
      simp only [cond_true]
      by_cases hs : S.getD (top + p) 0 > 0
      · rw [if_pos hs, show g (Nat.add top p) = true from hg'.trans (decide_eq_true hs)]
        simp only [cond_true]
        rw [hw, castL_getD]
        show (_, _) = (((a + wayN p * U.getD (rest - p) 0 : Nat) : Int), ((b : Nat) : Int))
        push_cast; rfl
      · rw [if_neg hs, show g (Nat.add top p) = false from hg'.trans (decide_eq_false hs)]
        simp only [cond_false]
        rw [hw, castL_getD]
        show (_, _) = (((a : Nat) : Int), ((b + wayN p * D.getD (rest - p) 0 : Nat) : Int))
        push_cast; rfl
    · rw [if_neg hc]
      have : Nat.beq (Nat.land p rest) p = false := by
        rw [Bool.eq_false_iff]
        exact fun h => hc (Nat.eq_of_beq_eq_true h)
      rw [this]
      rfl
theorem rests_cast (hg : ∀ m < 16, g m = decide (S.getD m 0 > 0)) {top : Nat} (ht : top ≤ 8) {UD : List Nat × List Nat} : ∀ r, r ≤ top → restsOf S sizes16 top (castL UD.1, castL UD.2) r = (castL (restsG g top UD r).1, castL (restsG g top UD r).2)
  | 0, _ => rfl
  | r + 1, hr => by
    have ih := rests_cast hg ht (UD := UD) r (by omega)
    rw [restsOf, restsG, ih]
    generalize restsG g top UD r = q
    obtain ⟨U, D⟩ := q
    dsimp only
    rw [parts_cast hg ht (by omega) (r + 1) (Nat.le_refl _)]
    generalize partsG g U D top r (r + 1) = q
    obtain ⟨a, b⟩ := q
    simp only [castL, List.map_append, List.map_cons, List.map_nil]
theorem tops_cast (hg : ∀ m < 16, g m = decide (S.getD m 0 > 0)) : ∀ k, k ≤ 4 → topsOf S sizes16 k = (castL (topsG g k).1, castL (topsG g k).2)
  | 0, _ => rfl
  | k + 1, hk => by
    have ih := tops_cast hg k (by omega)
    have hp : 2 ^ k ≤ 8 := by
      have : 2 ^ k ≤ 2 ^ 3 := Nat.pow_le_pow_right (by decide) (by omega)
      omega
    rw [topsOf, topsG, ih]
    exact rests_cast hg hp (UD := topsG g k) (2 ^ k) (Nat.le_refl _)
end

theorem ok2_of {x y z : Int} (h : z = x + y) : ok2 (decide (x > 0)) (decide (y > 0)) (decide (z > 0)) = true := by
  unfold ok2
  by_cases hx : x > 0 <;> by_cases hy : y > 0 <;> by_cases hz : z > 0 <;> simp [hx, hy, hz] <;> omega
theorem sums4 (a b c d : Int) : sumsOf [a, b, c, d] = [0, a, b, a + b, c, a + c, b + c, a + b + c, d, a + d, b + d, a + b + d, c + d, a + c + d, b + c + d, a + b + c + d] := by
  simp [sumsOf]
noncomputable def posL (S : List Int) : List Bool := S.map fun s => decide (s > 0)
theorem code_zero (b : Bool) (l : List Bool) : tb (codeOf (b :: l)) 0 = b := by
  rw [tb_eq]
  show Nat.testBit (2 * codeOf l + (bif b then 1 else 0)) 0 = b
  rw [Nat.testBit_zero]
  cases b
  · show decide ((2 * codeOf l + 0) % 2 = 1) = false
    exact decide_eq_false (by rw [Nat.add_zero, Nat.mul_mod_right]; decide)
  · show decide ((2 * codeOf l + 1) % 2 = 1) = true
    exact decide_eq_true (Nat.mul_add_mod 2 (codeOf l) 1)
theorem code_succ (b : Bool) (l : List Bool) (m : Nat) : tb (codeOf (b :: l)) (m + 1) = tb (codeOf l) m := by
  rw [tb_eq, tb_eq]
  show Nat.testBit (2 * codeOf l + (bif b then 1 else 0)) (m + 1) = _
  rw [Nat.testBit_succ]
  congr 1
  cases b
  · exact Nat.mul_add_div (by decide) (codeOf l) 0
  · exact Nat.mul_add_div (by decide) (codeOf l) 1
theorem code_at : ∀ (l : List Bool) (m : Nat), tb (codeOf l) m = l.getD m false
  | [], m => by
    rw [tb_eq]
    show Nat.testBit 0 m = _
    rw [Nat.zero_testBit]; rfl
  | b :: l, 0 => by rw [code_zero]; rfl
  | b :: l, m + 1 => by rw [code_succ, code_at l m]; rfl
theorem flags_at (S : List Int) (m : Nat) : tb (codeOf (posL S)) m = decide (S.getD m 0 > 0) := by
  rw [code_at, posL, List.getD_eq_getElem?_getD, List.getD_eq_getElem?_getD, List.getElem?_map]
  cases S[m]? <;> rfl
theorem flags_of (a b c d : Int) : flagsOk (codeOf (posL (sumsOf [a, b, c, d]))) = true := by
  rw [sums4]
  have o : ∀ {x y z : Int}, z = x + y → ok2 (decide (x > 0)) (decide (y > 0)) (decide (z > 0)) = true := ok2_of
  refine flags_all (decide (a > 0)) (decide (b > 0)) (decide (c > 0)) (decide (d > 0)) (decide (a + b > 0)) ?_ (decide (a + c > 0)) ?_ (decide (b + c > 0)) ?_ (decide (a + d > 0)) ?_ (decide (b + d > 0)) ?_ (decide (c + d > 0)) ?_ (decide (a + b + c > 0)) ?_ (decide (a + b + d > 0)) ?_ (decide (a + c + d > 0)) ?_ (decide (b + c + d > 0)) ?_ (decide (a + b + c + d > 0)) ?_
  all_goals (try simp only [Bool.and_eq_true])
  all_goals (repeat' apply And.intro)
  all_goals exact o (by first | rfl | ac_rfl)
end Mine
end

section
open PySem PySem.W PyProof.Rows
namespace Mine
noncomputable def bitI (m k : Nat) : Int := bif m.testBit k then 1 else 0
theorem bit_step : ∀ m : Nat, m < 16 → ∀ k : Nat, k < 4 → (m.testBit k || (decide (bitI (m + 2 ^ k) k = 1) && decide (bitI m k = 0) && (List.range 4).all fun j => j == k || decide (bitI (m + 2 ^ k) j = bitI m j))) = true := by decide +kernel
theorem sums_bits (a b c d : Int) : (sumsOf [a, b, c, d]) = (List.range 16).map fun m => bitI m 0 * a + bitI m 1 * b + bitI m 2 * c + bitI m 3 * d := by
  rw [sums4]
  have e : List.range 16 = [0, 1, 2, 3, 4, 5, 6, 7, 8, 9, 10, 11, 12, 13, 14, 15] := by decide
  rw [e]
  simp [bitI, Nat.testBit, Nat.shiftRight]
theorem sums_step (a b c d : Int) (m k : Nat) (hm : m < 16) (hk : k < 4) (hb : m.testBit k = false) : (sumsOf [a, b, c, d]).getD (m + 2 ^ k) 0 = (sumsOf [a, b, c, d]).getD m 0 + [a, b, c, d].getD k 0 := by
  have h2 : m + 2 ^ k < 16 ∧ (m.testBit k || (decide (bitI (m + 2 ^ k) k = 1) && decide (bitI m k = 0) && (List.range 4).all fun j => j == k || decide (bitI (m + 2 ^ k) j = bitI m j))) = true := ⟨by
    have : ∀ m : Nat, m < 16 → ∀ k : Nat, k < 4 → (m.testBit k || decide (m + 2 ^ k < 16)) = true := by decide +kernel
    have := this m hm k hk
    rw [hb] at this
    exact of_decide_eq_true this, bit_step m hm k hk⟩
  obtain ⟨h2, h3⟩ := h2
  rw [hb] at h3
  simp only [Bool.false_or, Bool.and_eq_true, decide_eq_true_iff, List.all_eq_true, Bool.or_eq_true, beq_iff_eq] at h3
  obtain ⟨⟨h4, h5⟩, h6⟩ := h3
  have g : ∀ j, j < 4 → j ≠ k → bitI (m + 2 ^ k) j = bitI m j := fun j hj hn => (h6 j (List.mem_range.mpr hj)).resolve_left hn
  rw [sums_bits, List.getD_eq_getElem?_getD, List.getD_eq_getElem?_getD, List.getElem?_map, List.getElem?_map, List.getElem?_range h2, List.getElem?_range hm]
  simp only [Option.map_some, Option.getD_some]
  generalize m + 2 ^ k = q at *
  clear h6 hb h2 hm
  match k, hk with
  | 0, _ => rw [g 1 (by decide) (by decide), g 2 (by decide) (by decide), g 3 (by decide) (by decide), h4, h5]; simp only [List.getD_cons_zero]; omega
  | 1, _ => rw [g 0 (by decide) (by decide), g 2 (by decide) (by decide), g 3 (by decide) (by decide), h4, h5]; simp only [List.getD_cons_zero, List.getD_cons_succ]; omega
  | 2, _ => rw [g 0 (by decide) (by decide), g 1 (by decide) (by decide), g 3 (by decide) (by decide), h4, h5]; simp only [List.getD_cons_zero, List.getD_cons_succ]; omega
  | 3, _ => rw [g 0 (by decide) (by decide), g 1 (by decide) (by decide), g 2 (by decide) (by decide), h4, h5]; simp only [List.getD_cons_zero, List.getD_cons_succ]; omega
theorem sub_run : ∀ d : Nat, d < 16 → ∀ m : Nat, m < 16 → ∀ k : Nat, k < 4 → (!(m &&& d == m) || d.testBit k || (Nat.blt (d + 2 ^ k) 16 && ((m + 2 ^ k) &&& (d + 2 ^ k) == m + 2 ^ k) && !m.testBit k)) = true := by decide +kernel
theorem sub_fact (d : Nat) (hd : d < 16) (m : Nat) (hm : m < 16) (k : Nat) (hk : k < 4) (h1 : m &&& d = m) (h2 : d.testBit k = false) : d + 2 ^ k < 16 ∧ (m + 2 ^ k) &&& (d + 2 ^ k) = m + 2 ^ k ∧ m.testBit k = false := by
  have := sub_run d hd m hm k hk
  rw [h1, h2] at this
  simp only [beq_self_eq_true, Bool.not_true, Bool.false_or, Bool.and_eq_true, beq_iff_eq, Bool.not_eq_true'] at this
  exact ⟨Nat.blt_eq.mp this.1.1, this.1.2, this.2⟩
theorem pick4 {α : Type} (b : Nat → Bool) (f : Nat → List α) : (((List.range 4).filter fun k => !b k).map f).flatten = (bif b 0 then [] else f 0) ++ ((bif b 1 then [] else f 1) ++ ((bif b 2 then [] else f 2) ++ (bif b 3 then [] else f 3))) := by
  have e : List.range 4 = [0, 1, 2, 3] := by decide
  rw [e]
  cases h0 : b 0 <;> cases h1 : b 1 <;> cases h2 : b 2 <;> cases h3 : b 3 <;> simp [List.filter, h0, h1, h2, h3]

structure RInv (S2 S3 : List Int) (n : Nat) (r : Row) : Prop where
  dn : r.done < 16
  f : r.first &&& r.done = r.first
  b : r.both &&& r.done = r.both
  L : (r.L : Int) = S2.getD r.first 0
  T : (r.L + r.R : Int) = S3.getD r.both 0
  l : r.L ≤ n
  r : r.R ≤ n
theorem took_neg {t : Int} (h : t < 0) (m : Nat) : took t m = m := if_pos h
theorem took_pos (t m : Nat) : took (t : Int) m = min m t := by
  unfold took
  rw [if_neg (Int.not_lt.mpr (Int.natCast_nonneg t)), Int.toNat_natCast]
theorem minus_min (x t : Nat) : x - min x t = x - t := by
  rcases Nat.le_total x t with h | h
  · rw [Nat.min_eq_left h, Nat.sub_self, Nat.sub_eq_zero_of_le h]
  · rw [Nat.min_eq_right h]
theorem minus_min2 (x t : Nat) : t - min x t = t - x := by rw [Nat.min_comm, minus_min]
theorem strip_all (x y t : Nat) : (x - min x t) + (y - min y (t - min x t)) = (x + y) - min (x + y) t := by
  rw [minus_min, minus_min, minus_min, minus_min2]
  rcases Nat.le_total x t with h | h
  · rw [Nat.sub_eq_zero_of_le h, Nat.zero_add, Nat.sub_sub_right _ h, Nat.add_comm]
  · rw [Nat.sub_eq_zero_of_le h, Nat.sub_zero, Nat.sub_add_comm h]
theorem sub_max (x t : Nat) : ((x - min x t : Nat) : Int) = max 0 ((x : Int) - t) := by
  rw [minus_min]
  rcases Nat.le_total x t with h | h
  · rw [Nat.sub_eq_zero_of_le h, Int.max_eq_left (Int.sub_nonpos_of_le (Int.ofNat_le.mpr h))]; rfl
  · rw [Int.ofNat_sub h, Int.max_eq_right (Int.sub_nonneg.mpr (Int.ofNat_le.mpr h))]
theorem step_L {d : Deed} (ok : DeedOk d) {r : Row} (h : r.L ≤ 50) : (stepL d r : Int) = max 0 ((r.L : Int) + worthOf 2 d) := by
  obtain ⟨a, b, t⟩ := d
  have o1 : a ≤ 2 := ok.a
  unfold stepL worthOf
  show ((r.L + a - took t (r.L + a) : Nat) : Int) = max 0 ((r.L : Int) + if t ≥ 0 then (a : Int) + b * (2 - 2) - t else -99)
  clear ok
  by_cases h0 : t ≥ 0
  · obtain ⟨t, rfl⟩ := Int.eq_ofNat_of_zero_le h0
    rw [if_pos h0, took_pos, sub_max, show ((2 : Int) - 2) = 0 by decide, Int.mul_zero]
    congr 1; omega
  · rw [if_neg h0, took_neg (by omega), Nat.sub_self]; omega
theorem step_T {d : Deed} (ok : DeedOk d) {r : Row} (h : r.L ≤ 48) (h' : r.R ≤ 48) : ((stepL d r : Int) + stepR d r) = max 0 ((r.L : Int) + r.R + worthOf 3 d) := by
  obtain ⟨a, b, t⟩ := d
  have o1 : a ≤ 2 := ok.a
  have o2 : b ≤ 1 := ok.b
  unfold stepL stepR worthOf
  show ((r.L + a - took t (r.L + a) : Nat) : Int) + ((r.R + b - took (t - (took t (r.L + a) : Nat)) (r.R + b) : Nat) : Int) = max 0 ((r.L : Int) + r.R + if t ≥ 0 then (a : Int) + b * (3 - 2) - t else -99)
  clear ok
  by_cases h0 : t ≥ 0
  · obtain ⟨t, rfl⟩ := Int.eq_ofNat_of_zero_le h0
    rw [if_pos h0, took_pos, show ((t : Int) - (min (r.L + a) t : Nat)) = ((t - min (r.L + a) t : Nat) : Int) by omega, took_pos, ← Int.natCast_add, strip_all, sub_max, show ((3 : Int) - 2) = 1 by decide, Int.mul_one]
    congr 1; omega
  · have hn : t < 0 := by omega
    rw [if_neg h0, took_neg hn, took_neg (by omega), Nat.sub_self, Nat.sub_self]; omega

theorem max_pos {n : Nat} {x y : Int} (h : (n : Int) = max 0 y) (e : x = y) : 0 < n ↔ x > 0 := by subst e; omega
theorem max_val {n : Nat} {x y : Int} (h : (n : Int) = max 0 y) (e : x = y) (p : 0 < n) : (n : Int) = x := by subst e; omega
theorem max_zero {n : Nat} {y z : Int} (h : (n : Int) = max 0 y) (e : z = 0) (p : ¬ 0 < n) : (n : Int) = z := by subst e; omega
section
variable {D : List Deed} (hD : ∀ d ∈ D, DeedOk d) {d0 d1 d2 d3 : Deed} (e : D = [d0, d1, d2, d3])
include hD e
theorem rinv_step {n : Nat} (hn : n ≤ 40) {r : Row} (I : RInv (sumsOf (D.map (worthOf 2))) (sumsOf (D.map (worthOf 3))) n r) {k : Nat} (hk : k < 4) (hb : r.done.testBit k = false) :
    RInv (sumsOf (D.map (worthOf 2))) (sumsOf (D.map (worthOf 3))) (n + 2) (stepRow (D.getD k (0, 0, 0)) k r) ∧
      (stepRow (D.getD k (0, 0, 0)) k r).first = (bif decide ((sumsOf (D.map (worthOf 2))).getD (r.first + 2 ^ k) 0 > 0) then r.first + 2 ^ k else 0) ∧
      (stepRow (D.getD k (0, 0, 0)) k r).both = (bif decide ((sumsOf (D.map (worthOf 3))).getD (r.both + 2 ^ k) 0 > 0) then r.both + 2 ^ k else 0) := by
  have hl : k < D.length := by rw [e]; exact hk
  have ok := hD _ (getD_mem' (x := ((0, 0, 0) : Deed)) hl)
  have w2 : (D.map (worthOf 2)).getD k 0 = worthOf 2 (D.getD k (0, 0, 0)) := by
    rw [List.getD_eq_getElem?_getD, List.getD_eq_getElem?_getD, List.getElem?_map, List.getElem?_eq_getElem hl]; rfl
  have w3 : (D.map (worthOf 3)).getD k 0 = worthOf 3 (D.getD k (0, 0, 0)) := by
    rw [List.getD_eq_getElem?_getD, List.getD_eq_getElem?_getD, List.getElem?_map, List.getElem?_eq_getElem hl]; rfl
  have z2 : (sumsOf (D.map (worthOf 2))).getD 0 0 = 0 := by rw [e]; simp only [List.map_cons, List.map_nil]; rw [sums4]; rfl
  have z3 : (sumsOf (D.map (worthOf 3))).getD 0 0 = 0 := by rw [e]; simp only [List.map_cons, List.map_nil]; rw [sums4]; rfl
  have st2 : ∀ m < 16, m.testBit k = false → (sumsOf (D.map (worthOf 2))).getD (m + 2 ^ k) 0 = (sumsOf (D.map (worthOf 2))).getD m 0 + (D.map (worthOf 2)).getD k 0 := fun m hm hb => by
    rw [e]; exact sums_step _ _ _ _ m k hm hk hb
  have st3 : ∀ m < 16, m.testBit k = false → (sumsOf (D.map (worthOf 3))).getD (m + 2 ^ k) 0 = (sumsOf (D.map (worthOf 3))).getD m 0 + (D.map (worthOf 3)).getD k 0 := fun m hm hb => by
    rw [e]; exact sums_step _ _ _ _ m k hm hk hb
  have f16 : r.first < 16 := by have h := Nat.and_le_right (n := r.first) (m := r.done); rw [I.f] at h; exact Nat.lt_of_le_of_lt h I.dn
  have b16 : r.both < 16 := by have h := Nat.and_le_right (n := r.both) (m := r.done); rw [I.b] at h; exact Nat.lt_of_le_of_lt h I.dn
  obtain ⟨p1, p2, p3⟩ := sub_fact r.done I.dn r.first f16 k hk I.f hb
  obtain ⟨q1, q2, q3⟩ := sub_fact r.done I.dn r.both b16 k hk I.b hb
  have s2 := st2 r.first f16 p3
  have s3 := st3 r.both b16 q3
  rw [w2, ← I.L] at s2
  rw [w3, ← I.T] at s3
  have L' := step_L ok (r := r) (Nat.le_trans I.l (Nat.le_trans hn (by decide)))
  have T' := step_T ok (r := r) (Nat.le_trans I.l (Nat.le_trans hn (by decide))) (Nat.le_trans I.r (Nat.le_trans hn (by decide)))
  have o1 := ok.a; have o2 := ok.b
  have bl : stepL (D.getD k (0, 0, 0)) r ≤ n + 2 := Nat.le_trans (Nat.sub_le _ _) (Nat.add_le_add I.l o1)
  have br : stepR (D.getD k (0, 0, 0)) r ≤ n + 2 := Nat.le_trans (Nat.sub_le _ _) (Nat.le_trans (Nat.add_le_add I.r o2) (Nat.le_succ _))
  generalize D.getD k (0, 0, 0) = d at *
  have c1 : decide (0 < stepL d r) = decide ((sumsOf (D.map (worthOf 2))).getD (r.first + 2 ^ k) 0 > 0) := decide_eq_decide.mpr (max_pos L' s2)
  have c2 : decide (0 < stepL d r + stepR d r) = decide ((sumsOf (D.map (worthOf 3))).getD (r.both + 2 ^ k) 0 > 0) := decide_eq_decide.mpr (max_pos (n := stepL d r + stepR d r) T' s3)
  refine ⟨⟨p1, ?_, ?_, ?_, ?_, bl, br⟩, ?_, ?_⟩
  · show (bif decide (0 < stepL d r) then r.first + 2 ^ k else 0) &&& (r.done + 2 ^ k) = (bif decide (0 < stepL d r) then r.first + 2 ^ k else 0)
    cases decide (0 < stepL d r)
    · exact Nat.zero_and _
    · exact p2
  · show (bif decide (0 < stepL d r + stepR d r) then r.both + 2 ^ k else 0) &&& (r.done + 2 ^ k) = (bif decide (0 < stepL d r + stepR d r) then r.both + 2 ^ k else 0)
    cases decide (0 < stepL d r + stepR d r)
    · exact Nat.zero_and _
    · exact q2
  · show (stepL d r : Int) = (sumsOf (D.map (worthOf 2))).getD (bif decide (0 < stepL d r) then r.first + 2 ^ k else 0) 0
    by_cases h : 0 < stepL d r
    · rw [decide_eq_true h]; exact max_val L' s2 h
    · rw [decide_eq_false h]; exact max_zero L' z2 h
  · show ((stepL d r : Int) + stepR d r) = (sumsOf (D.map (worthOf 3))).getD (bif decide (0 < stepL d r + stepR d r) then r.both + 2 ^ k else 0) 0
    by_cases h : 0 < stepL d r + stepR d r
    · rw [decide_eq_true h]; exact max_val (n := stepL d r + stepR d r) T' s3 h
    · rw [decide_eq_false h]; exact max_zero (n := stepL d r + stepR d r) T' z3 h
  · show (bif decide (0 < stepL d r) then r.first + 2 ^ k else 0) = _
    rw [c1]
  · show (bif decide (0 < stepL d r + stepR d r) then r.both + 2 ^ k else 0) = _
    rw [c2]
end

noncomputable def treeR (D : List Deed) : Nat → Row → List Row
  | 0, r => [r]
  | t + 1, r => (((List.range 4).filter fun k => !r.done.testBit k).map fun k => treeR D t (stepRow (D.getD k (0, 0, 0)) k r)).flatten
theorem grow_flat {α : Type} (da : α → Nat) (f : Nat → α → α) (ls : List (List α)) : growOf da f ls.flatten = (ls.map (growOf da f)).flatten := by
  unfold growOf
  induction ls with
  | nil => rfl
  | cons l ls ih => rw [List.flatten_cons, List.map_append, List.flatten_append, ih, List.map_cons, List.flatten_cons]
theorem grow_tree (D : List Deed) : ∀ (t : Nat) (r : Row), growOf (·.done) (fun k => stepRow (D.getD k (0, 0, 0)) k) (treeR D t r) = treeR D (t + 1) r
  | 0, r => by
    show (([r] : List Row).map _).flatten = (((List.range 4).filter fun k => !r.done.testBit k).map fun k => [stepRow (D.getD k (0, 0, 0)) k r]).flatten
    rw [List.map_cons, List.map_nil, List.flatten_cons, List.flatten_nil, List.append_nil]
    generalize (List.range 4).filter (fun k => !r.done.testBit k) = l
    induction l with
    | nil => rfl
    | cons a l ih => rw [List.map_cons, List.map_cons, List.flatten_cons, ← ih]; rfl
  | t + 1, r => by
    rw [treeR, grow_flat, List.map_map, treeR]
    congr 1
    refine List.map_congr_left fun k _ => ?_
    exact grow_tree D t _
theorem rows_tree (D : List Deed) : ∀ t, rowsOf D t = treeR D t ⟨0, 0, 0, 0, 0⟩
  | 0 => rfl
  | t + 1 => by rw [rowsOf, rows_tree D t, grow_tree]
end Mine
end

section
open PySem PySem.W PyProof.Rows
namespace Mine
noncomputable abbrev posOf (S : List Int) : Nat → Bool := fun m => decide (S.getD m 0 > 0)
section
variable {D : List Deed} (hD : ∀ d ∈ D, DeedOk d) {d0 d1 d2 d3 : Deed} (e : D = [d0, d1, d2, d3])
include hD e
theorem tree_inv : ∀ (t n : Nat) (r : Row), n + 2 * t ≤ 40 → RInv (sumsOf (D.map (worthOf 2))) (sumsOf (D.map (worthOf 3))) n r →
    (∀ q ∈ treeR D t r, RInv (sumsOf (D.map (worthOf 2))) (sumsOf (D.map (worthOf 3))) (n + 2 * t) q) ∧
      (treeR D t r).map Row.first = endL (posOf (sumsOf (D.map (worthOf 2)))) t r.done r.first ∧ (treeR D t r).map Row.both = endL (posOf (sumsOf (D.map (worthOf 3)))) t r.done r.both
  | 0, n, r, _, I => ⟨fun q hq => by rw [List.mem_singleton.mp hq]; exact I, rfl, rfl⟩
  | t + 1, n, r, hn, I => by
    have st := fun k hk hb => rinv_step hD e (n := n) (by omega) I (k := k) hk hb
    refine ⟨fun q hq => ?_, ?_, ?_⟩
    · obtain ⟨l, hl, hq⟩ := List.mem_flatten.mp hq
      obtain ⟨k, hk, rfl⟩ := List.mem_map.mp hl
      obtain ⟨h1, h2⟩ := List.mem_filter.mp hk
      have := (tree_inv t (n + 2) _ (by omega) (st k (List.mem_range.mp h1) (by simpa using h2)).1).1 q hq
      rwa [show n + 2 + 2 * t = n + 2 * (t + 1) by omega] at this
    · rw [treeR, List.map_flatten, List.map_map, pick4]
      have one : ∀ k, k < 4 → (bif r.done.testBit k then [] else ((List.map Row.first) ∘ fun k => treeR D t (stepRow (D.getD k (0, 0, 0)) k r)) k) = (bif r.done.testBit k then [] else endL (posOf (sumsOf (D.map (worthOf 2)))) t (r.done + 2 ^ k) (bif posOf (sumsOf (D.map (worthOf 2))) (r.first + 2 ^ k) then r.first + 2 ^ k else 0)) := fun k hk => by
        cases hb : r.done.testBit k
        · have s := st k hk hb
          have := (tree_inv t (n + 2) _ (by omega) s.1).2.1
          rw [s.2.1] at this
          exact this
        · rfl
      rw [one 0 (by decide), one 1 (by decide), one 2 (by decide), one 3 (by decide)]
      rfl
    · rw [treeR, List.map_flatten, List.map_map, pick4]
      have one : ∀ k, k < 4 → (bif r.done.testBit k then [] else ((List.map Row.both) ∘ fun k => treeR D t (stepRow (D.getD k (0, 0, 0)) k r)) k) = (bif r.done.testBit k then [] else endL (posOf (sumsOf (D.map (worthOf 3)))) t (r.done + 2 ^ k) (bif posOf (sumsOf (D.map (worthOf 3))) (r.both + 2 ^ k) then r.both + 2 ^ k else 0)) := fun k hk => by
        cases hb : r.done.testBit k
        · have s := st k hk hb
          have := (tree_inv t (n + 2) _ (by omega) s.1).2.2
          rw [s.2.2] at this
          exact this
        · rfl
      rw [one 0 (by decide), one 1 (by decide), one 2 (by decide), one 3 (by decide)]
      rfl
theorem rinv0 : RInv (sumsOf (D.map (worthOf 2))) (sumsOf (D.map (worthOf 3))) 0 ⟨0, 0, 0, 0, 0⟩ := by
  have z2 : (sumsOf (D.map (worthOf 2))).getD 0 0 = 0 := by rw [e]; simp only [List.map_cons, List.map_nil]; rw [sums4]; rfl
  have z3 : (sumsOf (D.map (worthOf 3))).getD 0 0 = 0 := by rw [e]; simp only [List.map_cons, List.map_nil]; rw [sums4]; rfl
  exact ⟨by decide, rfl, rfl, z2.symm, z3.symm, Nat.le_refl _, Nat.le_refl _⟩
theorem rows_inv : (∀ q ∈ rowsOf D 4, RInv (sumsOf (D.map (worthOf 2))) (sumsOf (D.map (worthOf 3))) 8 q) ∧
      (rowsOf D 4).map Row.first = endL (posOf (sumsOf (D.map (worthOf 2)))) 4 0 0 ∧ (rowsOf D 4).map Row.both = endL (posOf (sumsOf (D.map (worthOf 3)))) 4 0 0 := by
  have := tree_inv hD e 4 0 _ (by decide) (rinv0 hD e)
  rw [← rows_tree] at this
  exact this
end
theorem sub_lt {a b : Nat} (h : a &&& b = a) (hb : b < 16) : a < 16 := by
  have := Nat.and_le_right (n := a) (m := b)
  rw [h] at this; omega
theorem side_of {a b c d : Int} {L : List Nat} (hL : L = endL (posOf (sumsOf [a, b, c, d])) 4 0 0) (hlt : ∀ x ∈ L, x < 16) (hlen : L.length < 32) :
    (∀ k < 16, ((topsOf (sumsOf [a, b, c, d]) (sizesOf [a, b, c, d]) 4).1.getD k 0).natAbs < 1000) ∧ ∀ m < 16, ((setsOf [a, b, c, d]).getD m (0, 0)) = ((sumsOf [a, b, c, d]).getD m 0, (L.count m : Int)) := by
  have ok := flags_of a b c d
  have hz : sizesOf [a, b, c, d] = sizes16 := sizes4 rfl
  have hfun : (fun m => tb (codeOf (posL (sumsOf [a, b, c, d]))) m) = posOf (sumsOf [a, b, c, d]) := funext fun m => flags_at _ m
  have tc := tops_cast (S := sumsOf [a, b, c, d]) (g := posOf (sumsOf [a, b, c, d])) (fun _ _ => rfl) 4 (Nat.le_refl _)
  have tl := topsOf_len (sumsOf [a, b, c, d]) sizes16 4
  have hs : ∀ m < 16, (setsOf [a, b, c, d]).getD m (0, 0) = ((sumsOf [a, b, c, d]).getD m 0, (topsOf (sumsOf [a, b, c, d]) sizes16 4).1.getD m 0 * (topsOf (sumsOf [a, b, c, d]) sizes16 4).2.getD (15 - m) 0) := fun m hm => by
    unfold setsOf
    rw [List.getD_eq_getElem?_getD, List.getElem?_map, List.getElem?_range hm, hz]; rfl
  rw [hz]
  generalize sumsOf [a, b, c, d] = S at *
  rw [tc] at hs tl ⊢
  rw [← hfun] at hs tl hL ⊢
  generalize hUD : topsG (fun m => tb (codeOf (posL S)) m) 4 = UD at *
  obtain ⟨U, Dn⟩ := UD
  dsimp only at hs tl ⊢
  rw [List.length_map, List.length_map] at tl
  subst hL
  obtain ⟨f1, f2⟩ := flags_count ok hUD tl.1 tl.2 hlt hlen
  refine ⟨fun k hk => ?_, fun m hm => ?_⟩
  · rw [castL_getD]
    have := f2 (U.getD k 0) (getD_mem' (by omega))
    omega
  · rw [hs m hm, castL_getD, castL_getD, f1 m hm]
    push_cast
    rfl
section
variable {D : List Deed} (hD : ∀ d ∈ D, DeedOk d) (h4 : D.length = 4)
include hD h4
theorem four : ∃ d0 d1 d2 d3, D = [d0, d1, d2, d3] := by
  match D, h4 with
  | [a, b, c, d], _ => exact ⟨a, b, c, d, rfl⟩
theorem came_two : cameOf 2 (rowsOf D 4) = (rowsOf D 4).map Row.first := rfl
theorem came_three : cameOf 3 (rowsOf D 4) = (rowsOf D 4).map Row.both := rfl
theorem side_two : SideOk 2 D ∧ ∀ m < 16, ((tableOf ((2 : Nat) : Int) D).getD m (0, 0)).1 = (sumsOf (D.map (worthOf 2))).getD m 0 := by
  obtain ⟨d0, d1, d2, d3, e⟩ := four hD h4
  obtain ⟨r1, r2, r3⟩ := rows_inv hD e
  have hlt : ∀ x ∈ (rowsOf D 4).map Row.first, x < 16 := fun x hx => by
    obtain ⟨q, hq, rfl⟩ := List.mem_map.mp hx
    exact sub_lt (r1 q hq).f (r1 q hq).dn
  have hlen : ((rowsOf D 4).map Row.first).length < 32 := by rw [List.length_map, rows_len]; decide
  have ew : D.map (worthOf 2) = [worthOf 2 d0, worthOf 2 d1, worthOf 2 d2, worthOf 2 d3] := by rw [e]; rfl
  rw [ew] at r2
  obtain ⟨u1, u2⟩ := side_of r2 hlt hlen
  rw [← ew] at u1 u2
  refine ⟨⟨u1, fun m hm => ?_⟩, fun m hm => congrArg Prod.fst (u2 m hm)⟩
  have := congrArg Prod.snd (u2 m hm)
  exact this
theorem side_three : SideOk 3 D ∧ ∀ m < 16, ((tableOf ((3 : Nat) : Int) D).getD m (0, 0)).1 = (sumsOf (D.map (worthOf 3))).getD m 0 := by
  obtain ⟨d0, d1, d2, d3, e⟩ := four hD h4
  obtain ⟨r1, r2, r3⟩ := rows_inv hD e
  have hlt : ∀ x ∈ (rowsOf D 4).map Row.both, x < 16 := fun x hx => by
    obtain ⟨q, hq, rfl⟩ := List.mem_map.mp hx
    exact sub_lt (r1 q hq).b (r1 q hq).dn
  have hlen : ((rowsOf D 4).map Row.both).length < 32 := by rw [List.length_map, rows_len]; decide
  have ew : D.map (worthOf 3) = [worthOf 3 d0, worthOf 3 d1, worthOf 3 d2, worthOf 3 d3] := by rw [e]; rfl
  rw [ew] at r3
  obtain ⟨u1, u2⟩ := side_of r3 hlt hlen
  rw [← ew] at u1 u2
  refine ⟨⟨u1, fun m hm => ?_⟩, fun m hm => congrArg Prod.fst (u2 m hm)⟩
  have := congrArg Prod.snd (u2 m hm)
  exact this
end
end Mine
end

section
open PySem PySem.W PyProof.Rows
namespace Mine
noncomputable def wsL (once L R : Nat) : Ws := wsOf ((List.replicate once (List.replicate L 32 ++ 9 :: List.replicate R 32)).flatten)
theorem wsQ_pad (once L R : Nat) : wsQ once (pad L R) = wsL once L R := by
  unfold wsQ wsL
  rw [repS_list]; rfl
noncomputable def valOf (once L R : Nat) : Nat := if once = 1 then L else L + R
noncomputable def levW (once L R size : Nat) : Int := (R : Int) + (size : Int) * (((L : Int).fdiv size + 1) + (if once = 1 then 0 else ((L + R : Nat) : Int).fdiv size + 1))
noncomputable def okW (once L R : Nat) : Bool :=
  let q := wsL once L R
  Nat.beq q.n (once * (L + R + 1)) && (decide (q.cnt.length ≤ 1) == decide (valOf once L R = 0)) && (List.range 13).all fun s => decide (levelOf q (s + 1) = levW once L R (s + 1))
theorem okW_1 : ∀ L : Nat, L < 9 → ∀ R : Nat, R < 5 → okW 1 L R = true := by decide +kernel
theorem okW_2 : ∀ L : Nat, L < 9 → ∀ R : Nat, R < 5 → okW 2 L R = true := by decide +kernel
end Mine
end

section
open PySem PySem.W PyProof.Rows
namespace Mine
theorem okW_all {once L R : Nat} (ho : once = 1 ∨ once = 2) (hL : L < 9) (hR : R < 5) : okW once L R = true := by
  rcases ho with rfl | rfl
  · exact okW_1 L hL R hR
  · exact okW_2 L hL R hR
theorem wsL_n {once L R : Nat} (ho : once = 1 ∨ once = 2) (hL : L < 9) (hR : R < 5) : (wsL once L R).n = once * (L + R + 1) := by
  have := okW_all ho hL hR
  unfold okW at this
  simp only [Bool.and_eq_true] at this
  exact Nat.eq_of_beq_eq_true this.1.1
theorem wsL_simple {once L R : Nat} (ho : once = 1 ∨ once = 2) (hL : L < 9) (hR : R < 5) : decide ((wsL once L R).cnt.length ≤ 1) = decide (valOf once L R = 0) := by
  have := okW_all ho hL hR
  unfold okW at this
  simp only [Bool.and_eq_true, beq_iff_eq] at this
  exact this.1.2
theorem wsL_level {once L R : Nat} (ho : once = 1 ∨ once = 2) (hL : L < 9) (hR : R < 5) {size : Nat} (h0 : 0 < size) (h1 : size ≤ 13) : levelOf (wsL once L R) size = levW once L R size := by
  have := okW_all ho hL hR
  unfold okW at this
  simp only [Bool.and_eq_true, List.all_eq_true] at this
  have h2 := this.2 (size - 1) (List.mem_range.mpr (by omega))
  rw [decide_eq_true_iff, show size - 1 + 1 = size by omega] at h2
  exact h2

theorem sum_filter {α : Type} (c : α → Bool) (f : α → Int) : ∀ l : List α, ((l.filter c).map f).sum = (l.map fun x => if c x = true then f x else 0).sum
  | [] => rfl
  | a :: l => by
    have ih := sum_filter c f l
    rw [List.filter_cons, List.map_cons, List.sum_cons, ← ih]
    by_cases h : c a = true
    · rw [if_pos h, if_pos h, List.map_cons, List.sum_cons]
    · rw [if_neg h, if_neg h]; omega
theorem sum_uniq (G : Str → Int) {us : List Str} (hn : us.Nodup) : ∀ ls : List Str, (∀ y ∈ ls, y ∈ us) → (us.map fun y => (ls.count y : Int) * G y).sum = (ls.map G).sum
  | [], _ => by
    have : (us.map fun y => (([] : List Str).count y : Int) * G y) = us.map fun _ => (0 : Int) := List.map_congr_left fun m _ => by simp
    rw [this, sum_zero]; rfl
  | x :: l, h => by
    have ih := sum_uniq G hn l fun y hy => h y (.tail _ hy)
    have e : (us.map fun m => ((x :: l).count m : Int) * G m) = us.map fun m => (l.count m : Int) * G m + (if x = m then G m else 0) := List.map_congr_left fun m _ => by
      rw [List.count_cons]
      by_cases hm : x = m
      · subst hm; simp only [beq_self_eq_true, if_true]; push_cast; rw [Int.add_mul]; omega
      · rw [if_neg hm, beq_eq_false_iff_ne.mpr hm]; simp
    have pick : ∀ (us : List Str), us.Nodup → x ∈ us → (us.map fun m => if x = m then G m else 0).sum = G x := by
      intro us
      induction us with
      | nil => intro _ h; cases h
      | cons u us ihu =>
        intro hn hx
        rw [List.map_cons, List.sum_cons]
        obtain ⟨n1, n2⟩ := List.nodup_cons.mp hn
        rcases List.mem_cons.mp hx with rfl | hx
        · rw [if_pos rfl]
          have : (us.map fun m => if x = m then G m else 0) = us.map fun _ => (0 : Int) := List.map_congr_left fun m hm => by
            exact if_neg (fun q : x = m => n1 (q ▸ hm))
          rw [this, sum_zero]; omega
        · rw [if_neg (fun q : x = u => n1 (q ▸ hx)), ihu n2 hx]; omega
    rw [e, sum_add, ih, pick us hn (h x (.head _)), List.map_cons, List.sum_cons]
    omega
theorem count_flat (y : Int) {α : Type} (c : α → Nat) (g : α → Int) : ∀ l : List α, ((((l.map fun x => List.replicate (c x) (g x)).flatten).count y : Nat) : Int) = (l.map fun x => (c x : Int) * (if g x = y then 1 else 0)).sum
  | [] => rfl
  | a :: l => by
    have ih := count_flat y c g l
    rw [List.map_cons, List.flatten_cons, List.count_append, List.map_cons, List.sum_cons, ← ih, List.count_replicate]
    by_cases h : g a = y
    · rw [if_pos h, if_pos (beq_iff_eq.mpr h)]; push_cast; omega
    · rw [if_neg h, if_neg (fun q => h (beq_iff_eq.mp q))]; push_cast; omega
theorem count_map (y : Int) {α : Type} (g : α → Int) : ∀ l : List α, (((l.map g).count y : Nat) : Int) = (l.map fun x => if g x = y then (1 : Int) else 0).sum
  | [] => rfl
  | a :: l => by
    have ih := count_map y g l
    rw [List.map_cons, List.map_cons, List.sum_cons, ← ih, List.count_cons]
    by_cases h : g a = y
    · rw [if_pos h, if_pos (beq_iff_eq.mpr h)]; push_cast; omega
    · rw [if_neg h, if_neg (fun q => h (beq_iff_eq.mp q))]; push_cast; omega
theorem perm_of {a b : List Int} (h : ∀ y : Int, ((a.count y : Nat) : Int) = ((b.count y : Nat) : Int)) : a.Perm b := List.perm_iff_count.mpr fun y => Int.ofNat.inj (h y)
theorem list_max : ∀ l : List Int, l ≠ [] → ∃ M ∈ l, ∀ a ∈ l, a ≤ M
  | [], h => absurd rfl h
  | [a], _ => ⟨a, .head _, fun b hb => by rw [List.mem_singleton.mp hb]; exact Int.le_refl _⟩
  | a :: b :: l, _ => by
    obtain ⟨M, h1, h2⟩ := list_max (b :: l) (fun h => nomatch h)
    by_cases h : a ≤ M
    · exact ⟨M, .tail _ h1, fun x hx => (List.mem_cons.mp hx).elim (fun q => q ▸ h) (h2 x)⟩
    · exact ⟨a, .head _, fun x hx => (List.mem_cons.mp hx).elim (fun q => q ▸ Int.le_refl _) fun q => Int.le_trans (h2 x q) (by omega)⟩

structure Marked (T : List (Int × Int)) (rs : List Row) (mark : Row → Nat) (val : Row → Int) : Prop where
  lt : ∀ r ∈ rs, mark r < 16
  tab : ∃ S : Nat → Int, (∀ r ∈ rs, val r = S (mark r)) ∧ T = ((List.range 16).map fun m => (S m, (((rs.map mark).count m : Nat) : Int))).filter fun p => decide (p.2 > 0)
section
variable {T : List (Int × Int)} {rs : List Row} {mark : Row → Nat} {val : Row → Int} (h : Marked T rs mark val)
include h
theorem Marked.sum (G : Int → Int) : (T.map fun p => p.2 * G p.1).sum = (rs.map fun r => G (val r)).sum := by
  obtain ⟨S, h1, h2⟩ := h.tab
  rw [h2, sum_filter, List.map_map]
  have e : ((List.range 16).map ((fun p : Int × Int => if decide (p.2 > 0) = true then p.2 * G p.1 else 0) ∘ fun m => (S m, (((rs.map mark).count m : Nat) : Int)))) = (List.range 16).map fun m => ((rs.map mark).count m : Int) * G (S m) := List.map_congr_left fun m _ => by
    simp only [Function.comp]
    by_cases hc : (((rs.map mark).count m : Nat) : Int) > 0
    · rw [if_pos (decide_eq_true hc)]
    · rw [if_neg (by rw [decide_eq_true_iff]; exact hc)]
      have : (((rs.map mark).count m : Nat) : Int) = 0 := by omega
      rw [this, Int.zero_mul]
  rw [e, sum_count (fun m => G (S m)) 16 _ (fun x hx => by obtain ⟨r, hr, rfl⟩ := List.mem_map.mp hx; exact h.lt r hr), List.map_map]
  congr 1
  exact List.map_congr_left fun r hr => by simp only [Function.comp]; rw [h1 r hr]
theorem Marked.mem {p : Int × Int} (hp : p ∈ T) : 0 < p.2 ∧ ∃ r ∈ rs, p.1 = val r := by
  obtain ⟨S, h1, h2⟩ := h.tab
  rw [h2] at hp
  obtain ⟨hp1, hp2⟩ := List.mem_filter.mp hp
  obtain ⟨m, hm, rfl⟩ := List.mem_map.mp hp1
  have hp2 := of_decide_eq_true hp2
  have hc : 0 < (rs.map mark).count m := by
    have : (((rs.map mark).count m : Nat) : Int) > 0 := hp2
    omega
  obtain ⟨r, hr, hrm⟩ := List.mem_map.mp (List.count_pos_iff.mp hc)
  exact ⟨hp2, r, hr, by rw [h1 r hr, hrm]⟩
theorem Marked.has {r : Row} (hr : r ∈ rs) : ∃ p ∈ T, p.1 = val r := by
  obtain ⟨S, h1, h2⟩ := h.tab
  refine ⟨(S (mark r), (((rs.map mark).count (mark r) : Nat) : Int)), ?_, (h1 r hr).symm⟩
  rw [h2]
  refine List.mem_filter.mpr ⟨List.mem_map.mpr ⟨mark r, List.mem_range.mpr (h.lt r hr), rfl⟩, decide_eq_true ?_⟩
  have : 0 < (rs.map mark).count (mark r) := List.count_pos_iff.mpr (List.mem_map.mpr ⟨r, hr, rfl⟩)
  show (((rs.map mark).count (mark r) : Nat) : Int) > 0
  omega
theorem Marked.runs (F : Int → Int) : ((T.map fun p => List.replicate p.2.toNat (F p.1)).flatten).Perm (rs.map fun r => F (val r)) := by
  refine perm_of fun y => ?_
  rw [count_flat, count_map, ← h.sum fun v => if F v = y then 1 else 0]
  congr 1
  refine List.map_congr_left fun p hp => ?_
  have := (h.mem hp).1
  rw [Int.toNat_of_nonneg (by omega)]
theorem Marked.max (hne : rs ≠ []) : ∃ M, M ∈ T.map (·.1) ∧ (∀ a ∈ T.map (·.1), a ≤ M) ∧ ∃ r ∈ rs, M = val r := by
  obtain ⟨r, hr⟩ := List.exists_mem_of_ne_nil rs hne
  obtain ⟨p, hp, _⟩ := h.has hr
  obtain ⟨M, h1, h2⟩ := list_max (T.map (·.1)) (List.ne_nil_of_mem (List.mem_map.mpr ⟨p, hp, rfl⟩))
  obtain ⟨q, hq, rfl⟩ := List.mem_map.mp h1
  obtain ⟨_, r', hr', e⟩ := h.mem hq
  exact ⟨_, h1, h2, r', hr', e⟩
end
end Mine
end

section
open PySem PySem.W PyProof.Rows
namespace Mine
theorem flat_sum {α : Type} : ∀ l : List (List Int), l.flatten.sum = (l.map List.sum).sum
  | [] => rfl
  | a :: l => by rw [List.flatten_cons, List.sum_append, List.map_cons, List.sum_cons, flat_sum (α := α) l]
theorem sum_lin (f : Row → Int) (s : Int) : ∀ rs : List Row, (rs.map fun r => (r.R : Int) + s * f r).sum = (rs.map fun r => ((r.L : Int) + r.R)).sum - (rs.map fun r => (r.L : Int)).sum + s * (rs.map f).sum
  | [] => by simp
  | r :: rs => by
    have ih := sum_lin f s rs
    simp only [List.map_cons, List.sum_cons]
    rw [ih, Int.mul_add]
    omega
section
variable {rs : List Row} (hsm : ∀ r ∈ rs, r.L < 9 ∧ r.R < 5) {once : Nat} (ho : once = 1 ∨ once = 2)
include hsm ho
theorem lines_map (G : Str → Int) (F : Row → Int) (e : ∀ r ∈ rs, G (pad r.L r.R) = F r) : ((linesOf rs).map G) = rs.map F := by
  unfold linesOf
  rw [List.map_map]
  exact List.map_congr_left fun r hr => e r hr
theorem runA_perm : (runA once (linesOf rs)).Perm (rs.map fun r => (once : Int) * ((r.L + r.R : Int) + 1)) := by
  refine perm_of fun y => ?_
  unfold runA
  rw [count_flat, count_map, sum_uniq (fun z => if ((wsQ once z).n : Int) = y then 1 else 0) (upS_nodup _) _ fun z hz => upS_mem.mpr hz]
  congr 1
  refine lines_map hsm ho _ _ fun r hr => ?_
  obtain ⟨h1, h2⟩ := hsm r hr
  rw [wsQ_pad, wsL_n ho h1 h2]
  push_cast
  rfl
theorem simA_sum : (simA once (linesOf rs)).sum = (rs.map fun r => if (valOf once r.L r.R : Int) = 0 then (1 : Int) else 0).sum := by
  unfold simA
  rw [sum_filter]
  have e : ((upS (linesOf rs)).map fun y => if decide ((wsQ once y).cnt.length ≤ 1) = true then ((linesOf rs).count y : Int) else 0) = (upS (linesOf rs)).map fun y => ((linesOf rs).count y : Int) * (if decide ((wsQ once y).cnt.length ≤ 1) = true then 1 else 0) := List.map_congr_left fun y _ => by
    split
    · rw [Int.mul_one]
    · rw [Int.mul_zero]
  rw [e, sum_uniq (fun y => if decide ((wsQ once y).cnt.length ≤ 1) = true then 1 else 0) (upS_nodup _) _ fun z hz => upS_mem.mpr hz]
  congr 1
  refine lines_map hsm ho _ _ fun r hr => ?_
  obtain ⟨h1, h2⟩ := hsm r hr
  rw [wsQ_pad, wsL_simple ho h1 h2]
  by_cases h : valOf once r.L r.R = 0
  · rw [if_pos (decide_eq_true h), if_pos (by omega)]
  · rw [if_neg (by rw [decide_eq_true_iff]; exact h), if_neg (by omega)]
theorem colA_sum {size : Nat} (h0 : 0 < size) (h1 : size ≤ 13) : (colA once (linesOf rs) size).sum = (rs.map fun r => levW once r.L r.R size).sum := by
  unfold colA
  rw [sum_uniq (fun y => levelOf (wsQ once y) size) (upS_nodup _) _ fun z hz => upS_mem.mpr hz]
  congr 1
  refine lines_map hsm ho _ _ fun r hr => ?_
  obtain ⟨h2, h3⟩ := hsm r hr
  rw [wsQ_pad, wsL_level ho h2 h3 h0 h1]
end
theorem once_ok {rs : List Row} (hlen : rs.length = 24) (hsm : ∀ r ∈ rs, r.L < 9 ∧ r.R < 5) {once : Nat} (ho : once = 1 ∨ once = 2) {T2 T3 : List (Int × Int)} (m2 : Marked T2 rs Row.first (fun r => (r.L : Int))) (m3 : Marked T3 rs Row.both (fun r => ((r.L : Int) + r.R))) :
    OnceOk once (linesOf rs) T2 T3 := by
  have pa := runA_perm hsm ho
  have pb : (runB once T3).Perm (rs.map fun r => (once : Int) * ((r.L + r.R : Int) + 1)) := m3.runs fun v => (once : Int) * (v + 1)
  have hne : rs ≠ [] := List.ne_nil_of_length_pos (by omega)
  have lA : (runA once (linesOf rs)).length = 24 := by rw [pa.length_eq, List.length_map, hlen]
  have lB : (runB once T3).length = 24 := by rw [pb.length_eq, List.length_map, hlen]
  obtain ⟨mark, ml⟩ : ∃ mark, Marked (lastT once T2 T3) rs mark (fun r => (valOf once r.L r.R : Int)) := by
    rcases ho with rfl | rfl
    · exact ⟨_, m2⟩
    · refine ⟨Row.both, ?_⟩
      have : (fun r : Row => ((valOf 2 r.L r.R : Nat) : Int)) = fun r => ((r.L : Int) + r.R) := funext fun r => by
        show (((r.L + r.R : Nat)) : Int) = _
        push_cast; rfl
      rw [this]
      exact m3
  refine ⟨srt_eq (pa.trans pb.symm), by omega, by omega, ?_, ?_⟩
  · rw [simA_sum hsm ho]
    unfold simB
    rw [sum_filter]
    have e : ((lastT once T2 T3).map fun p => if (p.1 == 0) = true then p.2 else 0) = (lastT once T2 T3).map fun p => p.2 * (if p.1 = 0 then 1 else 0) := List.map_congr_left fun p _ => by
      by_cases h : p.1 = 0
      · rw [if_pos (beq_iff_eq.mpr h), if_pos h, Int.mul_one]
      · rw [if_neg (fun q => h (beq_iff_eq.mp q)), if_neg h, Int.mul_zero]
    rw [e, ml.sum fun v => if v = 0 then 1 else 0]
  · obtain ⟨M, h1, h2, r, hr, e⟩ := ml.max hne
    obtain ⟨b1, b2⟩ := hsm r hr
    have b3 : valOf once r.L r.R ≤ 12 := by unfold valOf; split <;> omega
    have e : M = ((valOf once r.L r.R : Nat) : Int) := e
    refine ⟨M, h1, h2, by omega, by omega, fun size s0 s1 => ?_⟩
    rw [colA_sum hsm ho s0 (by omega)]
    have e2 : massOf T2 = (rs.map fun r => (r.L : Int)).sum := m2.sum fun v => v
    have e3 : massOf T3 = (rs.map fun r => ((r.L : Int) + r.R)).sum := m3.sum fun v => v
    have f2 := m2.sum fun v => v.fdiv size + 1
    have f3 := m3.sum fun v => v.fdiv size + 1
    have ec : (colB once T2 T3 size).sum = (rs.map fun r => (((r.L : Int).fdiv size + 1) + (if once = 1 then 0 else ((r.L + r.R : Nat) : Int).fdiv size + 1))).sum := by
      unfold colB partsL
      rcases ho with rfl | rfl
      · rw [if_pos rfl]
        simp only [List.map_cons, List.map_nil, List.flatten_cons, List.flatten_nil, List.append_nil]
        rw [f2]
        congr 1
        exact List.map_congr_left fun r _ => by simp
      · rw [if_neg (by decide)]
        simp only [List.map_cons, List.map_nil, List.flatten_cons, List.flatten_nil, List.append_nil]
        rw [List.sum_append, f2, f3, ← sum_add]
        congr 1
    rw [e2, e3, ec]
    exact sum_lin (fun r => (((r.L : Int).fdiv size + 1) + (if once = 1 then 0 else ((r.L + r.R : Nat) : Int).fdiv size + 1))) size rs

theorem marked_of {Tb : List (Int × Int)} {S : List Int} {rs : List Row} {mark : Row → Nat} {val : Row → Int} (hl : Tb.length = 16) (h0 : ∀ r ∈ rs, mark r < 16) (hv : ∀ r ∈ rs, val r = S.getD (mark r) 0) (a1 : ∀ m < 16, (Tb.getD m (0, 0)).1 = S.getD m 0) (a2 : ∀ m < 16, (Tb.getD m (0, 0)).2 = (((rs.map mark).count m : Nat) : Int)) :
    Marked (Tb.filter fun p => decide (p.2 > 0)) rs mark val := by
  refine ⟨h0, fun m => S.getD m 0, hv, ?_⟩
  congr 1
  refine List.ext_getElem (by rw [hl, List.length_map, List.length_range]) fun m h1 h2 => ?_
  have e1 : Tb.getD m (0, 0) = Tb[m] := by rw [List.getD_eq_getElem?_getD, List.getElem?_eq_getElem h1]; rfl
  rw [List.getElem_map, List.getElem_range, ← e1]
  exact Prod.ext (a1 m (by omega)) (a2 m (by omega))
section
variable {D : List Deed} (hD : ∀ d ∈ D, DeedOk d) (h4 : D.length = 4)
include hD h4
theorem tab_two : Marked (partOf 2 D) (rowsOf D 4) Row.first (fun r => (r.L : Int)) := by
  obtain ⟨d0, d1, d2, d3, e⟩ := four hD h4
  obtain ⟨r1, _, _⟩ := rows_inv hD e
  obtain ⟨s1, s2⟩ := side_two hD h4
  have s3 := s1.cnt
  rw [came_two hD h4] at s3
  exact marked_of (table_len _ D) (fun r hr => sub_lt (r1 r hr).f (r1 r hr).dn) (fun r hr => (r1 r hr).L) s2 s3
theorem tab_three : Marked (partOf 3 D) (rowsOf D 4) Row.both (fun r => ((r.L : Int) + r.R)) := by
  obtain ⟨d0, d1, d2, d3, e⟩ := four hD h4
  obtain ⟨r1, _, _⟩ := rows_inv hD e
  obtain ⟨s1, s2⟩ := side_three hD h4
  have s3 := s1.cnt
  rw [came_three hD h4] at s3
  exact marked_of (table_len _ D) (fun r hr => sub_lt (r1 r hr).b (r1 r hr).dn) (fun r hr => (r1 r hr).T) s2 s3
theorem plain_law : SideOk 2 D ∧ SideOk 3 D ∧ ∀ once : Nat, (once = 1 ∨ once = 2) → OnceOk once (linesOf (rowsOf D 4)) (partOf 2 D) (partOf 3 D) :=
  ⟨(side_two hD h4).1, (side_three hD h4).1, fun once ho => once_ok (rows_len D) (fun r hr => by
    obtain ⟨a, b⟩ := row_small hD 4 r hr
    exact ⟨by omega, by omega⟩) ho (tab_two hD h4) (tab_three hD h4)⟩
end
end Mine
end

section
open PySem PySem.W PyProof.Rows
namespace Mine
theorem well_ints {Pm : Params} {h : Heap} {Q : Addr → Obj → Prop} : ∀ {xs : List Int} {vs : List Value}, WellAll Pm h vs (ofPys (xs.map PyData.int)) → RepL Q vs (xs.map PV.int)
  | [], _, .nil => .nil
  | x :: xs, _, .cons a r => by
    cases a with
    | int i t => exact .cons (.int _ _) (well_ints r)
theorem scL_kind : scL.kind = .function ∧ scL.isCoroutine = false ∧ scL.isGenerator = false ∧ scL.names.lookup ("script" : Str) = some .cell ∧ (∀ x ∈ scL.names, x.2 ≠ .free) := by decide +kernel

theorem law_run {K : Frag} (P : Part K) {p : Program} {loose : List Str} {mg mb : Str → Option Value} {prog : Program} {w : World} {A : Around} {s : Shared} (X : K.In s.heap) (T : TopRead p loose mg mb s.heap) (hA : AOk 26 A)
    {fa : Addr} {o : Obj} {fd : FuncData} (ho : s.heap.get? fa = some o) (hd : o.data = .func fd) (hcd : s.heap.CodeRec fd.code fd.qualname) (hbody : fd.body = .stmts (bodyOf (stAt 12))) (hsc : fd.scope = scL) (hgl : fd.globals = mainGlobals) (hbl : fd.builtins = builtinsNs) (hclo : fd.closure = [])
    (hbind : ∀ v, bindArgs fd ⟨[v], []⟩ = pure [(("script" : Str), v)]) {Pm : Params} {l : Addr} {xs : List Int} (hw : Well Pm s.heap (.ref l) (ofPy (.list (xs.map PyData.int)))) (h63 : xs.length ≤ 63)
    {R : Result → Shared → Prop} (hR : ∀ s', Kp s s' → R (.ok (.ret (.bool true))) s') : codeAny (model prog w) A (.call (.ref fa) ⟨[.ref l], []⟩) R s := by
  obtain ⟨z1, z2, z3, z4, z5⟩ := scL_kind
  have hD : ∀ d ∈ deedsOf xs, DeedOk d := fun d hd => by
    obtain ⟨h, _, rfl⟩ := List.mem_map.mp hd
    exact deedOf_ok h
  have h4 : (deedsOf xs).length = 4 := by unfold deedsOf heapsOf; rw [List.length_map, List.length_map, List.length_range]
  obtain ⟨k2, k3, k4⟩ := plain_law hD h4
  have B := @law_body prog w ⟨K, p, loose, mg, mb⟩ 25 (by decide) (law_fns P X T) (ws_fns P X T) (.ref 116) (own_val X T P.nsN) (.own P.dN.keep) (next_fn P X T) xs h63 k2 k3 (k4 1 (.inl rfl)) (k4 2 (.inr rfl))
  have hG : GB ⟨K, p, loose, mg, mb⟩ s.heap (fun _ => False) := ⟨s.heap, ⟨X, T⟩, fun b o e => ⟨e, fun h => h⟩⟩
  obtain ⟨vs, hl, hv⟩ : ∃ vs : List Value, s.heap.get? l = some (listOf vs.toArray 0) ∧ ∀ Q, RepL Q vs (xs.map PV.int) := by
    cases hw with
    | list h r => exact ⟨_, h, fun Q => well_ints r⟩
  have Rl : Rep (HW s.heap (fun _ => False)) (.ref l) (iL xs) := .list (n := 0) ⟨hl, fun h => h⟩ (hv _)
  generalize bodyOf (stAt 12) = body at *
  refine codeAny_call_cells (binds := [(("script" : Str), .ref l)]) (by have := hA.2.1; omega) ho hd T.nolimit hcd hbody (hbind _) hclo (fun x hx => ?_) (fun s₁ Y => ?_) (by rw [hsc]; exact z2) (by rw [hsc]; exact z3) (by rw [hsc]; exact z1)
  · rw [List.mem_singleton.mp hx]
    exact .inr ⟨by rw [hsc]; exact z4, cellsFrom_some _ _ _ (.inl (by rw [hsc]; exact z4))⟩
  · have F : FS ⟨K, p, loose, mg, mb⟩ scL (callEnvC fd s.heap.objs.size fa) _ (fun _ => False) (fun _ => 0) [im "script" (iL xs)] s₁.heap :=
      FS.enterC hG (fun a h => h.elim) Y rfl hsc z1 hgl hbl z5 (fun x e => by
        have := cellsFrom_some (x := x) fd.scope.names (s.heap.objs.size + 1) [] (.inl (by rw [hsc]; exact e))
        exact Option.isSome_iff_exists.mp this) fun x sl e => by
        rw [List.lookup_cons] at e
        cases hx : x == ("script" : Str) with
        | false => rw [hx] at e; cases e
        | true =>
          rw [hx] at e
          cases e
          have hx := beq_iff_eq.mp hx
          subst hx
          refine ⟨.ref l, _, rfl, .inr ⟨z4, ?_⟩, Rl⟩
          show PySem.bindC (callEnvC fd s.heap.objs.size fa).kindOf [(("script" : Str), .ref l)] (fun _ => none) ("script" : Str) = _
          have hk : (callEnvC fd s.heap.objs.size fa).kindOf ("script" : Str) = some .cell := by
            show fd.scope.names.lookup ("script" : Str) = _
            rw [hsc]; exact z4
          unfold PySem.bindC
          rw [hk]
          simp [PySem.bindC]
    have hL : (callEnvC fd s.heap.objs.size fa).locals = s.heap.objs.size := rfl
    refine B _ _ _ (fun _ => False) (fun _ => 0) _ _ _ ⟨hA.1, by have := hA.2.1; show A.depth + 1 + 25 < _; omega, by have := hA.2.2; show A.units + 3 + 3 * 25 + 8 < _; omega⟩ F fun W' ad' ρ' fl f' s' hK F' o' r => ?_
    subst hK
    obtain ⟨h₁, tk, rfl, hk₁⟩ := Y.done
    cases r with
    | ret r =>
      cases rep_bool r
      refine hR s' ⟨fun b ob e => o'.keep b ob (fun hw => ?_) (hk₁ b ob e), o'.gens, o'.os⟩
      have hlt := Heap.lt_size e
      rcases hw with (hw | hw) | ⟨y, hw⟩
      · exact hw
      · rw [hw, hL] at hlt; exact absurd hlt (Nat.lt_irrefl _)
      · have := Y.above y b (PySem.mem_of_lookup hw)
        rw [hL] at this; exact absurd (Nat.lt_trans hlt this) (Nat.lt_irrefl _)
end Mine
end

open PySem PySem.W PyProof.Rows
set_option maxRecDepth 100000
namespace Mine
noncomputable def partK : Params → Frag := fun P => [
  (2, ({ cls := Value.none, data := Data.dict #[] } : Obj)),
  (3, ({ cls := Value.type "dict", data := Data.dict #[{ hash := PyData.keyHash P (Str.ofString "__name__"), key := Value.str (Str.ofString "__name__") 165, val := Value.str (Str.ofString "law_wn0083_01") 347 }, { hash := PyData.keyHash P (Str.ofString "__doc__"), key := Value.str (Str.ofString "__doc__") 166, val := Value.none }, { hash := PyData.keyHash P (Str.ofString "__package__"), key := Value.str (Str.ofString "__package__") 167, val := Value.none }, { hash := PyData.keyHash P (Str.ofString "__loader__"), key := Value.str (Str.ofString "__loader__") 168, val := Value.builtin "__main__.__loader__#opaque" }, { hash := PyData.keyHash P (Str.ofString "__spec__"), key := Value.str (Str.ofString "__spec__") 169, val := Value.none }, { hash := PyData.keyHash P (Str.ofString "__annotations__"), key := Value.str (Str.ofString "__annotations__") 170, val := Value.ref 6 }, { hash := PyData.keyHash P (Str.ofString "__builtins__"), key := Value.str (Str.ofString "__builtins__") 171, val := Value.ref 4 }, { hash := PyData.keyHash P (Str.ofString "__file__"), key := Value.str (Str.ofString "__file__") 173, val := Value.str (Str.ofString "/claim/cut.py") 172 }, { hash := PyData.keyHash P (Str.ofString "__cached__"), key := Value.str (Str.ofString "__cached__") 174, val := Value.none }, { hash := PyData.keyHash P (Str.ofString "_wall"), key := Value.str (Str.ofString "_wall") 193, val := Value.ref 21 }, { hash := PyData.keyHash P (Str.ofString "_strip_padding"), key := Value.str (Str.ofString "_strip_padding") 205, val := Value.ref 28 }, { hash := PyData.keyHash P (Str.ofString "COMPILER_FLAG_NAMES"), key := Value.str (Str.ofString "COMPILER_FLAG_NAMES") 238, val := Value.ref 29 }, { hash := PyData.keyHash P (Str.ofString "pretty_flags"), key := Value.str (Str.ofString "pretty_flags") 248, val := Value.ref 36 }, { hash := PyData.keyHash P (Str.ofString "Whitespace"), key := Value.str (Str.ofString "Whitespace") 346, val := Value.ref 98 }, { hash := PyData.keyHash P (Str.ofString "_law_name"), key := Value.str (Str.ofString "_law_name") 355, val := Value.ref 109 }, { hash := PyData.keyHash P (Str.ofString "_law_next"), key := Value.str (Str.ofString "_law_next") 371, val := Value.ref 116 }, { hash := PyData.keyHash P (Str.ofString "_law_sets"), key := Value.str (Str.ofString "_law_sets") 377, val := Value.ref 121 }, { hash := PyData.keyHash P (Str.ofString "law"), key := Value.str (Str.ofString "law") 383, val := Value.ref 126 }] 18 } : Obj)),
  (27, ({ cls := Value.type "code", data := Data.fields #[Value.str (Str.ofString "_strip_padding") 196, Value.str (Str.ofString "_strip_padding") 197, Value.str (Str.ofString "/claim/cut.py") 198, Value.int 5 0, Value.int 2 0, Value.int 0 0, Value.int 0 0, Value.int 3 0, Value.ref 22, Value.bool true, Value.int 181 0, Value.ref 23, Value.none, Value.ref 24, Value.ref 25, Value.ref 26, Value.int 203 0, Value.int 5 0, Value.str (Str.ofString "/claim/cut.py") 204] } : Obj)),
  (28, ⟨.type "function", none, .func (fnOf "_strip_padding" "_strip_padding" (paramsOf (stAt 2)) (bodyOf (stAt 2)) (scopeOf (stAt 2)) .none .none .none (.str ⟨#[99, 112, 121, 51, 49, 51, 46, 108, 111, 99, 97, 108, 101]⟩ 194) none (.ref 27) .none), #[]⟩),
  (29, ({ cls := Value.type "dict", data := Data.dict #[{ hash := 1, key := Value.int 1 208, val := Value.str (Str.ofString "OPTIMIZED") 209 }, { hash := 2, key := Value.int 2 210, val := Value.str (Str.ofString "NEWLOCALS") 211 }, { hash := 4, key := Value.int 4 212, val := Value.str (Str.ofString "VARARGS") 213 }, { hash := 8, key := Value.int 8 214, val := Value.str (Str.ofString "VARKEYWORDS") 215 }, { hash := 16, key := Value.int 16 216, val := Value.str (Str.ofString "NESTED") 217 }, { hash := 32, key := Value.int 32 218, val := Value.str (Str.ofString "GENERATOR") 219 }, { hash := 64, key := Value.int 64 220, val := Value.str (Str.ofString "NOFREE") 221 }, { hash := 128, key := Value.int 128 222, val := Value.str (Str.ofString "COROUTINE") 223 }, { hash := 256, key := Value.int 256 224, val := Value.str (Str.ofString "ITERABLE_COROUTINE") 225 }, { hash := 512, key := Value.int 512 226, val := Value.str (Str.ofString "ASYNC_GENERATOR") 227 }] 10 } : Obj)),
  (35, ({ cls := Value.type "code", data := Data.fields #[Value.str (Str.ofString "pretty_flags") 239, Value.str (Str.ofString "pretty_flags") 240, Value.str (Str.ofString "/claim/cut.py") 241, Value.int 17 0, Value.int 1 0, Value.int 0 0, Value.int 0 0, Value.int 3 0, Value.ref 30, Value.bool true, Value.int 181 0, Value.ref 31, Value.none, Value.ref 32, Value.ref 33, Value.ref 34, Value.int 246 0, Value.int 17 0, Value.str (Str.ofString "/claim/cut.py") 247] } : Obj)),
  (36, ⟨.type "function", none, .func (fnOf "pretty_flags" "pretty_flags" (paramsOf (stAt 5)) (bodyOf (stAt 5)) (scopeOf (stAt 5)) .none .none .none (.str ⟨#[99, 112, 121, 51, 49, 51, 46, 100, 105, 115]⟩ 206) none (.ref 35) .none), #[]⟩),
  (52, ({ cls := Value.type "code", data := Data.fields #[Value.str (Str.ofString "__init__") 268, Value.str (Str.ofString "Whitespace.__init__") 269, Value.str (Str.ofString "/claim/cut.py") 270, Value.int 33 0, Value.int 2 0, Value.int 0 0, Value.int 0 0, Value.int 3 0, Value.ref 47, Value.bool true, Value.int 181 0, Value.ref 48, Value.none, Value.ref 49, Value.ref 50, Value.ref 51, Value.int 280 0, Value.int 33 0, Value.str (Str.ofString "/claim/cut.py") 281] } : Obj)),
  (53, ⟨.type "function", none, .func (fnOf "__init__" "Whitespace.__init__" (paramsOf (fnAt 1)) (bodyOf (fnAt 1)) (scopeOf (fnAt 1)) .none .none .none (.str ⟨#[99, 112, 121, 51, 49, 51, 46, 116, 97, 98, 110, 97, 110, 110, 121]⟩ 249) none (.ref 52) .none), #[]⟩),
  (66, ({ cls := Value.type "code", data := Data.fields #[Value.str (Str.ofString "indent_level") 290, Value.str (Str.ofString "Whitespace.indent_level") 291, Value.str (Str.ofString "/claim/cut.py") 292, Value.int 59 0, Value.int 2 0, Value.int 0 0, Value.int 0 0, Value.int 3 0, Value.ref 61, Value.bool true, Value.int 181 0, Value.ref 62, Value.none, Value.ref 63, Value.ref 64, Value.ref 65, Value.int 299 0, Value.int 59 0, Value.str (Str.ofString "/claim/cut.py") 300] } : Obj)),
  (67, ⟨.type "function", none, .func (fnOf "indent_level" "Whitespace.indent_level" (paramsOf (fnAt 3)) (bodyOf (fnAt 3)) (scopeOf (fnAt 3)) .none .none .none (.str ⟨#[99, 112, 121, 51, 49, 51, 46, 116, 97, 98, 110, 97, 110, 110, 121]⟩ 249) none (.ref 66) .none), #[]⟩),
  (97, ({ cls := Value.type "dict", data := Data.dict #[{ hash := PyData.keyHash P (Str.ofString "__module__"), key := Value.str (Str.ofString "__module__") 258, val := Value.str (Str.ofString "cpy313.tabnanny") 249 }, { hash := PyData.keyHash P (Str.ofString "__firstlineno__"), key := Value.str (Str.ofString "__firstlineno__") 262, val := Value.int 30 261 }, { hash := PyData.keyHash P (Str.ofString "S"), key := Value.str (Str.ofString "S") 266, val := Value.str (Str.ofString " ") 264 }, { hash := PyData.keyHash P (Str.ofString "T"), key := Value.str (Str.ofString "T") 267, val := Value.str (Str.ofString "\t") 265 }, { hash := PyData.keyHash P (Str.ofString "__init__"), key := Value.str (Str.ofString "__init__") 282, val := Value.ref 53 }, { hash := PyData.keyHash P (Str.ofString "longest_run_of_spaces"), key := Value.str (Str.ofString "longest_run_of_spaces") 289, val := Value.ref 60 }, { hash := PyData.keyHash P (Str.ofString "indent_level"), key := Value.str (Str.ofString "indent_level") 301, val := Value.ref 67 }, { hash := PyData.keyHash P (Str.ofString "equal"), key := Value.str (Str.ofString "equal") 309, val := Value.ref 74 }, { hash := PyData.keyHash P (Str.ofString "not_equal_witness"), key := Value.str (Str.ofString "not_equal_witness") 317, val := Value.ref 81 }, { hash := PyData.keyHash P (Str.ofString "less"), key := Value.str (Str.ofString "less") 325, val := Value.ref 88 }, { hash := PyData.keyHash P (Str.ofString "not_less_witness"), key := Value.str (Str.ofString "not_less_witness") 333, val := Value.ref 95 }, { hash := PyData.keyHash P (Str.ofString "__static_attributes__"), key := Value.str (Str.ofString "__static_attributes__") 339, val := Value.ref 96 }, { hash := PyData.keyHash P (Str.ofString "__dict__"), key := Value.str (Str.ofString "__dict__") 341, val := Value.ref 99 }, { hash := PyData.keyHash P (Str.ofString "__weakref__"), key := Value.str (Str.ofString "__weakref__") 343, val := Value.ref 100 }, { hash := PyData.keyHash P (Str.ofString "__doc__"), key := Value.str (Str.ofString "__doc__") 344, val := Value.none }] 4 } : Obj)),
  (98, ({ cls := Value.type "type", data := Data.cls { name := Str.ofString "Whitespace", bases := [Value.type "object"], mro := [Value.ref 98, Value.type "object"], ns := 97, qualname := Str.ofString "Whitespace" }, slots := #[none, none, some (Value.str (Str.ofString "Whitespace") 251), some (Value.str (Str.ofString "Whitespace") 259), some (Value.builtin "object.__new__"), some (Value.bool true)] } : Obj)),
  (108, ({ cls := Value.type "code", data := Data.fields #[Value.str (Str.ofString "_law_name") 349, Value.str (Str.ofString "_law_name") 350, Value.str (Str.ofString "/claim/cut.py") 351, Value.int 78 0, Value.int 1 0, Value.int 0 0, Value.int 0 0, Value.int 3 0, Value.ref 103, Value.bool true, Value.int 181 0, Value.ref 104, Value.none, Value.ref 105, Value.ref 106, Value.ref 107, Value.int 353 0, Value.int 78 0, Value.str (Str.ofString "/claim/cut.py") 354] } : Obj)),
  (109, ⟨.type "function", none, .func (fnOf "_law_name" "_law_name" (paramsOf (stAt 9)) (bodyOf (stAt 9)) (scopeOf (stAt 9)) .none .none .none (.str ⟨#[108, 97, 119, 95, 119, 110, 48, 48, 56, 51, 95, 48, 49]⟩ 347) none (.ref 108) .none), #[]⟩),
  (115, ({ cls := Value.type "code", data := Data.fields #[Value.str (Str.ofString "_law_next") 356, Value.str (Str.ofString "_law_next") 357, Value.str (Str.ofString "/claim/cut.py") 358, Value.int 80 0, Value.int 3 0, Value.int 0 0, Value.int 0 0, Value.int 3 0, Value.ref 110, Value.bool true, Value.int 181 0, Value.ref 111, Value.none, Value.ref 112, Value.ref 113, Value.ref 114, Value.int 369 0, Value.int 80 0, Value.str (Str.ofString "/claim/cut.py") 370] } : Obj)),
  (116, ⟨.type "function", none, .func (fnOf "_law_next" "_law_next" (paramsOf (stAt 10)) (bodyOf (stAt 10)) (scopeOf (stAt 10)) .none .none .none (.str ⟨#[108, 97, 119, 95, 119, 110, 48, 48, 56, 51, 95, 48, 49]⟩ 347) none (.ref 115) .none), #[]⟩),
  (120, ({ cls := Value.type "code", data := Data.fields #[Value.str (Str.ofString "_law_sets") 372, Value.str (Str.ofString "_law_sets") 373, Value.str (Str.ofString "/claim/cut.py") 374, Value.int 87 0, Value.int 1 0, Value.int 0 0, Value.int 0 0, Value.int 3 0, Value.ref 117, Value.bool true, Value.int 181 0, Value.ref 118, Value.none, Value.none, Value.none, Value.ref 119, Value.int 375 0, Value.int 87 0, Value.str (Str.ofString "/claim/cut.py") 376] } : Obj)),
  (121, ⟨.type "function", none, .func (fnOf "_law_sets" "_law_sets" (paramsOf (stAt 11)) (bodyOf (stAt 11)) (scopeOf (stAt 11)) .none .none .none (.str ⟨#[108, 97, 119, 95, 119, 110, 48, 48, 56, 51, 95, 48, 49]⟩ 347) none (.ref 120) .none), #[]⟩)]
end Mine
set_option maxRecDepth 100000 in
set_option maxHeartbeats 8000000 in
theorem PySem.Challenge.cw_wn0083_01_holds : PySem.Challenge.rw_wn0083_01.Holds := by
  w_on; o_law; o_head (kHook Mine.partK [2, 3, 27, 28, 29, 35, 36, 52, 53, 66, 67, 97, 98, 108, 109, 115, 116, 120, 121] (fun _ => by kernel_rfl))
  case hw => w_witness2
  intro w s₀ s₁ mg mb G Y fa o pm cd doc dV kV ho hd hcd hD hmg hg args vals as hpre hlay hrd hwl hlo
  have KX := kIn_of Y
  refine Ground.open G ?_
  intro T B D TE TW
  try (refine guard_noD D (by decide +kernel) ?_; clear D)
  wrow_args hpre hlay hrd hwl hlo
  refine enter_call ?_
  refine codeAny_mono ?_ (fun _ _ g => GoodW.toG g)
  have e1 := Dflts.none hD rfl
  subst e1
  have e2 := Dflts.noKw hD
  subst e2
  refine Mine.law_run (Pm := w.params) ?P KX (topRead_of T) ⟨rfl, by decide, by decide⟩ ho hd hcd ?h1 ?h2 ?h3 ?h4 ?h5 ?h6 (by assumption) (by omega) (fun s' k => ⟨.inl ⟨_, .bool true, [], rfl, fun _ => rfl, .bool true, ?h7, fun _ => ⟨List.nodup_nil, fun a h => nomatch h⟩⟩, k.1, k.2.2, k.2.1.trans hg⟩)
  case h1 => rfl
  case h2 => rfl
  case h3 => rfl
  case h4 => rfl
  case h5 => rfl
  case h6 => intro v; rfl
  case h7 => kernel_rfl
  case P =>
    refine' { dN := ⟨?lN, ?cN, ?kN⟩, dS := ⟨?lS, ?cS, ?kS⟩, dP := ⟨?lP, ?cP, ?kP⟩, dM := ⟨?lM, ?cM, ?kM⟩, dT := ⟨?lT, ?cT, ?kT⟩, dI := ⟨?lI, ?cI, ?kI⟩, dL := ⟨?lL, ?cL, ?kL⟩, nsN := ?qnsN, nsS := ?qnsS, nsP := ?qnsP, nsM := ?qnsM, nsT := ?qnsT, nsC := ?qnsC, nsD := ?qnsD, b1 := ?qb1, b2 := ?qb2, b3 := ?qb3, b4 := ?qb4, b5 := ?qb5, b6 := ?qb6, b7 := ?qb7, b8 := ?qb8, tI := ?qtI, tL := ?qtL, cK := ?qcK, cM := ?qcM, cI := ?qcI, cL := ?qcL, cD := ?qcD, cG := ?qcG, cg := ?qcg, cs := ?qcs, cO := ?qcO, cR := ?qcR, cS := ?qcS, cT := ?qcT, f1 := ?qf1, f2 := ?qf2, f3 := ?qf3, f4 := ?qf4, f5 := ?qf5, g1 := ?qg1, g2 := ?qg2, g3 := ?qg3, g4 := ?qg4, g5 := ?qg5, tab := ?qtab }
    all_goals kernel_rfl
