import PyProof.Rows.All
import Wide.All
import OpenK.AllK
import Wide.FinOn
import PyProof.StrLawsIn
import PyProof.StrLawsReplace
import PyProof.StrLawsFrom
import PySem.Challenge.RW_mq0282_03
open PySem PySem.W PyProof.Rows
set_option Elab.async false
set_option maxRecDepth 100000
set_option linter.unusedVariables false
namespace Mine

/-! # Pure values and what stands for them in the heap -/
inductive V where
  | none
  | bool (b : Bool)
  | int (i : Int)
  | str (l : List Nat)
  | tuple (vs : List V)
  | list (vs : List V)
  | raw (v : Value)

abbrev Fz := Addr → Obj → Prop
def tupObj (vs : List Value) (n : Nat) : Obj := { cls := .type "tuple", data := .seq vs.toArray n }
def lstObj (vs : List Value) (n : Nat) : Obj := { cls := .type "list", data := .seq vs.toArray n }
def mkS (l : List Nat) : Str := ⟨l.toArray⟩

mutual
inductive Rep (F : Fz) : Value → V → Prop
  | none : Rep F Value.none V.none
  | bool (b : Bool) : Rep F (Value.bool b) (V.bool b)
  | int (i : Int) (t : Tok) : Rep F (Value.int i t) (V.int i)
  | str (l : List Nat) (t : Tok) : Rep F (Value.str (mkS l) t) (V.str l)
  | tuple {a : Addr} {vs : List Value} {n : Nat} {ds : List V} : F a (tupObj vs n) → RepL F vs ds → Rep F (Value.ref a) (V.tuple ds)
  | list {a : Addr} {vs : List Value} {n : Nat} {ds : List V} : F a (lstObj vs n) → RepL F vs ds → Rep F (Value.ref a) (V.list ds)
  | raw (v : Value) : Rep F v (V.raw v)
inductive RepL (F : Fz) : List Value → List V → Prop
  | nil : RepL F [] []
  | cons {v : Value} {vs : List Value} {d : V} {ds : List V} : Rep F v d → RepL F vs ds → RepL F (v :: vs) (d :: ds)
end

mutual
theorem Rep.mono {F F' : Fz} (h : ∀ a o, F a o → F' a o) : ∀ {v : Value} {d : V}, Rep F v d → Rep F' v d
  | _, _, .none => .none
  | _, _, .bool b => .bool b
  | _, _, .int i t => .int i t
  | _, _, .str l t => .str l t
  | _, _, .tuple x r => .tuple (h _ _ x) (RepL.mono h r)
  | _, _, .list x r => .list (h _ _ x) (RepL.mono h r)
  | _, _, .raw v => .raw v
theorem RepL.mono {F F' : Fz} (h : ∀ a o, F a o → F' a o) : ∀ {vs : List Value} {ds : List V}, RepL F vs ds → RepL F' vs ds
  | _, _, .nil => .nil
  | _, _, .cons x r => .cons (Rep.mono h x) (RepL.mono h r)
end

theorem RepL.length {F : Fz} : ∀ {vs : List Value} {ds : List V}, RepL F vs ds → vs.length = ds.length
  | _, _, .nil => rfl
  | _, _, .cons _ r => by simp [RepL.length r]
theorem RepL.append {F : Fz} : ∀ {vs us : List Value} {ds es : List V}, RepL F vs ds → RepL F us es → RepL F (vs ++ us) (ds ++ es)
  | _, _, _, _, .nil, y => y
  | _, _, _, _, .cons x r, y => .cons x (RepL.append r y)
theorem RepL.get {F : Fz} : ∀ {vs : List Value} {ds : List V}, RepL F vs ds → ∀ (i : Nat) (d : V), ds[i]? = some d → ∃ v, vs[i]? = some v ∧ Rep F v d
  | _, _, .nil, i, d, h => by simp at h
  | _, _, .cons x r, 0, d, h => by simp at h; subst h; exact ⟨_, rfl, x⟩
  | _, _, .cons x r, i + 1, d, h => by simpa using RepL.get r i d (by simpa using h)
theorem RepL.getV {F : Fz} : ∀ {vs : List Value} {ds : List V}, RepL F vs ds → ∀ (i : Nat) (v : Value), vs[i]? = some v → ∃ d, ds[i]? = some d ∧ Rep F v d
  | _, _, .nil, i, d, h => by simp at h
  | _, _, .cons x r, 0, d, h => by simp at h; subst h; exact ⟨_, rfl, x⟩
  | _, _, .cons x r, i + 1, d, h => by simpa using RepL.getV r i d (by simpa using h)
theorem RepL.drop {F : Fz} : ∀ {vs : List Value} {ds : List V} (k : Nat), RepL F vs ds → RepL F (vs.drop k) (ds.drop k)
  | _, _, 0, x => by simpa using x
  | _, _, _ + 1, .nil => by simpa using RepL.nil
  | _, _, k + 1, .cons _ r => by simpa using RepL.drop k r
theorem RepL.take {F : Fz} : ∀ {vs : List Value} {ds : List V} (k : Nat), RepL F vs ds → RepL F (vs.take k) (ds.take k)
  | _, _, 0, x => by simpa using RepL.nil
  | _, _, _ + 1, .nil => by simpa using RepL.nil
  | _, _, k + 1, .cons x r => by simpa using RepL.cons x (RepL.take k r)
theorem RepL.reverse {F : Fz} : ∀ {vs : List Value} {ds : List V}, RepL F vs ds → RepL F vs.reverse ds.reverse
  | _, _, .nil => .nil
  | _, _, .cons x r => by simpa using RepL.append (RepL.reverse r) (.cons x .nil)
theorem RepL.set {F : Fz} {v : Value} {d : V} (h : Rep F v d) : ∀ {vs : List Value} {ds : List V} (k : Nat), RepL F vs ds → RepL F (vs.set k v) (ds.set k d)
  | _, _, _, .nil => .nil
  | _, _, 0, .cons _ r => .cons h r
  | _, _, k + 1, .cons x r => .cons x (RepL.set h k r)
theorem RepL.eraseIdx {F : Fz} : ∀ {vs : List Value} {ds : List V} (k : Nat), RepL F vs ds → RepL F (vs.eraseIdx k) (ds.eraseIdx k)
  | _, _, _, .nil => .nil
  | _, _, 0, .cons _ r => r
  | _, _, k + 1, .cons x r => .cons x (RepL.eraseIdx k r)

/-- a flat value stands without any object -/
def V.flat : V → Bool
  | .tuple _ => false
  | .list _ => false
  | _ => true
theorem Rep.of_flat {F F' : Fz} {v : Value} {d : V} (h : d.flat = true) (r : Rep F v d) : Rep F' v d := by
  cases r <;> first | exact .none | exact .bool _ | exact .int _ _ | exact .str _ _ | exact .raw _ | cases h

/-! # The static part -/
structure Cx where
  prog : Program
  w : World
  mg : Str → Option Value
  mb : Str → Option Value
  K : Addr → Obj → Prop
  c : Addr
  P : Addr
  os : OsState

def TabOk (h : Heap) (c P : Addr) : Prop := ∃ ps, h.IsCode c P ps ∧ h.get? P = some (tabObj ps) ∧ h.TableAt c P ps

/-- of the counter of tokens nothing is asked -/
abbrev Tp (_ : Nat) : Prop := True
structure Inv (C : Cx) (s : Shared) : Prop where
  g : s.heap.Ns mainGlobals C.mg
  b : s.heap.Ns builtinsNs C.mb
  bi : ∀ x : Str, x ≠ "__name__" → C.mb x = bootBuiltins x
  lim : s.heap.NoLimit
  tab : TabOk s.heap C.c C.P
  gens : AllBare s.gens
  os : s.os = C.os
  tk : Tp s.toks
  k : ∀ a o, C.K a o → s.heap.get? a = some o ∧ a ≠ C.P
  bm : ∃ bm ob, C.mg "__builtins__" = some (.ref bm) ∧ bm ≠ builtinsNs ∧ bm ≠ C.P ∧ s.heap.get? bm = some ob ∧ ob.cls = .type "module" ∧ ob.dict = some builtinsNs ∧ ob.data = .plain

/-- all that stood stands, the one table aside -/
def Kp (C : Cx) (s s' : Shared) : Prop := ∀ b o, b ≠ C.P → s.heap.get? b = some o → s'.heap.get? b = some o
theorem Kp.refl (C : Cx) (s : Shared) : Kp C s s := fun _ _ _ e => e
theorem Kp.trans {C : Cx} {s₁ s₂ s₃ : Shared} (x : Kp C s₁ s₂) (y : Kp C s₂ s₃) : Kp C s₁ s₃ := fun b o hb e => y b o hb (x b o hb e)

theorem Kp.none {C : Cx} {s s' : Shared} (k : Kp C s s') {a : Addr} (ha : a ≠ C.P) (e : s'.heap.get? a = none) : s.heap.get? a = none := by
  cases h : s.heap.get? a with
  | none => rfl
  | some o => rw [k a o ha h] at e; cases e
structure FzOk (C : Cx) (F : Fz) (h : Heap) : Prop where
  at' : ∀ a o, F a o → h.get? a = some o ∧ a ≠ C.P
  k : ∀ a o, C.K a o → F a o
theorem FzOk.kp {C : Cx} {F : Fz} {s s' : Shared} (x : FzOk C F s.heap) (k : Kp C s s') : FzOk C F s'.heap := ⟨fun a o e => ⟨k a o (x.at' a o e).2 (x.at' a o e).1, (x.at' a o e).2⟩, x.k⟩

structure Fx (C : Cx) (F F' : Fz) (s s' : Shared) : Prop where
  le : ∀ a o, F a o → F' a o
  new : ∀ a o, F' a o → F a o ∨ s.heap.get? a = none
  ok : FzOk C F' s'.heap
theorem Fx.refl {C : Cx} {F : Fz} {s s' : Shared} (x : FzOk C F s'.heap) : Fx C F F s s' := ⟨fun _ _ e => e, fun _ _ e => .inl e, x⟩
theorem Fx.trans {C : Cx} {F₁ F₂ F₃ : Fz} {s₁ s₂ s₃ : Shared} (x : Fx C F₁ F₂ s₁ s₂) (y : Fx C F₂ F₃ s₂ s₃) (k : Kp C s₁ s₂) : Fx C F₁ F₃ s₁ s₃ :=
  ⟨fun a o e => y.le a o (x.le a o e), fun a o e => (y.new a o e).elim (fun e => x.new a o e) fun e' => .inr (Kp.none k (y.ok.at' a o e).2 e'), y.ok⟩

abbrev Pst {α : Type} (C : Cx) (s : Shared) (F : Fz) (Q : α → Shared → Fz → Prop) : α → Shared → Prop := fun a s' => Inv C s' ∧ Kp C s s' ∧ ∃ F', Fx C F F' s s' ∧ Q a s' F'
/-- a tree that ends well, from s over the frozen F -/
abbrev Tr {α : Type} (C : Cx) (A : Around) (t : Sem α) (s : Shared) (F : Fz) (Q : α → Shared → Fz → Prop) : Prop :=
  wpAny (model C.prog C.w) A t (Pst C s F Q) (fun _ _ => False) s

section
variable {C : Cx} {A : Around} {s : Shared} {F : Fz} {α β : Type}
theorem Tr.pure {a : α} {Q : α → Shared → Fz → Prop} (I : Inv C s) (f : FzOk C F s.heap) (h : Q a s F) : Tr C A (Pure.pure a) s F Q := wpAny_pure ⟨I, Kp.refl _ _, F, Fx.refl f, h⟩
theorem Tr.mono {t : Sem α} {Q Q' : α → Shared → Fz → Prop} (h : Tr C A t s F Q) (hQ : ∀ a s' F', Inv C s' → Kp C s s' → Fx C F F' s s' → Q a s' F' → Q' a s' F') : Tr C A t s F Q' :=
  wpAny_mono h (fun _ _ ⟨i, k, F', f, q⟩ => ⟨i, k, F', f, hQ _ _ _ i k f q⟩) fun _ _ e => e
/-- go on behind a tree -/
theorem Tr.after {t : Sem α} {Q : α → Shared → Fz → Prop} {R : α → Shared → Prop} (h : Tr C A t s F Q) (hR : ∀ a s' F', Inv C s' → Kp C s s' → Fx C F F' s s' → Q a s' F' → R a s') :
    wpAny (model C.prog C.w) A t R (fun _ _ => False) s := wpAny_mono h (fun _ _ ⟨i, k, F', f, q⟩ => hR _ _ _ i k f q) fun _ _ e => e
theorem Tr.bind {t : Sem α} {f : α → Sem β} {Q : β → Shared → Fz → Prop} (h : Tr C A t s F fun a s₁ F₁ => Tr C A (f a) s₁ F₁ Q) : Tr C A (t >>= f) s F Q :=
  wpAny_bind (wpAny_mono h (fun _ _ ⟨_, k, _, x, q⟩ => wpAny_mono q (fun _ _ ⟨i', k', _, x', q'⟩ => ⟨i', k.trans k', _, x.trans x' k, q'⟩) fun _ _ e => e) fun _ _ e => e)
theorem Tr.holding {vs : List Value} {m : Sem α} {Q : α → Shared → Fz → Prop} (h : Tr C A m s F Q) : Tr C A (PySem.holding vs m) s F Q := wpAny_holding h
theorem Tr.standAt {pos : Pos} {k : Unit → Sem β} {Q : β → Shared → Fz → Prop} (h : Tr C A (k ()) s F Q) : Tr C A (PySem.standAt pos >>= k) s F Q := wpAny_bind (wpAny_standAt h)
end

theorem mkS_toList (x : Str) : mkS x.cps.toList = x := by cases x; simp [mkS]
theorem mkS_cps (l : List Nat) : (mkS l).cps = l.toArray := rfl
theorem mkS_inj {l m : List Nat} : mkS l = mkS m ↔ l = m := by simp [mkS]
theorem mkS_length (l : List Nat) : (mkS l).length = l.length := by simp [mkS, Str.length]
theorem mkS_append (l m : List Nat) : mkS l ++ mkS m = mkS (l ++ m) := by
  show Str.append _ _ = _
  simp [mkS, Str.append]
theorem Rep.strOf {F : Fz} (x : Str) (t : Tok) : Rep F (Value.str x t) (V.str x.cps.toList) := by
  have := Rep.str (F := F) x.cps.toList t
  rwa [mkS_toList] at this

structure Room (r : Nat) (A : Around) : Prop where
  handled : A.handled = none
  depth : A.depth + r < recursionLimit
  units : A.units + 100 * r + 500 < cLine
theorem Room.lt {r : Nat} {A : Around} (R : Room r A) : A.depth < recursionLimit := by have := R.depth; omega
theorem Room.deeper {r : Nat} {A : Around} (R : Room (r + 1) A) (env : Env) : Room r (A.deeper env) := ⟨R.handled, by have := R.depth; show A.depth + 1 + r < _; omega, by have := R.units; show A.units + 3 + 100 * r + 500 < _; omega⟩
theorem Room.le {r q : Nat} {A : Around} (R : Room r A) (h : q ≤ r) : Room q A := ⟨R.handled, by have := R.depth; omega, by have := R.units; omega⟩
theorem Room.u {r : Nat} {A : Around} (R : Room r A) : A.units + 500 < cLine := by have := R.units; omega

/-! # Reading names -/
def RdAt (env : Env) (h : Heap) (x : Str) (v : Value) : Prop :=
  (env.kindOf x = some .local ∧ ∃ m, h.Ns env.locals m ∧ m x = some v) ∨
  ((env.kindOf x = some .cell ∨ (env.kindOf x = some .free ∧ (x == ("__classdict__" : Str)) = false)) ∧ ∃ c, env.cells.lookup x = some c ∧ h.IsCell c (some v))

/-- the names' numbers, and what a function's frames bear -/
structure Nm where
  vn : Nat → Str
  ec : Env → Prop := fun _ => True
abbrev Ρ := List (Nat × V)
abbrev Kd := List (Nat × NameKind)
/-- what an environment gives: the names by number -/
structure EnvOk (C : Cx) (vn : Nm) (kd : Kd) (env : Env) (h : Heap) (F : Fz) (ρ : Ρ) : Prop where
  kind : env.scope.kind = .function
  glob : env.globals = mainGlobals
  bi : env.builtins = builtinsNs
  kd : ∀ n k, kd.lookup n = some k → env.kindOf (vn.vn n) = some k ∨ (k = .free ∧ env.kindOf (vn.vn n) = some .cell)
  ec : vn.ec env
  rd : ∀ n d, ρ.lookup n = some d → ∃ v, RdAt env h (vn.vn n) v ∧ Rep F v d

theorem ne_P {C : Cx} {s : Shared} (I : Inv C s) {a : Addr} {o : Obj} (e : s.heap.get? a = some o) (h : ∀ ps, o.data ≠ .fields ps) : a ≠ C.P := by
  rintro rfl
  obtain ⟨ps, _, e2, _⟩ := I.tab
  rw [e] at e2; cases e2
  exact h ps rfl
theorem ns_kp {C : Cx} {s s' : Shared} (I : Inv C s) (k : Kp C s s') {a : Addr} {m : Str → Option Value} (x : s.heap.Ns a m) : s'.heap.Ns a m := by
  obtain ⟨o, es, ep, e, hd, r⟩ := x
  exact ⟨o, es, ep, k a o (ne_P I e (by intro ps q; rw [hd] at q; cases q)) e, hd, r⟩
theorem cell_kp {C : Cx} {s s' : Shared} (I : Inv C s) (k : Kp C s s') {a : Addr} {v : Option Value} (x : s.heap.IsCell a v) : s'.heap.IsCell a v := by
  obtain ⟨o, e, hd⟩ := x
  exact ⟨o, k a o (ne_P I e (by intro ps q; rw [hd] at q; cases q)) e, hd⟩
theorem RdAt.kp {C : Cx} {s s' : Shared} (I : Inv C s) (k : Kp C s s') {env : Env} {x : Str} {v : Value} (h : RdAt env s.heap x v) : RdAt env s'.heap x v := by
  rcases h with ⟨h1, m, h2, h3⟩ | ⟨h1, c, h2, h3⟩
  · exact .inl ⟨h1, m, ns_kp I k h2, h3⟩
  · exact .inr ⟨h1, c, h2, cell_kp I k h3⟩
theorem EnvOk.kp {C : Cx} {s s' : Shared} {F F' : Fz} {env : Env} {ρ : Ρ} {vn : Nm} {kd : Kd} (h : EnvOk C vn kd env s.heap F ρ) (I : Inv C s) (k : Kp C s s') (x : Fx C F F' s s') : EnvOk C vn kd env s'.heap F' ρ :=
  ⟨h.kind, h.glob, h.bi, h.kd, h.ec, fun y d e => let ⟨v, r, p⟩ := h.rd y d e; ⟨v, r.kp I k, p.mono x.le⟩⟩

section
variable {C : Cx} {A : Around} {s : Shared} {F : Fz} {env : Env} {ρ : Ρ}

theorem wp_loadRd {x : Str} {v : Value} {Q : Value → Shared → Prop} {E : Value → Shared → Prop} {M : Model} (hk : env.scope.kind = .function) (r : RdAt env s.heap x v) (h : Q v s) : wpAny M A (loadName env x) Q E s := by
  rcases r with ⟨h1, m, h2, h3⟩ | ⟨h1 | ⟨h1, h1'⟩, c, h2, h3⟩
  · exact wpAny_loadName_local hk h1 h2 h3 h
  · exact wpAny_loadName_cell hk h1 h2 h3 h
  · exact wpAny_loadName_free hk h1 h2 h3 h h1'


abbrev Gb (K : Bool → Prop) : Bool → Shared → Fz → Prop := fun b _ _ => K b
/-- a value that stands for a datum fit for Q -/
abbrev Gv (Q : V → Prop) : Value → Shared → Fz → Prop := fun v _ F' => ∃ d, Rep F' v d ∧ Q d
abbrev TrV (C : Cx) (A : Around) (t : Sem Value) (s : Shared) (F : Fz) (Q : V → Prop) : Prop := Tr C A t s F (Gv Q)

theorem Inv.tok (I : Inv C s) (n : Nat) (hn : Tp n) : Inv C { s with toks := n } := ⟨I.g, I.b, I.bi, I.lim, I.tab, I.gens, I.os, hn, I.k, I.bm⟩
theorem Kp.tok (C : Cx) (s : Shared) (n : Nat) : Kp C s { s with toks := n } := fun _ _ _ e => e
/-- the counter of tokens never falls -/
theorem tr_of {α : Type} {t : Sem α} {Q : α → Shared → Fz → Prop} (I : Inv C s) (h : wpAny (model C.prog C.w) A t (fun a s' => Tp s'.toks → Pst C s F Q a s') (fun _ _ => False) s) : Tr C A t s F Q :=
  wpAny_mono h (fun _ _ x => x trivial) fun _ _ x => x
theorem pst_tok {α : Type} {a : α} {Q : α → Shared → Fz → Prop} {n : Nat} (I : Inv C s) (f : FzOk C F s.heap) (h : Q a { s with toks := n } F) (hn : Tp n) : Pst C s F Q a { s with toks := n } := ⟨I.tok n hn, Kp.tok C s n, F, Fx.refl f, h⟩
theorem pst_here {α : Type} {a : α} {Q : α → Shared → Fz → Prop} (I : Inv C s) (f : FzOk C F s.heap) (h : Q a s F) : Pst C s F Q a s := ⟨I, Kp.refl _ _, F, Fx.refl f, h⟩
theorem pst_here' {α : Type} {a : α} {Q : α → Shared → Fz → Prop} (I : Inv C s) (f : FzOk C F s.heap) (h : Q a s F) (_ : Tp s.toks) : Pst C s F Q a s := pst_here I f h

theorem Inv.keep {s' : Shared} (I : Inv C s) (hk : ∀ b o, s.heap.get? b = some o → s'.heap.get? b = some o) (hg : s'.gens = s.gens) (ho : s'.os = s.os) (ht : Tp s'.toks) : Inv C s' where
  g := I.g.keeps hk
  b := I.b.keeps hk
  bi := I.bi
  lim := I.lim.keeps hk
  tab := let ⟨ps, a, b, c⟩ := I.tab; ⟨ps, a.keeps hk, hk _ _ b, c.keeps hk⟩
  gens := hg ▸ I.gens
  os := ho.trans I.os
  tk := ht
  k := fun a o e => ⟨hk _ _ (I.k a o e).1, (I.k a o e).2⟩
  bm := let ⟨bm, ob, h1, h2, h3, h4, r⟩ := I.bm; ⟨bm, ob, h1, h2, h3, hk _ _ h4, r⟩
theorem Inv.ltP (I : Inv C s) : C.P < s.heap.objs.size := let ⟨_, _, b, _⟩ := I.tab; Heap.lt_size b
theorem get_size (h : Heap) : h.get? h.objs.size = none := by
  cases e : h.get? h.objs.size with
  | none => rfl
  | some o => exact absurd (Heap.lt_size e) (Nat.lt_irrefl _)
def Fz.add (F : Fz) (a : Addr) (o : Obj) : Fz := fun b x => F b x ∨ (b = a ∧ x = o)
/-- a new object: it is frozen at once -/
theorem pst_push {α : Type} {a : α} {Q : α → Shared → Fz → Prop} {n : Nat} {o : Obj} (I : Inv C s) (f : FzOk C F s.heap) (h : Q a { s with heap := s.heap.push o, toks := n } (F.add s.heap.objs.size o)) (hn : Tp n) (hf : o.isFreed = false := by rfl) :
    Pst C s F Q a { s with heap := s.heap.push o, toks := n } :=
  ⟨I.keep (fun _ _ e => Heap.get?_push_of_some _ e) rfl rfl hn, fun _ _ _ e => Heap.get?_push_of_some _ e, _,
    ⟨fun _ _ e => .inl e, fun b x e => e.imp id fun ⟨q, _⟩ => q ▸ get_size _, ⟨fun b x e => e.elim (fun e => ⟨Heap.get?_push_of_some _ (f.at' b x e).1, (f.at' b x e).2⟩) fun ⟨q, r⟩ => by
      subst q; subst r; exact ⟨Heap.get?_push_size _ hf, fun q => by have := I.ltP; rw [← q] at this; exact absurd this (Nat.lt_irrefl _)⟩, fun b x e => .inl (f.k b x e)⟩⟩, h⟩
/-- a new object that nobody keeps -/
theorem pst_push0 {α : Type} {a : α} {Q : α → Shared → Fz → Prop} {n : Nat} {o : Obj} (I : Inv C s) (f : FzOk C F s.heap) (h : Q a { s with heap := s.heap.push o, toks := n } F) (hn : Tp n) :
    Pst C s F Q a { s with heap := s.heap.push o, toks := n } :=
  ⟨I.keep (fun _ _ e => Heap.get?_push_of_some _ e) rfl rfl hn, fun _ _ _ e => Heap.get?_push_of_some _ e, F,
    ⟨fun _ _ e => e, fun b x e => .inl e, ⟨fun b x e => ⟨Heap.get?_push_of_some _ (f.at' b x e).1, (f.at' b x e).2⟩, f.k⟩⟩, h⟩

theorem FzOk.isList (f : FzOk C F s.heap) {a : Addr} {vs : List Value} {n : Nat} (x : F a (lstObj vs n)) : s.heap.IsList a vs.toArray := ⟨_, (f.at' _ _ x).1, rfl, n, rfl⟩
theorem FzOk.isTup (f : FzOk C F s.heap) {a : Addr} {vs : List Value} {n : Nat} (x : F a (tupObj vs n)) : IsTup s.heap a vs.toArray := ⟨_, (f.at' _ _ x).1, rfl, n, rfl⟩

/-! # Data and what the equality rules ask -/
mutual
def toPy : V → PyData
  | .none => .none
  | .bool b => .bool b
  | .int i => .int i
  | .str l => .str (mkS l)
  | .tuple ds => .tuple (toPys ds)
  | .list ds => .list (toPys ds)
  | .raw _ => .none
def toPys : List V → List PyData
  | [] => []
  | d :: ds => toPy d :: toPys ds
end
def vok : Nat → V → Bool
  | _, .none => true
  | _, .bool _ => true
  | _, .int _ => true
  | _, .str l => l.all (· < 0x110000)
  | n + 1, .tuple ds => ds.all (vok n)
  | n + 1, .list ds => ds.all (vok n)
  | _, _ => false
def veq (a b : V) : Bool := PyData.eqv (toPy a) (toPy b)

mutual
theorem reads_of (f : FzOk C F s.heap) : ∀ {v : Value} {d : V} (n : Nat), Rep F v d → vok n d = true → ∃ as, Reads s.heap v (toPy d) as
  | _, _, _, .none, _ => ⟨_, .none⟩
  | _, _, _, .bool b, _ => ⟨_, .bool b⟩
  | _, _, _, .int i t, _ => ⟨_, .int i t⟩
  | _, _, _, .str x t, _ => ⟨_, .str _ t⟩
  | _, _, n, .raw _, hk => by cases n <;> simp [vok] at hk
  | _, _, 0, .tuple _ _, hk => by simp [vok] at hk
  | _, _, 0, .list _ _, hk => by simp [vok] at hk
  | _, _, n + 1, .tuple hm r, hk => by
    obtain ⟨as, q⟩ := readsAll_of f n r (by simpa [vok] using hk)
    rw [toPy]
    exact ⟨_, .tuple (f.at' _ _ hm).1 rfl rfl (by simpa using q)⟩
  | _, _, n + 1, .list hm r, hk => by
    obtain ⟨as, q⟩ := readsAll_of f n r (by simpa [vok] using hk)
    rw [toPy]
    exact ⟨_, .list (f.at' _ _ hm).1 rfl rfl (by simpa using q)⟩
theorem readsAll_of (f : FzOk C F s.heap) : ∀ {vs : List Value} {ds : List V} (n : Nat), RepL F vs ds → (∀ d ∈ ds, vok n d = true) → ∃ as, ReadsAll s.heap vs (toPys ds) as
  | _, _, _, .nil, _ => ⟨_, .nil⟩
  | _, _, n, .cons hd r, hk => by
    obtain ⟨as, q⟩ := reads_of f n hd (hk _ (.head _))
    obtain ⟨bs, p⟩ := readsAll_of f n r fun d hm => hk d (.tail _ hm)
    rw [toPys]
    exact ⟨_, .cons q p⟩
end
theorem lay_of : ∀ (n : Nat) (d : V), vok n d = true → (toPy d).canLay0 = true ∧ (toPy d).depth ≤ n := by
  have all : ∀ (n : Nat), (∀ d, vok n d = true → (toPy d).canLay0 = true ∧ (toPy d).depth ≤ n) → ∀ ds : List V, (∀ d ∈ ds, vok n d = true) → PyData.canLayAll0 (toPys ds) = true ∧ PyData.depthAll (toPys ds) ≤ n := by
    intro n ih ds
    induction ds with
    | nil => intro _; simp [toPys, PyData.canLayAll0, PyData.depthAll]
    | cons d ds hi =>
      intro h
      have h1 := ih d (h d (.head _))
      have h2 := hi fun e he => h e (.tail _ he)
      simp only [toPys, PyData.canLayAll0, PyData.depthAll, h1.1, h2.1, Bool.and_self, true_and]
      have a1 := h1.2
      have a2 := h2.2
      omega
  have str : ∀ l : List Nat, l.all (· < 0x110000) = true → PyData.strOk (mkS l) = true := fun l h => by simpa [PyData.strOk, mkS] using h
  intro n
  induction n with
  | zero =>
    intro d h
    cases d with
    | str l => simp only [vok] at h; simp [toPy, PyData.canLay0, PyData.depth, str l h]
    | _ => simp_all [vok, toPy, PyData.canLay0, PyData.depth]
  | succ n ih =>
    intro d h
    cases d with
    | none => simp [toPy, PyData.canLay0, PyData.depth]
    | bool b => simp [toPy, PyData.canLay0, PyData.depth]
    | int i => simp [toPy, PyData.canLay0, PyData.depth]
    | str l => simp only [vok] at h; simp [toPy, PyData.canLay0, PyData.depth, str l h]
    | tuple ds =>
      have q := all n ih ds (by simpa [vok] using h)
      have q2 := q.2
      simp only [toPy, PyData.canLay0, PyData.depth, q.1, true_and]
      omega
    | list ds =>
      have q := all n ih ds (by simpa [vok] using h)
      have q2 := q.2
      simp only [toPy, PyData.canLay0, PyData.depth, q.1, true_and]
      omega
    | raw v => simp [vok] at h
theorem toPys_map (ds : List V) : toPys ds = ds.map toPy := by induction ds with
  | nil => rfl
  | cons d ds ih => simp [toPys, ih]
end

/-! # Operators -/
def int1 (a : V) (K : Int → Prop) : Prop := match a with | .int i => K i | _ => False
def str1 (a : V) (K : List Nat → Prop) : Prop := match a with | .str i => K i | _ => False
def lst1 (a : V) (K : List V → Prop) : Prop := match a with | .list i => K i | _ => False
theorem int1_inv {a : V} {K : Int → Prop} (h : int1 a K) : ∃ i, a = .int i ∧ K i := by cases a <;> first | exact ⟨_, rfl, h⟩ | exact h.elim
theorem str1_inv {a : V} {K : List Nat → Prop} (h : str1 a K) : ∃ i, a = .str i ∧ K i := by cases a <;> first | exact ⟨_, rfl, h⟩ | exact h.elim
theorem lst1_inv {a : V} {K : List V → Prop} (h : lst1 a K) : ∃ i, a = .list i ∧ K i := by cases a <;> first | exact ⟨_, rfl, h⟩ | exact h.elim
def int2 (a b : V) (K : Int → Int → Prop) : Prop := int1 a fun i => int1 b fun j => K i j
def addw (a b : V) (Q : V → Prop) : Prop := match a with
  | .int i => int1 b fun j => Q (.int (i + j))
  | .str x => str1 b fun y => x.length + y.length ≤ 1000000 ∧ Q (.str (x ++ y))
  | .list x => lst1 b fun y => x.length + y.length ≤ 1000000 ∧ Q (.list (x ++ y))
  | _ => False
def mulw (a b : V) (Q : V → Prop) : Prop := match a with
  | .int i => int1 b fun j => (i.natAbs < 2 ^ 60 ∨ j.natAbs < 2 ^ 60) ∧ Q (.int (i * j))
  | .list x => int1 b fun k => 0 ≤ k ∧ k ≤ 1000 ∧ x.length ≤ 1000 ∧ Q (.list (List.replicate k.toNat x).flatten)
  | _ => False
def binw (op : Operator) (a b : V) (Q : V → Prop) : Prop :=
  match op with
  | .Add => addw a b Q
  | .Sub => int2 a b fun a b => Q (.int (a - b))
  | .Mult => mulw a b Q
  | .FloorDiv => int2 a b fun a b => b ≠ 0 ∧ b.natAbs < 2 ^ 29 ∧ Q (.int (a.fdiv b))
  | .Mod => int2 a b fun a b => b ≠ 0 ∧ Q (.int (a.fmod b))
  | .Pow => int2 a b fun a b => 0 ≤ b ∧ b ≤ 1000 ∧ a.natAbs < 2 ^ 60 ∧ Q (.int (a ^ b.toNat))
  | .BitAnd => int2 a b fun a b => Q (.int (Builtin.bitAnd a b))
  | .BitOr => int2 a b fun a b => Q (.int (Builtin.bitOr a b))
  | .BitXor => int2 a b fun a b => Q (.int (Builtin.bitXor a b))
  | _ => False

def unw (op : UnaryOp) (a : V) (Q : V → Prop) : Prop :=
  match op with
  | .USub => int1 a fun a => Q (.int (-a))
  | .Invert => int1 a fun a => Q (.int (-a - 1))
  | _ => False

/-- bool(d), where the rules know it -/
def truthw (d : V) (K : Bool → Prop) : Prop :=
  match d with
  | .none => K false
  | .bool b => K b
  | .int i => K (i != 0)
  | .str l => l.length ≤ 1000000 ∧ K (!l.isEmpty)
  | .tuple l => l.length ≤ 1000000 ∧ K (!l.isEmpty)
  | .list l => l.length ≤ 1000000 ∧ K (!l.isEmpty)
  | .raw _ => False

def strIn (x y : List Nat) : Bool := !(Builtin.Str.occurrences (mkS y) (mkS x) 0 y.length 1).isEmpty
def ordw (f : Int → Int → Bool) (g : List Nat → List Nat → Bool) (a b : V) (K : Bool → Prop) : Prop := match a with
  | .int i => int1 b fun j => K (f i j)
  | .str x => str1 b fun y => K (g x y)
  | _ => False
/-- one sign in a text, or a text in a text -/
def inL (x y : List Nat) (K : Bool → Prop) : Prop := match x with
  | [c] => K (decide (c ∈ y))
  | x => K (strIn x y)
/-- a text that the rules of equality know -/
def sok (l : List Nat) : Bool := l.all (· < 0x110000)
def eqw (a b : V) (K : Bool → Prop) : Prop := match a with
  | .int i => int1 b fun j => K (decide (i = j))
  | .str x => str1 b fun y => sok x = true ∧ sok y = true ∧ K (decide (x = y))
  | .bool p => match b with | .bool q => K (decide (p = q)) | _ => False
  | a => vok 8 a = true ∧ vok 8 b = true ∧ K (veq a b)
def inw (a b : V) (K : Bool → Prop) : Prop := match b with
  | .str y => str1 a fun x => inL x y K
  | .list ds => vok 8 a = true ∧ ds.all (vok 8) = true ∧ K (ds.any fun y => veq y a)
  | .tuple ds => vok 8 a = true ∧ ds.all (vok 8) = true ∧ K (ds.any fun y => veq y a)
  | _ => False
def raw1 (b : V) (P : Addr → Prop) : Prop := match b with | .raw v => (match v with | .ref y => P y | _ => False) | _ => False
theorem raw1_inv {b : V} {P : Addr → Prop} (h : raw1 b P) : ∃ y, b = .raw (.ref y) ∧ P y := by
  cases b with
  | raw v => cases v <;> first | exact ⟨_, rfl, h⟩ | exact h.elim
  | _ => exact h.elim
def isw (a b : V) (K : Bool → Prop) : Prop := raw1 b fun y => match a with
  | .str _ => K false
  | a => raw1 a fun x => x = y ∧ K true
def cmpw (op : CmpOp) (a b : V) (K : Bool → Prop) : Prop :=
  match op with
  | .Lt => ordw (fun i j => decide (i < j)) (fun x y => decide (x < y)) a b K
  | .LtE => ordw (fun i j => decide (i ≤ j)) (fun x y => !decide (y < x)) a b K
  | .Gt => ordw (fun i j => decide (j < i)) (fun x y => decide (y < x)) a b K
  | .GtE => int2 a b fun i j => K (decide (j ≤ i))
  | .Eq => eqw a b K
  | .NotEq => eqw a b fun c => K (!c)
  | .In => inw a b K
  | .NotIn => inw a b fun c => K (!c)
  | .Is => isw a b K
  | .IsNot => isw a b fun c => K (!c)

/-- Python's index into n places -/
def ixOf (i : Int) (n : Nat) : Option Nat := if 0 ≤ i then (if i < n then some i.toNat else none) else (if -(n : Int) ≤ i then some (i + n).toNat else none)
def itemL (l : List V) (i : Int) (Q : V → Prop) : Prop := l.length ≤ 1000000 ∧ ∃ k d, ixOf i l.length = some k ∧ l[k]? = some d ∧ Q d
def itemw (o i : V) (Q : V → Prop) : Prop := int1 i fun i => match o with
  | .str l => l.length ≤ 1000000 ∧ ∃ k c, ixOf i l.length = some k ∧ l[k]? = some c ∧ Q (.str [c])
  | .list l => itemL l i Q
  | .tuple l => itemL l i Q
  | _ => False

def ixL (i : Int) (n : Nat) : Nat := (max 0 (min (if i < 0 then i + n else i) n)).toNat
def sliceL {α : Type} (l : List α) (lo hi : Option Int) : List α :=
  let a := match lo with | none => 0 | some i => ixL i l.length
  let b := match hi with | none => l.length | some i => ixL i l.length
  (l.drop a).take (b - a)
def slicew (o : V) (lo hi : Option Int) (Q : V → Prop) : Prop :=
  match o with
  | .str l => l.length ≤ 1000000 ∧ Q (.str (sliceL l lo hi))
  | .list l => l.length ≤ 1000000 ∧ Q (.list (sliceL l lo hi))
  | _ => False

section
variable {C : Cx} {A : Around} {s : Shared} {F : Fz} {r : Nat}

theorem ixL_le (i : Int) (n : Nat) : ixL i n ≤ n := by unfold ixL; split <;> omega
theorem bounds_eq (lo hi : Option Int) (n : Nat) : sliceBounds lo hi none n = (((match lo with | none => 0 | some i => ixL i n : Nat) : Int), ((match hi with | none => n | some i => ixL i n : Nat) : Int), 1) := by
  unfold sliceBounds ixL
  simp only [Option.getD_none, show (1 : Int) > 0 by decide, if_true]
  cases lo <;> cases hi <;> simp
theorem slicePick_eq (items : Array Value) (lo hi : Option Int) : slicePick items lo hi none = (sliceL items.toList lo hi).toArray := by
  unfold slicePick sliceL
  rw [bounds_eq]
  simp only [sliceRange_one, pick_run, Array.length_toList]
theorem RepL.slice {vs : List Value} {ds : List V} (x : RepL F vs ds) (lo hi : Option Int) : RepL F (sliceL vs lo hi) (sliceL ds lo hi) := by
  unfold sliceL
  rw [x.length]
  exact (x.drop _).take _
theorem sliceL_length {α : Type} (l : List α) (lo hi : Option Int) : (sliceL l lo hi).length ≤ l.length := by
  unfold sliceL
  rw [List.length_take, List.length_drop]; omega

theorem mul_ok {a b : Int} (h : a.natAbs < 2 ^ 60 ∨ b.natAbs < 2 ^ 60) : IntMulOk a b := by
  have bits : ∀ c : Int, c.natAbs < 2 ^ 60 → Builtin.Int.intBits c ≤ 64 := by
    intro c hc
    unfold Builtin.Int.intBits
    split
    · omega
    · rename_i h0
      have h0' : c ≠ 0 := by simpa using h0
      have := (Nat.log2_lt (n := c.natAbs) (by omega)).mpr hc
      omega
  exact h.elim (fun h => .of_left (bits _ h)) fun h => .of_right (bits _ h)

theorem pst_int {Q : V → Prop} {i : Int} {t : Tok} {n : Nat} (I : Inv C s) (f : FzOk C F s.heap) (h : Q (.int i)) (hn : Tp n) : Pst C s F (Gv Q) (.int i t) { s with toks := n } := pst_tok I f ⟨_, .int i t, h⟩ hn
theorem pst_gb {K : Bool → Prop} {b : Bool} {n : Nat} (I : Inv C s) (f : FzOk C F s.heap) (h : K b) (hn : Tp n) : Pst C s F (Gb K) b { s with toks := n } := pst_tok I f h hn
theorem pst_gb0 {K : Bool → Prop} {b : Bool} (I : Inv C s) (f : FzOk C F s.heap) (h : K b) (_ : Tp s.toks) : Pst C s F (Gb K) b s := pst_here I f h
theorem pst_bool {Q : V → Prop} {b : Bool} {n : Nat} (I : Inv C s) (f : FzOk C F s.heap) (h : Q (.bool b)) (hn : Tp n) : Pst C s F (Gv Q) (.bool b) { s with toks := n } := pst_tok I f ⟨_, .bool b, h⟩ hn
theorem pst_str {Q : V → Prop} {x : Str} {t : Tok} {n : Nat} {l : List Nat} (I : Inv C s) (f : FzOk C F s.heap) (h : Q (.str l)) (e : x = mkS l) (hn : Tp n) : Pst C s F (Gv Q) (.str x t) { s with toks := n } := by subst e; exact pst_tok I f ⟨_, .str l t, h⟩ hn
theorem sizeLine_big {n : Nat} (h : n ≤ 1000000) : n ≤ sizeLine := by rw [sizeLine_eq]; omega

theorem foldl_append_replicate {α : Type} (xs : Array α) : ∀ (k : Nat) (acc : Array α), (List.foldl (fun x y => x ++ y) acc (List.replicate k xs)).toList = acc.toList ++ (List.replicate k xs.toList).flatten
  | 0, acc => by simp
  | k + 1, acc => by
    rw [List.replicate_succ, List.foldl_cons, foldl_append_replicate xs k]
    simp [List.replicate_succ]
theorem RepL.replicate {vs : List Value} {ds : List V} (x : RepL F vs ds) : ∀ k : Nat, RepL F (List.replicate k vs).flatten (List.replicate k ds).flatten
  | 0 => .nil
  | k + 1 => by simpa [List.replicate_succ] using x.append (RepL.replicate x k)

theorem add_lists' {l b : Addr} {vs us : List Value} {n m : Nat} {a c : List V} {Q : V → Prop} (I : Inv C s) (f : FzOk C F s.heap) (ha : F l (lstObj vs n)) (la : RepL F vs a) (hb : F b (lstObj us m)) (lb : RepL F us c)
    (hz : a.length + c.length ≤ 1000000) (h : Q (.list (a ++ c))) : TrV C A (binaryOp .Add (.ref l) (.ref b)) s F Q := by
  refine tr_of I ?_
  have e1 := la.length
  have e2 := lb.length
  refine P.add_list (f.at' _ _ ha).1 (f.at' _ _ hb).1 (pst_push (n := s.toks) I f ⟨_, ?_, h⟩) (by rw [List.size_toArray, List.size_toArray, e1, e2]; exact sizeLine_big hz)
  exact .list (vs := vs ++ us) (n := 0) (.inr ⟨rfl, by simp [lstObj]⟩) ((la.append lb).mono fun _ _ e => .inl e)
theorem mul_list' {l : Addr} {vs : List Value} {n : Nat} {a : List V} {k : Int} {t : Tok} {Q : V → Prop} (I : Inv C s) (f : FzOk C F s.heap) (ha : F l (lstObj vs n)) (la : RepL F vs a)
    (h0 : 0 ≤ k) (h1 : k ≤ 1000) (h2 : a.length ≤ 1000) (h3 : Q (.list (List.replicate k.toNat a).flatten)) : TrV C A (binaryOp .Mult (.ref l) (.int k t)) s F Q := by
  refine tr_of I ?_
  have e1 := la.length
  have hl := (f.at' _ _ ha).1
  have hz : vs.toArray.size * k.toNat ≤ 2 ^ 24 := by
    rw [List.size_toArray, e1]
    have : a.length * k.toNat ≤ 1000 * 1000 := Nat.mul_le_mul h2 (by omega)
    omega
  refine wpAny_binaryOp_repeat_ref (T := "list") (U := "int") (by decide) ⟨_, hl, rfl⟩ (fun s' => typeIs_int s' k t) noFill_list_mul PySem.F.fills_int_mul PySem.F.slot_int_rmul repeat_list PySem.F.slot_int_index.lookup
    (call_meets PySem.F.slot_int_rmul (typeIs_int s k t) PySem.F.entry_int_rmul (PySem.F.args_int_rmul_2 _ _) (int___rmul___int_list k t _ vs.toArray n)
      ⟨hl, rfl, ⟨_, hl, rfl⟩, call_meets PySem.F.slot_list_mul ⟨_, hl, rfl⟩ PySem.F.entry_list_mul (PySem.F.args_list_mul_2 _ _)
        (AutoListH.list___mul___list_int_3 _ vs.toArray n k t (by simp [Builtin.List.listFitsIndex]; omega) (by omega) (by simp [Builtin.List.listTooLong, sizeLine] at hz ⊢; omega))
        ⟨hl, ?_⟩⟩)
  refine pst_push (n := s.toks) I f ⟨_, ?_, h3⟩
  refine .list (vs := (List.replicate k.toNat vs).flatten) (n := 0) (.inr ⟨rfl, ?_⟩) ((la.replicate _).mono fun _ _ e => .inl e)
  unfold lstObj
  congr 2
  apply Array.ext'
  rw [foldl_append_replicate]
  by_cases hv : vs = []
  · subst hv; simp
  · simp [hv]

theorem Rep.int_inv {v : Value} {i : Int} (r : Rep F v (.int i)) : ∃ t, v = .int i t := by cases r; exact ⟨_, rfl⟩
theorem Rep.str_inv {v : Value} {l : List Nat} (r : Rep F v (.str l)) : ∃ t, v = .str (mkS l) t := by cases r; exact ⟨_, rfl⟩
theorem Rep.bool_inv {v : Value} {b : Bool} (r : Rep F v (.bool b)) : v = .bool b := by cases r; rfl
theorem Rep.none_inv {v : Value} (r : Rep F v .none) : v = .none := by cases r; rfl
theorem Rep.raw_inv {v u : Value} (r : Rep F v (.raw u)) : v = u := by cases r; rfl
theorem Rep.list_inv {v : Value} {ds : List V} (r : Rep F v (.list ds)) : ∃ a vs n, v = .ref a ∧ F a (lstObj vs n) ∧ RepL F vs ds := by cases r; exact ⟨_, _, _, rfl, ‹_›, ‹_›⟩
theorem Rep.tuple_inv {v : Value} {ds : List V} (r : Rep F v (.tuple ds)) : ∃ a vs n, v = .ref a ∧ F a (tupObj vs n) ∧ RepL F vs ds := by cases r; exact ⟨_, _, _, rfl, ‹_›, ‹_›⟩
theorem int2_go {va vb : Value} {a b : V} {K : Int → Int → Prop} {P : Prop} (ra : Rep F va a) (rb : Rep F vb b) (h : int2 a b K) (g : ∀ i j t u, va = .int i t → vb = .int j u → K i j → P) : P := by
  obtain ⟨i, e1, h⟩ := int1_inv (K := fun i => int1 b fun j => K i j) h
  obtain ⟨j, e2, h⟩ := int1_inv h
  subst e1; subst e2
  obtain ⟨t, e⟩ := ra.int_inv
  obtain ⟨u, e'⟩ := rb.int_inv
  exact g i j t u e e' h
theorem addw_sound {va vb : Value} {a b : V} {Q : V → Prop} (I : Inv C s) (f : FzOk C F s.heap) (ra : Rep F va a) (rb : Rep F vb b) (h : addw a b Q) : TrV C A (binaryOp .Add va vb) s F Q := by
  cases a with
  | int i =>
    obtain ⟨j, rfl, h⟩ := int1_inv h
    obtain ⟨t, rfl⟩ := ra.int_inv
    obtain ⟨u, rfl⟩ := rb.int_inv
    exact tr_of I (add_int (pst_int I f h))
  | str x =>
    obtain ⟨y, rfl, h⟩ := str1_inv h
    obtain ⟨t, rfl⟩ := ra.str_inv
    obtain ⟨u, rfl⟩ := rb.str_inv
    exact tr_of I (add_str (fun t' tk => pst_str I f h.2 (mkS_append _ _)) (by rw [mkS_length, mkS_length]; exact sizeLine_big h.1))
  | list x =>
    obtain ⟨y, rfl, h⟩ := lst1_inv h
    obtain ⟨_, _, _, rfl, ha, la⟩ := ra.list_inv
    obtain ⟨_, _, _, rfl, hb, lb⟩ := rb.list_inv
    exact add_lists' I f ha la hb lb h.1 h.2
  | _ => exact h.elim
theorem mulw_sound {va vb : Value} {a b : V} {Q : V → Prop} (I : Inv C s) (f : FzOk C F s.heap) (ra : Rep F va a) (rb : Rep F vb b) (h : mulw a b Q) : TrV C A (binaryOp .Mult va vb) s F Q := by
  cases a with
  | int i =>
    obtain ⟨j, rfl, h⟩ := int1_inv h
    obtain ⟨t, rfl⟩ := ra.int_inv
    obtain ⟨u, rfl⟩ := rb.int_inv
    exact tr_of I (mul_int (pst_int I f h.2) (mul_ok h.1))
  | list x =>
    obtain ⟨y, rfl, h⟩ := int1_inv h
    obtain ⟨_, _, _, rfl, ha, la⟩ := ra.list_inv
    obtain ⟨u, rfl⟩ := rb.int_inv
    exact mul_list' I f ha la h.1 h.2.1 h.2.2.1 h.2.2.2
  | _ => exact h.elim
theorem binw_sound {op : Operator} {va vb : Value} {a b : V} {Q : V → Prop} (I : Inv C s) (f : FzOk C F s.heap) (ra : Rep F va a) (rb : Rep F vb b) (h : binw op a b Q) : TrV C A (binaryOp op va vb) s F Q := by
  cases op with
  | Add => exact addw_sound I f ra rb h
  | Mult => exact mulw_sound I f ra rb h
  | Sub => exact int2_go ra rb h fun _ _ _ _ e e' h => e ▸ e' ▸ tr_of I (sub_int' (pst_int I f h))
  | FloorDiv => exact int2_go ra rb h fun _ _ _ _ e e' h => e ▸ e' ▸ tr_of I (floordiv_int h.1 (pst_int I f h.2.2) (.inl (PyProof.noPylong_small (by omega))))
  | Mod => exact int2_go ra rb h fun _ _ _ _ e e' h => e ▸ e' ▸ tr_of I (mod_int' h.1 (pst_int I f h.2))
  | Pow => exact int2_go ra rb h fun _ _ _ _ e e' h => e ▸ e' ▸ tr_of I (pow_int_small h.1 (by omega) (by omega) (pst_int I f h.2.2.2))
  | BitAnd => exact int2_go ra rb h fun _ _ _ _ e e' h => e ▸ e' ▸ tr_of I (and_int (pst_int I f h))
  | BitOr => exact int2_go ra rb h fun _ _ _ _ e e' h => e ▸ e' ▸ tr_of I (or_int (pst_int I f h))
  | BitXor => exact int2_go ra rb h fun _ _ _ _ e e' h => e ▸ e' ▸ tr_of I (xor_int (pst_int I f h))
  | _ => exact h.elim

theorem unw_sound {op : UnaryOp} {va : Value} {a : V} {Q : V → Prop} (I : Inv C s) (f : FzOk C F s.heap) (ra : Rep F va a) (h : unw op a Q) : TrV C A (unaryOp op va) s F Q := by
  cases op with
  | USub =>
    obtain ⟨i, rfl, h⟩ := int1_inv h
    obtain ⟨t, rfl⟩ := ra.int_inv
    exact tr_of I (neg_int (pst_int I f h))
  | Invert =>
    obtain ⟨i, rfl, h⟩ := int1_inv h
    obtain ⟨t, rfl⟩ := ra.int_inv
    exact tr_of I (invert_int (pst_int I f h))
  | _ => exact h.elim

theorem isEmpty_toArray {α : Type} {l : List α} {m : List β} (e : l.length = m.length) : l.toArray.isEmpty = m.isEmpty := by
  cases l <;> cases m <;> simp_all
theorem isEmpty_len {n : Nat} {l : List Nat} (e : n = l.length) : ((n : Int) != 0) = !l.isEmpty := by
  subst e
  cases l with
  | nil => rfl
  | cons _ _ => rfl
theorem truthw_sound {va : Value} {a : V} {K : Bool → Prop} (I : Inv C s) (f : FzOk C F s.heap) (ra : Rep F va a) (h : truthw a K) : Tr C A (truthy va) s F (Gb K) := by
  refine tr_of I ?_
  cases a with
  | none => obtain rfl := ra.none_inv; exact wpAny_pure (pst_gb0 I f h)
  | bool b => obtain rfl := ra.bool_inv; exact wpAny_truthy_bool (pst_gb0 I f h)
  | int i => obtain ⟨t, rfl⟩ := ra.int_inv; exact truthy_int (pst_gb0 I f h)
  | str l =>
    obtain ⟨t, rfl⟩ := ra.str_inv
    refine SBL.truthy (by rw [mkS_length]; have := h.1; omega) (pst_gb I f ?_)
    rw [isEmpty_len (mkS_length l)]; exact h.2
  | tuple l =>
    obtain ⟨_, _, _, rfl, ha, la⟩ := ra.tuple_inv
    refine truthy_tuple (f.isTup ha) (by rw [List.size_toArray, la.length]; have := h.1; omega) (pst_gb I f ?_)
    rw [isEmpty_toArray la.length]; exact h.2
  | list l =>
    obtain ⟨_, _, _, rfl, ha, la⟩ := ra.list_inv
    refine wpAny_truthy_list (f.isList ha) (by rw [List.size_toArray, la.length]; have := h.1; omega) (pst_gb I f ?_)
    rw [isEmpty_toArray la.length]; exact h.2
  | raw _ => exact h.elim

theorem veq_comm_any (ds : List V) (x : V) : (toPys ds).any (fun y => PyData.eqv y (toPy x)) = ds.any fun y => veq y x := by
  rw [toPys_map, List.any_map]; rfl
theorem depth_all {ds : List V} (h : ds.all (vok 8) = true) : PyData.canLayAll0 (toPys ds) = true ∧ PyData.depthAll (toPys ds) ≤ 9 := by
  have q := lay_of 9 (.list ds) (by simpa [vok] using h)
  rw [toPy] at q
  simp only [PyData.canLay0, PyData.depth] at q
  exact ⟨q.1, by have := q.2; omega⟩
theorem eq_sound {va vb : Value} {a b : V} (R : Room r A) (f : FzOk C F s.heap) (ra : Rep F va a) (rb : Rep F vb b) (h1 : vok 8 a = true) (h2 : vok 8 b = true) {Q : Value → Shared → Prop} {E : Value → Shared → Prop} (h : Q (.bool (veq a b)) s) :
    wpAny (model C.prog C.w) A (compareOp .Eq va vb) Q E s := by
  obtain ⟨_, qa⟩ := reads_of f 8 ra h1
  obtain ⟨_, qb⟩ := reads_of f 8 rb h2
  have la := lay_of 8 a h1
  have lb := lay_of 8 b h2
  exact SeqAt.compareEq_reads qa qb la.1 lb.1 (by have := R.u; omega) h
theorem ne_sound {va vb : Value} {a b : V} (R : Room r A) (f : FzOk C F s.heap) (ra : Rep F va a) (rb : Rep F vb b) (h1 : vok 8 a = true) (h2 : vok 8 b = true) {Q : Value → Shared → Prop} {E : Value → Shared → Prop} (h : Q (.bool (!veq a b)) s) :
    wpAny (model C.prog C.w) A (compareOp .NotEq va vb) Q E s := by
  obtain ⟨_, qa⟩ := reads_of f 8 ra h1
  obtain ⟨_, qb⟩ := reads_of f 8 rb h2
  have la := lay_of 8 a h1
  have lb := lay_of 8 b h2
  exact SeqAt.compareNe_reads qa qb la.1 lb.1 (by have := R.u; omega) h

theorem strIn_one (c : Nat) (y : List Nat) : strIn [c] y = decide (c ∈ y) := by
  unfold strIn
  have := StrLaws.found_one (mkS y) c
  rw [mkS_length] at this
  rw [show mkS [c] = ⟨#[c]⟩ from rfl, this]
  exact decide_eq_decide.mpr (by simp [mkS])
theorem inL_out {x y : List Nat} {K : Bool → Prop} (h : inL x y K) : K (strIn x y) := by
  unfold inL at h
  match x, h with
  | [], h => exact h
  | [c], h => rw [strIn_one]; exact h
  | _ :: _ :: _, h => exact h
theorem eqv_int {i j : Int} : veq (.int i) (.int j) = decide (i = j) := by unfold veq toPy; rw [PyData.eqv]; rfl
theorem eqv_str {x y : List Nat} : veq (.str x) (.str y) = decide (x = y) := by
  unfold veq toPy; rw [PyData.eqv]
  by_cases h : x = y
  · simp [h]
  · have : mkS x ≠ mkS y := fun e => h (mkS_inj.mp e)
    simp [h, this]
theorem eqv_bool {p q : Bool} : veq (.bool p) (.bool q) = decide (p = q) := by unfold veq toPy; rw [PyData.eqv]; cases p <;> cases q <;> rfl
theorem eqw_out {a b : V} {K : Bool → Prop} (h : eqw a b K) : vok 8 a = true ∧ vok 8 b = true ∧ K (veq a b) := by
  cases a with
  | int i => obtain ⟨j, rfl, h⟩ := int1_inv h; exact ⟨rfl, rfl, eqv_int ▸ h⟩
  | str x => obtain ⟨y, rfl, h1, h2, h⟩ := str1_inv h; exact ⟨h1, h2, eqv_str ▸ h⟩
  | bool p => cases b with
    | bool q => exact ⟨rfl, rfl, eqv_bool ▸ h⟩
    | _ => exact h.elim
  | _ => exact h

abbrev Cq (K : Bool → Prop) : V → Prop := fun d => ∃ c, d = .bool c ∧ K c
theorem ordw_sound {op : CmpOp} {va vb : Value} {a b : V} {K : Bool → Prop} {fi : Int → Int → Bool} {g : List Nat → List Nat → Bool}
    (h1 : ∀ {i j t u Q} {E : Value → Shared → Prop}, Q (.bool (fi i j)) s → wpAny (model C.prog C.w) A (compareOp op (.int i t) (.int j u)) Q E s) (h2 : ∀ {x y t u Q} {E : Value → Shared → Prop}, Q (.bool (g x y)) s → wpAny (model C.prog C.w) A (compareOp op (.str (mkS x) t) (.str (mkS y) u)) Q E s)
    (I : Inv C s) (f : FzOk C F s.heap) (ra : Rep F va a) (rb : Rep F vb b) (h : ordw fi g a b K) : TrV C A (compareOp op va vb) s F (Cq K) := by
  cases a with
  | int i =>
    obtain ⟨j, rfl, h⟩ := int1_inv h
    obtain ⟨t, rfl⟩ := ra.int_inv
    obtain ⟨u, rfl⟩ := rb.int_inv
    exact h1 (pst_here I f ⟨_, .bool _, _, rfl, h⟩)
  | str x =>
    obtain ⟨y, rfl, h⟩ := str1_inv h
    obtain ⟨t, rfl⟩ := ra.str_inv
    obtain ⟨u, rfl⟩ := rb.str_inv
    exact h2 (pst_here I f ⟨_, .bool _, _, rfl, h⟩)
  | _ => exact h.elim
theorem inw_sound {va vb : Value} {a b : V} {K : Bool → Prop} (R : Room r A) (I : Inv C s) (f : FzOk C F s.heap) (ra : Rep F va a) (rb : Rep F vb b) (neg : Bool) (h : inw a b fun c => K (cond neg (!c) c)) :
    TrV C A (compareOp (if neg then .NotIn else .In) va vb) s F (Cq K) := by
  have fin : ∀ {c n}, K c → Tp n → Pst C s F (Gv (Cq K)) (.bool c) { s with toks := n } := fun h hn => pst_bool I f ⟨_, rfl, h⟩ hn
  have both : ∀ {ds : List V}, vok 8 a = true → ds.all (vok 8) = true → ∃ as, Reads s.heap va (toPy a) as ∧ (toPy a).canLay0 = true ∧ PyData.canLayAll0 (toPys ds) = true ∧ (toPy a).depth + PyData.depthAll (toPys ds) ≤ 17 := fun h1 h2 =>
    let ⟨as, qa⟩ := reads_of f 8 ra h1
    ⟨as, qa, (lay_of 8 _ h1).1, (depth_all h2).1, Nat.add_le_add (lay_of 8 _ h1).2 (depth_all h2).2⟩
  have hu := R.u
  refine tr_of I ?_
  cases b with
  | str y =>
    obtain ⟨x, rfl, h⟩ := str1_inv h
    obtain ⟨t, rfl⟩ := ra.str_inv
    obtain ⟨u, rfl⟩ := rb.str_inv
    have h : K (cond neg (!(strIn x y)) (strIn x y)) := inL_out (K := fun c => K (cond neg (!c) c)) h
    unfold strIn at h
    rw [← mkS_length y] at h
    cases neg
    · exact in_str (fin h)
    · exact notIn_str (fin h)
  | list ds =>
    obtain ⟨h1, h2, h3⟩ := h
    obtain ⟨_, qa, q1, q2, q3⟩ := both h1 h2
    obtain ⟨_, qb⟩ := reads_of f 9 rb (by simpa [vok] using h2)
    rw [toPy] at qb
    rw [← veq_comm_any] at h3
    cases neg
    · exact SeqAt.in_list_reads qb qa q2 q1 (by omega) (fin h3)
    · exact SeqAt.notIn_list_reads qb qa q2 q1 (by omega) (fin h3)
  | tuple ds =>
    obtain ⟨h1, h2, h3⟩ := h
    obtain ⟨_, qa, q1, q2, q3⟩ := both h1 h2
    obtain ⟨_, qb⟩ := reads_of f 9 rb (by simpa [vok] using h2)
    rw [toPy] at qb
    rw [← veq_comm_any] at h3
    cases neg
    · exact SeqAt.in_tuple_reads qb qa q2 q1 (by omega) (fin h3)
    · exact SeqAt.notIn_tuple_reads qb qa q2 q1 (by omega) (fin h3)
  | _ => exact h.elim
theorem isw_sound {va vb : Value} {a b : V} {K : Bool → Prop} (I : Inv C s) (f : FzOk C F s.heap) (ra : Rep F va a) (rb : Rep F vb b) (neg : Bool) (h : isw a b fun c => K (cond neg (!c) c)) :
    TrV C A (compareOp (if neg then .IsNot else .Is) va vb) s F (Cq K) := by
  obtain ⟨y, rfl, h2⟩ := raw1_inv h; clear h
  obtain rfl := rb.raw_inv
  refine tr_of I ?_
  have fin : ∀ {c n}, K c → Tp n → Pst C s F (Gv (Cq K)) (.bool c) { s with toks := n } := fun h hn => pst_bool I f ⟨_, rfl, h⟩ hn
  cases a with
  | str x =>
    obtain ⟨t, rfl⟩ := ra.str_inv
    cases neg
    · exact wpAny_is_other rfl (by intro e; cases e) (fin h2)
    · exact wpAny_isNot_other rfl (by intro e; cases e) (fin h2)
  | raw v =>
    obtain ⟨x, e, hxy, h3⟩ := raw1_inv (P := fun x => x = y ∧ K (cond neg (!true) true)) h2; clear h2
    subst hxy
    cases e
    obtain rfl := ra.raw_inv
    cases neg
    · exact wpAny_is_ref_self (fin h3)
    · exact wpAny_isNot_ref_self (fin h3)
  | _ => exact h2.elim
theorem cmpw_sound {op : CmpOp} {va vb : Value} {a b : V} {K : Bool → Prop} (R : Room r A) (I : Inv C s) (f : FzOk C F s.heap) (ra : Rep F va a) (rb : Rep F vb b) (h : cmpw op a b K) :
    TrV C A (compareOp op va vb) s F (Cq K) := by
  cases op with
  | Lt => exact ordw_sound lt_int lt_str I f ra rb h
  | LtE => exact ordw_sound le_int PySem.P.le_str I f ra rb h
  | Gt => exact ordw_sound gt_int PySem.P.gt_str I f ra rb h
  | GtE => exact int2_go ra rb h fun _ _ _ _ e e' h => e ▸ e' ▸ ge_int (pst_here I f ⟨_, .bool _, _, rfl, h⟩)
  | Eq => exact let h := eqw_out (K := K) h; eq_sound R f ra rb h.1 h.2.1 (pst_here I f ⟨_, .bool _, _, rfl, h.2.2⟩)
  | NotEq => exact let h := eqw_out (K := fun c => K (!c)) h; ne_sound R f ra rb h.1 h.2.1 (pst_here I f ⟨_, .bool _, _, rfl, h.2.2⟩)
  | In => exact inw_sound R I f ra rb false h
  | NotIn => exact inw_sound R I f ra rb true h
  | Is => exact isw_sound I f ra rb false h
  | IsNot => exact isw_sound I f ra rb true h

theorem seqIndex_ixOf {i : Int} {n k : Nat} (h : ixOf i n = some k) : seqIndex? i n = some k := by
  unfold ixOf at h
  split at h
  · split at h
    · cases h; exact seqIndex_of (by omega) (by omega)
    · cases h
  · split at h
    · cases h; exact seqIndex_neg (by omega) (by omega)
    · cases h
theorem ixOf_range {i : Int} {n k : Nat} (h : ixOf i n = some k) : -(n : Int) ≤ i ∧ i < n ∧ k < n := by
  unfold ixOf at h
  split at h
  · split at h
    · cases h; omega
    · cases h
  · split at h
    · cases h; omega
    · cases h
theorem itemw_sound {vo vi : Value} {o i : V} {Q : V → Prop} (I : Inv C s) (f : FzOk C F s.heap) (ra : Rep F vo o) (rb : Rep F vi i) (h : itemw o i Q) : TrV C A (getItem vo vi) s F Q := by
  refine tr_of I ?_
  obtain ⟨j, rfl, h⟩ := int1_inv h
  obtain ⟨t, rfl⟩ := rb.int_inv
  cases o with
  | str l =>
    obtain ⟨u, rfl⟩ := ra.str_inv
    obtain ⟨h1, k, c, h2, h3, h4⟩ := h
    have hr := ixOf_range h2
    refine getItem_str (c := c) (by simp only [Bool.or_eq_false_iff, decide_eq_false_iff_not]; omega) ?_ (pst_str I f h4 rfl)
    rw [mkS_length, seqIndex_ixOf h2, Option.bind_some]
    simpa [mkS] using h3
  | list l =>
    obtain ⟨_, vs, _, rfl, ha, la⟩ := ra.list_inv
    obtain ⟨h1, k, d, h2, h3, h4⟩ := h
    have hr := ixOf_range h2
    obtain ⟨v, hv, rv⟩ := la.get k d h3
    have e := la.length
    have fin := pst_here' I f (Q := Gv Q) (a := v) ⟨_, rv, h4⟩
    by_cases hj : 0 ≤ j
    · have : j.toNat = k := by unfold ixOf at h2; rw [if_pos hj, if_pos hr.2.1] at h2; exact Option.some.inj h2
      exact wpAny_getItem_list (f.isList ha) hj (by omega) (by rw [this]; simpa using hv) fin
    · have : (j + vs.toArray.size).toNat = k := by unfold ixOf at h2; rw [if_neg hj, if_pos hr.1] at h2; rw [List.size_toArray, e]; exact Option.some.inj h2
      exact wpAny_getItem_list_neg (f.isList ha) (by omega) (by rw [List.size_toArray, e]; omega) (by omega) (by rw [this]; simpa using hv) fin
  | tuple l =>
    obtain ⟨_, vs, _, rfl, ha, la⟩ := ra.tuple_inv
    obtain ⟨h1, k, d, h2, h3, h4⟩ := h
    have hr := ixOf_range h2
    obtain ⟨v, hv, rv⟩ := la.get k d h3
    exact getItem_tuple (f.isTup ha) (by omega) (by omega) (by rw [List.size_toArray, la.length]; exact seqIndex_ixOf h2) (by simpa using hv) (pst_here' I f ⟨_, rv, h4⟩)
  | _ => exact h.elim
end

def joinL (sep : List Nat) : List (List Nat) → List Nat
  | [] => []
  | [x] => x
  | x :: y :: r => x ++ sep ++ joinL sep (y :: r)
def strsOf : List V → Option (List (List Nat))
  | [] => some []
  | .str x :: r => (strsOf r).map (x :: ·)
  | _ :: _ => none
def joinw (sep : List Nat) (a : V) (Q : V → Prop) : Prop := lst1 a fun ds => sep.length ≤ 16 ∧ ∃ ls, strsOf ds = some ls ∧ (ls.map (·.length)).sum + ls.length ≤ 1000000 ∧ Q (.str (joinL sep ls))
def lenw (a : V) (Q : V → Prop) : Prop :=
  match a with
  | .str l => l.length ≤ 1000000 ∧ Q (.int l.length)
  | .list l => l.length ≤ 1000000 ∧ Q (.int l.length)
  | _ => False
def rangeL (a b c : Int) : List Int := (List.range (Builtin.Range.rangeSize a b c).toNat).map fun (i : Nat) => a + (i : Int) * c
def itemsw (d : V) (Q : List V → Prop) : Prop :=
  match d with
  | .list ds => ds.length ≤ 1000000 ∧ Q ds
  | .tuple ds => ds.length ≤ 1000000 ∧ Q ds
  | _ => False
def partw (d : V) (Q : Option Int → Prop) : Prop :=
  match d with
  | .none => Q none
  | .int i => i.natAbs < 2 ^ 60 ∧ Q (some i)
  | _ => False

def QuietT (T : String) : Bool := !(["enumerate", "zip", "dict_itemiterator", "dict_reverseitemiterator", "odict_iterator", "itertools.zip_longest", "itertools.pairwise"].contains T)
/-- an iterator that walks over ds -/
structure ItOk (C : Cx) (h0 : Heap) (F : Fz) (h : Heap) (I : Addr) (fp : List Addr) (n : Nat) (P : Nat → Value → Prop) (St : Nat → Heap → Prop) (ds : List V) : Prop where
  W : ∀ A' : Around, A'.handled = none → Walks C.prog C.w A' I fp [I] n P St
  st : St 0 h
  sz : n ≤ sizeLine
  lo : h0.get? I = none
  nf : ∀ o, ¬ F I o
  fp : ∀ b ∈ fp, b = I ∨ ∃ o, F b o
  len : ds.length = n
  val : ∀ i v, P i v → ∃ d, ds[i]? = some d ∧ Rep F v d
  quiet : ∀ i h, St i h → ∃ o T, h.get? I = some o ∧ o.cls = .type T ∧ QuietT T = true
abbrev ItPost (C : Cx) (h0 : Heap) (fl : Bool) (Q : List V → Prop) : Value → Shared → Fz → Prop := fun it s' F' => ∃ I fp n P St ds, it = .ref I ∧ ItOk C h0 F' s'.heap I fp n P St ds ∧ (fl = true → fp = [I] ∧ ∀ d ∈ ds, d.flat = true) ∧ Q ds

section
variable {C : Cx} {A : Around} {s : Shared} {F : Fz} {r : Nat}

theorem strsOf_rep : ∀ {vs : List Value} {ds : List V} {ls : List (List Nat)}, RepL F vs ds → strsOf ds = some ls → ∃ l : List (Str × Tok), strValues l = vs ∧ l.map (·.1) = ls.map mkS
  | _, _, _, .nil, h => by simp [strsOf] at h; subst h; exact ⟨[], rfl, rfl⟩
  | _, _, _, .cons (d := .str x) hd r, h => by
    simp only [strsOf, Option.map_eq_some_iff] at h
    obtain ⟨ls, h1, rfl⟩ := h
    obtain ⟨l, h2, h3⟩ := strsOf_rep r h1
    cases hd with
    | str _ t => exact ⟨(mkS x, t) :: l, by simp [strValues] at h2 ⊢; exact h2, by simp [h3]⟩
  | _, _, _, .cons (d := .none) hd r, h => by simp [strsOf] at h
  | _, _, _, .cons (d := .bool _) hd r, h => by simp [strsOf] at h
  | _, _, _, .cons (d := .int _) hd r, h => by simp [strsOf] at h
  | _, _, _, .cons (d := .tuple _) hd r, h => by simp [strsOf] at h
  | _, _, _, .cons (d := .list _) hd r, h => by simp [strsOf] at h
  | _, _, _, .cons (d := .raw _) hd r, h => by simp [strsOf] at h
theorem join_mk (sep : List Nat) : ∀ ls : List (List Nat), Str.join (mkS sep) (ls.map mkS) = mkS (joinL sep ls)
  | [] => rfl
  | [x] => rfl
  | x :: y :: r => by
    have ih := join_mk sep (y :: r)
    simp only [List.map_cons] at ih ⊢
    rw [Str.join, joinL, ih, mkS_append, mkS_append]
    intro h; cases h
theorem sum_mk (ls : List (List Nat)) : ((ls.map mkS).map (·.length)).sum = (ls.map (·.length)).sum := by
  rw [List.map_map]; rfl
theorem join_sound {vo va : Value} {sep : List Nat} {a : V} {Q : V → Prop} (I : Inv C s) (f : FzOk C F s.heap) (ro : Rep F vo (.str sep)) (ra : Rep F va a) (h : joinw sep a Q) : TrV C A (call (.builtin "str.join") [vo, va]) s F Q := by
  obtain ⟨ds, rfl, h1, ls, h2, h3, h4⟩ := lst1_inv h
  obtain ⟨t, rfl⟩ := ro.str_inv
  obtain ⟨_, vs, _, rfl, ha, la⟩ := ra.list_inv
  obtain ⟨l, h5, h6⟩ := strsOf_rep la h2
  refine tr_of I (SC.join (l := l) (texts := ls.map mkS) (h5 ▸ f.isList ha) h6 (joinOk_of_weight (by rw [sum_mk, List.length_map]; omega) (by rw [mkS_length]; exact h1)) fun t' k => ?_)
  refine pst_str I f h4 ?_
  unfold Txt.join
  rw [StrLaws.glued_eq_join, join_mk]
theorem len_sound {va : Value} {a : V} {Q : V → Prop} (I : Inv C s) (f : FzOk C F s.heap) (ra : Rep F va a) (h : lenw a Q) : TrV C A (call (.builtin "len") [va]) s F Q := by
  refine tr_of I ?_
  cases a with
  | str l =>
    obtain ⟨t, rfl⟩ := ra.str_inv
    exact PySem.P.len_str (by rw [mkS_length]; have := h.1; omega) (pst_int I f (by rw [mkS_length]; exact h.2))
  | list l =>
    obtain ⟨_, vs, _, rfl, ha, la⟩ := ra.list_inv
    exact PySem.Calls.call_len_list (f.isList ha) (by rw [List.size_toArray, la.length]; have := h.1; omega) (pst_int I f (by rw [List.size_toArray, la.length]; exact h.2))
  | _ => exact h.elim

theorem quiet_go {elts : List Expr} {k : Nat} {pos : Pos} {it v : Value} {o : Obj} {T : String} {I : Addr} {Q : Unit → Shared → Prop} {E : Value → Shared → Prop} (hit : it = .ref I) (ho : s.heap.get? I = some o) (hc : o.cls = .type T) (hq : QuietT T = true) (h : Q () s) {M : Model} :
    wpAny M A (letOwnedTupleGo (.Tuple elts k pos) it v) Q E s := by
  subst hit
  unfold letOwnedTupleGo
  cases v with
  | ref a =>
    refine wpAny_bind (wpAny_load ho ?_)
    rw [hc]
    simp only [QuietT, Bool.not_eq_true'] at hq
    cases o.data <;> first | exact wpAny_pure h | skip
    dsimp only
    rw [hq, Bool.false_and]
    exact wpAny_pure h
  | _ => exact wpAny_pure h

/-- the iterator of a list or a tuple -/
theorem iter_sound {v : Value} {d : V} {Q : List V → Prop} (R : Room r A) (I : Inv C s) (f : FzOk C F s.heap) (rv : Rep F v d) (h : itemsw d Q) : Tr C A (pyIter v) s F (ItPost C s.heap false Q) := by
  refine tr_of I ?_
  have nf : ∀ o, ¬ F s.heap.objs.size o := fun o e => Nat.lt_irrefl _ (Heap.lt_size (f.at' _ _ e).1)
  have fpq : ∀ {a o}, F a o → ∀ b ∈ [s.heap.objs.size, a], b = s.heap.objs.size ∨ ∃ o, F b o := fun ha b hb => by
    rcases List.mem_cons.mp hb with q | q
    · exact .inl q
    · exact .inr ⟨_, (List.mem_singleton.mp q) ▸ ha⟩
  cases d with
  | list ds =>
    obtain ⟨_, vs, _, rfl, ha, la⟩ := rv.list_inv
    have e := la.length
    have hlt := Heap.lt_size (f.at' _ _ ha).1
    refine wpAny_pyIter_list (f.isList ha) fun hn => pst_push0 I f ?_ hn
    refine ⟨_, _, _, _, _, _, rfl, ⟨fun _ hh => Walks.list hh _ _ (Nat.ne_of_lt hlt) _, ⟨⟨_, Heap.get?_push_size _ rfl, rfl, rfl⟩, (f.isList ha).at fun _ e => Heap.get?_push_of_some _ e⟩, by rw [List.size_toArray, e]; exact sizeLine_big h.1, get_size _, nf, fpq ha,
      by rw [List.size_toArray, e], fun i u hu => la.getV i u (by simpa using hu), fun i h' ⟨⟨o, q, w, _⟩, _⟩ => ⟨o, _, q, w, by decide⟩⟩, (fun h => by cases h), h.2⟩
  | tuple ds =>
    obtain ⟨_, vs, _, rfl, ha, la⟩ := rv.tuple_inv
    have e := la.length
    have hlt := Heap.lt_size (f.at' _ _ ha).1
    refine wpAny_pyIter_tuple ⟨_, (f.at' _ _ ha).1, rfl, _, rfl⟩ fun hn => pst_push0 I f ?_ hn
    refine ⟨_, _, _, _, _, _, rfl, ⟨fun _ hh => Walks.tuple hh _ _ (Nat.ne_of_lt hlt) _, ⟨⟨_, Heap.get?_push_size _ rfl, rfl, rfl⟩, ⟨_, Heap.get?_push_of_some _ (f.at' _ _ ha).1, rfl, _, rfl⟩⟩, by rw [List.size_toArray, e]; exact sizeLine_big h.1, get_size _, nf, fpq ha,
      by rw [List.size_toArray, e], fun i u hu => la.getV i u (by simpa using hu), fun i h' ⟨⟨o, q, w, _⟩, _⟩ => ⟨o, _, q, w, by decide⟩⟩, (fun h => by cases h), h.2⟩
  | _ => exact h.elim

theorem range_iter {l : Addr} {a b c : Int} {t u w : Tok} {Q : List V → Prop} (R : Room r A) (I : Inv C s) (f : FzOk C F s.heap) (hr : IsRange s.heap l a b c t u w) (hs : Builtin.Range.small a b c = true) (h0 : 0 ≤ Builtin.Range.rangeSize a b c) (hz : Builtin.Range.rangeSize a b c ≤ 1000000)
    (h : Q ((rangeL a b c).map V.int)) : Tr C A (pyIter (.ref l)) s F (ItPost C s.heap true Q) := by
  refine tr_of I ?_
  have nf : ∀ o, ¬ F s.heap.objs.size o := fun o e => Nat.lt_irrefl _ (Heap.lt_size (f.at' _ _ e).1)
  refine wpAny_pyIter_range hr hs fun hn => pst_push0 I f ?_ hn
  obtain ⟨n, hn⟩ := Int.eq_ofNat_of_zero_le h0
  refine ⟨_, _, _, _, _, _, rfl, ⟨fun _ hh => (Walks.range hh _ a c n).bound, ?_, ?_, get_size _, nf, ?_, ?_, ?_, ?_⟩, (fun _ => ⟨rfl, fun d hd => by obtain ⟨i, _, rfl⟩ := List.mem_map.mp hd; rfl⟩), h⟩
  · show IsRangeIter _ _ (a + ((0 : Nat) : Int) * c) ((n : Int) - ((0 : Nat) : Int)) c
    rw [show (a + ((0 : Nat) : Int) * c) = a by simp, show ((n : Int) - ((0 : Nat) : Int)) = Builtin.Range.rangeSize a b c by rw [hn]; simp]
    exact Heap.get?_push_size _ rfl
  · exact sizeLine_big (by omega)
  · intro b hb; exact .inl (List.mem_singleton.mp hb)
  · simp [rangeL, hn]
  · rintro i v ⟨hi, t, rfl⟩
    refine ⟨.int (a + i * c), ?_, .int _ _⟩
    simp [rangeL, hn, hi]
  · intro i h' st; exact ⟨_, _, st, rfl, by decide⟩
end

section
variable {C : Cx} {A : Around} {s s₀ s₁ s₂ s' : Shared} {F F₀ F' : Fz} {r : Nat}

/-- private objects (unknown to the base) changed -/
theorem Inv.upd (I0 : Inv C s₀) (I : Inv C s) {S : Addr → Prop} (ha : ∀ a, S a → s₀.heap.get? a = none) (hk : ∀ b o, ¬ S b → s.heap.get? b = some o → s'.heap.get? b = some o)
    (hg : s'.gens = s.gens) (ho : s'.os = s.os) (ht : Tp s'.toks) : Inv C s' := by
  have ne : ∀ {b : Addr} {o : Obj}, s₀.heap.get? b = some o → ¬ S b := by intro b o e q; rw [ha b q] at e; cases e
  have nsx : ∀ {b : Addr} {m : Str → Option Value}, s₀.heap.Ns b m → ¬ S b := fun ⟨_, _, _, e, _⟩ => ne e
  refine ⟨I.g.at' fun o e => hk _ o (nsx I0.g) e, I.b.at' fun o e => hk _ o (nsx I0.b) e, I.bi, ?_, ?_, hg ▸ I.gens, ho.trans I.os, ht, fun b o e => ⟨hk _ _ (ne (I0.k b o e).1) (I.k b o e).1, (I.k b o e).2⟩, ?_⟩
  · obtain ⟨mc0, hc0, _⟩ := I0.lim
    obtain ⟨mc, hc, h⟩ := I.lim
    exact ⟨mc, hc.at' fun o e => hk _ o (nsx hc0) e, h⟩
  · obtain ⟨ps0, ⟨_, _, _, _, _, _, _, _, _, _, c1, _, _, _, _, _, _, c2, _⟩, _, _⟩ := I0.tab
    obtain ⟨ps, ⟨o, vs, file, tf, flags, tg, inF, text, tt, op, a1, r1, r2, r3, r4, r5, r6, b1, r⟩, h2, ⟨⟨o', vs', a2, r'⟩, t⟩⟩ := I.tab
    exact ⟨ps, ⟨o, vs, file, tf, flags, tg, inF, text, tt, op, hk _ _ (ne c1) a1, r1, r2, r3, r4, r5, r6, hk _ _ (ne c2) b1, r⟩, hk _ _ (ne c2) h2, ⟨⟨o', vs', hk _ _ (ne c1) a2, r'⟩, hk _ _ (ne c2) t⟩⟩
  · obtain ⟨bm0, ob0, e0, _, _, x0, _⟩ := I0.bm
    obtain ⟨bm, ob, e, h1, h2, h3, h4⟩ := I.bm
    rw [e0] at e; cases e
    exact ⟨bm0, ob, e0, h1, h2, hk _ _ (ne x0) h3, h4⟩

/-- where a run stands, seen from its base -/
structure Bk (C : Cx) (s₀ : Shared) (F₀ : Fz) (s : Shared) (F : Fz) : Prop where
  i0 : Inv C s₀
  inv : Inv C s
  kp : Kp C s₀ s
  fx : Fx C F₀ F s₀ s
theorem Bk.f (B : Bk C s₀ F₀ s F) : FzOk C F s.heap := B.fx.ok
theorem Bk.start (I : Inv C s) (f : FzOk C F s.heap) : Bk C s F s F := ⟨I, I, Kp.refl _ _, Fx.refl f⟩
theorem Bk.go (B : Bk C s₀ F₀ s F) (i : Inv C s') (k : Kp C s s') (x : Fx C F F' s s') : Bk C s₀ F₀ s' F' := ⟨B.i0, i, B.kp.trans k, B.fx.trans x B.kp⟩
theorem Bk.pst {α : Type} {Q : α → Shared → Fz → Prop} {a : α} (B : Bk C s₀ F₀ s F) (h : Pst C s F Q a s') : ∃ F', Bk C s₀ F₀ s' F' ∧ Kp C s s' ∧ Fx C F F' s s' ∧ Q a s' F' :=
  let ⟨i, k, F', x, q⟩ := h; ⟨F', B.go i k x, k, x, q⟩
theorem Bk.upd (B : Bk C s₀ F₀ s F) {S : Addr → Prop} (ha : ∀ a, S a → s₀.heap.get? a = none) (hF : ∀ a o, S a → ¬ F a o) (hk : ∀ b o, ¬ S b → s.heap.get? b = some o → s'.heap.get? b = some o)
    (hg : s'.gens = s.gens) (ho : s'.os = s.os) (ht : Tp s'.toks) : Bk C s₀ F₀ s' F :=
  ⟨B.i0, B.i0.upd B.inv ha hk hg ho ht, fun b o hb e => hk b o (fun q => by rw [ha b q] at e; cases e) (B.kp b o hb e),
    ⟨B.fx.le, B.fx.new, ⟨fun b o e => ⟨hk b o (fun q => hF b o q e) (B.f.at' b o e).1, (B.f.at' b o e).2⟩, B.f.k⟩⟩⟩
theorem Bk.toPst {α : Type} {Q : α → Shared → Fz → Prop} {a : α} (B : Bk C s₀ F₀ s F) (h : Q a s F) : Pst C s₀ F₀ Q a s := ⟨B.inv, B.kp, F, B.fx, h⟩
theorem Inv.freshNe (I : Inv C s) {a : Addr} (ha : s.heap.get? a = none) : a ≠ C.P := by
  rintro rfl; obtain ⟨_, _, e, _⟩ := I.tab; rw [ha] at e; cases e
/-- what is private stays private -/
theorem Fx.priv (x : Fx C F F' s s') {a : Addr} {o : Obj} (h : ∀ o, ¬ F a o) (e : s.heap.get? a = some o) : ∀ o, ¬ F' a o := fun o' e' =>
  (x.new a o' e').elim (h o') fun q => by rw [e] at q; cases q
/-- freezing a private object -/
theorem Bk.freeze (B : Bk C s₀ F₀ s F) {a : Addr} {o : Obj} (ha : s₀.heap.get? a = none) (e : s.heap.get? a = some o) : Bk C s₀ F₀ s (F.add a o) :=
  ⟨B.i0, B.inv, B.kp, ⟨fun b x q => .inl (B.fx.le b x q), fun b x q => q.elim (fun q => B.fx.new b x q) fun ⟨q, _⟩ => .inr (q ▸ ha),
    ⟨fun b x q => q.elim (fun q => B.f.at' b x q) fun ⟨q, w⟩ => by subst q; subst w; exact ⟨e, B.i0.freshNe ha⟩, fun b x q => .inl (B.f.k b x q)⟩⟩⟩

/-! # Comprehensions -/
theorem forIn_fold {α β : Type} {f : α → β → Sem (ForInStep β)} (g : α → β → β) : ∀ (l : List α) (b : β), (∀ x ∈ l, ∀ b, f x b = pure (.yield (g x b))) → forIn l b f = pure (l.foldl (fun b x => g x b) b)
  | [], b, _ => rfl
  | x :: l, b, h => by
    rw [List.forIn_cons, h x List.mem_cons_self, pure_bind]
    exact forIn_fold g l _ fun y hy => h y (List.mem_cons_of_mem _ hy)
def clStep (env : Env) (x : Str × NameKind) (cs : List (Str × Addr)) : List (Str × Addr) := if x.2 == .free then (x.1, (env.cells.lookup x.1).getD 0) :: cs else cs
def clOf (env : Env) (names : List (Str × NameKind)) : List (Str × Addr) := names.foldl (fun cs x => clStep env x cs) []
theorem closureFor_cl {scope : Scope} {env : Env} (h : ∀ x ∈ scope.names, x.2 = .free → ∃ c, env.cells.lookup x.1 = some c) : closureFor scope env = pure (clOf env scope.names) := by
  simp only [closureFor]
  rw [forIn_fold (clStep env)]
  · rfl
  · intro x hx cs
    obtain ⟨n, k⟩ := x
    by_cases hk : k = .free
    · subst hk
      obtain ⟨c, hc⟩ := h _ hx rfl
      dsimp only at hc
      simp [clStep, cellOf, hc]
    · have : (k == NameKind.free) = false := by simpa using hk
      simp [clStep, this]
theorem clOf_lookup (env : Env) (names : List (Str × NameKind)) {x : Str} (hm : (x, NameKind.free) ∈ names) {c : Addr} (hc : env.cells.lookup x = some c) : (clOf env names).lookup x = some c := by
  have key : ∀ (l : List (Str × NameKind)) (cs : List (Str × Addr)), (cs.lookup x = some c ∨ (x, NameKind.free) ∈ l) → (l.foldl (fun cs x => clStep env x cs) cs).lookup x = some c := by
    intro l
    induction l with
    | nil => intro cs h; exact h.elim id fun h => by cases h
    | cons y l ih =>
      intro cs h
      refine ih _ ?_
      obtain ⟨n, k⟩ := y
      by_cases hn : n = x ∧ k = .free
      · obtain ⟨rfl, rfl⟩ := hn
        left
        simp [clStep, hc]
      · rcases h with h | h
        · left
          unfold clStep
          dsimp only
          split
          · rename_i hk
            have hk' : k = .free := by simpa using hk
            have hx : (x == n) = false := by simp; rintro rfl; exact hn ⟨rfl, hk'⟩
            rw [List.lookup_cons, hx]; exact h
          · exact h
        · right
          rcases List.mem_cons.mp h with h | h
          · cases h; exact absurd ⟨rfl, rfl⟩ hn
          · exact h
  exact key names [] (.inr hm)

theorem lookup_relabel {env : Env} : ∀ {names : List (Str × NameKind)} {x : Str} {k : NameKind}, names.lookup x = some k →
    (names.map fun (n, k) => if (k == NameKind.free && env.scope.kind == .function && env.kindOf n == some .cell) then (n, NameKind.cell) else (n, k)).lookup x = some k ∨
    (k = .free ∧ (names.map fun (n, k) => if (k == NameKind.free && env.scope.kind == .function && env.kindOf n == some .cell) then (n, NameKind.cell) else (n, k)).lookup x = some .cell)
  | [], _, _, h => by simp at h
  | (n, k') :: r, x, k, h => by
    have ih := @lookup_relabel env r x k
    cases hx : x == n with
    | true =>
      simp only [List.lookup_cons, hx] at h
      cases h
      simp only [List.map_cons]
      by_cases hc : (k' == NameKind.free && env.scope.kind == .function && env.kindOf n == some .cell) = true
      · right
        rw [if_pos hc]
        simp only [Bool.and_eq_true] at hc
        exact ⟨by simpa using hc.1.1, by simp [List.lookup_cons, hx]⟩
      · left; rw [if_neg hc]; simp [List.lookup_cons, hx]
    | false =>
      simp only [List.lookup_cons, hx] at h
      simp only [List.map_cons]
      by_cases hc : (k' == NameKind.free && env.scope.kind == .function && env.kindOf n == some .cell) = true
      · rw [if_pos hc]; simp only [List.lookup_cons, hx]; exact ih h
      · rw [if_neg hc]; simp only [List.lookup_cons, hx]; exact ih h

/-- the loop of a comprehension, any target -/
theorem compLoop_any {elt target iter : Expr} {ifs : List Expr} {scope : Scope} {pos : Pos} {it acc : Value} {env : Env} {R : Result → Shared → Prop} {prog : Program} {w : World} (I : Nat → Shared → Prop)
    (turn : ∀ n s, I n s → wpAny (model prog w) A (pyNext it) (fun q s₁ => match q with
      | none => R (.ok .next) s₁
      | some v => wpAny (model prog w) A (do letOwnedTupleGo target it v; assign target env v) (fun _ s₂ =>
          wpAny (model prog w) A (forIn ifs true fun c r => if r = true then do let ok ← isTrue c env (eval c env); pure (ForInStep.yield ok) else pure (ForInStep.yield r)) (fun ok s₃ =>
            if ok = true then wpAny (model prog w) A (eval elt env) (fun x s₄ =>
              wpAny (model prog w) A (call (.builtin "list.append") [acc, x]) (fun _ s₅ => ∃ m, m < n ∧ I m s₅) (fun _ _ => False) s₄) (fun _ _ => False) s₃
            else ∃ m, m < n ∧ I m s₃) (fun _ _ => False) s₂) (fun _ _ => False) s₁) (fun _ _ => False) s)
    (n : Nat) (h : I n s) : codeAny (model prog w) A (.compLoop (.ListComp elt [⟨target, iter, ifs, 0⟩] scope pos) 0 it acc env) R s := by
  refine codeAny_loop rfl I (fun n s hI => ?_) n h
  show wpAny _ A ((compTurn (.ListComp elt [⟨target, iter, ifs, 0⟩] scope pos) 0 it acc env).onRaise (fun x => do noteFrame x env; theTreesLotGoes x)) _ _ s
  refine wpAny_noted ?_
  rw [compTurn_list]
  refine wpAny_bind (wpAny_standAt (wpAny_bind (wpAny_mono (turn n s hI) (fun q s₁ h₁ => ?_) fun _ _ e => e.elim)))
  cases q with
  | none => exact wpAny_pure h₁
  | some v =>
    have h₁' := wpAny_mono h₁ (fun _ s₂ h₂ => (wpAny_mono h₂ (fun ok s₃ h₃ => h₃) (E' := notedBy (model prog w) A env fun e s' => R (.error e) s') fun _ _ e => e.elim)) (E' := notedBy (model prog w) A env fun e s' => R (.error e) s') fun _ _ e => e.elim
    have key : ∀ {t : Unit → Sem Fin} {Q : Fin → Shared → Prop} {E : Value → Shared → Prop}, wpAny (model prog w) A ((do letOwnedTupleGo target it v; assign target env v) >>= t) Q E s₁ →
        wpAny (model prog w) A (do letOwnedTupleGo target it v; assign target env v; t ()) Q E s₁ := by
      intro t Q E h; rwa [bind_assoc] at h
    refine key (wpAny_bind (wpAny_mono h₁' (fun _ s₂ h₂ => wpAny_bind (wpAny_mono h₂ (fun ok s₃ h₃ => ?_) fun _ _ e => e)) fun _ _ e => e))
    cases ok with
    | false => exact wpAny_pure ⟨rfl, h₃⟩
    | true =>
      exact wpAny_bind (wpAny_bind (wpAny_mono h₃ (fun x s₄ h₄ => wpAny_bind (wpAny_mono h₄ (fun _ s₅ h₅ => wpAny_pure (wpAny_pure ⟨rfl, h₅⟩)) fun _ _ e => e.elim)) fun _ _ e => e.elim))
end
/-! # object() -/
theorem slot_object_init : Slot "object" "__init__" "object.__init__" :=
  .of (owner := "object") (n := "__init__") (by rw [typeLookup_type, builtinLookup_eq_fast]; kernel_rfl) (by decide +kernel) (by decide +kernel) (by decide +kernel)
    (by first | exact .inl (by decide +kernel) | exact .inr (by decide +kernel)) (by rw [isSubtype_type]; kernel_rfl)
theorem called_object : TypeCalled "object" "object.__new__" "object.__init__" where
  notType := by decide
  canCreate := by decide +kernel
  mro := ⟨.type "object", [], by first | rfl | kernel_rfl⟩
  made := by first | rfl | kernel_rfl
  plain := by decide +kernel
  sub := by rw [isSubtype_type]; kernel_rfl
  init := slot_object_init
theorem typeCall_object : checkTypeCall "object" ⟨[], []⟩ = pure () := by kernel_rfl
theorem newCall_object : checkBuiltinCall "object.__new__" ⟨[.type "object"], []⟩ = pure () := by kernel_rfl
theorem initArgs_object (obj : Value) : argsOk "object.__init__" ⟨[obj], []⟩ := by unfold argsOk; kernel_rfl
theorem madeHere_object : Bind.madeHere "object.__new__" (.type "object") = pure () := by first | rfl | kernel_rfl
theorem meets_object_new : Meets (Builtin.«object.__new__» ⟨[.type "object"], []⟩) (fun _ R s => R (.ok (.ret (.ref s.heap.objs.size))) { s with heap := s.heap.push { cls := .type "object", data := .plain } }) :=
  Meets.of_wp fun prog w A R s hs => by
    obtain ⟨hp, g, d, tk, os⟩ := s
    have f1 := madeHere_object
    unfold Builtin.«object.__new__»
    repeat (any_goals (first | assumption | wp_step))
    exact ⟨_, rfl, hs⟩
theorem meets_object_init (self : Value) : Meets (Builtin.«object.__init__» ⟨[self], []⟩) (fun _ R s => R (.ok (.ret .none)) s) :=
  Meets.of_wp fun prog w A R s hs => wpAny_pure ⟨_, rfl, hs⟩
section
variable {prog : Program} {w : World} {A : Around} {E : Value → Shared → Prop} {s : Shared}
theorem call_object {Q : Value → Shared → Prop} (h : Q (.ref s.heap.objs.size) { s with heap := s.heap.push { cls := .type "object", data := .plain } }) : wpAny (model prog w) A (call (.type "object") []) Q E s :=
  callType_meets called_object typeCall_object newCall_object PySem.F.entry_object_new PySem.F.entry_object_init meets_object_new
    (Q₁ := fun v s' => v = .ref s.heap.objs.size ∧ s' = { s with heap := s.heap.push { cls := .type "object", data := .plain } }) ⟨rfl, rfl⟩ fun obj s₁ ⟨e1, e2⟩ => by
      subst e1; subst e2
      exact ⟨⟨_, Heap.get?_push_size _ rfl, rfl⟩, initArgs_object _, _, meets_object_init _, rfl, h⟩
end

/-! # The variables of a frame -/
def updv (vr : Str → Option Value) (x : Str) (v : Value) : Str → Option Value := fun y => if y = x then some v else vr y
def Priv (env : Env) (own : List Str) (a : Addr) : Prop := a = env.locals ∨ ∃ x ∈ own, env.cells.lookup x = some a
structure Apart (env : Env) (own : List Str) (h0 : Heap) : Prop where
  kind : env.scope.kind = .function
  l : h0.get? env.locals = none
  c : ∀ x ∈ own, env.kindOf x = some .cell ∧ ∃ c, env.cells.lookup x = some c ∧ h0.get? c = none ∧ c ≠ env.locals
  d : ∀ x ∈ own, ∀ y ∈ own, x ≠ y → env.cells.lookup x ≠ env.cells.lookup y
theorem Apart.none {env : Env} {own : List Str} {h0 : Heap} (x : Apart env own h0) : ∀ a, Priv env own a → h0.get? a = none := by
  rintro a (rfl | ⟨y, hy, e⟩)
  · exact x.l
  · obtain ⟨_, c, e', h, _⟩ := x.c y hy
    rw [e] at e'; cases e'; exact h
structure Frm (env : Env) (own : List Str) (h : Heap) (vr : Str → Option Value) : Prop where
  loc : ∃ m, h.Ns env.locals m ∧ ∀ x, env.kindOf x = some .local → m x = vr x
  cel : ∀ x ∈ own, ∃ c, env.cells.lookup x = some c ∧ h.IsCell c (vr x)
theorem Frm.at {env : Env} {own : List Str} {h h' : Heap} {vr : Str → Option Value} (x : Frm env own h vr) (hk : ∀ b o, Priv env own b → h.get? b = some o → h'.get? b = some o) : Frm env own h' vr :=
  ⟨let ⟨m, a, b⟩ := x.loc; ⟨m, a.at' fun o e => hk _ o (.inl rfl) e, b⟩, fun y hy => let ⟨c, e, ⟨o, q, w⟩⟩ := x.cel y hy; ⟨c, e, o, hk _ _ (.inr ⟨y, hy, e⟩) q, w⟩⟩
theorem Frm.rd {env : Env} {own : List Str} {h : Heap} {vr : Str → Option Value} (fr : Frm env own h vr) {x : Str} {v : Value} (hc : ∀ x ∈ own, env.kindOf x = some .cell) (hx : env.kindOf x = some .local ∨ x ∈ own) (e : vr x = some v) : RdAt env h x v := by
  rcases hx with hx | hx
  · obtain ⟨m, a, b⟩ := fr.loc
    exact .inl ⟨hx, m, a, (b x hx).trans e⟩
  · obtain ⟨c, q, w⟩ := fr.cel x hx
    exact .inr ⟨.inl (hc x hx), c, q, e ▸ w⟩
theorem Frm.some {env : Env} {own : List Str} {h : Heap} {vr : Str → Option Value} (fr : Frm env own h vr) {a : Addr} (p : Priv env own a) : ∃ o, h.get? a = some o := by
  rcases p with rfl | ⟨x, hx, e⟩
  · obtain ⟨m, ⟨o, _, _, q, _⟩, _⟩ := fr.loc; exact ⟨o, q⟩
  · obtain ⟨c, q, o, w, _⟩ := fr.cel x hx
    rw [e] at q; cases q; exact ⟨o, w⟩

section
variable {C : Cx} {A : Around} {s s₀ s₁ s₂ s' : Shared} {F F₀ F' : Fz} {r : Nat} {env : Env} {own : List Str} {vr : Str → Option Value}

theorem store_sound {x : Str} {v : Value} {M : Model} {E : Value → Shared → Prop} {h0 : Heap} {Q : Unit → Shared → Prop} (Ap : Apart env own h0) (fr : Frm env own s.heap vr) (hx : env.kindOf x = some .local ∨ x ∈ own)
    (h : ∀ h' k, Tp k → Frm env own h' (updv vr x v) → (∀ b o, ¬ Priv env own b → s.heap.get? b = some o → h'.get? b = some o) → Q () { s with heap := h', toks := k }) (ht : Tp s.toks) : wpAny M A (storeName env x v) Q E s := by
  rcases hx with hx | hx
  · obtain ⟨m, hn, hm⟩ := fr.loc
    refine wpAny_storeName_local hx hn (fun h' hn' hs' => h h' _ trivial ⟨⟨_, hn', fun y hy => ?_⟩, fun y hy => ?_⟩ fun b o hb e => hs'.extBut b o (fun q => hb (.inl q)) e) (by rw [Ap.kind]; rfl)
    · unfold updv; by_cases q : y = x
      · simp [q]
      · simp only [q, if_false]; exact hm y hy
    · obtain ⟨c, e, o, q, w⟩ := fr.cel y hy
      obtain ⟨hk, c', e', _, hne⟩ := Ap.c y hy
      rw [e] at e'; cases e'
      refine ⟨c, e, o, hs'.extBut c o hne q, ?_⟩
      have : y ≠ x := by rintro rfl; rw [hx] at hk; cases hk
      simp only [updv, this, if_false]; exact w
  · obtain ⟨hk, c, hc, _, hne⟩ := Ap.c x hx
    obtain ⟨c', e, w⟩ := fr.cel x hx
    rw [hc] at e; cases e
    refine wpAny_storeName_cell Ap.kind hk hc w fun h' hc' hs' => ?_
    refine h h' _ ht ⟨?_, fun y hy => ?_⟩ fun b o hb e => hs'.extBut b o (fun q => hb (.inr ⟨x, hx, q ▸ hc⟩)) e
    · obtain ⟨m, hn, hm⟩ := fr.loc
      refine ⟨m, hn.sameBut hs' (Ne.symm hne), fun y hy => ?_⟩
      have : y ≠ x := by rintro rfl; rw [hk] at hy; cases hy
      simp only [updv, this, if_false]; exact hm y hy
    · by_cases q : y = x
      · subst q; exact ⟨c, hc, by simpa [updv] using hc'⟩
      · obtain ⟨c2, e2, o, q2, w2⟩ := fr.cel y hy
        refine ⟨c2, e2, o, hs'.extBut c2 o ?_ q2, ?_⟩
        · rintro rfl; exact Ap.d x hx y hy (Ne.symm q) (hc.trans e2.symm)
        · simp only [updv, q, if_false]; exact w2

/-! # Targets -/
def bindp : List Nat → V → Option Ρ
  | [x], d => some [(x, d)]
  | [x, y], .tuple [a, b] => some [(x, a), (y, b)]
  | [x, y], .list [a, b] => some [(x, a), (y, b)]
  | _, _ => none
def isVar (kd : Kd) (x : Nat) : Bool := match kd.lookup x with | some .local => true | some .cell => true | _ => false
inductive Tg (vn : Nm) (kd : Kd) : List Nat → Expr → Prop
  | one {x : Nat} {p : Pos} : isVar kd x = true → Tg vn kd [x] (.Name (vn.vn x) p)
  | two {x y : Nat} {p q pos : Pos} {k : Nat} : isVar kd x = true → isVar kd y = true → vn.vn x ≠ vn.vn y → Tg vn kd [x, y] (.Tuple [.Name (vn.vn x) p, .Name (vn.vn y) q] k pos)
theorem bindp2_inv {x y : Nat} {d : V} {β : Ρ} (h : bindp [x, y] d = some β) : ∃ a b, (d = .tuple [a, b] ∨ d = .list [a, b]) ∧ β = [(x, a), (y, b)] := by
  cases d with
  | tuple l => match l, h with | [a, b], h => exact ⟨a, b, .inl rfl, (Option.some.inj h).symm⟩
  | list l => match l, h with | [a, b], h => exact ⟨a, b, .inr rfl, (Option.some.inj h).symm⟩
  | _ => cases h
/-- the frame after a binding -/
def updβ (vn : Nm) (vr vr' : Str → Option Value) (F : Fz) (β : Ρ) : Prop :=
  (∀ n d, β.lookup n = some d → ∃ v, vr' (vn.vn n) = some v ∧ Rep F v d) ∧ (∀ y, (∀ p ∈ β, vn.vn p.1 ≠ y) → vr' y = vr y)

/-- a list of two unpacked -/
theorem unpack_two {l : Addr} {a b : Value} {Q : List Value → Shared → Prop} {E : Value → Shared → Prop} (hh : A.handled = none) (hl : s.heap.IsList l #[a, b]) (hQ : ∀ h', Heap.ExtBut s.heap.objs.size s.heap h' → Q [a, b] { s with heap := h' }) :
    wpAny (model C.prog C.w) A (unpackItems (.ref l) 2 none) Q E s := by
  have hlt : l ≠ s.heap.objs.size := by obtain ⟨o, ho, _⟩ := hl; exact Nat.ne_of_lt (Heap.lt_size ho)
  unfold unpackItems
  refine wpAny_bind ?_
  unfold notIterableAtAll
  refine wpAny_bind (wpAny_specialOf hl.typeIs slot_list_iter.lookup (wpAny_pure ?_))
  simp only [Bool.false_eq_true, if_false]
  refine wpAny_bind (wpAny_holding (wpAny_pyIter_list hl ?_))
  have hl0 : (s.heap.push { cls := .type "list_iterator", data := .fields #[.ref l, .int 0 0] }).IsList l #[a, b] := hl.at fun o e => Heap.get?_push_of_some _ e
  refine wpAny_bind (wpAny_holding ?_)
  show wpAny _ A (pyNext (.ref s.heap.objs.size) >>= _) _ _ _
  refine wpAny_bind (wpAny_pyNext_list_item (i := 0) ⟨_, Heap.get?_push_size _ rfl, rfl, rfl⟩ hl0 (x := a) rfl fun h1 hit1 hs1 => ?_)
  have hl1 : h1.IsList l #[a, b] := hl0.extBut hs1.extBut hlt
  refine wpAny_bind (wpAny_holding ?_)
  show wpAny _ A (pyNext (.ref s.heap.objs.size) >>= _) _ _ _
  refine wpAny_bind (wpAny_pyNext_list_item (i := 1) hit1 hl1 (x := b) rfl fun h2 hit2 hs2 => ?_)
  have hl2 : h2.IsList l #[a, b] := hl1.extBut hs2.extBut hlt
  refine wpAny_bind (wpAny_holding (wpAny_pure (wpAny_pure (wpAny_pure ?_))))
  refine wpAny_bind (wpAny_holding (wpAny_pyNext_list_end hh hit2 hl2 rfl fun h3 he3 => ?_))
  exact wpAny_pure (hQ h3 fun b o hb e => he3 b o hb (hs2.extBut b o hb (hs1.extBut b o hb (Heap.get?_push_of_some _ e))))
theorem RepL.two {vs : List Value} {d1 d2 : V} (h : RepL F vs [d1, d2]) : ∃ v1 v2, vs = [v1, v2] ∧ Rep F v1 d1 ∧ Rep F v2 d2 := by
  cases h with
  | cons r1 h => cases h with
    | cons r2 h => cases h; exact ⟨_, _, rfl, r1, r2⟩
/-- two targets -/
theorem assign2_go {i j : Str} {p q pos : Pos} {k : Nat} {v : Value} {d1 d2 : V} {Q : Unit → Shared → Prop} {E : Value → Shared → Prop} (hh : A.handled = none) (f : FzOk C F s.heap) (rv : ∃ d, Rep F v d ∧ (d = .tuple [d1, d2] ∨ d = .list [d1, d2]))
    (h : ∀ h' v1 v2, (∀ b o, s.heap.get? b = some o → h'.get? b = some o) → Rep F v1 d1 → Rep F v2 d2 → wpAny (model C.prog C.w) A (storeName env i v1) (fun _ s2 => wpAny (model C.prog C.w) A (storeName env j v2) Q E s2) E { s with heap := h' }) :
    wpAny (model C.prog C.w) A (assign (.Tuple [.Name i p, .Name j q] k pos) env v) Q E s := by
  have up : ∀ {h' : Heap}, Heap.ExtBut s.heap.objs.size s.heap h' → ∀ b o, s.heap.get? b = some o → h'.get? b = some o := fun hx b o e => hx b o (by rintro rfl; rw [get_size] at e; cases e) e
  have go : ∀ {h' : Heap} {v1 v2 : Value}, Heap.ExtBut s.heap.objs.size s.heap h' → Rep F v1 d1 → Rep F v2 d2 → wpAny (model C.prog C.w) A (assignInOrder [fun v => assign (.Name i p) env v, fun v => assign (.Name j q) env v] [v1, v2]) Q E { s with heap := h' } := by
    intro h' v1 v2 hx r1 r2
    show wpAny _ A (do holding _ (assign (.Name i p) env v1); assignInOrder [fun v => assign (.Name j q) env v] [v2]) Q E _
    refine wpAny_bind (wpAny_holding (wpAny_assign_Name (wpAny_mono (h h' v1 v2 (up hx) r1 r2) (fun _ s2 h2 => ?_) fun _ _ e => e)))
    show wpAny _ A (do holding _ (assign (.Name j q) env v2); assignInOrder [] []) Q E _
    exact wpAny_bind (wpAny_holding (wpAny_assign_Name (wpAny_mono h2 (fun _ _ h3 => wpAny_pure h3) fun _ _ e => e)))
  obtain ⟨d, rv, rfl | rfl⟩ := rv
  · obtain ⟨_, vs, _, rfl, ha, la⟩ := rv.tuple_inv
    obtain ⟨v1, v2, rfl, r1, r2⟩ := la.two
    exact wpAny_assign_Tuple hh ⟨_, (f.at' _ _ ha).1, rfl, _, rfl⟩ rfl rfl fun h1 hx1 => go hx1 r1 r2
  · obtain ⟨l, vs, _, rfl, ha, la⟩ := rv.list_inv
    obtain ⟨v1, v2, rfl, r1, r2⟩ := la.two
    show wpAny _ A (do standAt pos; unpack (.ref l) (assignEach [.Name i p, .Name j q] env)) _ _ s
    refine wpAny_bind (wpAny_standAt ?_)
    show wpAny _ A (do assignInOrder [fun v => assign (.Name i p) env v, fun v => assign (.Name j q) env v] (← holding [.ref l] (unpackItems (.ref l) 2 none))) _ _ s
    exact wpAny_bind (wpAny_holding (unpack_two hh (f.isList ha) fun h' hx => go hx r1 r2))
theorem assign_sound {vn : Nm} {kd : Kd} {xs : List Nat} {tg : Expr} {v : Value} {d : V} {β : Ρ} {E : Value → Shared → Prop} {h0 : Heap} {Q : Unit → Shared → Prop} (hh : A.handled = none) (f : FzOk C F s.heap)
    (Ap : Apart env own h0) (fr : Frm env own s.heap vr) (ok : Tg vn kd xs tg) (hv : ∀ x, isVar kd x = true → env.kindOf (vn.vn x) = some .local ∨ vn.vn x ∈ own) (rv : Rep F v d) (hb : bindp xs d = some β)
    (h : ∀ h' k vr', Frm env own h' vr' → updβ vn vr vr' F β → (∀ b o, ¬ Priv env own b → s.heap.get? b = some o → h'.get? b = some o) → Q () { s with heap := h', toks := k }) :
    wpAny (model C.prog C.w) A (assign tg env v) Q E s := by
  have l1 : ∀ {n x : Nat} {d d' : V} {r : Ρ}, ((x, d) :: r).lookup n = some d' → (n = x ∧ d' = d) ∨ r.lookup n = some d' := by
    intro n x d d' r e
    rw [List.lookup_cons] at e
    cases hnx : n == x with
    | true => rw [hnx] at e; exact .inl ⟨by simpa using hnx, (Option.some.inj e).symm⟩
    | false => rw [hnx] at e; exact .inr e
  cases ok with
  | one hx =>
    rename_i x p
    obtain rfl : _ = β := Option.some.inj hb
    refine wpAny_assign_Name (store_sound Ap fr (hv _ hx) (fun h' k hk fr' hkeep => h h' k _ fr' ⟨fun n d' e => ?_, fun y hy => ?_⟩ hkeep) trivial)
    · rcases l1 e with ⟨rfl, rfl⟩ | e
      · exact ⟨v, if_pos rfl, rv⟩
      · cases e
    · exact if_neg fun q => hy (x, d) (.head _) q.symm
  | two hx hy hne =>
    rename_i x y p q pos k
    obtain ⟨a, b, hd, rfl⟩ := bindp2_inv hb
    refine assign2_go hh f ⟨d, rv, hd⟩ fun h1 v1 v2 up1 r1 r2 => ?_
    refine store_sound Ap (fr.at fun b o _ e => up1 b o e) (hv _ hx) (fun h2 k2 _ fr2 kp2 => ?_) trivial
    refine store_sound Ap fr2 (hv _ hy) (fun h3 k3 _ fr3 kp3 => h h3 k3 _ fr3 ⟨fun n d' e => ?_, fun z hz => ?_⟩ fun b o hb e => kp3 b o hb (kp2 b o hb (up1 b o e))) trivial
    · rcases l1 e with ⟨rfl, rfl⟩ | e
      · exact ⟨v1, (if_neg hne).trans (if_pos rfl), r1⟩
      · rcases l1 e with ⟨rfl, rfl⟩ | e
        · exact ⟨v2, if_pos rfl, r2⟩
        · cases e
    · exact (if_neg fun q => hz (y, _) (.tail _ (.head _)) q.symm).trans (if_neg fun q => hz (x, _) (.head _) q.symm)
end

def restr (fr : List Nat) (ρ : Ρ) : Ρ := fr.filterMap fun n => (ρ.lookup n).map (n, ·)
theorem restr_lookup {ρ : Ρ} {n : Nat} {d : V} : ∀ {fr : List Nat}, (restr fr ρ).lookup n = some d → n ∈ fr ∧ ρ.lookup n = some d
  | [], h => by simp [restr] at h
  | k :: fr, h => by
    have ih := @restr_lookup ρ n d fr
    unfold restr at h ih
    rw [List.filterMap_cons] at h
    cases hk : ρ.lookup k with
    | none => rw [hk] at h; exact ⟨.tail _ (ih h).1, (ih h).2⟩
    | some e =>
      rw [hk] at h
      simp only [Option.map_some, List.lookup_cons] at h
      split at h
      · rename_i q
        have : n = k := by simpa using q
        subst this; cases h
        exact ⟨.head _, hk⟩
      · exact ⟨.tail _ (ih h).1, (ih h).2⟩

def compOk (vn : Nm) (kd kd' : Kd) (scope : Scope) (fr : List Nat) : Bool :=
  scope.kind == .function && scope.names.all (fun x => x.2 != .cell && (x.2 != .local || scope.names.lookup x.1 == some .local) && (x.2 != .free || fr.any fun n => vn.vn n == x.1)) &&
  fr.all (fun n => scope.names.contains (vn.vn n, .free) && vn.vn n != "__classdict__" && kd'.lookup n == some .free && (kd.lookup n == some .cell || kd.lookup n == some .free)) &&
  kd'.all fun p => scope.names.lookup (vn.vn p.1) == some p.2
theorem and2 {a b : Bool} (h : (a && b) = true) : a = true ∧ b = true := Bool.and_eq_true_iff.mp h
theorem or2 {a b : Bool} (h : (a || b) = true) : a = true ∨ b = true := Bool.or_eq_true_iff.mp h
theorem lookup_memK {n : Nat} {k : NameKind} : ∀ {kd : Kd}, kd.lookup n = some k → (n, k) ∈ kd
  | (m, k') :: r, h => by
    rw [List.lookup_cons] at h
    cases q : n == m with
    | true => rw [q] at h; cases h; rw [beq_iff_eq.mp q]; exact .head _
    | false => rw [q] at h; exact .tail _ (lookup_memK h)
structure CompOk (vn : Nm) (kd kd' : Kd) (scope : Scope) (fr : List Nat) : Prop where
  kind : scope.kind = .function
  cell : ∀ y ∈ scope.names, y.2 ≠ .cell
  loc : ∀ y ∈ scope.names, y.2 = .local → scope.names.lookup y.1 = some .local
  free : ∀ y ∈ scope.names, y.2 = .free → ∃ n ∈ fr, vn.vn n = y.1
  fr : ∀ n ∈ fr, (vn.vn n, NameKind.free) ∈ scope.names ∧ vn.vn n ≠ "__classdict__" ∧ kd'.lookup n = some .free ∧ (kd.lookup n = some .cell ∨ kd.lookup n = some .free)
  kd' : ∀ n k, kd'.lookup n = some k → scope.names.lookup (vn.vn n) = some k
theorem CompOk.of {vn : Nm} {kd kd' : Kd} {scope : Scope} {fr : List Nat} (h : compOk vn kd kd' scope fr = true) : CompOk vn kd kd' scope fr := by
  have ⟨h, h4⟩ := and2 h
  have ⟨h, h3⟩ := and2 h
  have ⟨h1, h2⟩ := and2 h
  have a := fun y hy => and2 (List.all_eq_true.mp h2 y hy)
  have a1 := fun y hy => and2 (a y hy).1
  refine ⟨beq_iff_eq.mp h1, fun y hy => bne_iff_ne.mp (a1 y hy).1, fun y hy e => ?_, fun y hy e => ?_, fun n hn => ?_, fun n k e => beq_iff_eq.mp (List.all_eq_true.mp h4 (n, k) (lookup_memK e))⟩
  · rcases or2 (a1 y hy).2 with q | q
    · exact absurd e (bne_iff_ne.mp q)
    · exact beq_iff_eq.mp q
  · rcases or2 (a y hy).2 with q | q
    · exact absurd e (bne_iff_ne.mp q)
    · obtain ⟨n, hn, q⟩ := List.any_eq_true.mp q
      exact ⟨n, hn, beq_iff_eq.mp q⟩
  · have ⟨f, f4⟩ := and2 (List.all_eq_true.mp h3 n hn)
    have ⟨f, f3⟩ := and2 f
    have ⟨f1, f2⟩ := and2 f
    exact ⟨List.contains_iff_mem.mp f1, bne_iff_ne.mp f2, beq_iff_eq.mp f3, (or2 f4).imp beq_iff_eq.mp beq_iff_eq.mp⟩

section
variable {C : Cx} {A : Around} {s s₀ s₁ s₂ s' : Shared} {F F₀ F' : Fz} {r : Nat} {env : Env} {vn : Nm} {kd kd' : Kd} {ρ : Ρ}

theorem rd_cell (eo : EnvOk C vn kd env s.heap F ρ) {n : Nat} (hn : kd.lookup n = some .cell ∨ kd.lookup n = some .free) (h : (ρ.lookup n).isSome = true) :
    ∃ c v d, env.cells.lookup (vn.vn n) = some c ∧ s.heap.IsCell c (some v) ∧ ρ.lookup n = some d ∧ Rep F v d := by
  obtain ⟨d, hd⟩ := Option.isSome_iff_exists.mp h
  obtain ⟨v, rd, rv⟩ := eo.rd n d hd
  have hk : env.kindOf (vn.vn n) = some .cell ∨ env.kindOf (vn.vn n) = some .free := by
    rcases hn with hn | hn
    · rcases eo.kd _ _ hn with e | ⟨e, _⟩
      · exact .inl e
      · cases e
    · rcases eo.kd _ _ hn with e | ⟨_, e⟩
      · exact .inr e
      · exact .inl e
  rcases rd with ⟨e, _⟩ | ⟨_, c, hc, hi⟩
  · rw [e] at hk; rcases hk with hk | hk <;> cases hk
  · exact ⟨c, v, d, hc, hi, hd, rv⟩

theorem lookup_mem {n : Nat} {e : V} : ∀ {β : Ρ}, β.lookup n = some e → (n, e) ∈ β
  | [], h => by simp at h
  | (k, d) :: β, h => by
    cases q : n == k with
    | true => simp only [List.lookup_cons, q] at h; cases h; rw [beq_iff_eq.mp q]; exact .head _
    | false => simp only [List.lookup_cons, q] at h; exact .tail _ (lookup_mem h)
theorem bindp_keys {xs : List Nat} {d : V} {β : Ρ} {tg : Expr} (ok : Tg vn kd xs tg) (h : bindp xs d = some β) : β.map Prod.fst = xs ∧ ∀ x ∈ xs, isVar kd x = true := by
  cases ok with
  | one hx =>
    obtain rfl : _ = β := Option.some.inj h
    exact ⟨rfl, fun x hm => (List.mem_singleton.mp hm) ▸ hx⟩
  | two hx hy hne =>
    obtain ⟨a, b, _, rfl⟩ := bindp2_inv h
    refine ⟨rfl, fun x hm => ?_⟩
    rcases List.mem_cons.mp hm with rfl | hm
    · exact hx
    · exact (List.mem_singleton.mp hm) ▸ hy
theorem Tg.quiet {xs : List Nat} {tg : Expr} (hT : Tg vn kd xs tg) {o : Obj} {T : String} {I : Addr} {v : Value} {M : Model} {Q : Unit → Shared → Prop} {E : Value → Shared → Prop} (ho : s.heap.get? I = some o) (hc : o.cls = .type T) (hq : QuietT T = true) (h : Q () s) :
    wpAny M A (letOwnedTupleGo tg (.ref I) v) Q E s := by
  cases hT with
  | one _ => exact wpAny_pure h
  | two _ _ _ => exact quiet_go rfl ho hc hq h
theorem filterMap_take {f : V → Option V} {ds : List V} {i : Nat} {d : V} (h : ds[i]? = some d) : (ds.take (i + 1)).filterMap f = (ds.take i).filterMap f ++ (f d).toList := by
  rw [List.take_add_one, h, List.filterMap_append]
  cases hf : f d <;> simp [hf]

theorem comp_core {elt iter tg : Expr} {ifs : List Expr} {scope : Scope} {pos : Pos} {xs fr : List Nat} {f : V → Option V} {E : Value → Shared → Prop} {h0 : Heap} {I : Addr} {fp : List Addr} {n : Nat} {P : Nat → Value → Prop} {St : Nat → Heap → Prop} {ds : List V}
    {RR : Value → Addr → Result → Shared → Prop}
    (R : Room r A) (B2 : Bk C s₀ F₀ s₂ F) (eo : EnvOk C vn kd env s₀.heap F₀ ρ) (it : ItOk C h0 F s₂.heap I fp n P St ds) (hI : s₀.heap.get? I = none)
    (ck : CompOk vn kd kd' scope fr) (hT : Tg vn kd' xs tg) (hfr : ∀ n ∈ fr, (ρ.lookup n).isSome = true) (hd : ∀ d ∈ ds, (bindp xs d).isSome = true) (hec : ∀ scope cl L env, vn.ec env → vn.ec (compEnvC scope cl L env))
    (body : ∀ L s' F' β d, d ∈ ds → bindp xs d = some β → Inv C s' → FzOk C F' s'.heap → EnvOk C vn kd' (compEnvC scope (clOf env scope.names) L env) s'.heap F' (β ++ restr fr ρ) →
      wpAny (model C.prog C.w) A (forIn ifs true fun c r => if r = true then do let ok ← isTrue c (compEnvC scope (clOf env scope.names) L env) (eval c (compEnvC scope (clOf env scope.names) L env)); pure (ForInStep.yield ok) else pure (ForInStep.yield r))
        (Pst C s' F' fun ok s'' F'' => if ok = true then TrV C A (eval elt (compEnvC scope (clOf env scope.names) L env)) s'' F'' (fun q => f d = some q) else f d = none) (fun _ _ => False) s')
    (hR : ∀ D L s5 F5 vs k m, Bk C s₀ F₀ s5 F5 → s₀.heap.get? D = none → s₀.heap.get? L = none → D ≠ L → s5.heap.get? D = some (lstObj vs k) → (∀ o, ¬ F5 D o) → (∀ o, ¬ F5 L o) → s5.heap.Ns L m → RepL F5 vs (ds.filterMap f) →
      RR (.ref D) L (.ok .next) s5) :
    wpAny (model C.prog C.w) A (newList []) (fun acc s₃ => wpAny (model C.prog C.w) A (newFunctionEnv scope env.globals (clOf env scope.names) [] env.qual none .none (some env)) (fun cenv s₄ =>
      codeAny (model C.prog C.w) A (.compStart (.ListComp elt [⟨tg, iter, ifs, 0⟩] scope pos) 0 (.ref I) acc { cenv with scope := relabel scope env }) (RR acc cenv.locals) s₄) E s₃) E s₂ := by
  have hkind := ck.kind
  have hcell := ck.cell
  refine wpAny_newObj_type (wpAny_newFunctionEnv hcell (by intro y hy; simp at hy) (fun h₁ hns₁ hsb₁ => ?_) hkind)
  dsimp only at hns₁ hsb₁ ⊢
  generalize hH2 : s₂.heap.push { cls := .type "list", dict := none, data := .seq ([] : List Value).toArray } = H2 at hns₁ hsb₁ ⊢
  generalize hL : H2.objs.size = L at hns₁ hsb₁ ⊢
  generalize hDD : s₂.heap.objs.size = D at ⊢
  have hDnone : s₂.heap.get? D = none := hDD ▸ get_size _
  have hLsz : L = D + 1 := by rw [← hL, ← hH2, Heap.size_push, hDD]
  have hDL : D ≠ L := by rw [hLsz]; exact Nat.ne_of_lt (Nat.lt_succ_self _)
  have hLnone : s₂.heap.get? L = none := by
    cases e : s₂.heap.get? L with
    | none => rfl
    | some o => have := Heap.lt_size e; rw [hDD, hLsz] at this; exact absurd this (Nat.not_lt.mpr (Nat.le_succ _))
  have up1 : ∀ b o, s₂.heap.get? b = some o → h₁.get? b = some o := fun b o e => hsb₁.extBut b o (by rintro rfl; rw [hLnone] at e; cases e) (Heap.get?_push_of_some _ (hH2 ▸ Heap.get?_push_of_some _ e))
  have hD1 : h₁.get? D = some (lstObj [] 0) := hsb₁.extBut _ _ hDL (Heap.get?_push_of_some _ (hH2 ▸ hDD ▸ Heap.get?_push_size _ rfl))
  have hs0 : ∀ {a : Addr}, s₂.heap.get? a = none → s₀.heap.get? a = none := fun {a} e => Kp.none B2.kp (B2.inv.freshNe e) e
  have nF2 : ∀ {a : Addr}, s₂.heap.get? a = none → ∀ o, ¬ F a o := fun {a} e o q => by rw [(B2.f.at' _ _ q).1] at e; cases e
  have hnP : ∀ {a : Addr}, s₀.heap.get? a = none → a ≠ C.P := fun {a} e => B2.i0.freshNe e
  let cenv := compEnvC scope (clOf env scope.names) L env
  have hApart : Apart cenv [] s₀.heap := ⟨hkind, hs0 hLnone, (fun _ h => by cases h), (fun _ h => by cases h)⟩
  have hvar : ∀ x, isVar kd' x = true → cenv.kindOf (vn.vn x) = some .local ∨ vn.vn x ∈ ([] : List Str) := fun x hx => by
    unfold isVar at hx
    split at hx
    · exact .inl (lookup_relabel_local (ck.kd' _ _ ‹_›))
    · exact absurd rfl (hcell _ (PySem.mem_of_lookup (ck.kd' _ _ ‹_›)))
    · cases hx
  have loop : ∀ s₃ : Shared, s₃ = { s₂ with heap := h₁, toks := s₂.toks + ([] : List (Str × Value)).length } →
      codeAny (model C.prog C.w) A (.compLoop (.ListComp elt [⟨tg, iter, ifs, 0⟩] scope pos) 0 (.ref I) (.ref D) cenv) (RR (.ref D) L) s₃ := by
    rintro s₃ rfl
    have B3 : Bk C s₀ F₀ { s₂ with heap := h₁, toks := s₂.toks + ([] : List (Str × Value)).length } F := B2.upd (S := fun _ => False) (fun _ h => h.elim) (fun _ _ h => h.elim) (fun b o _ e => up1 b o e) rfl rfl B2.inv.tk
    refine compLoop_any (fun k s' => ∃ i F' vs cnt vr, Bk C s₀ F₀ s' F' ∧ i ≤ n ∧ k = n + 1 - i ∧ St i s'.heap ∧ s'.heap.get? D = some (lstObj vs cnt) ∧ (∀ o, ¬ F' D o) ∧ (∀ o, ¬ F' L o) ∧ (∀ o, ¬ F' I o) ∧
      Frm cenv [] s'.heap vr ∧ RepL F' vs ((ds.take i).filterMap f) ∧ (∀ a o, F a o → F' a o)) ?_ (n + 1)
      ⟨0, F, [], 0, _, B3, Nat.zero_le _, rfl, (it.W A R.handled).frame _ _ _ it.st fun b _ o e => up1 b o e, hD1, nF2 hDnone, nF2 hLnone, it.nf, ⟨⟨_, hns₁, fun _ _ => rfl⟩, (fun _ h => by cases h)⟩, .nil, fun _ _ e => e⟩
    rintro k s' ⟨i, F', vs, cnt, vr, B, hi, rfl, hst, hD, fD, fL, fI, hfrm, hrep, hFF⟩
    by_cases hlt : i < n
    · refine wpAny_with_toks (n := 0) (Nat.zero_le _) (wpAny_mono ((it.W A R.handled).item i _ (fun q s₁ => 0 ≤ s₁.toks → _) (fun _ _ => False) hlt hst fun v h' tk hPv hst' hk' => ?_) (fun _ _ e => e) fun _ _ e => e.elim)
      intro _; have htk : True := trivial
      obtain ⟨d, hdi, rd⟩ := it.val i v hPv
      have hdm : d ∈ ds := List.mem_of_getElem? hdi
      obtain ⟨β, hβ⟩ := Option.isSome_iff_exists.mp (hd d hdm)
      have Ba : Bk C s₀ F₀ { s' with heap := h', toks := tk } F' := B.upd (S := fun a => a = I) (by rintro a rfl; exact hI) (by rintro a o rfl; exact fI o) (fun b o hb e => hk' b o (by simpa using hb) e) rfl rfl htk
      obtain ⟨oI, TI, hIo, hIc, hIq⟩ := it.quiet _ _ hst'
      have hfrm' : Frm cenv [] h' vr := hfrm.at fun b o hb e => hk' b o (by
        rcases hb with hb | ⟨_, h, _⟩
        · intro q
          have q' : L = I := hb.symm.trans (by simpa using q)
          obtain ⟨o, T, q1, _, _⟩ := it.quiet 0 _ it.st
          rw [← q', hLnone] at q1; cases q1
        · cases h) e
      have hDI : D ≠ I := by
        rintro rfl
        obtain ⟨o, T, q1, _, _⟩ := it.quiet 0 _ it.st
        rw [hDnone] at q1; cases q1
      have hLI : L ≠ I := by
        rintro rfl
        obtain ⟨o, T, q1, _, _⟩ := it.quiet 0 _ it.st
        rw [hLnone] at q1; cases q1
      have hD' : h'.get? D = some (lstObj vs cnt) := hk' D _ (by simpa using hDI) hD
      -- the target
      refine wpAny_bind (hT.quiet hIo hIc hIq (assign_sound R.handled Ba.f hApart hfrm' hT hvar (rd.mono hFF) hβ fun h2 k2 vr2 fr2 up2 kp2 => ?_))
      have pL : ∀ a, Priv cenv [] a → a = L := by
        rintro a (h | ⟨_, h, _⟩)
        · exact h
        · cases h
      have Bb : Bk C s₀ F₀ { s' with heap := h2, toks := k2 } F' := Ba.upd (s' := { s' with heap := h2, toks := k2 }) (S := fun a => a = L) (by rintro a rfl; exact hs0 hLnone) (by rintro a o rfl; exact fL o) (fun b o hb e => kp2 b o (fun p => hb (pL b p)) e) rfl rfl trivial
      have hst2 : St (i + 1) h2 := (it.W A R.handled).frame _ _ _ hst' fun b hb o e => kp2 b o (fun p => by
        have := pL b p; subst this
        rcases it.fp b hb with q | ⟨o', q⟩
        · exact hLI q
        · exact nF2 hLnone o' q) e
      have hD2 : h2.get? D = some (lstObj vs cnt) := kp2 D _ (fun p => hDL (pL D p)) hD'
      have eo0 : ∀ {s'' F''}, Bk C s₀ F₀ s'' F'' → EnvOk C vn kd env s''.heap F'' ρ := fun B => eo.kp B.i0 B.kp B.fx
      have ceo : EnvOk C vn kd' cenv h2 F' (β ++ restr fr ρ) := by
        refine ⟨hkind, eo.glob, eo.bi, fun n k hx => lookup_relabel (ck.kd' n k hx), hec _ _ _ _ eo.ec, fun m e he => ?_⟩
        rw [List.lookup_append] at he
        cases hb : β.lookup m with
        | some e' =>
          rw [hb] at he
          simp only [Option.some_or, Option.some.injEq] at he
          subst he
          obtain ⟨u, hu, ru⟩ := up2.1 m e' hb
          refine ⟨u, fr2.rd (fun _ h => by cases h) (hvar _ ?_) hu, ru⟩
          exact (bindp_keys hT hβ).2 _ ((bindp_keys hT hβ).1 ▸ List.mem_map_of_mem (f := Prod.fst) (lookup_mem hb))
        | none =>
          rw [hb, Option.none_or] at he
          obtain ⟨hm, hl⟩ := restr_lookup he
          obtain ⟨h1, h3, h2', h4⟩ := ck.fr m hm
          obtain ⟨c, u, e', hc, hi', he', ru⟩ := rd_cell (eo0 Bb) h4 (hfr m hm)
          rw [hl] at he'; cases he'
          refine ⟨u, .inr ⟨?_, c, clOf_lookup env scope.names h1 hc, hi'⟩, ru⟩
          rcases lookup_relabel (env := env) (ck.kd' _ _ h2') with q | ⟨_, q⟩
          · exact .inr ⟨q, by simpa using h3⟩
          · exact .inl q
      refine wpAny_mono (body L { s' with heap := h2, toks := k2 } F' β d hdm hβ Bb.inv Bb.f ceo) (fun ok s3 hp => ?_) fun _ _ e => e
      obtain ⟨F3, B3', kp3, fx3, hq⟩ := Bb.pst hp
      have hPD := hnP (hs0 hDnone)
      have hPL := hnP (hs0 hLnone)
      have hPI := hnP hI
      have hD3 : s3.heap.get? D = some (lstObj vs cnt) := kp3 D _ hPD hD2
      have hst3 : ∀ {sx sy : Shared}, Kp C sx sy → St (i + 1) sx.heap → St (i + 1) sy.heap := fun {sx sy} kp st => (it.W A R.handled).frame _ _ _ st fun b hb o e => kp b o (by
        rcases it.fp b hb with rfl | ⟨o', q⟩
        · exact hPI
        · exact (B2.f.at' _ _ q).2) e
      have hfr3 : ∀ {sx sy : Shared} {vr}, Kp C sx sy → Frm cenv [] sx.heap vr → Frm cenv [] sy.heap vr := fun kp f => f.at fun b o hb e => kp b o (by rw [pL b hb]; exact hPL) e
      obtain ⟨oL, hoL⟩ := fr2.some (a := L) (.inl rfl)
      obtain ⟨oI2, _, hoI, _, _⟩ := it.quiet _ _ hst2
      have fD3 := fx3.priv fD hD2
      have fL3 := fx3.priv fL hoL
      have fI3 := fx3.priv fI hoI
      have hFF3 : ∀ a o, F a o → F3 a o := fun a o e => fx3.le a o (hFF a o e)
      cases ok with
      | false =>
        simp only [Bool.false_eq_true, if_false] at hq ⊢
        refine ⟨n + 1 - (i + 1), by omega, i + 1, F3, vs, cnt, vr2, B3', hlt, rfl, hst3 kp3 hst2, hD3, fD3, fL3, fI3, hfr3 kp3 fr2, ?_, hFF3⟩
        rw [filterMap_take hdi, hq]
        simpa using hrep.mono fx3.le
      | true =>
        simp only [if_true] at hq ⊢
        refine wpAny_mono hq (fun y s4 hp4 => ?_) fun _ _ e => e
        obtain ⟨F4, B4, kp4, fx4, e, re, he⟩ := B3'.pst hp4
        have hD4 : s4.heap.get? D = some (lstObj vs cnt) := kp4 D _ hPD hD3
        have hlen := hrep.length
        have hle : ((ds.take i).filterMap f).length ≤ n := Nat.le_trans (List.length_filterMap_le _ _) (by rw [List.length_take]; omega)
        refine wpAny_list_append_plain (items := vs.toArray) (hsz := by rw [List.size_toArray, hlen]; exact Nat.le_trans hle it.sz) ⟨cnt, hD4⟩ fun h5 hl5 hs5 => ?_
        obtain ⟨cnt5, hD5⟩ := hl5
        obtain ⟨oL3, hoL3⟩ := (hfr3 kp3 fr2).some (a := L) (.inl rfl)
        obtain ⟨oI3, _, hoI3, _, _⟩ := it.quiet _ _ (hst3 kp3 hst2)
        have fD4 := fx4.priv fD3 hD3
        refine ⟨n + 1 - (i + 1), by omega, i + 1, F4, vs ++ [y], cnt5, vr2, B4.upd (S := fun a => a = D) (by rintro a rfl; exact hs0 hDnone) (by rintro a o rfl; exact fD4 o) (fun b o hb e => hs5.extBut b o hb e) rfl rfl B4.inv.tk, hlt, rfl, ?_, ?_, fD4, fx4.priv fL3 hoL3, fx4.priv fI3 hoI3, ?_, ?_, fun a o e => fx4.le a o (hFF3 a o e)⟩
        · exact (it.W A R.handled).frame _ _ _ (hst3 kp4 (hst3 kp3 hst2)) fun b hb o e => hs5.extBut b o (by
            rintro rfl
            rcases it.fp b hb with q | ⟨o', q⟩
            · exact hDI q
            · exact nF2 hDnone o' q) e
        · rw [hD5]; simp [lstObj]
        · exact (hfr3 kp4 (hfr3 kp3 fr2)).at fun b o hb e => hs5.extBut b o (by rw [pL b hb]; exact Ne.symm hDL) e
        · rw [filterMap_take hdi, he]
          exact ((hrep.mono fx3.le).mono fx4.le).append (.cons re .nil)
    · have hin : i = n := by omega
      subst hin
      refine wpAny_with_toks (n := 0) (Nat.zero_le _) (wpAny_mono ((it.W A R.handled).done _ (fun q s₁ => 0 ≤ s₁.toks → _) (fun _ _ => False) hst fun h' tk hk' => ?_) (fun _ _ e => e) fun _ _ e => e.elim)
      intro _; have htk : True := trivial
      have hDI : D ≠ I := by
        rintro rfl
        obtain ⟨o, T, q1, _, _⟩ := it.quiet 0 _ it.st
        rw [hDnone] at q1; cases q1
      have hLI : L ≠ I := by
        rintro rfl
        obtain ⟨o, T, q1, _, _⟩ := it.quiet 0 _ it.st
        rw [hLnone] at q1; cases q1
      obtain ⟨m, hm, _⟩ := hfrm.loc
      refine hR D L _ F' vs cnt m (B.upd (s' := { s' with heap := h', toks := tk }) (S := fun a => a = I) (by rintro a rfl; exact hI) (by rintro a o rfl; exact fI o) (fun b o hb e => hk' b o (by simpa using hb) e) rfl rfl htk) (hs0 hDnone) (hs0 hLnone) hDL
        (hk' D _ (by simpa using hDI) hD) fD fL (hm.at' fun o e => hk' L o (by simpa using hLI) e) ?_
      rwa [List.take_of_length_le (Nat.le_of_eq it.len)] at hrep
  exact codeAny_compStart_list (loop _ rfl) ((it.W A R.handled).self 0 _ _ _ ((it.W A R.handled).frame _ _ _ it.st fun b _ o e => up1 b o e) (loop _ rfl))
end

/-! # find and replace, one sign sought -/
/-- the first place from i on, below j, where c stands -/
def findw (c : Nat) (l : List Nat) (i j : Nat) : Option Nat := (List.range' i (j - i)).find? fun k => l[k]? == some c
def findi (c : Nat) (l : List Nat) (i j : Nat) : Int := match findw c l i j with | some k => (k : Int) | none => -1

theorem occ_find (x : Str) (c i j : Nat) (hj : j ≤ x.length) : (match Builtin.Str.occurrences x ⟨#[c]⟩ i j 1 with | k :: _ => (k : Int) | [] => -1) = findi c x.cps.toList i j := by
  have at' : ∀ k, StrLaws.At x ⟨#[c]⟩ j k ↔ k < j ∧ x.cps.toList[k]? = some c := by
    intro k
    constructor
    · intro h
      have h1 := h.1
      have e1 : (⟨#[c]⟩ : Str).length = 1 := rfl
      exact ⟨by omega, (StrLaws.subAt_one x c k).mp ⟨by omega, h.2⟩⟩
    · intro ⟨h1, h2⟩
      have e1 : (⟨#[c]⟩ : Str).length = 1 := rfl
      exact ⟨by omega, ((StrLaws.subAt_one x c k).mpr h2).2⟩
  rw [StrLaws.occ_eq]
  unfold findi findw
  rcases StrLaws.occ_first x ⟨#[c]⟩ j 1 (Nat.le_refl 1) (List.range' i (j + 1 - i)) i (fun k hk => by have := List.mem_range'_1.mp hk; omega) with ⟨h0, hn⟩ | ⟨pre, a, post, e, h0, ha, hn⟩
  · rw [h0]
    have : (List.range' i (j - i)).find? (fun k => x.cps.toList[k]? == some c) = none := by
      rw [List.find?_eq_none]
      intro k hk he
      have hk' := List.mem_range'_1.mp hk
      exact hn k (List.mem_range'_1.mpr (by omega)) ((at' k).mpr ⟨by omega, by simpa using he⟩)
    rw [this]
  · have hs := StrLaws.range'_split_from e
    have h2 := (at' a).mp ha
    generalize (forIn (List.range' i (j + 1 - i)) ((#[] : Array Nat), i) (StrLaws.occBody x ⟨#[c]⟩ j 1)).run.fst = arr at h0
    have h1 : arr.toList[0]? = some a := by simpa using h0
    have hf : (List.range' i (j - i)).find? (fun k => x.cps.toList[k]? == some c) = some a := by
      have e2 : List.range' i (j - i) = List.range' i (a - i) ++ a :: List.range' (a + 1) (j - a - 1) := by
        have : j - i = (a - i) + (1 + (j - a - 1)) := by omega
        rw [this, ← List.range'_append_1, ← List.range'_append_1]
        have : i + (a - i) = a := by omega
        rw [this]; rfl
      rw [e2, List.find?_append]
      have : (List.range' i (a - i)).find? (fun k => x.cps.toList[k]? == some c) = none := by
        rw [List.find?_eq_none]
        intro k hk he
        have hk' := List.mem_range'_1.mp hk
        exact hn k (hs.2 k (by omega) (by omega)) ((at' k).mpr ⟨by omega, by simpa using he⟩)
      rw [this, List.find?_cons]
      have : (x.cps.toList[a]? == some c) = true := by rw [h2.2]; simp
      simp only [this]; rfl
    rw [hf]
    cases hL : arr.toList with
    | nil => rw [hL] at h1; cases h1
    | cons b t => rw [hL] at h1; simp at h1; rw [h1]

theorem gives_find4 (x y : Str) (i j : Nat) (t u v v' : Tok) (hj : j ≤ x.length) : Gives (Builtin.«str.find» ⟨[.str x t, .str y u, .int i v, .int j v'], []⟩) (.int (match Builtin.Str.occurrences x y i j 1 with | k :: _ => (k : Int) | [] => -1)) := by
  show Gives (match Builtin.Str.occurrences x y (max 0 (if (i : Int) < 0 then (i : Int) + x.length else i)).toNat (min (max 0 (if (j : Int) < 0 then (j : Int) + x.length else j)).toNat x.length) 1 with | k :: _ => retInt k | [] => (do rule "str.find.not-found"; retInt (-1))) _
  have e1 : (max 0 (if (i : Int) < 0 then (i : Int) + x.length else i)).toNat = i := by omega
  have e2 : (min (max 0 (if (j : Int) < 0 then (j : Int) + x.length else j)).toNat x.length) = j := by omega
  rw [e1, e2]
  cases Builtin.Str.occurrences x y i j 1 with
  | nil => exact .rule (.of_eq rfl)
  | cons k _ => exact .of_eq rfl

theorem call_find {prog : Program} {w : World} {A : Around} {E : Value → Shared → Prop} {s : Shared} {l : List Nat} {c i j : Nat} {t u v v' : Tok} {Q : Value → Shared → Prop} (hj : j ≤ l.length)
    (hq : Q (.int (findi c l i j) s.toks) { s with toks := s.toks + 1 }) : wpAny (model prog w) A (call (.builtin "str.find") [.str (mkS l) t, .str (mkS [c]) u, .int i v, .int j v']) Q E s := by
  have hj' : j ≤ (mkS l).length := by rw [mkS_length]; exact hj
  refine call_gives F.slot_str_find (typeIs_str _ _ _) F.entry_str_find (F.args_str_find_4 _ _ _ _) (gives_find4 (mkS l) (mkS [c]) i j t u v v' hj') ?_
  have := occ_find (mkS l) c i j hj'
  rw [show (mkS [c]) = ⟨#[c]⟩ from rfl, this]
  exact hq

def replw (c : Nat) (z l : List Nat) : List Nat := l.flatMap fun d => if d = c then z else [d]
theorem replw_append (c : Nat) (z a b : List Nat) : replw c z (a ++ b) = replw c z a ++ replw c z b := by simp [replw]
theorem replw_free {c : Nat} {z : List Nat} : ∀ {l : List Nat}, c ∉ l → replw c z l = l
  | [], _ => rfl
  | k :: r, h => by
    have h1 : ¬ k = c := fun e => h (e ▸ List.mem_cons_self ..)
    have ih := replw_free (c := c) (z := z) fun m => h (List.mem_cons_of_mem _ m)
    show (if k = c then z else [k]) ++ replw c z r = _
    rw [if_neg h1, ih]; rfl
theorem replw_join (c : Nat) (z : Str) : ∀ parts : List Str, (∀ p ∈ parts, c ∉ p.cps.toList) → replw c z.cps.toList (Str.join ⟨#[c]⟩ parts).cps.toList = (Str.join z parts).cps.toList
  | [], _ => rfl
  | [p], h => replw_free (h p (List.mem_singleton.mpr rfl))
  | p :: q :: r, h => by
    have ih := replw_join c z (q :: r) fun a ha => h a (List.mem_cons_of_mem _ ha)
    show replw c z.cps.toList (p ++ ⟨#[c]⟩ ++ Str.join ⟨#[c]⟩ (q :: r)).cps.toList = (p ++ z ++ Str.join z (q :: r)).cps.toList
    simp only [Str.cps_append, Array.toList_append]
    rw [replw_append, replw_append, ih, replw_free (h p (List.mem_cons_self ..))]
    show p.cps.toList ++ replw c z.cps.toList [c] ++ _ = _
    have : replw c z.cps.toList [c] = z.cps.toList := by simp [replw]
    rw [this]
theorem replace_eq (l z : List Nat) (c : Nat) : Txt.replace (mkS l) (mkS [c]) (mkS z) = mkS (replw c z l) := by
  have h := replw_join c (mkS z) _ (StrLaws.split_free (mkS l) c)
  have e : (⟨#[c]⟩ : Str) = mkS [c] := rfl
  rw [e, ← show (⟨#[c]⟩ : Str) = mkS [c] from rfl, StrLaws.join_split, ← StrLaws.replace_one] at h
  have h' : replw c z l = (Txt.replace (mkS l) (mkS [c]) (mkS z)).cps.toList := h
  rw [h', mkS_toList]
theorem call_repl {prog : Program} {w : World} {A : Around} {E : Value → Shared → Prop} {s : Shared} {l z : List Nat} {c : Nat} {t u v : Tok} {Q : Value → Shared → Prop} (hu : u ≠ 0) (hv : v ≠ 0) (huv : u ≠ v) (hyz : [c] ≠ z) (hl : l.length ≤ 1000000) (hz : z.length ≤ 14)
    (hq : ∀ t' k, Q (.str (mkS (replw c z l)) t') { s with toks := k }) : wpAny (model prog w) A (call (.builtin "str.replace") [.str (mkS l) t, .str (mkS [c]) u, .str (mkS z) v]) Q E s := by
  refine SC.replaceW hu hv huv (by simpa [mkS_inj] using hyz) (by rw [mkS_length]; omega) (by rw [mkS_length]; exact hz) fun t' k => ?_
  rw [replace_eq]; exact hq t' k
theorem occ_none {c : Nat} {l : List Nat} (h : c ∉ l) : (Builtin.Str.occurrences (mkS l) (mkS [c]) 0 (mkS l).length ((mkS l).length + 1)).isEmpty = true := by
  rw [StrLaws.occ_eq]
  rcases StrLaws.occ_first (mkS l) (mkS [c]) (mkS l).length ((mkS l).length + 1) (by omega) (List.range' 0 ((mkS l).length + 1 - 0)) 0 (fun k hk => by have := List.mem_range'_1.mp hk; omega) with ⟨h0, _⟩ | ⟨pre, a, post, e, h0, ha, hn⟩
  · generalize (forIn (List.range' 0 ((mkS l).length + 1 - 0)) ((#[] : Array Nat), 0) (StrLaws.occBody (mkS l) (mkS [c]) (mkS l).length ((mkS l).length + 1))).run.fst = arr at h0
    rw [h0]; rfl
  · exfalso
    have := ha.2
    have e1 : (⟨#[c]⟩ : Str).length = 1 := rfl
    have e2 : (mkS [c]).length = 1 := rfl
    have h2 := (StrLaws.subAt_one (mkS l) c a).mp ⟨by have := ha.1; omega, this⟩
    exact h (List.mem_of_getElem? h2)

section
variable {prog : Program} {w : World} {A : Around} {E : Value → Shared → Prop} {s : Shared}
open PySem.Builtin in
theorem call_repl_no {l z : List Nat} {c : Nat} {t u v : Tok} {Q : Value → Shared → Prop} (h : c ∉ l) (hq : Q (.str (mkS l) t) s) : wpAny (model prog w) A (call (.builtin "str.replace") [.str (mkS l) t, .str (mkS [c]) u, .str (mkS z) v]) Q E s := by
  have he := occ_none h
  refine call_gives PySem.F.slot_str_replace (typeIs_str _ _ _) PySem.F.entry_str_replace (PySem.F.args_str_replace_3 _ _ _) (gives_str_replace (mkS l) (mkS [c]) (mkS z) t u v fun h' => by rw [he] at h'; cases h') ?_
  rw [he]
  exact hq

end

/-! # str.translate of one sign, by a table of signs -/
section
variable {prog : Program} {w : World} {A : Around} {E : Value → Shared → Prop} {s : Shared}
open PySem.Builtin PySem.Builtin.Str

theorem sub_key_look : isSubtype (.type "KeyError") (.type "LookupError") = pure true := by first | rfl | (rw [isSubtype_type]; kernel_rfl)

theorem tlook_hit {D : Addr} {f : Int → Option Value} {c : Nat} {x : Str} {t : Tok} {Q : Mapped → Shared → Prop} (hm : s.heap.MapOf (intKind prog w) D f) (hv : f c = some (.str x t))
    (h : ∀ k, Q (.text x) { s with toks := k }) : wpAny (model prog w) A (tableLookup (.ref D) c) Q E s := by
  unfold tableLookup
  refine wpAny_bind (wpAny_attempt (wpAny_bind (wpAny_mkInt ?_)))
  refine wpAny_getItem_of (intKind_is _ _ _ _) hm hv ?_
  dsimp only
  refine wpAny_bind ?_
  show wpAny _ _ (notAStandIn (.str x t) >>= _) _ _ _
  obtain ⟨hp, g, d, tk, os⟩ := s
  wp_walk
  exact h _
theorem tlook_miss {D : Addr} {f : Int → Option Value} {c : Nat} {Q : Mapped → Shared → Prop} (hh : A.handled = none) (hd : (D == sysModules) = false) (hm : s.heap.MapOf (intKind prog w) D f) (hv : f c = none)
    (h : ∀ h' k, (∀ b o, s.heap.get? b = some o → h'.get? b = some o) → Q .keep { s with heap := h', toks := k }) : wpAny (model prog w) A (tableLookup (.ref D) c) Q E s := by
  unfold tableLookup
  refine wpAny_bind (wpAny_attempt (wpAny_bind (wpAny_mkInt ?_)))
  refine wpAny_getItem_missing_of (intKind_is _ _ _ _) hd hh hm hv fun h' e hx => ?_
  obtain ⟨ob, t, ho, hc, _⟩ := hx.there
  dsimp only
  refine wpAny_bind (wpAny_isInstance (T := "KeyError") ⟨_, ho, hc⟩ sub_key_look ?_)
  rw [if_pos rfl]
  exact wpAny_bind (wpAny_rule (wpAny_pure (h _ _ hx.keeps)))

theorem meets_translate {D : Addr} {f : Int → Option Value} {c : Nat} {t : Tok} {Q : Value → Shared → Prop} (hh : A.handled = none) (hd : (D == sysModules) = false) (hm : s.heap.MapOf (intKind prog w) D f) (hc : c < 128)
    (hv : (f c = none ∧ (∀ h' k u, 0 < k → (∀ b o, s.heap.get? b = some o → h'.get? b = some o) → Q (.str (mkS [c]) u) { s with heap := h', toks := k })) ∨
      ∃ x u, f c = some (.str (mkS x) u) ∧ 1 < x.length ∧ x.length ≤ 100 ∧ ∀ h' k u, 0 < k → (∀ b o, s.heap.get? b = some o → h'.get? b = some o) → Q (.str (mkS x) u) { s with heap := h', toks := k }) :
    wpAny (model prog w) A (Builtin.«str.translate» ⟨[.str (mkS [c]) t, .ref D], []⟩) (fun r s' => ∃ v, r = .done (.ret v) ∧ Q v s') E s := by
  obtain ⟨hp, g, d, tk, os⟩ := s
  unfold Builtin.«str.translate»
  have hfast : ((mkS [c]).cps.all fun x => decide (x < 128)) = true := by simp [mkS, hc]
  repeat ((fail_if_success (with_reducible show wpAny _ _ (tableLookup _ _) _ _ _)); wp_step)
  have key : ∀ i (h : i < (mkS [c]).cps.size), (mkS [c]).cps[i] = c := by
    intro i h
    have : i = 0 := by simp [mkS] at h; omega
    subst this; simp [mkS]
  simp only [key]
  rcases hv with ⟨hv, hq⟩ | ⟨x, u, hv, hx, hx2, hq⟩
  · refine tlook_miss (s := ⟨hp, g, d, tk, os⟩) hh hd hm hv fun h' k hk => ?_
    wp_walk
    refine ⟨_, rfl, ?_⟩
    have := hq h' (k + 1) k (Nat.succ_pos _) hk
    simpa [mkS] using this
  · refine tlook_hit (s := ⟨hp, g, d, tk, os⟩) hm hv fun k => ?_
    repeat ((fail_if_success (with_reducible show wpAny _ _ (tableLookup _ _) _ _ _)); wp_step)
    have hl : (((mkS x).length == 1) && (mkS x).cps.all fun x => decide (x < 128)) = false := by
      rw [mkS_length]
      have : (x.length == 1) = false := by rw [beq_eq_false_iff_ne]; omega
      rw [this]; rfl
    simp only [hl, Bool.false_eq_true, if_false]
    repeat ((fail_if_success (with_reducible show wpAny _ _ (tableLookup _ _) _ _ _)); wp_step)
    refine tlook_hit (s := ⟨hp, g, d, k, os⟩) hm hv fun k2 => ?_
    wp_walk
    have htl : tooLong (0 + (mkS x).length) = false := by
      unfold tooLong
      rw [mkS_length]
      simp only [decide_eq_false_iff_not]
      have := sizeLine_eq
      omega
    dsimp only
    rw [htl]
    have hl2 : ¬ ((⟨List.foldl (fun acc p => acc ++ p.cps) #[] [mkS x].reverse⟩ : Str).length > sizeLine) := by
      have := sizeLine_eq
      simp [mkS, Str.length]
      omega
    wp_walk
    refine ⟨_, rfl, ?_⟩
    have := hq hp (k2 + 1) k2 (Nat.succ_pos _) (fun _ _ e => e)
    simpa [mkS] using this
theorem call_translate {D : Addr} {f : Int → Option Value} {c : Nat} {t : Tok} {Q : Value → Shared → Prop} (hh : A.handled = none) (hd : (D == sysModules) = false) (hm : s.heap.MapOf (intKind prog w) D f) (hc : c < 128)
    (hv : (f c = none ∧ (∀ h' k u, 0 < k → (∀ b o, s.heap.get? b = some o → h'.get? b = some o) → Q (.str (mkS [c]) u) { s with heap := h', toks := k })) ∨
      ∃ x u, f c = some (.str (mkS x) u) ∧ 1 < x.length ∧ x.length ≤ 100 ∧ ∀ h' k u, 0 < k → (∀ b o, s.heap.get? b = some o → h'.get? b = some o) → Q (.str (mkS x) u) { s with heap := h', toks := k }) :
    wpAny (model prog w) A (call (.builtin "str.translate") [.str (mkS [c]) t, .ref D]) Q E s :=
  wpAny_call_entry (T := "str") PySem.F.slot_str_translate (typeIs_str _ _ _) PySem.F.entry_str_translate (meets_translate hh hd hm hc hv) (PySem.F.args_str_translate_2 _ _)
end

/-! # the pattern of & ~ | does not stand in a text -/
def cde : Array Nat := #[14, 14, 4, 1, 1, 9, 0, 64, 0, 1342177280, 0, 0, 0, 0, 0, 17, 0, 13, 11, 9, 0, 64, 0, 1342177280, 0, 0, 0, 0, 0, 17, 1, 1]
def noAmp (c : Nat) : Bool := c < 128 && c != 38 && c != 124 && c != 126
theorem bits_no : ∀ c < 128, noAmp c = true → (cde.getD (5 + (1 + c / 32)) 0).testBit (c % 32) = false := by decide
theorem inSet_no {c : Nat} (h : noAmp c = true) (seen : Sre.Seen) : ∃ seen', Sre.inSet cde c cde.size 5 true seen = .ok (false, seen') := by
  have h1 : c < 128 := by simp [noAmp] at h; omega
  have h2 := bits_no c h1 h
  have e : (decide (c < 256) && (cde.getD (5 + (1 + c / 32)) 0).testBit (c % 32)) = false := by rw [h2, Bool.and_false]
  refine ⟨(seen.add 9).add 0, ?_⟩
  show (if (decide (c < 256) && (cde.getD (5 + (1 + c / 32)) 0).testBit (c % 32)) = true then Except.ok (true, seen.add 9) else Sre.inSet cde c 31 14 true (seen.add 9)) = _
  rw [e]
  rfl
theorem admitted_no {m : Sre.M} (hc : m.code = cde) (ht : ∀ (i c : Nat), m.text[i]? = some c → noAmp c = true) (hl : m.lim = m.text.size) : ∀ (fuel s : Nat) (seen : Sre.Seen), ∃ seen', Sre.M.admitted m fuel s seen = .ok (none, seen')
  | 0, s, seen => ⟨seen, rfl⟩
  | fuel + 1, s, seen => by
    unfold Sre.M.admitted
    by_cases h : s ≥ m.lim
    · rw [if_pos h]; exact ⟨_, rfl⟩
    · rw [if_neg h]
      have hs : s < m.text.size := by omega
      have hg : m.text.getD s 0 = m.text[s] := by simp [Array.getD, hs]
      have hx : noAmp (m.text.getD s 0) = true := by rw [hg]; exact ht s _ (by simp [hs])
      obtain ⟨seen', e⟩ := inSet_no hx seen
      rw [hc, e]
      exact admitted_no hc ht hl fuel (s + 1) seen'
def Gone (m : Sre.M) : Prop := m.answer = some false ∧ m.outcome = none ∧ m.frames = []
theorem attempt_no {m : Sre.M} (hc : m.code = cde) (ht : ∀ (i c : Nat), m.text[i]? = some c → noAmp c = true) (hl : m.lim = m.text.size) (ho : m.outcome = none) (hf : m.frames = []) (s : Nat) (b : Bool) : Gone (m.attemptFrom s b) := by
  unfold Sre.M.attemptFrom
  have h1 : m.hasFirstSet = true := by unfold Sre.M.hasFirstSet; rw [hc]; rfl
  rw [h1]
  simp only [Bool.not_true, Bool.false_eq_true, if_false]
  obtain ⟨seen', e⟩ := admitted_no hc ht hl (m.lim + 1 - s) s m.seen
  rw [e]
  exact ⟨rfl, ho, hf⟩
theorem search_no {l : List Nat} (h : ∀ c ∈ l, noAmp c = true) : Gone (Sre.forSearch cde l.toArray 1 0 l.toArray.size false) := by
  unfold Sre.forSearch
  have hh : Sre.header cde = (1, 15) := rfl
  simp only [hh]
  split
  · exact ⟨rfl, rfl, rfl⟩
  · refine attempt_no rfl (fun i c hc => ?_) rfl rfl rfl _ _
    have hc : l.toArray[i]? = some c := hc
    exact h c (List.mem_of_getElem? (by simpa using hc))

section
variable {prog : Program} {w : World} {A : Around} {E : Value → Shared → Prop} {s : Shared}
open PySem.Builtin PySem.Builtin.Re
theorem rules_any {p : Nat → Bool} {nm : Nat → String} : ∀ (l : List Nat) {Q : PUnit → Shared → Prop}, Q () s → wpAny (model prog w) A (forIn l PUnit.unit fun i _ => if p i = true then (do rule (nm i); pure (ForInStep.yield PUnit.unit)) else pure (ForInStep.yield PUnit.unit) : Sem PUnit) Q E s
  | [], Q, h => wpAny_pure h
  | i :: l, Q, h => by
    rw [List.forIn_cons]
    refine wpAny_bind ?_
    cases p i
    · exact wpAny_pure (rules_any l h)
    · exact wpAny_bind (wpAny_rule (wpAny_pure (rules_any l h)))
theorem drive_gone {m : Sre.M} (h : Gone m) {Q : Option Sre.M → Shared → Prop} (hq : Q none s) : wpAny (model prog w) A (reRunToEnd m) Q E s := by
  unfold reRunToEnd
  have h1 : m.runFor reTurnSteps = { m with outcome := some .failed } := by
    obtain ⟨a, b, c⟩ := h
    have hs : m.step = { m with outcome := some .failed } := by unfold Sre.M.step; rw [b]; simp only [Option.isSome_none, Bool.false_eq_true, if_false, a, c]
    unfold reTurnSteps
    unfold Sre.M.runFor
    rw [b, hs]
    simp only [Option.isSome_none, Bool.false_eq_true, if_false]
    unfold Sre.M.runFor
    simp
  have h2 : reDrive (2 ^ 64) m = pure { m with outcome := some .failed } := by
    show reDrive (18446744073709551615 + 1) m = _
    unfold reDrive
    rw [h1]; rfl
  rw [h2]
  refine wpAny_bind (wpAny_pure ?_)
  refine wpAny_bind ?_
  exact rules_any _ (wpAny_pure hq)

/-- the pattern object -/
structure IsPat (h : Heap) (p : Addr) : Prop where
  ex : ∃ o T vs n, h.get? p = some o ∧ o.cls = .type "re.Pattern" ∧ (∃ t0, o.data = .fields #[t0, .int 32 n, .int 1 0, .none, .none, .ref T, .int 0 0]) ∧ (∃ k, h.get? T = some (tupObj vs k)) ∧ (vs.toArray.map reRawOf).map (·.toNat) = cde
theorem whole_target {p : Addr} {l : List Nat} {t : Tok} (hp : IsPat s.heap p) {Q : ReTarget → Shared → Prop} (hq : Q { pattern := .ref p, string := .str (mkS l) t, code := cde, text := l.toArray, kind := 0, groups := 1, pos := 0, lim := l.toArray.size } s) :
    wpAny (model prog w) A (reWholeTarget (.ref p) (.str (mkS l) t)) Q E s := by
  obtain ⟨o, T, vs, n, ho, hc, ⟨t0, hd⟩, ⟨k, hT⟩, hv⟩ := hp.ex
  unfold reWholeTarget
  refine wpAny_bind (wpAny_fieldsOf ho hd ?_)
  refine wpAny_bind (m := reTextOf _) ?_
  unfold reTextOf
  refine wpAny_bind (wpAny_pure ?_)
  refine wpAny_pure ?_
  have e6 : reRawNat ((#[t0, Value.int 32 n, Value.int 1 0, Value.none, Value.none, Value.ref T, Value.int 0 0] : Array Value).getD 6 .none) = 0 := rfl
  have e5 : ((#[t0, Value.int 32 n, Value.int 1 0, Value.none, Value.none, Value.ref T, Value.int 0 0] : Array Value).getD 5 .none) = .ref T := rfl
  have e2 : reRawNat ((#[t0, Value.int 32 n, Value.int 1 0, Value.none, Value.none, Value.ref T, Value.int 0 0] : Array Value).getD 2 .none) = 1 := rfl
  dsimp only
  rw [e6, e5, e2]
  show wpAny _ _ (reNoCollectionInside (.str (mkS l) t) 0 >>= _) _ _ _
  refine wpAny_bind (wpAny_pure ?_)
  refine wpAny_bind ?_
  unfold reRawItems
  refine wpAny_bind (wpAny_seqItems hT rfl ?_)
  refine wpAny_pure (wpAny_pure ?_)
  simp only [Option.getD_some]
  rw [hv]
  exact hq
theorem next_no {l : List Nat} {p : Addr} {v : Value} (h : ∀ c ∈ l, noAmp c = true) {Q : Option Sre.M → Shared → Prop} (hq : Q none s) :
    wpAny (model prog w) A (reNextFound { pattern := .ref p, string := v, code := cde, text := l.toArray, kind := 0, groups := 1, pos := 0, lim := l.toArray.size } 0 false) Q E s := by
  unfold reNextFound
  exact drive_gone (search_no h) hq

theorem updSeq0 {a : Addr} {vs : List Value} {k : Nat} {f : Array Value → Array Value} {h : Heap} (hg : h.get? a = some (lstObj vs k)) : ∃ k', (h.update a (Obj.mapSeq f)).get? a = some (lstObj (f vs.toArray).toList k') ∧ ∀ b o, b ≠ a → h.get? b = some o → (h.update a (Obj.mapSeq f)).get? b = some o := by
  have e : ∃ k', Obj.mapSeq f (lstObj vs k) = lstObj (f vs.toArray).toList k' := ⟨_, by simp only [Obj.mapSeq, lstObj, Array.toArray_toList]; rfl⟩
  obtain ⟨k', e⟩ := e
  refine ⟨k', ?_, fun b o hb eb => (Heap.SameBut.update ..).extBut b o hb eb⟩
  rw [Heap.get?_update_self _ hg (by rw [e]; rfl), e]
theorem plain_sub_loop : plainId "re.Pattern.sub.loop" = true := by decide +kernel
theorem entry_sub_loop : entryFor table "re.Pattern.sub.loop" = some Builtin.«re.Pattern.sub.loop» := entryFor_of_tree (by kernel_rfl)
theorem meets_sub_loop (p : Addr) (l : List Nat) (t : Tok) (repl : Value) (D : Addr) (h : ∀ c ∈ l, noAmp c = true) (hl : l.length ≤ 1000000) :
    Meets (Builtin.«re.Pattern.sub.loop» ⟨[.ref p, .str (mkS l) t, repl, rawInt 1, rawInt 0, rawInt 0, rawInt 0, rawInt 0, .bool false, .ref D, .bool false], []⟩)
      (fun A R s => IsPat s.heap p ∧ s.heap.get? D = some (lstObj [] 0) ∧ ∀ h' k u, (∀ b o, b ≠ D → s.heap.get? b = some o → h'.get? b = some o) → R (.ok (.ret (.str (mkS l) u))) { s with heap := h', toks := k }) := by
  intro prog w A R s hs
  obtain ⟨hp, g, d, tk, os⟩ := s
  obtain ⟨hpat, hD, hq⟩ := hs
  unfold Builtin.«re.Pattern.sub.loop»
  refine wpAny_bind (whole_target hpat ?_)
  show wpAny _ _ (reNextFound _ 0 false >>= _) _ _ _
  refine wpAny_bind (next_no h ?_)
  dsimp only
  have hex : (⟨l.toArray.extract (Int.toNat 0) l.toArray.size⟩ : Str) = mkS l := by simp [mkS]
  have hex0 : (⟨l.toArray.extract 0 0⟩ : Str) = mkS [] := by simp [mkS]
  have hz : ¬ ((mkS l).length > sizeLine) := by rw [mkS_length]; have := sizeLine_eq; omega
  have hz0 : ¬ ((mkS []).length > sizeLine) := by rw [mkS_length]; simp
  have mk : ∀ {l : List Nat} {s : Shared} {A : Around} {Q : Value → Shared → Prop} {E : Value → Shared → Prop}, ¬ ((mkS l).length > sizeLine) → Q (.str (mkS l) s.toks) { s with toks := s.toks + 1 } → wpAny (model prog w) A (mkStr (mkS l)) Q E s := by
    intro l s A Q E h hq
    obtain ⟨hp, g, d, tk, os⟩ := s
    unfold mkStr
    rw [if_neg h]
    wp_walk
    exact hq
  by_cases hn : l = []
  · subst hn
    rw [if_neg (by simp)]
    show wpAny _ _ (mkStr ⟨([] : List Nat).toArray.extract 0 0⟩ >>= _) _ _ _
    rw [hex0]
    refine wpAny_bind (mk hz0 ?_)
    refine wpAny_bind (wpAny_seqItems hD rfl ?_)
    simp only [Option.getD_some]
    rw [if_pos (by rfl)]
    refine wpAny_bind (wpAny_pure ?_)
    rw [if_neg (by simp)]
    exact wpAny_pure (hq _ _ _ fun _ _ _ e => e)
  · rw [if_pos (by simp; exact List.length_pos_iff.mpr hn)]
    show wpAny _ _ (mkStr ⟨l.toArray.extract (Int.toNat 0) l.toArray.size⟩ >>= _) _ _ _
    rw [hex]
    refine wpAny_bind (mk hz ?_)
    refine wpAny_bind (wpAny_updateSeq hD rfl ?_ (by simp) (by simp))
    show wpAny _ _ (mkStr ⟨l.toArray.extract 0 0⟩ >>= _) _ _ _
    rw [hex0]
    refine wpAny_bind (mk hz0 ?_)
    obtain ⟨k', u1, u2⟩ := updSeq0 (f := fun xs => xs.push (Value.str (mkS l) tk)) hD
    refine wpAny_bind (wpAny_seqItems u1 rfl ?_)
    simp only [Option.getD_some]
    rw [if_neg (by simp)]
    rw [if_pos (by rfl)]
    refine wpAny_bind ?_
    refine SC.join (l := [(mkS l, tk)]) (texts := [mkS l]) ⟨_, u1, rfl, _, rfl⟩ rfl (joinOk_of_weight (by simp [mkS_length]; omega) (by rw [mkS_length]; simp)) fun t' k => ?_
    rw [if_neg (by simp)]
    have hj : Txt.join (mkS []) [mkS l] = mkS l := by
      unfold Txt.join
      rw [StrLaws.glued_eq_join]; rfl
    rw [hj]
    exact wpAny_pure (hq _ _ _ fun b o hb e => u2 b o hb e)

theorem lookup_fn_call : typeLookup (.type "function") "__call__" = pure (some (.builtin "function.__call__")) := by
  rw [typeLookup_type, builtinLookup_eq_fast]; kernel_rfl
theorem sub_str_ba : isSubtype (.type "str") (.type "bytearray") = pure false := by first | rfl | (rw [isSubtype_type]; kernel_rfl)
theorem named_sub (a b : Value) : reNamed "re.Pattern.sub" "sub" ["repl", "string", "count"] 2 [a, b] [] = pure [some a, some b, none] := by rfl
theorem meets_sub (p f : Addr) (l : List Nat) (t : Tok) (h : ∀ c ∈ l, noAmp c = true) (hl : l.length ≤ 1000000) :
    Meets (Builtin.«re.Pattern.sub» ⟨[.ref p, .ref f, .str (mkS l) t], []⟩)
      (fun A R s => IsPat s.heap p ∧ s.TypeIs (.ref f) "function" ∧ ∀ h' k u, (∀ b o, s.heap.get? b = some o → h'.get? b = some o) → R (.ok (.ret (.str (mkS l) u))) { s with heap := h', toks := k }) := by
  intro prog w A R s hs
  obtain ⟨hp, g, d, tk, os⟩ := s
  obtain ⟨hpat, hF, hq⟩ := hs
  unfold Builtin.«re.Pattern.sub» reSubstitute
  dsimp only
  rw [named_sub]
  refine wpAny_bind (wpAny_pure ?_)
  dsimp only
  refine wpAny_bind (wpAny_pure ?_)
  refine wpAny_bind (wpAny_specialOf hF lookup_fn_call ?_)
  dsimp only [Option.isSome_some]
  refine wpAny_bind (wpAny_pure ?_)
  rw [if_pos rfl]
  refine wpAny_bind (wpAny_pure ?_)
  dsimp only
  refine wpAny_bind (wpAny_holding (whole_target hpat ?_))
  rw [if_pos (by rfl)]
  refine wpAny_bind ?_
  unfold reNotHeld
  refine wpAny_bind (wpAny_isInstance (typeIs_str _ _ _) sub_str_ba ?_)
  rw [if_neg (by simp)]
  refine wpAny_pure ?_
  refine wpAny_bind ?_
  unfold newList
  refine wpAny_newObj_type ?_
  refine wpAny_pure ?_
  refine ⟨plainId_quiet plain_sub_loop _, codeAny_builtin entry_sub_loop ?_⟩
  rw [Around.under_plainId plain_sub_loop _]
  have hup : ∀ b o, hp.get? b = some o → (hp.push (lstObj [] 0)).get? b = some o := fun b o e => Heap.get?_push_of_some _ e
  have hpat' : IsPat (hp.push (lstObj [] 0)) p := by
    obtain ⟨o, T, vs, n, ho, hc, hd, ⟨k, hT⟩, hv⟩ := hpat.ex
    exact ⟨o, T, vs, n, hup _ _ ho, hc, hd, ⟨k, hup _ _ hT⟩, hv⟩
  refine meets_sub_loop p l t (.ref f) hp.objs.size h hl prog w A R _ ⟨hpat', Heap.get?_push_size _ rfl, fun h' k u hk => ?_⟩
  exact hq h' k u fun b o e => hk b o (Nat.ne_of_lt (Heap.lt_size e)) (hup b o e)

theorem slot_pat_sub : Slot "re.Pattern" "sub" "re.Pattern.sub" :=
  .of (owner := "re.Pattern") (n := "sub") (by rw [typeLookup_type, builtinLookup_eq_fast]; kernel_rfl) (by decide +kernel) (by decide +kernel) (by decide +kernel)
    (by first | exact .inl (by decide +kernel) | exact .inr (by decide +kernel)) (by rw [isSubtype_type]; kernel_rfl)
theorem type_pat_sub : typeOf (.builtin "re.Pattern.sub") = pure (.type "method_descriptor") := by show builtinType _ = _; rw [builtinType_eq_fast]; kernel_rfl
theorem entry_pat_sub : entryFor table "re.Pattern.sub" = some Builtin.«re.Pattern.sub» := entryFor_of_tree (by kernel_rfl)
theorem args_pat_sub (a b c : Value) : argsOk "re.Pattern.sub" ⟨[a, b, c], []⟩ := by unfold argsOk; kernel_rfl
theorem plainAttrs_pat : PlainAttrs "re.Pattern" :=
  ⟨⟨"object.__getattribute__", by rw [typeLookup_type, builtinLookup_eq_fast]; kernel_rfl, by decide +kernel⟩, by rw [typeLookup_type, builtinLookup_eq_fast]; kernel_rfl⟩
theorem call_sub {p f : Addr} {l : List Nat} {t : Tok} {Q : Value → Shared → Prop} (h : ∀ c ∈ l, noAmp c = true) (hl : l.length ≤ 1000000) (hp : IsPat s.heap p) (hF : s.TypeIs (.ref f) "function")
    (hq : ∀ h' k u, (∀ b o, s.heap.get? b = some o → h'.get? b = some o) → Q (.str (mkS l) u) { s with heap := h', toks := k }) :
    wpAny (model prog w) A (call (.builtin "re.Pattern.sub") [.ref p, .ref f, .str (mkS l) t]) Q E s := by
  have hT : s.TypeIs (.ref p) "re.Pattern" := by
    obtain ⟨o, T, vs, n, ho, hc, _⟩ := hp.ex
    exact ⟨o, ho, hc⟩
  exact call_meets slot_pat_sub hT entry_pat_sub (args_pat_sub _ _ _) (meets_sub p f l t h hl) ⟨hp, hF, hq⟩
end

/-! # Expressions: what is asked ahead of them -/
abbrev Wp := Bool → Ρ → (V → Prop) → Prop
def fin (m : Bool) (Q : V → Prop) (d : V) : Prop := match m with | false => Q d | true => truthw d fun b => Q (.bool b)
def bw (d : V) (K : Bool → Prop) : Prop := match d with | .bool b => K b | _ => False
abbrev pw (W : Ρ → (V → Prop) → Prop) : Wp := fun m ρ Q => W ρ (fin m Q)

/-- what a global function gives -/
def Fn (C : Cx) (a : Addr) (q : Nat) (w : List V → (V → Prop) → Prop) : Prop :=
  ∀ A s F args ds Q, Room q A → Inv C s → FzOk C F s.heap → RepL F args ds → w ds Q → TrV C A (call (.ref a) args) s F Q
def FnAt (C : Cx) (x : Str) (q : Nat) (w : List V → (V → Prop) → Prop) : Prop := ∃ a o fd, C.mg x = some (.ref a) ∧ C.K a o ∧ o.data = .func fd ∧ Fn C a q w
def biNames : List Str := ["len", "range", "sorted", "sum", "object", "enumerate", "isinstance", "str"]
structure Ok (C : Cx) (vn : Nm) : Prop where
  bi : ∀ x ∈ biNames, C.mg x = none
  ec : ∀ scope cl L env, vn.ec env → vn.ec (compEnvC scope cl L env)
  dbg : ∀ n, vn.vn n ≠ "__debug__"

structure Ev (C : Cx) (vn : Nm) (r : Nat) (kd : Kd) (A : Around) (s : Shared) (F : Fz) (env : Env) (ρ : Ρ) : Prop where
  R : Room r A
  I : Inv C s
  f : FzOk C F s.heap
  eo : EnvOk C vn kd env s.heap F ρ
theorem Ev.go {C : Cx} {vn : Nm} {r : Nat} {kd : Kd} {A : Around} {s s₁ : Shared} {F F₁ : Fz} {env : Env} {ρ : Ρ} (h : Ev C vn r kd A s F env ρ) (I₁ : Inv C s₁) (k : Kp C s s₁) (x : Fx C F F₁ s s₁) : Ev C vn r kd A s₁ F₁ env ρ :=
  ⟨h.R, I₁, x.ok, h.eo.kp h.I k x⟩

/-- no star, no set display -/
def plx : Expr → Bool
  | .Starred .. => false
  | .Set .. => false
  | _ => true
theorem plx_set {x : Expr} (h : plx x = true) (env : Env) (v : Value) : foldedSetIterable x env v = pure v := by
  cases x <;> first | rfl | cases h
theorem plx_marks {x : Expr} (h : plx x = true) (op : CmpOp) : behindInMarks op x = false := by
  cases x <;> first | rfl | cases h
theorem plx_star {x : Expr} (h : plx x = true) (rest : List Expr) (env : Env) : starEach (x :: rest) env = (false, eval x env) :: starEach rest env := by
  cases x <;> first | rfl | cases h

/-- an expression is served -/
structure SX (C : Cx) (vn : Nm) (r : Nat) (kd : Kd) (x : Expr) (w : Wp) : Prop where
  p : plx x = true
  e : ∀ {A s F env ρ Q}, Ev C vn r kd A s F env ρ → w false ρ Q → TrV C A (eval x env) s F Q
  t : ∀ {A s F env ρ Q}, Ev C vn r kd A s F env ρ → w true ρ Q → Tr C A (isTrue x env (eval x env)) s F (Gb fun b => Q (.bool b))

abbrev Gvs (Q : List V → Prop) : List Value → Shared → Fz → Prop := fun vs _ F' => ∃ ds, RepL F' vs ds ∧ Q ds
def wsL : List Wp → Ρ → (List V → Prop) → Prop
  | [], _, Q => Q []
  | w :: l, ρ, Q => w false ρ fun d => wsL l ρ fun ds => Q (d :: ds)
inductive SA (C : Cx) (vn : Nm) (r : Nat) (kd : Kd) : List Expr → List Wp → Prop
  | nil : SA C vn r kd [] []
  | cons {x : Expr} {w : Wp} {xs : List Expr} {l : List Wp} : SX C vn r kd x w → SA C vn r kd xs l → SA C vn r kd (x :: xs) (w :: l)

section
variable {C : Cx} {vn : Nm} {r : Nat} {kd : Kd} {A : Around} {s s₁ s' : Shared} {F F' : Fz} {env : Env} {ρ : Ρ}

theorem up {α : Type} {t : Sem α} {Q : α → Shared → Fz → Prop} (k : Kp C s s₁) (fx : Fx C F F' s s₁) (h : Tr C A t s₁ F' Q) : wpAny (model C.prog C.w) A t (Pst C s F Q) (fun _ _ => False) s₁ :=
  wpAny_mono h (fun _ _ ⟨i, k', F'', x, q⟩ => ⟨i, k.trans k', F'', fx.trans x k, q⟩) fun _ _ e => e
theorem isT {x : Expr} {K : Bool → Prop} (h : TrV C A (eval x env) s F fun d => truthw d K) (hx : isTrue x env (eval x env) = (do let v ← eval x env; standAt x.pos; holding [v] (truthy v))) :
    Tr C A (isTrue x env (eval x env)) s F (Gb K) := by
  rw [hx]
  refine Tr.bind (h.mono fun v s₁ F₁ I₁ _ fx ⟨d, rv, hd⟩ => ?_)
  exact Tr.standAt (Tr.holding (truthw_sound I₁ fx.ok rv hd))
/-- bool() of the value -/
theorem SX.plain {x : Expr} {W : Ρ → (V → Prop) → Prop} (p : plx x = true) (h : ∀ {A s F env ρ Q}, Ev C vn r kd A s F env ρ → W ρ Q → TrV C A (eval x env) s F Q)
    (hx : ∀ env, isTrue x env (eval x env) = (do let v ← eval x env; standAt x.pos; holding [v] (truthy v))) : SX C vn r kd x (pw W) :=
  ⟨p, fun ev hw => h ev hw, fun ev hw => isT (h ev hw) (hx _)⟩

theorem SA.star {xs : List Expr} {l : List Wp} (h : SA C vn r kd xs l) : starEach xs env = xs.map fun x => (false, eval x env) := by
  induction h with
  | nil => rfl
  | cons hx _ ih => rw [plx_star hx.p, ih]; rfl
theorem SA.args {pos : Pos} {xs : List Expr} {l : List Wp} (h : SA C vn r kd xs l) : backTo pos (starEach xs env) = xs.map fun x => (false, eval x env) := by
  rw [h.star]; unfold backTo; rw [List.map_map]; rfl
theorem SA.ev {xs : List Expr} {l : List Wp} (h : SA C vn r kd xs l) : ∀ {s F Q}, Ev C vn r kd A s F env ρ → wsL l ρ Q → Tr C A (spliced (xs.map fun x => (false, eval x env))) s F (Gvs fun ds => ds.length = l.length ∧ Q ds) := by
  induction h with
  | nil => exact fun ev hw => Calls.spliced_nil (pst_here ev.I ev.f ⟨[], .nil, rfl, hw⟩)
  | cons hx _ ih =>
    exact fun ev hw => Calls.spliced_cons ((hx.e ev hw).after fun v s₁ F₁ I₁ k₁ fx ⟨d, rv, hd⟩ => (ih (ev.go I₁ k₁ fx) hd).after fun vs s₂ F₂ I₂ k₂ fx₂ ⟨ds, rl, hl, hq⟩ =>
      ⟨I₂, k₁.trans k₂, F₂, fx.trans fx₂ k₁, d :: ds, .cons (rv.mono fx₂.le) rl, congrArg Nat.succ hl, hq⟩)

/-! ## names -/
theorem nameG {n : Nat} {p : Pos} {v : Value} {R : Value → Shared → Prop} {E : Value → Shared → Prop} {M : Model} (O : Ok C vn) (I : Inv C s) (eo : EnvOk C vn kd env s.heap F ρ) (hx : kd.lookup n = some .globalImplicit) (hv : C.mg (vn.vn n) = some v) (h : R v s) :
    wpAny M A (eval (.Name (vn.vn n) p) env) R E s := by
  have hk : env.kindOf (vn.vn n) = some .globalImplicit := (eo.kd _ _ hx).elim id fun e => nomatch e.1
  exact Calls.Name_function_global eo.kind hk (Calls.loadGlobal_global (eo.glob ▸ I.g) hv h) (by simpa using O.dbg n)
theorem nameB {n : Nat} {p : Pos} {v : Value} {R : Value → Shared → Prop} {E : Value → Shared → Prop} {M : Model} (O : Ok C vn) (I : Inv C s) (eo : EnvOk C vn kd env s.heap F ρ) (hx : kd.lookup n = some .globalImplicit) {x : Str} (hn : vn.vn n = x) (hm : x ∈ biNames)
    (hb : bootBuiltins x = some v) (hne : x ≠ "__name__") (h : R v s) : wpAny M A (eval (.Name (vn.vn n) p) env) R E s := by
  subst hn
  have hk : env.kindOf (vn.vn n) = some .globalImplicit := (eo.kd _ _ hx).elim id fun e => nomatch e.1
  exact Calls.Name_function_global eo.kind hk (Calls.loadGlobal_builtin (eo.glob ▸ I.g) (O.bi _ hm) (eo.bi ▸ I.b) ((I.bi _ hne).trans hb) h) (by simpa using O.dbg n)
def w_x (n : Nat) (ρ : Ρ) (Q : V → Prop) : Prop := match ρ.lookup n with | some d => Q d | none => False
theorem s_x (O : Ok C vn) (n : Nat) {p : Pos} : SX C vn r kd (.Name (vn.vn n) p) (pw (w_x n)) := .plain rfl (fun {A s F env ρ Q} ev hw => by
  unfold w_x at hw
  cases hl : ρ.lookup n with
  | none => rw [hl] at hw; exact hw.elim
  | some d =>
    rw [hl] at hw
    obtain ⟨v, rd, rv⟩ := ev.eo.rd n d hl
    exact wpAny_Name (wp_loadRd ev.eo.kind rd (pst_here ev.I ev.f ⟨d, rv, hw⟩)) (by simpa using O.dbg n)) fun _ => rfl
abbrev Gl (C : Cx) (x : Str) (d : V) : Prop := ∃ v, C.mg x = some v ∧ Rep C.K v d
def w_g (d : V) (_ : Ρ) (Q : V → Prop) : Prop := Q d
theorem s_g (O : Ok C vn) (n : Nat) {p : Pos} {d : V} (hg : Gl C (vn.vn n) d) (hx : kd.lookup n = some .globalImplicit) : SX C vn r kd (.Name (vn.vn n) p) (pw (w_g d)) := .plain rfl (fun ev hw =>
  let ⟨_, hv, rv⟩ := hg
  nameG O ev.I ev.eo hx hv (pst_here ev.I ev.f ⟨d, rv.mono ev.f.k, hw⟩)) fun _ => rfl

/-! ## constants, operators -/
def okC : V → Const → Bool
  | .none, .none => true
  | .bool b, .bool c => b == c
  | .int i, .int j => i == j
  | .str l, .str s => mkS l == s
  | _, _ => false
def w_c (d : V) (_ : Ρ) (Q : V → Prop) : Prop := Q d
theorem s_int {i : Int} {n : Nat} {p : Pos} : SX C vn r kd (.Constant (.int i) n p) (pw (w_c (.int i))) := .plain rfl (fun ev hw => wpAny_Constant_int (pst_int ev.I ev.f hw trivial)) fun _ => rfl
theorem s_none {n : Nat} {p : Pos} : SX C vn r kd (.Constant .none n p) (pw (w_c .none)) := .plain rfl (fun ev hw => wpAny_Constant_none (pst_here ev.I ev.f ⟨_, .none, hw⟩)) fun _ => rfl
theorem s_bool {b : Bool} {n : Nat} {p : Pos} : SX C vn r kd (.Constant (.bool b) n p) (pw (w_c (.bool b))) := .plain rfl (fun ev hw => wpAny_Constant_bool (pst_here ev.I ev.f ⟨_, .bool _, hw⟩)) fun _ => rfl
theorem s_str (l : List Nat) {x : Str} {n : Nat} {p : Pos} (h : x = mkS l) : SX C vn r kd (.Constant (.str x) n p) (pw (w_c (.str l))) := .plain rfl (fun ev hw => wpAny_Constant_str (pst_str ev.I ev.f hw h trivial)) fun _ => rfl

theorem pair_sound {x y : Expr} {a b : Wp} {Qq : V → V → Prop} {R : Value → Value → Shared → Prop} (h1 : SX C vn r kd x a) (h2 : SX C vn r kd y b) (ev : Ev C vn r kd A s F env ρ) (hw : a false ρ fun u => b false ρ fun v => Qq u v)
    (k : ∀ u v s₂ F₂ a b, Inv C s₂ → Kp C s s₂ → Fx C F F₂ s s₂ → Rep F₂ u a → Rep F₂ v b → Qq a b → R u v s₂) :
    wpAny (model C.prog C.w) A (eval x env) (fun u s₁ => wpAny (model C.prog C.w) A (eval y env) (fun v s₂ => R u v s₂) (fun _ _ => False) s₁) (fun _ _ => False) s :=
  (h1.e ev hw).after fun u s₁ F₁ I₁ k₁ fx ⟨a, ra, ha⟩ => (h2.e (ev.go I₁ k₁ fx) ha).after fun v s₂ F₂ I₂ k₂ fx₂ ⟨b, rb, hb⟩ =>
    k u v s₂ F₂ a b I₂ (k₁.trans k₂) (fx.trans fx₂ k₁) (ra.mono fx₂.le) rb hb
def w_bin (op : Operator) (a b : Wp) (ρ : Ρ) (Q : V → Prop) : Prop := a false ρ fun x => b false ρ fun y => binw op x y Q
theorem s_bin {op : Operator} {x y : Expr} {p : Pos} {a b : Wp} (hx : SX C vn r kd x a) (hy : SX C vn r kd y b) : SX C vn r kd (.BinOp x op y p) (pw (w_bin op a b)) := .plain rfl (fun ev hw =>
  wpAny_BinOp (pair_sound hx hy ev hw fun _ _ _ _ _ _ I₂ k₂ fx ra rb hq => up k₂ fx (binw_sound I₂ fx.ok ra rb hq))) fun _ => rfl
def w_un (op : UnaryOp) (a : Wp) (ρ : Ρ) (Q : V → Prop) : Prop := a false ρ fun x => unw op x Q
theorem s_neg {x : Expr} {p : Pos} {a : Wp} (hx : SX C vn r kd x a) : SX C vn r kd (.UnaryOp .USub x p) (pw (w_un .USub a)) := .plain rfl (fun ev hw =>
  wpAny_UnaryOp ((hx.e ev hw).after fun _ _ _ I₁ k₁ fx ⟨_, ra, hq⟩ => up k₁ fx (unw_sound I₁ fx.ok ra hq))) fun _ => rfl
theorem s_inv {x : Expr} {p : Pos} {a : Wp} (hx : SX C vn r kd x a) : SX C vn r kd (.UnaryOp .Invert x p) (pw (w_un .Invert a)) := .plain rfl (fun ev hw =>
  wpAny_UnaryOp ((hx.e ev hw).after fun _ _ _ I₁ k₁ fx ⟨_, ra, hq⟩ => up k₁ fx (unw_sound I₁ fx.ok ra hq))) fun _ => rfl
def w_not (a : Wp) : Wp := fun m ρ Q => match m with
  | false => a false ρ fun x => truthw x fun b => Q (.bool !b)
  | true => a true ρ fun x => bw x fun b => Q (.bool !b)
theorem s_not {x : Expr} {p : Pos} {a : Wp} (hx : SX C vn r kd x a) : SX C vn r kd (.UnaryOp .Not x p) (w_not a) where
  p := rfl
  e := fun ev hw => wpAny_UnaryOp ((hx.e ev hw).after fun u s₁ F₁ I₁ k₁ fx ⟨d, ra, hq⟩ => PySem.not_value ((truthw_sound I₁ fx.ok ra hq).after fun b s₂ F₂ I₂ k₂ fx₂ hb =>
    ⟨I₂, k₁.trans k₂, F₂, fx.trans fx₂ k₁, _, .bool _, hb⟩))
  t := fun {A s F env ρ Q} ev hw => by
    show Tr C A (do return !(← isTrue _ env (eval _ env))) s F _
    exact Tr.bind ((hx.t ev hw).mono fun b s₁ F₁ I₁ k₁ fx hq => Tr.pure I₁ fx.ok hq)
def w_if (t a b : Wp) : Wp := fun m ρ Q => t true ρ fun x => bw x fun c => (c = true → a m ρ Q) ∧ (c = false → b m ρ Q)
theorem s_if {x y z : Expr} {p : Pos} {t a b : Wp} (hx : SX C vn r kd x t) (hy : SX C vn r kd y a) (hz : SX C vn r kd z b) : SX C vn r kd (.IfExp x y z p) (w_if t a b) where
  p := rfl
  e := fun ev hw => wpAny_IfExp ((hx.t ev hw).after fun c s₁ F₁ I₁ k₁ fx hq => by
    cases c
    · exact up k₁ fx (hz.e (ev.go I₁ k₁ fx) (hq.2 rfl))
    · exact up k₁ fx (hy.e (ev.go I₁ k₁ fx) (hq.1 rfl)))
  t := fun ev hw => by
    rw [arm_isTrue_IfExp]
    refine Tr.bind ((hx.t ev hw).mono fun c s₁ F₁ I₁ k₁ fx hq => ?_)
    cases c
    · exact hz.t (ev.go I₁ k₁ fx) (hq.2 rfl)
    · exact hy.t (ev.go I₁ k₁ fx) (hq.1 rfl)
def w_cmp (op : CmpOp) (a b : Wp) : Wp := fun _ ρ Q => a false ρ fun x => b false ρ fun y => cmpw op x y fun c => Q (.bool c)
theorem s_cmp {op : CmpOp} {x y : Expr} {p : Pos} {a b : Wp} (hx : SX C vn r kd x a) (hy : SX C vn r kd y b) : SX C vn r kd (.Compare x [op] [y] p) (w_cmp op a b) where
  p := rfl
  e := fun ev hw => wpAny_Compare1 (pair_sound hx hy ev hw fun u v s₂ F₂ a b I₂ k₂ fx ra rb hq => up k₂ fx ((cmpw_sound ev.R I₂ fx.ok ra rb hq).mono fun c s₃ F₃ _ _ _ ⟨d, rd, t, e, ht⟩ => ⟨d, rd, e ▸ ht⟩)) (plx_marks hy.p _)
  t := fun ev hw => wpAny_isTrue_Compare1 (pair_sound hx hy ev hw fun u v s₂ F₂ a b I₂ k₂ fx ra rb hq => (cmpw_sound ev.R I₂ fx.ok ra rb hq).after fun c s₃ F₃ I₃ k₃ fx₃ ⟨d, rd, t, e, ht⟩ => by
    subst e; exact up (k₂.trans k₃) (fx.trans fx₃ k₂) (truthw_sound I₃ fx₃.ok rd ht)) (plx_marks hy.p _)
def w_cmp2 (o q : CmpOp) (a b c : Wp) : Wp := fun _ ρ Q => a false ρ fun x => b false ρ fun y => cmpw o x y fun t => (t = true → c false ρ fun z => cmpw q y z fun u => Q (.bool u)) ∧ (t = false → Q (.bool false))
theorem s_cmp2 {o q : CmpOp} {x y z : Expr} {p : Pos} {a b c : Wp} (hx : SX C vn r kd x a) (hy : SX C vn r kd y b) (hz : SX C vn r kd z c) : SX C vn r kd (.Compare x [o, q] [y, z] p) (w_cmp2 o q a b c) := by
  have hm : lastMarks [o, q] [y, z] = false := plx_marks hz.p q
  have go : ∀ {A s F env ρ Q} {R : Value → Value → Shared → Prop}, Ev C vn r kd A s F env ρ → w_cmp2 o q a b c false ρ Q →
      (∀ u v s₂, wpAny (model C.prog C.w) A (compareOp o u v) (fun x s₃ => wpAny (model C.prog C.w) A (truthy x) (fun t s₄ => ∃ F₄ y', Ev C vn r kd A s₄ F₄ env ρ ∧ Kp C s s₄ ∧ Fx C F F₄ s s₄ ∧ Rep F₄ v y' ∧ (t = false → ∃ d, Rep F₄ x d ∧ Q d) ∧ (t = false → Q (.bool false)) ∧ (t = true → c false ρ fun z => cmpw q y' z fun u => Q (.bool u))) (fun _ _ => False) s₃) (fun _ _ => False) s₂ → R u v s₂) →
      wpAny (model C.prog C.w) A (eval x env) (fun u s₁ => wpAny (model C.prog C.w) A (eval y env) (fun v s₂ => R u v s₂) (fun _ _ => False) s₁) (fun _ _ => False) s := by
    intro A s F env ρ Q R ev hw k
    refine pair_sound hx hy ev hw fun u v s₂ F₂ a b I₂ k₂ fx ra rb hq => k u v s₂ ?_
    refine (cmpw_sound ev.R I₂ fx.ok ra rb hq).after fun x s₃ F₃ I₃ k₃ fx₃ ⟨d, rd, t, e, ht⟩ => ?_
    subst e
    refine (truthw_sound (K := fun b => b = t) I₃ fx₃.ok rd rfl).after fun b' s₄ F₄ I₄ k₄ fx₄ hb => ?_
    subst hb
    have K := (k₂.trans k₃).trans k₄
    have X := (fx.trans fx₃ k₂).trans fx₄ (k₂.trans k₃)
    exact ⟨F₄, b, ev.go I₄ K X, K, X, (rb.mono fx₃.le).mono fx₄.le, fun h => ⟨_, rd.mono fx₄.le, by rw [h]; exact ht.2 h⟩, ht.2, ht.1⟩
  refine ⟨rfl, fun {A s F env ρ Q} ev hw => ?_, fun {A s F env ρ Q} ev hw => ?_⟩
  · refine Compare_chain (wpAny_mono (go (R := fun u v s₂ => _) ev hw fun u v s₂ h => h) (fun u s₁ h => chain_link (wpAny_mono h (fun v s₂ h => wpAny_mono h (fun x s₃ h => wpAny_mono h (fun t s₄ h => ?_) fun _ _ e => e) fun _ _ e => e) fun _ _ e => e)) fun _ _ e => e) hm
    obtain ⟨F₄, y', ev', K, X, rv, h1, _, h2⟩ := h
    cases t
    · exact ⟨ev'.I, K, F₄, X, h1 rfl⟩
    · refine chain_last ((hz.e ev' (h2 rfl)).after fun w s₅ F₅ I₅ k₅ fx₅ ⟨d5, r5, h5⟩ => ?_)
      exact up (K.trans k₅) (X.trans fx₅ K) ((cmpw_sound ev.R I₅ fx₅.ok (rv.mono fx₅.le) r5 h5).mono fun c s₃ F₃ _ _ _ ⟨d, rd, t, e, ht⟩ => ⟨d, rd, e ▸ ht⟩)
  · refine isTrue_chain (wpAny_mono (go (R := fun u v s₂ => _) ev hw fun u v s₂ h => h) (fun u s₁ h => test_link (wpAny_mono h (fun v s₂ h => wpAny_mono h (fun x s₃ h => wpAny_mono h (fun t s₄ h => ?_) fun _ _ e => e) fun _ _ e => e) fun _ _ e => e)) fun _ _ e => e) hm
    obtain ⟨F₄, y', ev', K, X, rv, _, h1, h2⟩ := h
    cases t
    · exact ⟨ev'.I, K, F₄, X, h1 rfl⟩
    · refine test_last ((hz.e ev' (h2 rfl)).after fun w s₅ F₅ I₅ k₅ fx₅ ⟨d5, r5, h5⟩ => ?_)
      refine (cmpw_sound ev.R I₅ fx₅.ok (rv.mono fx₅.le) r5 h5).after fun c s₆ F₆ I₆ k₆ fx₆ ⟨d, rd, t, e, ht⟩ => ?_
      subst e
      exact up ((K.trans k₅).trans k₆) ((X.trans fx₅ K).trans fx₆ (K.trans k₅)) (truthw_sound I₆ fx₆.ok rd ht)

/-! ## and, or -/
def wB : Bool → Bool → List Wp → Ρ → (V → Prop) → Prop
  | _, _, [], _, _ => False
  | m, i, w :: l, ρ, Q => match l with
    | [] => w m ρ Q
    | _ :: _ => match m with
      | false => w false ρ fun d => truthw d fun b => (b = i → wB false i l ρ Q) ∧ (b ≠ i → Q d)
      | true => w true ρ fun d => bw d fun b => (b = i → wB true i l ρ Q) ∧ (b ≠ i → Q (.bool b))
theorem SA.bo {i : Bool} {pos : Pos} {xs : List Expr} {l : List Wp} (h : SA C vn r kd xs l) : ∀ {s F Q}, Ev C vn r kd A s F env ρ → wB false i l ρ Q → TrV C A (boolOp pos (if i then .And else .Or) (evalEach xs env)) s F Q := by
  induction h with
  | nil => exact fun _ hw => hw.elim
  | @cons x w xs l hx hxs ih =>
    intro s F Q ev hw
    cases hxs with
    | nil => exact hx.e ev hw
    | @cons y w' xs l hy hys =>
      show TrV C A (do
        let v ← eval x env
        standAt pos
        let t ← holding [v] (truthy v)
        match (if i then BoolOp.And else BoolOp.Or), t with
        | .And, false | .Or, true => pure v
        | _, _ => boolOp pos (if i then .And else .Or) (evalEach (y :: xs) env)) s F Q
      refine Tr.bind ((hx.e ev hw).mono fun v s₁ F₁ I₁ k₁ fx ⟨d, rv, hd⟩ => Tr.standAt (Tr.bind (Tr.holding ((truthw_sound I₁ fx.ok rv hd).mono fun b s₂ F₂ I₂ k₂ fx₂ hb => ?_))))
      have st : b ≠ i → TrV C A (pure v) s₂ F₂ Q := fun h => Tr.pure I₂ fx₂.ok ⟨d, rv.mono fx₂.le, hb.2 h⟩
      have go := fun h : b = i => ih ((ev.go I₁ k₁ fx).go I₂ k₂ fx₂) (hb.1 h)
      cases i <;> cases b
      · exact go rfl
      · exact st (by decide)
      · exact st (by decide)
      · exact go rfl
theorem SA.bt {i : Bool} {xs : List Expr} {l : List Wp} (h : SA C vn r kd xs l) : ∀ {s F Q}, Ev C vn r kd A s F env ρ → wB true i l ρ Q → Tr C A (allTrue (if i then .And else .Or) xs env) s F (Gb fun b => Q (.bool b)) := by
  induction h with
  | nil => exact fun _ hw => hw.elim
  | @cons x w xs l hx hxs ih =>
    intro s F Q ev hw
    cases hxs with
    | nil =>
      have h1 := hx.t ev hw
      cases i
      · exact wpAny_allTrue_Or_cons (h1.after fun b s₁ F₁ I₁ k₁ fx hb => by cases b <;> first | exact wpAny_allTrue_Or_nil ⟨I₁, k₁, F₁, fx, hb⟩ | exact ⟨I₁, k₁, F₁, fx, hb⟩)
      · exact wpAny_allTrue_And_cons (h1.after fun b s₁ F₁ I₁ k₁ fx hb => by cases b <;> first | exact wpAny_allTrue_And_nil ⟨I₁, k₁, F₁, fx, hb⟩ | exact ⟨I₁, k₁, F₁, fx, hb⟩)
    | @cons y w' xs l hy hys =>
      have h1 := hx.t ev hw
      cases i
      · exact wpAny_allTrue_Or_cons (h1.after fun b s₁ F₁ I₁ k₁ fx hb => by
          cases b
          · exact up k₁ fx (ih (ev.go I₁ k₁ fx) (hb.1 rfl))
          · exact ⟨I₁, k₁, F₁, fx, hb.2 (by decide)⟩)
      · exact wpAny_allTrue_And_cons (h1.after fun b s₁ F₁ I₁ k₁ fx hb => by
          cases b
          · exact ⟨I₁, k₁, F₁, fx, hb.2 (by decide)⟩
          · exact up k₁ fx (ih (ev.go I₁ k₁ fx) (hb.1 rfl)))
def w_bool (i : Bool) (l : List Wp) : Wp := fun m ρ Q => wB m i l ρ Q
theorem s_and {xs : List Expr} {p : Pos} {l : List Wp} (h : SA C vn r kd xs l) : SX C vn r kd (.BoolOp .And xs p) (w_bool true l) :=
  ⟨rfl, fun ev hw => h.bo (i := true) ev hw, fun ev hw => wpAny_isTrue_BoolOp (h.bt (i := true) ev hw)⟩
theorem s_or {xs : List Expr} {p : Pos} {l : List Wp} (h : SA C vn r kd xs l) : SX C vn r kd (.BoolOp .Or xs p) (w_bool false l) :=
  ⟨rfl, fun ev hw => h.bo (i := false) ev hw, fun ev hw => wpAny_isTrue_BoolOp (h.bt (i := false) ev hw)⟩

/-! ## displays, items -/
theorem newTup {vs : List Value} {ds : List V} {Q : V → Prop} (I : Inv C s) (f : FzOk C F s.heap) (rl : RepL F vs ds) (hz : ds.length ≤ 1000000) (h : Q (.tuple ds)) : TrV C A (newTuple vs) s F Q :=
  wpAny_newTuple (pst_push (n := s.toks) I f ⟨_, .tuple (vs := vs) (n := 0) (.inr ⟨rfl, rfl⟩) (rl.mono fun _ _ e => .inl e), h⟩ trivial) (by rw [rl.length]; exact sizeLine_big hz)
theorem newLst {vs : List Value} {ds : List V} {Q : V → Prop} (I : Inv C s) (f : FzOk C F s.heap) (rl : RepL F vs ds) (hz : ds.length ≤ 1000000) (h : Q (.list ds)) : TrV C A (newList vs) s F Q :=
  wpAny_newList (pst_push (n := s.toks) I f ⟨_, .list (vs := vs) (n := 0) (.inr ⟨rfl, rfl⟩) (rl.mono fun _ _ e => .inl e), h⟩ trivial) (by rw [rl.length]; exact sizeLine_big hz)
def w_tup (l : List Wp) (ρ : Ρ) (Q : V → Prop) : Prop := wsL l ρ fun ds => Q (.tuple ds)
theorem s_tup {xs : List Expr} {k : Nat} {p : Pos} {l : List Wp} (h : SA C vn r kd xs l) (hl : Nat.ble l.length 100 = true) : SX C vn r kd (.Tuple xs k p) (pw (w_tup l)) := .plain rfl (fun {A s F env ρ Q} ev hw => by
  show Tr C A (do standAt _; newTuple (← spliced (backTo _ (starEach _ env)))) s F _
  rw [h.args]
  exact Tr.standAt (Tr.bind ((h.ev ev hw).mono fun vs s₁ F₁ I₁ k₁ fx ⟨ds, rl, hn, hq⟩ => newTup I₁ fx.ok rl (Nat.le_trans (hn ▸ Nat.le_of_ble_eq_true hl) (by decide)) hq))) fun _ => rfl
def w_lst (l : List Wp) (ρ : Ρ) (Q : V → Prop) : Prop := wsL l ρ fun ds => Q (.list ds)
theorem s_lst {xs : List Expr} {p : Pos} {l : List Wp} (h : SA C vn r kd xs l) (hl : Nat.ble l.length 100 = true) : SX C vn r kd (.List xs p) (pw (w_lst l)) := .plain rfl (fun {A s F env ρ Q} ev hw => by
  show Tr C A (do standAt _; newList (← spliced (backTo _ (starEach _ env)))) s F _
  rw [h.args]
  exact Tr.standAt (Tr.bind ((h.ev ev hw).mono fun vs s₁ F₁ I₁ k₁ fx ⟨ds, rl, hn, hq⟩ => newLst I₁ fx.ok rl (Nat.le_trans (hn ▸ Nat.le_of_ble_eq_true hl) (by decide)) hq))) fun _ => rfl

theorem subscripted_op (y : Expr) (o i : Value) : ∃ l, subscripted y false o i = operate l (getItem o i) := by
  unfold subscripted
  split
  · exact ⟨_, rfl⟩
  · rename_i h; cases h
  · exact ⟨_, rfl⟩
theorem subs {x y : Expr} {p : Pos} {Q : Value → Shared → Prop} {E : Value → Shared → Prop}
    (h : wpAny (model C.prog C.w) A (eval x env) (fun o s₁ => wpAny (model C.prog C.w) A (eval y env) (fun i s₂ => ∃ T id, s₂.TypeIs o T ∧ typeLookup (.type T) "__getitem__" = pure (some (.builtin id)) ∧ wpAny (model C.prog C.w) A (getItem o i) Q E s₂) E s₁) E s) :
    wpAny (model C.prog C.w) A (eval (.Subscript x y p) env) Q E s := by
  rw [eval_Subscript]
  refine wpAny_bind (wpAny_mono h (fun o s₁ h₁ => wpAny_bind (wpAny_holding (wpAny_mono h₁ (fun i s₂ h₂ => wpAny_bind (wpAny_standAt ?_)) fun _ _ e => e))) fun _ _ e => e)
  obtain ⟨T, id, hT, hl, hg⟩ := h₂
  refine wpAny_bind ?_
  rw [getitemInPython_of_ne hT.not_modules]
  refine wpAny_bind (wpAny_specialOf hT hl ?_)
  obtain ⟨l, hl⟩ := subscripted_op y o i
  have fin : wpAny (model C.prog C.w) A (subscripted y false o i) (fun r s₃ => wpAny (model C.prog C.w) A (letTemporaryGo x o r >>= fun _ => pure r) Q E s₃) E s₂ := by
    rw [hl]
    exact wpAny_operating (wpAny_mono hg (fun r s₃ h₃ => wpAny_bind (wpAny_letTemporaryGo (wpAny_pure h₃))) fun _ _ e => e)
  exact wpAny_pure (wpAny_bind fin)
theorem getL {v : Value} {d i : V} {Q : V → Prop} (f : FzOk C F s.heap) (r : Rep F v d) (h : itemw d i Q) : ∃ T id, s.TypeIs v T ∧ typeLookup (.type T) "__getitem__" = pure (some (.builtin id)) := by
  obtain ⟨j, _, h⟩ := int1_inv h
  cases d with
  | str l => obtain ⟨t, rfl⟩ := r.str_inv; exact ⟨"str", _, typeIs_str _ _ _, PySem.F.slot_str_getitem.lookup⟩
  | list l => obtain ⟨_, _, _, rfl, ha, _⟩ := r.list_inv; exact ⟨"list", _, (f.isList ha).typeIs, list_getitem_lookup⟩
  | tuple l => obtain ⟨_, _, _, rfl, ha, _⟩ := r.tuple_inv; exact ⟨"tuple", _, ⟨_, (f.at' _ _ ha).1, rfl⟩, PySem.F.slot_tuple_getitem.lookup⟩
  | _ => exact h.elim
def w_item (a i : Wp) (ρ : Ρ) (Q : V → Prop) : Prop := a false ρ fun x => i false ρ fun y => itemw x y Q
theorem s_item {x y : Expr} {p : Pos} {a b : Wp} (hx : SX C vn r kd x a) (hy : SX C vn r kd y b) : SX C vn r kd (.Subscript x y p) (pw (w_item a b)) := .plain rfl (fun ev hw => subs (pair_sound hx hy ev hw fun u v s₂ F₂ a b I₂ k₂ fx ra rb hq =>
  let ⟨T, id, hT, hl⟩ := getL fx.ok ra hq
  ⟨T, id, hT, hl, up k₂ fx (itemw_sound I₂ fx.ok ra rb hq)⟩)) fun _ => rfl
end

/-! # Slices -/
section
variable {C : Cx} {vn : Nm} {r : Nat} {kd : Kd} {A : Around} {s s₁ s' : Shared} {F F' : Fz} {env : Env} {ρ : Ρ}

theorem upP {α : Type} {a : α} {Q : α → Shared → Fz → Prop} (k : Kp C s s₁) (fx : Fx C F F' s s₁) (h : Pst C s₁ F' Q a s') : Pst C s F Q a s' :=
  let ⟨i, k', F'', x, q⟩ := h; ⟨i, k.trans k', F'', fx.trans x k, q⟩
theorem strSlice_one (lo hi : Option Int) (n : Nat) : Builtin.Str.strSliceIndices lo hi 1 n = (List.range ((match hi with | none => n | some i => ixL i n) - (match lo with | none => 0 | some i => ixL i n))).map ((match lo with | none => 0 | some i => ixL i n) + ·) := by
  unfold Builtin.Str.strSliceIndices
  rw [← sliceRange_one]
  unfold ixL
  cases lo <;> cases hi <;> simp
theorem slicePicked_eq (l : List Nat) (lo hi : Option (Int × Tok)) : (slicePicked (mkS l) lo hi none).filterMap ((mkS l).cps[·]?) = sliceL l (lo.map (·.1)) (hi.map (·.1)) := by
  unfold slicePicked sliceL
  simp only [Option.map_none, Option.getD_none]
  rw [strSlice_one, mkS_length, mkS_cps, pick_run, List.toList_toArray]
  all_goals (cases lo <;> cases hi <;> rfl)
theorem partw_inv {d : V} {Q : Option Int → Prop} (h : partw d Q) : (d = .none ∧ Q none) ∨ ∃ i, d = .int i ∧ Q (some i) := by
  cases d <;> first | exact .inl ⟨rfl, h⟩ | exact .inr ⟨_, rfl, h.2⟩ | exact h.elim
theorem rep_part {v : Value} {d : V} {Q : Option Int → Prop} (r : Rep F v d) (h : partw d Q) : ∃ p : Option (Int × Tok), v = partValue p ∧ IsPart v (p.map (·.1)) ∧ Q (p.map (·.1)) := by
  rcases partw_inv h with ⟨rfl, h'⟩ | ⟨i, rfl, h'⟩
  · obtain rfl := r.none_inv; exact ⟨none, rfl, .none, h'⟩
  · obtain ⟨t, rfl⟩ := r.int_inv; exact ⟨some (i, t), rfl, .int _ _, h'⟩
theorem sliceL_full {l : List Nat} {lo hi : Option Int} (hc : (match hi with | none => l.length | some i => ixL i l.length) - (match lo with | none => 0 | some i => ixL i l.length) = l.length) : sliceL l lo hi = l := by
  have key : ∀ a b : Nat, a ≤ l.length → b ≤ l.length → b - a = l.length → (l.drop a).take (b - a) = l := fun a b ha hb h => by
    cases l with
    | nil => simp
    | cons x l =>
      obtain rfl : a = 0 := by simp only [List.length_cons] at h hb; omega
      simp [show b = (x :: l).length by omega]
  have hle := fun i => ixL_le i l.length
  exact key _ _ (by cases lo <;> first | exact Nat.zero_le _ | exact hle _) (by cases hi <;> first | exact Nat.le_refl _ | exact hle _) hc
theorem slicew_inv {d : V} {i j : Option Int} {Q : V → Prop} (h : slicew d i j Q) : (∃ l, d = .str l ∧ l.length ≤ 1000000 ∧ Q (.str (sliceL l i j))) ∨ ∃ l, d = .list l ∧ l.length ≤ 1000000 ∧ Q (.list (sliceL l i j)) := by
  cases d <;> first | exact .inl ⟨_, rfl, h⟩ | exact .inr ⟨_, rfl, h⟩ | exact h.elim
theorem slice_sound {x : Expr} {l u : Option Expr} {p q : Pos} {Q : V → Prop}
    (h : wpAny (model C.prog C.w) A (eval x env) (fun o s₁ => wpAny (model C.prog C.w) A (evalPart l env) (fun vl s₂ => wpAny (model C.prog C.w) A (evalPart u env) (fun vu s₃ =>
      ∃ F₃ d dl du, Inv C s₃ ∧ Kp C s s₃ ∧ Fx C F F₃ s s₃ ∧ Rep F₃ o d ∧ Rep F₃ vl dl ∧ Rep F₃ vu du ∧ partw dl fun i => partw du fun j => slicew d i j Q) (fun _ _ => False) s₂) (fun _ _ => False) s₁) (fun _ _ => False) s) :
    TrV C A (eval (.Subscript x (.Slice l u none q) p) env) s F Q := by
  refine subs (wpAny_mono h (fun o s₁ h₁ => wpAny_Slice (wpAny_mono h₁ (fun vl s₂ h₂ => wpAny_mono h₂ (fun vu s₃ h₃ => ?_) fun _ _ e => e) fun _ _ e => e)) fun _ _ e => e)
  obtain ⟨F₃, d, dl, du, I₃, k₃, fx₃, ro, rl, ru, hp⟩ := h₃
  rw [evalPart_none]
  obtain ⟨pl, hvl, ipl, hp⟩ := rep_part rl hp
  obtain ⟨pu, hvu, ipu, hp⟩ := rep_part ru hp
  obtain ⟨I₄, k₄, F₄, fx₄, _⟩ := pst_push0 (n := s₃.toks) (a := ()) (Q := fun _ _ _ => True) (o := { cls := .type "slice", data := .fields #[vl, vu, .none] }) I₃ fx₃.ok trivial I₃.tk
  have K := k₃.trans k₄
  have X := fx₃.trans fx₄ k₃
  rcases slicew_inv hp with ⟨sl, rfl, hz, hq⟩ | ⟨sl, rfl, hz, hq⟩
  · obtain ⟨t, rfl⟩ := ro.str_inv
    refine wpAny_pure ⟨"str", _, typeIs_str _ _ _, PySem.F.slot_str_getitem.lookup, up K X ?_⟩
    refine wpAny_getItem_str_slice (l := pl) (u := pu) (st := none) ⟨_, Heap.get?_push_size _ rfl, rfl, by rw [hvl, hvu]; rfl⟩ rfl ?_
    unfold sliceMade
    rw [slicePicked_eq]
    split
    · rename_i hc
      have hc2 := beq_iff_eq.mp (and2 hc).2
      unfold slicePicked at hc2
      simp only [Option.map_none, Option.getD_none] at hc2
      rw [strSlice_one, mkS_length, List.length_map, List.length_range] at hc2
      rw [sliceL_full hc2] at hq
      exact pst_here I₄ fx₄.ok ⟨_, .str _ _, hq⟩
    · exact ⟨show (mkS _).length ≤ _ by rw [mkS_length]; exact sizeLine_big (Nat.le_trans (sliceL_length _ _ _) hz), pst_str I₄ fx₄.ok hq rfl trivial⟩
  · obtain ⟨_, vs, _, rfl, ha, la⟩ := ro.list_inv
    have hl := fx₃.ok.isList ha
    refine wpAny_pure ⟨"list", _, (hl.push _).typeIs, list_getitem_lookup, up K X ?_⟩
    refine wpAny_getItem_list_slice (hl.push _) (Heap.IsSliceOf.new ..) ipl ipu .none (fun h => nomatch h) (pst_push (n := s₃.toks) I₄ fx₄.ok ⟨_, ?_, hq⟩ trivial) (by rw [List.size_toArray, la.length]; exact sizeLine_big hz)
    exact .list (vs := sliceL vs _ _) (n := 0) (.inr ⟨rfl, by rw [slicePick_eq]; rfl⟩) (((la.mono fx₄.le).slice _ _).mono fun _ _ e => .inl e)

/-- a part of a slice -/
structure SPt (C : Cx) (vn : Nm) (r : Nat) (kd : Kd) (x : Option Expr) (w : Ρ → (V → Prop) → Prop) : Prop where
  go : ∀ {A s F env ρ Q}, Ev C vn r kd A s F env ρ → w ρ Q → TrV C A (evalPart x env) s F Q
def w_no (_ : Ρ) (Q : V → Prop) : Prop := Q .none
theorem s_no : SPt C vn r kd none w_no := .mk fun {A s F env ρ Q} ev hw => by
  rw [evalPart_none]
  exact Tr.pure ev.I ev.f ⟨_, .none, hw⟩
theorem s_at {x : Expr} {w : Wp} (h : SX C vn r kd x w) : SPt C vn r kd (some x) (w false) := .mk fun ev hw => h.e ev hw
def w_sl (a : Wp) (lo hi : Ρ → (V → Prop) → Prop) (ρ : Ρ) (Q : V → Prop) : Prop := a false ρ fun x => lo ρ fun l => hi ρ fun h => partw l fun i => partw h fun j => slicew x i j Q
theorem s_sl {x : Expr} {l u : Option Expr} {p q : Pos} {a : Wp} {lo hi : Ρ → (V → Prop) → Prop} (hx : SX C vn r kd x a) (hl : SPt C vn r kd l lo) (hu : SPt C vn r kd u hi) : SX C vn r kd (.Subscript x (.Slice l u none q) p) (pw (w_sl a lo hi)) :=
  .plain rfl (fun ev hw => slice_sound ((hx.e ev hw).after fun o s₁ F₁ I₁ k₁ f₁ ⟨_, ro, h₁⟩ =>
    let e₁ := ev.go I₁ k₁ f₁
    (hl.go e₁ h₁).after fun vl s₂ F₂ I₂ k₂ f₂ ⟨_, rl, h₂⟩ => (hu.go (e₁.go I₂ k₂ f₂) h₂).after fun vu s₃ F₃ I₃ k₃ f₃ ⟨_, ru, h₃⟩ =>
      ⟨F₃, _, _, _, I₃, (k₁.trans k₂).trans k₃, (f₁.trans f₂ k₁).trans f₃ (k₁.trans k₂), (ro.mono f₂.le).mono f₃.le, rl.mono f₃.le, ru, h₃⟩)) fun _ => rfl

/-! # Calls -/
theorem callB {id : String} {y : Expr} {ys : List Expr} {pos : Pos} {Q : List V → Prop} {R : Value → Shared → Prop} (h : Tr C A (spliced ((y :: ys).map fun x => (false, eval x env))) s F (Gvs Q))
    (k : ∀ vs s₁ F₁ ds, Inv C s₁ → Kp C s s₁ → Fx C F F₁ s s₁ → RepL F₁ vs ds → Q ds → wpAny (model C.prog C.w) A (call (.builtin id) vs) R (fun _ _ => False) s₁) :
    wpAny (model C.prog C.w) A (callWith pos (.builtin id) [] ((y :: ys).map fun x => (false, eval x env)) []) R (fun _ _ => False) s :=
  Calls.callWith_builtin (by simp) (Calls.evalArgs_plain (h.after fun vs s₁ F₁ I k₁ fx ⟨ds, rl, hq⟩ => k vs s₁ F₁ ds I k₁ fx rl hq))
theorem callT {T : String} {y : Expr} {ys : List Expr} {pos : Pos} {Q : List V → Prop} {R : Value → Shared → Prop} (h : Tr C A (spliced ((y :: ys).map fun x => (false, eval x env))) s F (Gvs Q))
    (k : ∀ vs s₁ F₁ ds, Inv C s₁ → Kp C s s₁ → Fx C F F₁ s s₁ → RepL F₁ vs ds → Q ds → wpAny (model C.prog C.w) A (call (.type T) vs) R (fun _ _ => False) s₁) :
    wpAny (model C.prog C.w) A (callWith pos (.type T) [] ((y :: ys).map fun x => (false, eval x env)) []) R (fun _ _ => False) s :=
  PySem.callWith_type (by simp) (Calls.evalArgs_plain (h.after fun vs s₁ F₁ I k₁ fx ⟨ds, rl, hq⟩ => k vs s₁ F₁ ds I k₁ fx rl hq))
def w_call (w : List V → (V → Prop) → Prop) (l : List Wp) (ρ : Ρ) (Q : V → Prop) : Prop := wsL l ρ fun ds => w ds Q
theorem s_call (O : Ok C vn) {q : Nat} {w : List V → (V → Prop) → Prop} (n : Nat) {x : Expr} {xs : List Expr} {p pos : Pos} {l : List Wp} (hf : FnAt C (vn.vn n) q w) (hx : kd.lookup n = some .globalImplicit) (h : SA C vn r kd (x :: xs) l) (hq : Nat.ble q r = true := by rfl) :
    SX C vn r kd (.Call (.Name (vn.vn n) p) (x :: xs) [] pos) (pw (w_call w l)) := .plain rfl (fun {A s F env ρ Q} ev hw => by
  obtain ⟨a, o, fd, hm, hK, hd, fn⟩ := hf
  refine wpAny_Call_NameR (nameG O ev.I ev.eo hx hm ?_)
  rw [h.args]
  refine Calls.callWith_function (o := o) (fd := fd) (Calls.evalArgs_plain ((h.ev ev hw).after fun vs s₁ F₁ I₁ k₁ fx ⟨ds, rl, _, hw'⟩ => ?_))
  exact ⟨⟨(I₁.k a o hK).1, hd⟩, up k₁ fx (fn A s₁ F₁ vs ds Q (ev.R.le (Nat.le_of_ble_eq_true hq)) I₁ fx.ok rl hw')⟩) fun _ => rfl
theorem boot_len : bootBuiltins "len" = some (.builtin "len") := by decide +kernel
def w_len (a : Wp) (ρ : Ρ) (Q : V → Prop) : Prop := a false ρ fun x => lenw x Q
theorem SA.one {x : Expr} {a : Wp} (h : SX C vn r kd x a) : SA C vn r kd [x] [a] := .cons h .nil
theorem rep1 {vs : List Value} {d : V} (rl : RepL F vs [d]) : ∃ v, vs = [v] ∧ Rep F v d := by
  cases rl with | cons r1 rl => cases rl with | nil => exact ⟨_, rfl, r1⟩
/-- a builtin function of one argument -/
theorem s_bi (O : Ok C vn) {n : Nat} {id : String} {y : Expr} {p pos : Pos} {a : Wp} {w : V → (V → Prop) → Prop} (hn : vn.vn n = (id : Str)) (hm : (id : Str) ∈ biNames) (hb : bootBuiltins (id : Str) = some (.builtin id)) (hne : (id : Str) ≠ "__name__") (hx : kd.lookup n = some .globalImplicit) (h : SX C vn r kd y a)
    (go : ∀ {A s F v d Q}, Room r A → Inv C s → FzOk C F s.heap → Rep F v d → w d Q → TrV C A (call (.builtin id) [v]) s F Q) : SX C vn r kd (.Call (.Name (vn.vn n) p) [y] [] pos) (pw fun ρ Q => a false ρ fun x => w x Q) := .plain rfl (fun {A s F env ρ Q} ev hw => by
  refine wpAny_Call_NameR (nameB O ev.I ev.eo hx hn hm hb hne ?_)
  rw [(SA.one h).args]
  show wpAny _ A (callWith pos (.builtin id) [] [(false, eval y env)] []) _ _ s
  exact Calls.callWith_builtin rfl (Calls.evalArgs_plain (Calls.spliced_cons ((h.e ev hw).after fun v s₁ F₁ I₁ k₁ fx ⟨d, rv, hd⟩ => Calls.spliced_nil (up k₁ fx (go ev.R I₁ fx.ok rv hd)))))) fun _ => rfl
theorem s_len (O : Ok C vn) {n : Nat} {y : Expr} {p pos : Pos} {a : Wp} (hn : vn.vn n = "len") (hx : kd.lookup n = some .globalImplicit) (h : SX C vn r kd y a) : SX C vn r kd (.Call (.Name (vn.vn n) p) [y] [] pos) (pw (w_len a)) :=
  s_bi O (id := "len") hn (by decide +kernel) boot_len (by decide +kernel) hx h fun _ I f rv hd => len_sound I f rv hd
theorem boot_object : bootBuiltins "object" = some (.type "object") := by decide +kernel
def w_obj (_ : Ρ) (Q : V → Prop) : Prop := ∀ a : Addr, Q (.raw (.ref a))
theorem s_obj (O : Ok C vn) {n : Nat} {p pos : Pos} (hn : vn.vn n = "object") (hx : kd.lookup n = some .globalImplicit) : SX C vn r kd (.Call (.Name (vn.vn n) p) [] [] pos) (pw w_obj) := .plain rfl (fun {A s F env ρ Q} ev hw => by
  refine wpAny_Call_NameR (nameB O ev.I ev.eo hx hn (by decide +kernel) boot_object (by decide +kernel) ?_)
  exact PySem.callWith_type rfl (PyProof.Rows.evalArgs_none (call_object (pst_push (n := s.toks) ev.I ev.f ⟨_, .raw _, hw _⟩ trivial)))) fun _ => rfl
theorem boot_isinstance : bootBuiltins "isinstance" = some (.builtin "isinstance") := by decide +kernel
theorem boot_str : bootBuiltins "str" = some (.type "str") := by decide +kernel

def w_isS (a : Wp) (ρ : Ρ) (Q : V → Prop) : Prop := a false ρ fun x => str1 x fun _ => Q (.bool true)
theorem s_isS (O : Ok C vn) {n m : Nat} {y : Expr} {p p' pos : Pos} {a : Wp} (hn : vn.vn n = "isinstance") (hx : kd.lookup n = some .globalImplicit) (hm : vn.vn m = "str") (hx' : kd.lookup m = some .globalImplicit) (h : SX C vn r kd y a) :
    SX C vn r kd (.Call (.Name (vn.vn n) p) [y, .Name (vn.vn m) p'] [] pos) (pw (w_isS a)) := .plain rfl (fun {A s F env ρ Q} ev hw => by
  refine wpAny_Call_NameR (nameB O ev.I ev.eo hx hn (by decide +kernel) boot_isinstance (by decide +kernel) ?_)
  rw [plx_star h.p]
  refine Calls.callWith_builtin rfl (Calls.evalArgs_plain (Calls.spliced_cons ((h.e ev hw).after fun v s₁ F₁ I₁ k₁ fx ⟨d, rv, hd⟩ => ?_)))
  refine Calls.spliced_cons (nameB O I₁ (ev.eo.kp ev.I k₁ fx) hx' hm (by decide +kernel) boot_str (by decide +kernel) (Calls.spliced_nil ?_))
  obtain ⟨l, rfl, hq⟩ := str1_inv hd
  obtain ⟨t, rfl⟩ := rv.str_inv
  exact PySem.IsiPair.str_str ⟨I₁, k₁, F₁, fx, _, .bool true, hq⟩) fun _ => rfl

/-! ## methods -/
/-- an object whose method is sought by plain roads -/
def baseOk : Expr → Bool
  | .Call (.Name _ _) [] [] _ => false
  | _ => true
theorem base_eq {x : Expr} {nm : Str} (h : baseOk x = true) : attributeBase x nm env (eval x env) = eval x env := by
  cases x with
  | Call f a k p =>
    cases f <;> first | rfl | (cases a <;> cases k <;> first | rfl | cases h)
  | _ => rfl
def strw (d : V) (P : List Nat → Prop) : Prop := str1 d P
def w_join (sep : List Nat) (a : Wp) (ρ : Ρ) (Q : V → Prop) : Prop := a false ρ fun v => joinw sep v Q
theorem s_join (sep : List Nat) {x : Str} {y : Expr} {n : Nat} {p q pos : Pos} {a : Wp} (hs : x = mkS sep) (h : SX C vn r kd y a) (hline : (p.endLine == pos.line) = true) : SX C vn r kd (.Call (.Attribute (.Constant (.str x) n q) "join" p) [y] [] pos) (pw (w_join sep a)) := .plain rfl (fun {A s F env ρ Q} ev hw => by
  subst hs
  have hs : backTo pos (starEach [y] env) = [(false, eval y env)] := (SA.one h).args
  refine wpAny_Call_method (T := "str") (id := "str.join") rfl (by rw [hs]; rfl) hline PySem.F.plainAttrs_str PySem.F.slot_str_join PySem.F.type_str_join (wpAny_Constant_str ?_)
  have k1 := Kp.tok C s (s.toks + 1)
  refine ⟨typeIs_str _ _ _, (fun a e => by cases e), ?_⟩
  rw [hs]
  exact Calls.callWith_builtin rfl (Calls.evalArgs_plain (Calls.spliced_cons ((h.e (ev.go (ev.I.tok _ trivial) k1 (Fx.refl ev.f)) hw).after fun v s₂ F₂ I₂ k₂ fx₂ ⟨d2, rv, h2⟩ => Calls.spliced_nil
    (up (k1.trans k₂) ((Fx.refl ev.f : Fx C F F s { s with toks := s.toks + 1 }).trans fx₂ k1) (join_sound I₂ fx₂.ok (.str _ _) rv h2)))))) fun _ => rfl
def repw (c : Nat) (d : V) (Q : V → Prop) : Prop := str1 d fun l => c ∉ l ∧ Q (.str l)
def w_repl (c : Nat) (a : Wp) (ρ : Ρ) (Q : V → Prop) : Prop := a false ρ fun v => repw c v Q
theorem s_repl (c : Nat) (z : List Nat) {x x' : Str} {y : Expr} {n n' : Nat} {p q q' pos : Pos} {a : Wp} (hx : x = mkS [c]) (hx' : x' = mkS z) (h : SX C vn r kd y a) (hb : baseOk y = true) (hline : (p.endLine == pos.line) = true) :
    SX C vn r kd (.Call (.Attribute y "replace" p) [.Constant (.str x) n q, .Constant (.str x') n' q'] [] pos) (pw (w_repl c a)) := .plain rfl (fun {A s F env ρ Q} ev hw => by
  subst hx; subst hx'
  refine wpAny_Call_method (T := "str") (id := "str.replace") (base_eq hb) (by rfl) hline PySem.F.plainAttrs_str PySem.F.slot_str_replace PySem.F.type_str_replace ((h.e ev hw).after fun v s₁ F₁ I₁ k₁ fx ⟨d, rv, hd⟩ => ?_)
  obtain ⟨l, rfl, hl, hq⟩ := str1_inv hd
  obtain ⟨t, rfl⟩ := rv.str_inv
  refine ⟨typeIs_str _ _ _, (fun a e => by cases e), ?_⟩
  show wpAny _ A (callWith pos (.builtin "str.replace") [.str (mkS l) t] [(false, eval (.Constant (.str (mkS [c])) n q) env), (false, eval (.Constant (.str (mkS z)) n' q') env)] []) _ _ s₁
  exact Calls.callWith_builtin rfl (Calls.evalArgs_plain (Calls.spliced_cons (wpAny_Constant_str (Calls.spliced_cons (wpAny_Constant_str (Calls.spliced_nil (call_repl_no hl (upP k₁ fx (pst_tok (a := Value.str (mkS l) t) I₁ fx.ok ⟨_, .str _ _, hq⟩ trivial)))))))))) fun _ => rfl
def finw (c : Nat) (l : List Nat) (i j : V) (Q : V → Prop) : Prop := int2 i j fun i j => 0 ≤ i ∧ 0 ≤ j ∧ j ≤ l.length ∧ Q (.int (findi c l i.toNat j.toNat))
def w_find (c : Nat) (a b e : Wp) (ρ : Ρ) (Q : V → Prop) : Prop := a false ρ fun x => str1 x fun l => b false ρ fun u => e false ρ fun v => finw c l u v Q
theorem s_find (c : Nat) {x : Str} {y z1 z2 : Expr} {n : Nat} {p q pos : Pos} {a b e : Wp} (hx : x = mkS [c]) (h : SX C vn r kd y a) (h1 : SX C vn r kd z1 b) (h2 : SX C vn r kd z2 e) (hb : baseOk y = true) (hline : (p.endLine == pos.line) = true) :
    SX C vn r kd (.Call (.Attribute y "find" p) [.Constant (.str x) n q, z1, z2] [] pos) (pw (w_find c a b e)) := .plain rfl (fun {A s F env ρ Q} ev hw => by
  subst hx
  have hs : backTo pos (starEach [.Constant (.str (mkS [c])) n q, z1, z2] env) = [(false, eval (.Constant (.str (mkS [c])) n q) env), (false, eval z1 env), (false, eval z2 env)] := by
    show backTo pos ((false, eval (.Constant (.str (mkS [c])) n q) env) :: starEach [z1, z2] env) = _
    rw [plx_star h1.p, plx_star h2.p]; rfl
  refine wpAny_Call_method (T := "str") (id := "str.find") (base_eq hb) (by rw [hs]; rfl) hline PySem.F.plainAttrs_str PySem.F.slot_str_find PySem.F.type_str_find ((h.e ev hw).after fun v s₁ F₁ I₁ k₁ fx₁ ⟨d, rv, hd⟩ => ?_)
  obtain ⟨l, rfl, hd⟩ := str1_inv hd
  obtain ⟨t, rfl⟩ := rv.str_inv
  refine ⟨typeIs_str _ _ _, (fun a e => by cases e), ?_⟩
  rw [hs]
  have k1 := Kp.tok C s₁ (s₁.toks + 1)
  have fx1 : Fx C F₁ F₁ s₁ { s₁ with toks := s₁.toks + 1 } := Fx.refl fx₁.ok
  have ev1 := (ev.go I₁ k₁ fx₁).go (I₁.tok _ trivial) k1 fx1
  refine Calls.callWith_builtin rfl (Calls.evalArgs_plain (Calls.spliced_cons (wpAny_Constant_str (Calls.spliced_cons ((h1.e ev1 hd).after fun v2 s₂ F₂ I₂ k₂ fx₂ ⟨d2, rv2, hd2⟩ => Calls.spliced_cons
    ((h2.e (ev1.go I₂ k₂ fx₂) hd2).after fun v3 s₃ F₃ I₃ k₃ fx₃ ⟨d3, rv3, hd3⟩ => Calls.spliced_nil ?_))))))
  exact int2_go (rv2.mono fx₃.le) rv3 hd3 fun i j t2 t3 e2 e3 ⟨h1, h2, h3, h4⟩ => by
    subst e2; subst e3
    obtain ⟨i0, rfl⟩ := Int.eq_ofNat_of_zero_le h1
    obtain ⟨j0, rfl⟩ := Int.eq_ofNat_of_zero_le h2
    exact call_find (Int.ofNat_le.mp h3) (upP (((k₁.trans k1).trans k₂).trans k₃) (((fx₁.trans fx1 k₁).trans fx₂ (k₁.trans k1)).trans fx₃ ((k₁.trans k1).trans k₂)) (pst_int I₃ fx₃.ok h4 trivial))) fun _ => rfl
def w_fs (a b : List Nat) (e : Wp) (ρ : Ρ) (Q : V → Prop) : Prop := e false ρ fun x => str1 x fun l => l.length ≤ 1000000 ∧ Q (.str (a ++ l ++ b))
theorem str_e (x : Str) : Str.empty ++ x = x := by show Str.append _ _ = _; cases x; simp [Str.append, Str.empty]
theorem s_fs (a b : List Nat) {x x' : Str} {y : Expr} {n n' : Nat} {p p' q pos : Pos} {w : Wp} (hx : x = mkS a) (hx' : x' = mkS b) (la : Nat.ble a.length 1000 = true) (lb : Nat.ble b.length 1000 = true) (h : SX C vn r kd y w) :
    SX C vn r kd (.JoinedStr [.Constant (.str x) n p, .FormattedValue y (-1) none q, .Constant (.str x') n' p'] pos) (pw (w_fs a b w)) := .plain rfl (fun {A s F env ρ Q} ev hw => by
  subst hx; subst hx'
  have la := Nat.le_of_ble_eq_true la
  have lb := Nat.le_of_ble_eq_true lb
  have sz := sizeLine_eq
  refine JoinedStr_many (joinParts_cons (wpAny_Constant_str ?_))
  dsimp only
  refine ⟨by rw [str_e, mkS_length]; omega, joinParts_cons (FormattedValue_plain ?_)⟩
  have k1 := Kp.tok C s (s.toks + 1)
  have fx1 : Fx C F F s { s with toks := s.toks + 1 } := Fx.refl ev.f
  refine (h.e (ev.go (ev.I.tok _ trivial) k1 fx1) hw).after fun v s₁ F₁ I₁ k₁ fx ⟨d, rv, hd⟩ => ?_
  obtain ⟨l, rfl, hz, hq⟩ := str1_inv hd
  obtain ⟨t, rfl⟩ := rv.str_inv
  refine formatField_str (fun t' tk => ?_) (by rw [mkS_length]; omega)
  dsimp only
  rw [str_e, mkS_append]
  refine ⟨by rw [mkS_length, List.length_append]; omega, joinParts_cons (wpAny_Constant_str ?_)⟩
  dsimp only
  rw [mkS_append]
  have hz : (mkS (a ++ l ++ b)).length ≤ sizeLine := by rw [mkS_length, List.length_append, List.length_append]; omega
  exact ⟨hz, joinParts_nil (upP (Q := Gv Q) (k1.trans k₁) (fx1.trans fx k1) (pst_tok (Q := Gv Q) (a := Value.str (mkS (a ++ l ++ b)) _) I₁ fx.ok ⟨_, .str _ _, hq⟩ trivial)) hz⟩) fun _ => rfl
end

/-! # What a loop runs over -/
/-- what a loop's source leaves -/
abbrev SrcPost (C : Cx) (s : Shared) (F : Fz) (rg : Bool) (Q : List V → Prop) : Value → Shared → Prop := fun it s₂ =>
  ∃ F' h0 I fp n P St ds, it = .ref I ∧ Bk C s F s₂ F' ∧ s.heap.get? I = none ∧ ItOk C h0 F' s₂.heap I fp n P St ds ∧ (rg = true → fp = [I] ∧ ∀ d ∈ ds, d.flat = true) ∧ Q ds
structure SSrc (C : Cx) (vn : Nm) (r : Nat) (kd : Kd) (rg : Bool) (x : Expr) (w : Ρ → (List V → Prop) → Prop) : Prop where
  p : plx x = true
  e : ∀ {A s F env ρ Q}, Ev C vn r kd A s F env ρ → w ρ Q → wpAny (model C.prog C.w) A (eval x env) (fun x s₁ => wpAny (model C.prog C.w) A (pyIter x) (SrcPost C s F rg Q) (fun _ _ => False) s₁) (fun _ _ => False) s

section
variable {C : Cx} {vn : Nm} {r : Nat} {kd kd' : Kd} {A : Around} {s s₁ s' : Shared} {F F' : Fz} {env : Env} {ρ : Ρ}

def w_v (a : Wp) (ρ : Ρ) (Q : List V → Prop) : Prop := a false ρ fun d => itemsw d Q
theorem s_v {x : Expr} {a : Wp} (h : SX C vn r kd x a) : SSrc C vn r kd false x (w_v a) := ⟨h.p, fun ev hw => (h.e ev hw).after fun v s₁ F₁ I₁ k₁ fx ⟨d, rv, hd⟩ =>
  (iter_sound ev.R I₁ fx.ok rv hd).after fun it s₂ F₂ I₂ k₂ fx₂ ⟨J, fp, n, P, St, ds, e, io, hfl, hq⟩ =>
    ⟨F₂, _, J, fp, n, P, St, ds, e, ⟨ev.I, I₂, k₁.trans k₂, fx.trans fx₂ k₁⟩, Kp.none k₁ (I₁.freshNe io.lo) io.lo, io, hfl, hq⟩⟩
theorem rangeSize_bound {a b c : Int} (hc : c ≠ 0) : 0 ≤ Builtin.Range.rangeSize a b c ∧ Builtin.Range.rangeSize a b c ≤ (b - a).natAbs := by
  unfold Builtin.Range.rangeSize
  split
  · rename_i h
    split
    · have h1 : 0 ≤ (b - a - 1) / c := Int.ediv_nonneg (by omega) (by omega)
      have h2 : (b - a - 1) / c ≤ b - a - 1 := Int.ediv_le_self _ (by omega)
      omega
    · omega
  · split
    · have h1 : 0 ≤ (a - b - 1) / (-c) := Int.ediv_nonneg (by omega) (by omega)
      have h2 : (a - b - 1) / (-c) ≤ a - b - 1 := Int.ediv_le_self _ (by omega)
      omega
    · omega
theorem small_any {a b c : Int} (hc : c ≠ 0) (ha : a.natAbs < 2 ^ 28) (hb : b.natAbs < 2 ^ 28) (hc' : c.natAbs < 2 ^ 28) : Builtin.Range.small a b c = true := by
  have := rangeSize_bound (a := a) (b := b) hc
  unfold Builtin.Range.small
  simp only [Builtin.Range.rangeFitsLong, Bool.and_eq_true, Bool.or_eq_true, decide_eq_true_eq, beq_iff_eq]
  refine ⟨⟨⟨⟨by omega, by omega⟩, by omega⟩, by omega⟩, .inr ?_⟩
  split
  · rw [Bool.and_eq_true, decide_eq_true_eq, decide_eq_true_eq]; omega
  · rw [Bool.and_eq_true, decide_eq_true_eq, decide_eq_true_eq]; omega
/-- the numbers of a range -/
def rgw (a b c : Int) (Q : List V → Prop) : Prop := c ≠ 0 ∧ a.natAbs < 2 ^ 28 ∧ b.natAbs < 2 ^ 28 ∧ c.natAbs < 2 ^ 28 ∧ (rangeL a b c).length ≤ 1000000 ∧ Q ((rangeL a b c).map V.int)
theorem range_go {a b c : Int} {t u w : Tok} {k : Nat} {Q : List V → Prop} (ev : Ev C vn r kd A s F env ρ) (I₁ : Inv C s₁) (k₁ : Kp C s s₁) (fx : Fx C F F' s s₁) (h : rgw a b c Q) :
    wpAny (model C.prog C.w) A (pyIter (.ref s₁.heap.objs.size)) (SrcPost C s F true Q) (fun _ _ => False) { s₁ with heap := s₁.heap.push { cls := .type "range", data := .fields #[.int a t, .int b u, .int c w] }, toks := k } := by
  obtain ⟨I₂, k₂, F₂, fx₂, _⟩ := pst_push (n := k) (a := ()) (Q := fun _ _ _ => True) (o := { cls := .type "range", data := .fields #[.int a t, .int b u, .int c w] }) I₁ fx.ok trivial trivial
  obtain ⟨hc, ha, hb, hc', hz, hq⟩ := h
  have h0 := (rangeSize_bound (a := a) (b := b) hc).1
  unfold rangeL at hz
  rw [List.length_map, List.length_range] at hz
  refine (range_iter ev.R I₂ fx₂.ok (IsRange.new ..) (small_any hc ha hb hc') h0 (by omega) hq).after fun it s₃ F₃ I₃ k₃ fx₃ ⟨J, fp, n, P, St, ds, e, io, hfl, hq⟩ => ?_
  exact ⟨F₃, _, J, fp, n, P, St, ds, e, ⟨ev.I, I₃, (k₁.trans k₂).trans k₃, (fx.trans fx₂ k₁).trans fx₃ (k₁.trans k₂)⟩, Kp.none (k₁.trans k₂) (I₂.freshNe io.lo) io.lo, io, hfl, hq⟩
theorem boot_range : bootBuiltins "range" = some (.type "range") := by decide +kernel
theorem rsrc (O : Ok C vn) {n : Nat} {y : Expr} {ys : List Expr} {p pos : Pos} {l : List Wp} {w : List V → (List V → Prop) → Prop} (hn : vn.vn n = "range") (hx : kd.lookup n = some .globalImplicit) (h : SA C vn r kd (y :: ys) l)
    (go : ∀ {A s₁ F₁ vs ds Q} {R : Value → Shared → Prop}, RepL F₁ vs ds → w ds Q → (∀ {a b c t u w k}, rgw a b c Q → R (.ref s₁.heap.objs.size) { s₁ with heap := s₁.heap.push { cls := .type "range", data := .fields #[.int a t, .int b u, .int c w] }, toks := k }) → wpAny (model C.prog C.w) A (call (.type "range") vs) R (fun _ _ => False) s₁) :
    SSrc C vn r kd true (.Call (.Name (vn.vn n) p) (y :: ys) [] pos) (fun ρ Q => wsL l ρ fun ds => w ds Q) := ⟨rfl, fun {A s F env ρ Q} ev hw => by
  refine wpAny_Call_NameR (nameB O ev.I ev.eo hx hn (by decide +kernel) boot_range (by decide +kernel) ?_)
  rw [h.args]
  exact callT (h.ev ev hw) fun vs s₁ F₁ ds I₁ k₁ fx rl hq => go rl hq.2 fun hr => range_go ev I₁ k₁ fx hr⟩
def w_r1 (a : Wp) (ρ : Ρ) (Q : List V → Prop) : Prop := a false ρ fun x => int1 x fun b => rgw 0 b 1 Q
def w_r2 (a b : Wp) (ρ : Ρ) (Q : List V → Prop) : Prop := a false ρ fun x => b false ρ fun y => int2 x y fun i j => rgw i j 1 Q
def w_r3 (a b c : Wp) (ρ : Ρ) (Q : List V → Prop) : Prop := a false ρ fun x => b false ρ fun y => c false ρ fun z => int2 x y fun i j => int1 z fun k => rgw i j k Q
theorem repl_cons {vs : List Value} {d : V} {ds : List V} (rl : RepL F vs (d :: ds)) : ∃ v us, vs = v :: us ∧ Rep F v d ∧ RepL F us ds := by
  cases rl with | cons r1 rl => exact ⟨_, _, rfl, r1, rl⟩
theorem repl_nil {vs : List Value} (rl : RepL F vs []) : vs = [] := by cases rl; rfl
def rw1 : List V → (List V → Prop) → Prop | [x], Q => int1 x fun b => rgw 0 b 1 Q | _, _ => False
def rw2 : List V → (List V → Prop) → Prop | [x, y], Q => int2 x y fun i j => rgw i j 1 Q | _, _ => False
def rw3 : List V → (List V → Prop) → Prop | [x, y, z], Q => int2 x y fun i j => int1 z fun k => rgw i j k Q | _, _ => False
theorem s_r1 (O : Ok C vn) {n : Nat} {x : Expr} {p pos : Pos} {a : Wp} (hn : vn.vn n = "range") (hx : kd.lookup n = some .globalImplicit) (ha : SX C vn r kd x a) : SSrc C vn r kd true (.Call (.Name (vn.vn n) p) [x] [] pos) (w_r1 a) :=
  rsrc O (w := rw1) hn hx (.cons ha .nil) fun {A s₁ F₁ vs ds Q R} rl hw k => by
    match ds, hw with
    | [d], hw =>
      obtain ⟨b, rfl, hr⟩ := int1_inv hw
      obtain ⟨_, _, rfl, r1, rl⟩ := repl_cons rl
      obtain rfl := repl_nil rl
      obtain ⟨t, rfl⟩ := r1.int_inv
      exact call_range_1 (k hr)
theorem s_r2 (O : Ok C vn) {n : Nat} {x y : Expr} {p pos : Pos} {a b : Wp} (hn : vn.vn n = "range") (hx : kd.lookup n = some .globalImplicit) (ha : SX C vn r kd x a) (hb : SX C vn r kd y b) : SSrc C vn r kd true (.Call (.Name (vn.vn n) p) [x, y] [] pos) (w_r2 a b) :=
  rsrc O (w := rw2) hn hx (.cons ha (.cons hb .nil)) fun {A s₁ F₁ vs ds Q R} rl hw k => by
    match ds, hw with
    | [d, e], hw =>
      obtain ⟨_, _, rfl, r1, rl⟩ := repl_cons rl
      obtain ⟨_, _, rfl, r2, rl⟩ := repl_cons rl
      obtain rfl := repl_nil rl
      exact int2_go r1 r2 hw fun _ _ _ _ e e' hr => by subst e; subst e'; exact call_range_2 (k hr)
theorem s_r3 (O : Ok C vn) {n : Nat} {x y z : Expr} {p pos : Pos} {a b c : Wp} (hn : vn.vn n = "range") (hx : kd.lookup n = some .globalImplicit) (ha : SX C vn r kd x a) (hb : SX C vn r kd y b) (hc : SX C vn r kd z c) : SSrc C vn r kd true (.Call (.Name (vn.vn n) p) [x, y, z] [] pos) (w_r3 a b c) :=
  rsrc O (w := rw3) hn hx (.cons ha (.cons hb (.cons hc .nil))) fun {A s₁ F₁ vs ds Q R} rl hw k => by
    match ds, hw with
    | [d, e, f], hw =>
      obtain ⟨_, _, rfl, r1, rl⟩ := repl_cons rl
      obtain ⟨_, _, rfl, r2, rl⟩ := repl_cons rl
      obtain ⟨_, _, rfl, r3, rl⟩ := repl_cons rl
      obtain rfl := repl_nil rl
      refine int2_go r1 r2 hw fun _ _ _ _ e e' hr => ?_
      subst e; subst e'
      obtain ⟨k', rfl, hr⟩ := int1_inv hr
      obtain ⟨t, rfl⟩ := r3.int_inv
      exact call_range_3 hr.1 (k hr) (.inl (PyProof.noPylong_small (by have := hr.2.2.2.1; omega)))

/-! # Comprehensions -/
def obw (o : Option Ρ) (K : Ρ → Prop) : Prop := match o with | some β => K β | none => False
theorem obw_inv {o : Option Ρ} {K : Ρ → Prop} (h : obw o K) : ∃ β, o = some β ∧ K β := by cases o with | none => exact h.elim | some β => exact ⟨β, rfl, h⟩
def tstw (c : Option Wp) (ρ : Ρ) (K : Bool → Prop) : Prop := match c with | none => K true | some w => w true ρ fun d => bw d K
inductive STst (C : Cx) (vn : Nm) (r : Nat) (kd : Kd) : List Expr → Option Wp → Prop
  | none : STst C vn r kd [] none
  | some {x : Expr} {w : Wp} : SX C vn r kd x w → STst C vn r kd [x] (some w)
def w_comp (xs fr : List Nat) (src : Ρ → (List V → Prop) → Prop) (cond : Option Wp) (elt : Wp) (ρ : Ρ) (Q : V → Prop) : Prop :=
  (fr.all fun n => (ρ.lookup n).isSome) = true ∧ src ρ fun ds => ∃ f : V → Option V,
    (∀ d ∈ ds, obw (bindp xs d) fun β => tstw cond (β ++ restr fr ρ) fun b => (b = true → elt false (β ++ restr fr ρ) fun q => f d = some q) ∧ (b = false → f d = none)) ∧ Q (.list (ds.filterMap f))
theorem STst.run {ifs : List Expr} {c : Option Wp} (h : STst C vn r kd ifs c) {K : Bool → Prop} (ev : Ev C vn r kd A s F env ρ) (hw : tstw c ρ K) :
    wpAny (model C.prog C.w) A (forIn ifs true fun c r => if r = true then do let ok ← isTrue c env (eval c env); pure (ForInStep.yield ok) else pure (ForInStep.yield r)) (Pst C s F (Gb K)) (fun _ _ => False) s := by
  cases h with
  | none => exact wpAny_tests_nil (pst_here ev.I ev.f hw)
  | some hx => exact wpAny_tests_one ((hx.t ev hw).mono fun b s₁ F₁ I₁ k₁ fx hq => hq)
theorem comp_sound (O : Ok C vn) {xs fr : List Nat} {rg : Bool} {src : Ρ → (List V → Prop) → Prop} {cond : Option Wp} {elt : Wp} {ex tg iter : Expr} {ifs : List Expr} {scope : Scope} {pos : Pos} {Q : V → Prop} (ev : Ev C vn r kd A s F env ρ)
    (hI : SSrc C vn r kd rg iter src) (hT : Tg vn kd' xs tg) (ck : CompOk vn kd kd' scope fr) (hC : STst C vn r kd' ifs cond) (hE : SX C vn r kd' ex elt) (hw : w_comp xs fr src cond elt ρ Q) {use : Option (Value → Sem Unit)} {P : Value → Shared → Prop}
    (hP : ∀ D L s5 F5 vs k m ds, Bk C s F s5 F5 → s.heap.get? D = none → s.heap.get? L = none → D ≠ L → s5.heap.get? D = some (lstObj vs k) → (∀ o, ¬ F5 D o) → (∀ o, ¬ F5 L o) → s5.heap.Ns L m → RepL F5 vs ds → Q (.list ds) →
      compPost (model C.prog C.w) A (fun _ _ => False) use P (.ref D) L (.ok .next) s5) :
    wpAny (model C.prog C.w) A (comprehension (.ListComp ex [⟨tg, iter, ifs, 0⟩] scope pos) scope env (firstIterPos [⟨tg, iter, ifs, 0⟩] pos) (newList []) false (eval iter env) use) P (fun _ _ => False) s := by
  obtain ⟨hfr, hsrc⟩ := hw
  have hfr' : ∀ n ∈ fr, (ρ.lookup n).isSome = true := List.all_eq_true.mp hfr
  have hclos : closureFor scope env = pure (clOf env scope.names) := closureFor_cl fun x hx hk => by
    obtain ⟨n, hn, e⟩ := ck.free x hx hk
    obtain ⟨c, _, _, hc, _⟩ := rd_cell ev.eo (ck.fr n hn).2.2.2 (hfr' n hn)
    exact ⟨c, e ▸ hc⟩
  refine wpAny_comprehension_free rfl (plx_set hI.p env) hclos ck.kind ck.loc (wpAny_mono (hI.e ev hsrc) (fun x s₁ h₁ => wpAny_mono h₁ (fun v s₂ h₂ => ?_) fun _ _ e => e) fun _ _ e => e)
  obtain ⟨F₂, h0, J, fp, n, P', St, ds, rfl, B, hJ, io, _, g, hg, hq⟩ := h₂
  refine comp_core (f := g) ev.R B ev.eo io hJ ck hT hfr' (fun d hd => ?_) O.ec ?_ fun D L s5 F5 vs k m B5 hD hL hDL e5 nD nL hn rl => hP D L s5 F5 vs k m _ B5 hD hL hDL e5 nD nL hn rl hq
  · obtain ⟨β, e, _⟩ := obw_inv (hg d hd); rw [e]; rfl
  · intro L s' F' β d hd hβ I' f' eo'
    obtain ⟨β', e, hb⟩ := obw_inv (hg d hd)
    obtain rfl : β = β' := Option.some.inj (hβ.symm.trans e)
    have ev' : Ev C vn r kd' A s' F' _ _ := ⟨ev.R, I', f', eo'⟩
    exact Tr.mono (hC.run ev' hb) fun b s'' F'' I'' k'' fx'' hq => by
      cases b
      · exact hq.2 rfl
      · exact hE.e (ev'.go I'' k'' fx'') (hq.1 rfl)
theorem s_comp (O : Ok C vn) (xs fr : List Nat) {rg : Bool} (kd' : Kd) {src : Ρ → (List V → Prop) → Prop} {cond : Option Wp} {elt : Wp} {ex tg iter : Expr} {ifs : List Expr} {scope : Scope} {pos : Pos}
    (hI : SSrc C vn r kd rg iter src) (hT : Tg vn kd' xs tg) (ck : compOk vn kd kd' scope fr = true) (hC : STst C vn r kd' ifs cond) (hE : SX C vn r kd' ex elt) : SX C vn r kd (.ListComp ex [⟨tg, iter, ifs, 0⟩] scope pos) (pw (w_comp xs fr src cond elt)) := .plain rfl (fun {A s F env ρ Q} ev hw => by
  rw [eval_ListComp]
  refine comp_sound O ev hI hT (.of ck) hC hE hw (use := none) fun D L s5 F5 vs k m ds B5 hD hL hDL e5 nD nL hn rl hq => ⟨m, hn, fun h' hs' => ?_⟩
  have B6 : Bk C s F { s5 with heap := h' } F5 := B5.upd (S := fun a => a = L) (by rintro a rfl; exact hL) (by rintro a o rfl; exact nL o) (fun b o hb e => hs'.extBut b o hb e) rfl rfl trivial
  have e6 : h'.get? D = some (lstObj vs k) := hs'.extBut D _ hDL e5
  exact (B6.freeze hD e6).toPst ⟨_, .list (vs := vs) (n := k) (.inr ⟨rfl, rfl⟩) (rl.mono fun _ _ e => .inl e), hq⟩) fun _ => rfl
end
section
variable {C : Cx} {A : Around} {s s₁ s' : Shared} {F F' : Fz} {vn : Nm} {r : Nat} {kd : Kd} {env : Env} {ρ : Ρ}

/-- the one table turns -/
theorem Inv.tabm (I : Inv C s) {h' : Heap} {k : Nat} {ps : Array Value} (hx : ∀ b o, b ≠ C.P → s.heap.get? b = some o → h'.get? b = some o) (hP : h'.get? C.P = some (tabObj ps)) (ht : TriplesOk ps.toList) (hk : Tp k) : Inv C { s with heap := h', toks := k } := by
  have nsx : ∀ {b : Addr} {m : Str → Option Value}, s.heap.Ns b m → b ≠ C.P := fun ⟨o, es, ep, e, hd, _⟩ => ne_P I e (by intro ps q; rw [hd] at q; cases q)
  refine ⟨I.g.at' fun o e => hx _ o (nsx I.g) e, I.b.at' fun o e => hx _ o (nsx I.b) e, I.bi, ?_, ?_, I.gens, I.os, hk, fun a o e => ⟨hx a o (I.k a o e).2 (I.k a o e).1, (I.k a o e).2⟩, ?_⟩
  · obtain ⟨mc, hc, h⟩ := I.lim
    exact ⟨mc, hc.at' fun o e => hx _ o (nsx hc) e, h⟩
  · obtain ⟨ps0, a, _, b⟩ := I.tab
    obtain ⟨o, vs, file, tf, flags, tg, inF, text, tt, e1, e2, e3, e4, r1, r2, r3, r4, r5, hne⟩ := CodeHd.of a b
    have H : CodeHd h' C.c C.P := ⟨o, vs, file, tf, flags, tg, inF, text, tt, hx _ _ hne e1, e2, e3, e4, r1, r2, r3, r4, r5, hne⟩
    exact ⟨ps, H.code hP ht, hP, H.tab hP⟩
  · obtain ⟨bm, ob, h1, h2, h3, h4, r⟩ := I.bm
    exact ⟨bm, ob, h1, h2, h3, hx _ _ h3 h4, r⟩
theorem pst_tabm {α : Type} {a : α} {Q : α → Shared → Fz → Prop} (I : Inv C s) (f : FzOk C F s.heap) {h' : Heap} {k : Nat} {ps : Array Value} (hx : ∀ b o, b ≠ C.P → s.heap.get? b = some o → h'.get? b = some o) (hP : h'.get? C.P = some (tabObj ps)) (ht : TriplesOk ps.toList) (hk : Tp k)
    (h : Q a { s with heap := h', toks := k } F) : Pst C s F Q a { s with heap := h', toks := k } :=
  ⟨I.tabm hx hP ht hk, fun b o hb e => hx b o hb e, F, Fx.refl ⟨fun b o e => ⟨hx b o (f.at' b o e).2 (f.at' b o e).1, (f.at' b o e).2⟩, f.k⟩, h⟩

theorem genexprCode_sound {pos : Pos} {qn : Str} {scope : Scope} (I : Inv C s) (f : FzOk C F s.heap) (hc : env.code = .ref C.c) : Tr C A (genexprCode env pos qn scope) s F (fun _ _ _ => True) := by
  refine tr_of I ?_
  obtain ⟨ps, hok, hP, _⟩ := I.tab
  obtain ⟨o, vs, file, tf, flags, tg, inF, text, tt, op, ho, hd, h11, h2, h7, h9, h10, hop, hpd, htr, hne⟩ := id hok
  rw [hP] at hop; cases hop
  unfold genexprCode codeAt
  rw [hc, if_neg (show ¬ ((Value.ref C.c == Value.none) = true) from Bool.false_ne_true)]
  refine wpAny_bind (wpAny_fieldsOf ho hd ?_)
  rw [h11]
  refine wpAny_bind (wpAny_fieldsOf hP hpd ?_)
  cases hnf : codeAmong pos ps.toList with
  | some cv => exact wpAny_pure (pst_here' I f trivial)
  | none =>
    rw [h2, h7, h9, h10]
    refine wpAny_bind (wpAny_newCode fun c' P' h' tk hk hc' hP' hcode' hrec' => ?_)
    have hop' := hk _ _ hP
    refine wpAny_bind (wpAny_updateFieldsOfTheText hop' hpd ?_)
    have hnew : (Obj.mapFields (fun vs => if (codeAmong pos vs.toList).isSome = true then vs else vs ++ #[rawInt pos.line, rawInt pos.col, .ref c']) (tabObj ps)) =
        tabObj (ps ++ #[rawInt pos.line, rawInt pos.col, .ref c']) := by
      simp [Obj.mapFields, tabObj, hnf]
    have hget := Heap.get?_update_self (h := h') (fun o => Obj.mapFields (fun vs => if (codeAmong pos vs.toList).isSome = true then vs else
      vs ++ #[rawInt pos.line, rawInt pos.col, .ref c']) o) hop' (by rw [hnew]; rfl)
    rw [hnew] at hget
    refine wpAny_bind (wpAny_fieldsOf hget rfl ?_)
    have hl : (ps ++ #[rawInt pos.line, rawInt pos.col, Value.ref c']).toList = ps.toList ++ [rawInt pos.line, rawInt pos.col, .ref c'] := by simp
    rw [hl, codeAmong_snoc _ htr hnf]
    refine wpAny_pure fun hn => ?_
    exact pst_tabm I f (ps := ps ++ #[rawInt pos.line, rawInt pos.col, Value.ref c']) (fun b o' hb e => ((Heap.SameBut.update ..).extBut b o' hb (hk b o' e))) hget (by rw [hl]; exact TriplesOk_snoc _ _ _ _ htr) hn trivial
theorem builtins_sound (I : Inv C s) (hg : env.globals = mainGlobals) {Q : Addr → Shared → Prop} {E : Value → Shared → Prop} {M : Model} (h : Q builtinsNs s) : wpAny M A (builtinsFor env.globals env.builtins) Q E s := by
  obtain ⟨bm, ob, h1, h2, h3, h4, h5, h6, h7⟩ := I.bm
  rw [hg]
  exact wpAny_builtinsFor I.g h1 h2 h4 h5 h6 h7 h

/-- a lambda that captures nothing -/
theorem lambda_sound {params : Arguments} {body : Expr} {scope : Scope} {pos : Pos} (I : Inv C s) (f : FzOk C F s.heap) (hc : env.code = .ref C.c) (hg : env.globals = mainGlobals) (hdef : defaultsOf params env = ([], [])) (hcl : closureFor scope env = pure []) :
    Tr C A (eval (.Lambda params body scope pos) env) s F (fun v s' _ => ∃ a, v = .ref a ∧ s'.TypeIs v "function") := by
  refine tr_of I ?_
  obtain ⟨ps, hok, hP, htab⟩ := I.tab
  have htr : TriplesOk ps.toList := by
    obtain ⟨o, vs, file, tf, flags, tg, inF, text, tt, op, ho, hd, h11, h2, h7, h9, h10, hop, hpd, htr, hne⟩ := hok
    exact htr
  obtain ⟨bm, ob, b1, b2, b3, b4, b5, b6, b7⟩ := I.bm
  have hgP : mainGlobals ≠ C.P := by
    obtain ⟨o, es, ep, e, hd, _⟩ := I.g
    exact ne_P I e (by intro ps q; rw [hd] at q; cases q)
  refine kla_eval hdef ?_
  have hb : s.heap.BuiltinsAt C.mg C.P := by
    refine ⟨bm, ob, b1, b2, ?_, b3, b4, b5, b6, b7⟩
    obtain ⟨o, es, ep, e, hd, _⟩ := I.g
    rintro rfl
    rw [e] at b4; cases b4; rw [hd] at b7; cases b7
  cases hnf : codeAmong pos ps.toList with
  | none =>
    refine kla_makeFunction (mg := C.mg) hcl hg I.g hc (CodeHd.of hok htab) hP htr hnf hgP hb fun c' ctv h' tk hx hge hlt hrec hP' hn => ?_
    have hl : (ps ++ #[rawInt pos.line, rawInt pos.col, Value.ref c']).toList = ps.toList ++ [rawInt pos.line, rawInt pos.col, .ref c'] := by simp
    exact pst_tabm I f (ps := ps ++ #[rawInt pos.line, rawInt pos.col, Value.ref c']) (fun b o hb e => Heap.get?_push_of_some _ (hx b o hb e)) (Heap.get?_push_of_some _ hP') (by rw [hl]; exact TriplesOk_snoc _ _ _ _ htr) hn
      ⟨_, rfl, _, Heap.get?_push_size _ rfl, rfl⟩
  | some cv =>
    refine kla_makeFunctionHit (mg := C.mg) hcl hg I.g hc (CodeHd.of hok htab) hP htr hnf hb fun ctv h' tk hk hsz hn => ?_
    exact pst_tabm I f (fun b o _ e => Heap.get?_push_of_some _ (hk b o e)) (Heap.get?_push_of_some _ (hk _ _ hP)) htr hn ⟨_, rfl, _, Heap.get?_push_size _ rfl, rfl⟩

/-! # '-'.join(s.replace(..).replace(..) for s in xs) -/
theorem rr_eval {cenv : Env} {x : Str} {m : Str → Option Value} {l : List Nat} {t : Tok} {k1 k2 k3 k4 : Str} {p0 p1 q1 q2 r1 p2 q3 q4 r2 : Pos} {n1 n2 n3 n4 : Nat} (c1 : k1 = mkS [92]) (c2 : k2 = mkS [92, 92]) (c3 : k3 = mkS [45]) (c4 : k4 = mkS [92, 45])
    (e1 : (p1.endLine == r1.line) = true) (e2 : (p2.endLine == r2.line) = true) (hd : x ≠ "__debug__") (hk : cenv.scope.kind = .function) (hx : cenv.kindOf x = some .local) (hn : s.heap.Ns cenv.locals m) (hm : m x = some (.str (mkS l) t)) (h92 : 92 ∉ l) (hl : l.length ≤ 1000000) {E : Value → Shared → Prop} {M : Program} {w : World} :
    wpAny (model M w) A (eval (.Call (.Attribute (.Call (.Attribute (.Name x p0) "replace" p1) [.Constant (.str k1) n1 q1, .Constant (.str k2) n2 q2] [] r1) "replace" p2) [.Constant (.str k3) n3 q3, .Constant (.str k4) n4 q4] [] r2) cenv) (fun y s₃ => (∃ u, y = .str (mkS (replw 45 [92, 45] l)) u) ∧ Keeps s s₃) E s := by
  subst c1; subst c2; subst c3; subst c4
  refine wpAny_Call_method (T := "str") (id := "str.replace") rfl (by rfl) e2 PySem.F.plainAttrs_str PySem.F.slot_str_replace PySem.F.type_str_replace ?_
  refine wpAny_Call_method (T := "str") (id := "str.replace") rfl (by rfl) e1 PySem.F.plainAttrs_str PySem.F.slot_str_replace PySem.F.type_str_replace ?_
  refine wpAny_Name (wpAny_loadName_local hk hx hn hm ?_) (by simpa using hd)
  refine ⟨typeIs_str _ _ _, (fun a e => by cases e), ?_⟩
  show wpAny _ A (callWith r1 (.builtin "str.replace") [.str (mkS l) t] [(false, eval (.Constant (.str (mkS [92])) n1 q1) cenv), (false, eval (.Constant (.str (mkS [92, 92])) n2 q2) cenv)] []) _ _ s
  refine Calls.callWith_builtin rfl (Calls.evalArgs_plain (Calls.spliced_cons (wpAny_Constant_str (Calls.spliced_cons (wpAny_Constant_str (Calls.spliced_nil ?_))))))
  refine call_repl_no h92 ?_
  refine ⟨typeIs_str _ _ _, (fun a e => by cases e), ?_⟩
  show wpAny _ A (callWith r2 (.builtin "str.replace") [.str (mkS l) t] [(false, eval (.Constant (.str (mkS [45])) n3 q3) cenv), (false, eval (.Constant (.str (mkS [92, 45])) n4 q4) cenv)] []) _ _ _
  refine Calls.callWith_builtin rfl (Calls.evalArgs_plain (Calls.spliced_cons (wpAny_Constant_str (Calls.spliced_cons (wpAny_Constant_str (Calls.spliced_nil ?_))))))
  refine call_repl (u := s.toks + 1 + 1) (v := s.toks + 1 + 1 + 1) (Nat.succ_ne_zero _) (Nat.succ_ne_zero _) (Nat.ne_of_lt (Nat.lt_succ_self _)) (by simp) hl (by simp) fun t' k => ?_
  exact ⟨⟨t', rfl⟩, _, _, rfl, fun b o e => e⟩
def gjL (ls : List (List Nat)) : List Nat := joinL [45] (ls.map (replw 45 [92, 45]))
def gjw (d : V) (Q : V → Prop) : Prop := lst1 d fun ds => ∃ ls, strsOf ds = some ls ∧ ls.length ≤ 100 ∧ (∀ l ∈ ls, l.length ≤ 1000 ∧ 92 ∉ l) ∧ Q (.str (gjL ls))
theorem replw_len {z : List Nat} (c : Nat) (hz : z.length ≤ 2) (h0 : 0 < z.length) : ∀ l : List Nat, (replw c z l).length ≤ 2 * l.length
  | [] => Nat.le_refl _
  | d :: l => by
    have ih := replw_len c hz h0 l
    unfold replw at ih ⊢
    rw [List.flatMap_cons, List.length_append, List.length_cons]
    split
    · omega
    · rw [List.length_singleton]; omega
theorem strsOf_inv {d : V} {ds : List V} {ls : List (List Nat)} (h : strsOf (d :: ds) = some ls) : ∃ l ls', d = .str l ∧ strsOf ds = some ls' ∧ ls = l :: ls' := by
  cases d with
  | str l =>
    obtain ⟨ls', h1, rfl⟩ := Option.map_eq_some_iff.mp h
    exact ⟨l, ls', rfl, h1, rfl⟩
  | _ => cases h
theorem strsOf_get : ∀ {ds : List V} {ls : List (List Nat)}, strsOf ds = some ls → ds = ls.map .str
  | [], ls, h => by cases h; rfl
  | d :: ds, ls, h => by
    obtain ⟨l, ls', rfl, h', rfl⟩ := strsOf_inv h
    rw [strsOf_get h']; rfl
def gjScope (scope : Scope) (x : Str) : Bool := scope.kind == .function && !scope.isCoroutine && scope.names.all (fun y => y.2 != .cell && y.2 != .free) && scope.names.lookup (Str.ofString ".0") == some .local && scope.names.lookup x == some .local
def w_gj (a : Wp) (ρ : Ρ) (Q : V → Prop) : Prop := a false ρ fun d => gjw d Q
theorem s_gj {x : Str} {k0 k1 k2 k3 k4 : Str} {p0 p1 q1 q2 r1 p2 q3 q4 r2 : Pos} {n1 n2 n3 n4 : Nat} {iter : Expr} {px p pos q q' : Pos} {scope : Scope} {n : Nat} {w : Wp} (hec : ∀ env, vn.ec env → env.code = .ref C.c) (ha : SX C vn r kd iter w) (c0 : k0 = mkS [45]) (c1 : k1 = mkS [92]) (c2 : k2 = mkS [92, 92]) (c3 : k3 = mkS [45]) (c4 : k4 = mkS [92, 45])
    (e1 : (p1.endLine == r1.line) = true) (e2 : (p2.endLine == r2.line) = true) (hdb : x ≠ "__debug__") (hsc : gjScope scope x = true) (hline : (p.endLine == q.line) = true) (hit : ∀ env v, genFold iter env v = pure v) :
    SX C vn r kd (.Call (.Attribute (.Constant (.str k0) n q') "join" p) [.GeneratorExp (.Call (.Attribute (.Call (.Attribute (.Name x p0) "replace" p1) [.Constant (.str k1) n1 q1, .Constant (.str k2) n2 q2] [] r1) "replace" p2) [.Constant (.str k3) n3 q3, .Constant (.str k4) n4 q4] [] r2) [⟨.Name x px, iter, [], 0⟩] scope pos] [] q) (pw (w_gj w)) := .plain rfl (fun {A s F env ρ Q} ev hw => by
  subst c0
  have ⟨hsc, hx⟩ := and2 hsc
  have ⟨hsc, h0⟩ := and2 hsc
  have ⟨hsc, hall⟩ := and2 hsc
  have ⟨hkind, hco⟩ := and2 hsc
  have hkind := beq_iff_eq.mp hkind
  have hx := beq_iff_eq.mp hx
  have h0 := beq_iff_eq.mp h0
  have hco : scope.isCoroutine = false := by cases h : scope.isCoroutine <;> first | rfl | (rw [h] at hco; cases hco)
  have hboth := fun y hy => and2 (List.all_eq_true.mp hall y hy)
  have hcell : ∀ y ∈ scope.names, y.2 ≠ .cell := fun y hy => bne_iff_ne.mp (hboth y hy).1
  have hclos : closureFor scope env = pure (clOf env scope.names) := closureFor_cl fun y hy hk => absurd hk (bne_iff_ne.mp (hboth y hy).2)
  refine wpAny_Call_method (T := "str") (id := "str.join") rfl (by rfl) hline PySem.F.plainAttrs_str PySem.F.slot_str_join PySem.F.type_str_join (wpAny_Constant_str ?_)
  have I1 := ev.I.tok (s.toks + 1) trivial
  have k1 := Kp.tok C s (s.toks + 1)
  refine ⟨typeIs_str _ _ _, (fun a e => by cases e), ?_⟩
  show wpAny _ A (callWith q (.builtin "str.join") [.str (mkS [45]) s.toks] [(false, eval (.GeneratorExp _ [⟨.Name x px, iter, [], 0⟩] scope pos) env)] []) _ _ _
  refine Calls.callWith_builtin rfl (Calls.evalArgs_plain (Calls.spliced_cons ?_))
  refine wpAny_GeneratorExp_walksQD ev.R.handled hco hclos hcell h0 hx hkind ev.R.lt ?_ (hit env)
  refine (ha.e (ev.go I1 k1 (Fx.refl ev.f)) hw).after fun v s₂ F₂ I₂ k₂ fx₂ ⟨d, rv, hd⟩ => ?_
  obtain ⟨ds, rfl, ls, hls, hn, hbd, hq⟩ := lst1_inv hd
  obtain rfl := strsOf_get hls
  refine (iter_sound (Q := fun es => es = ls.map .str) ev.R I₂ fx₂.ok rv ⟨by rw [List.length_map]; omega, rfl⟩).after fun it s₃ F₃ I₃ k₃ fx₃ ⟨J, fp, nn, P, St, es, e, io, _, he⟩ => ?_
  subst he
  refine ⟨I₃.lim, ?_⟩
  refine (genexprCode_sound I₃ fx₃.ok (hec _ ev.eo.ec)).after fun code s₄ F₄ I₄ k₄ fx₄ _ => ?_
  refine builtins_sound I₄ ev.eo.glob ?_
  have hval : ∀ i v, P i v → ∃ l t, ls[i]? = some l ∧ v = .str (mkS l) t := fun i v hp => by
    obtain ⟨d, hd, rd⟩ := io.val i v hp
    rw [List.getElem?_map] at hd
    obtain ⟨l, hl, rfl⟩ := Option.map_eq_some_iff.mp hd
    obtain ⟨t, rfl⟩ := rd.str_inv
    exact ⟨l, t, hl, rfl⟩
  have hJP : J ≠ C.P := I₂.freshNe io.lo
  have W0 := io.W A ev.R.handled
  have hst : St 0 s₄.heap := W0.frame _ _ _ io.st fun b hb o e => k₄ b o (by
    rcases io.fp b hb with rfl | ⟨o', q⟩
    · exact hJP
    · exact (fx₃.ok.at' _ _ q).2) e
  obtain ⟨oJ, TJ, hJ, _, _⟩ := io.quiet 0 _ hst
  have hJ2 := io.lo
  have hsz2 : s₂.heap.get? s₄.heap.objs.size = none := Kp.none (k₃.trans k₄) (I₄.freshNe (get_size _)) (get_size _)
  refine ⟨J, fp, [J], nn, P, St, (fun _ => true), (fun i y => ∃ l u, ls[i]? = some l ∧ y = .str (mkS (replw 45 [92, 45] l)) u), e, io.W, hst, ?_, I₄.lim, ?_, ?_, ?_⟩
  · intro b hb
    rcases io.fp b hb with rfl | ⟨o', q⟩
    · exact Heap.lt_size hJ
    · exact Heap.lt_size (fx₄.ok.at' _ _ (fx₄.le _ _ q)).1
  · intro hm
    obtain rfl : cStatics = J := List.mem_singleton.mp hm
    obtain ⟨mc, ⟨o, _, _, q, _⟩, _⟩ := I₂.lim
    cases hJ2.symm.trans q
  · intro href hk
    refine ⟨fun A' E' i v s₂ m₂ _ _ _ _ _ _ _ => wpAny_pure ⟨rfl, _, _, rfl, fun b o e => e⟩, fun A' E' i v s₂ m₂ _ _ _ hP _ hn hm _ => ?_⟩
    obtain ⟨l, t, hl, rfl⟩ := hval i v hP
    have hb := hbd l (List.mem_of_getElem? hl)
    refine wpAny_mono (rr_eval c1 c2 c3 c4 e1 e2 hdb ?_ ?_ hn hm hb.2 (Nat.le_trans hb.1 (by decide))) (fun y s₃ h => ⟨let ⟨u, hu⟩ := h.1; ⟨l, u, hl, hu⟩, h.2⟩) fun _ _ e => e
    · exact hkind
    · exact hx
  · intro a h₅ tk gs hbare hlt hsz hkeep W hat
    refine Calls.spliced_nil ?_
    have hps : passing (fun _ => true) nn 0 = List.range nn := by simp [passing]
    have hnn : nn = ls.length := by rw [← io.len, List.length_map]
    rw [hps, List.length_range] at W
    show wpAny _ A (call (.builtin "str.join") [.str (mkS [45]) s.toks, .ref a]) _ _ _
    refine SC.joinGen W.in4_2 (fun i s h => h.1.typeIs) hat (fun b hb => ?_) (.head _) (fun j v hv => ?_) (fun s' lt hm hacc => ?_) (by rw [hnn]; exact sizeLine_big (Nat.le_trans hn (by decide)))
    · show b < h₅.objs.size
      rw [hsz]
      rcases List.mem_cons.mp hb with rfl | hb
      · exact Nat.lt_succ_self _
      · rcases List.mem_cons.mp hb with rfl | hb
        · exact Nat.lt_succ_of_lt hlt
        · exact Nat.lt_succ_of_lt (Nat.lt_trans (List.mem_range.mp hb) hlt)
    · obtain ⟨i, _, l, u, _, rfl⟩ := hv
      exact ⟨_, _, rfl⟩
    · have hl : lt.map (·.1) = (ls.map (replw 45 [92, 45])).map mkS := by
        apply List.ext_getElem?
        intro j
        have hszl : lt.length = nn := by simpa [strValues] using hacc.1
        by_cases hj : j < nn
        · have hj' : j < lt.length := by omega
          obtain ⟨i, hi, l, u, hli, hv⟩ := hacc.2 j (.str lt[j].1 lt[j].2) (by simp [strValues, List.getElem?_eq_getElem hj'])
          rw [List.getElem?_range hj] at hi
          cases hi
          injection hv with h1 _
          rw [List.getElem?_map, List.getElem?_map, List.getElem?_map, List.getElem?_eq_getElem hj', hli]
          exact congrArg some h1
        · rw [List.getElem?_eq_none (by rw [List.length_map]; omega), List.getElem?_eq_none (by rw [List.length_map, List.length_map]; omega)]
      rw [hl]
      refine ⟨joinOk_of_weight ?_ (by rw [mkS_length]; simp), fun t' k => ?_⟩
      · rw [sum_mk, List.length_map, List.length_map]
        have : ∀ ls : List (List Nat), (∀ l ∈ ls, l.length ≤ 1000 ∧ 92 ∉ l) → ((ls.map (replw 45 [92, 45])).map (·.length)).sum ≤ 2000 * ls.length := by
          intro ls h
          induction ls with
          | nil => exact Nat.le_refl _
          | cons l ls ih =>
            have h1 := replw_len (z := [92, 45]) 45 (by decide) (by decide) l
            have h2 := (h l (.head _)).1
            have h3 := ih fun l hl => h l (.tail _ hl)
            rw [List.map_cons, List.map_cons, List.sum_cons, List.length_cons]
            omega
        have := this ls hbd
        omega
      · have htx : Txt.join (mkS [45]) ((ls.map (replw 45 [92, 45])).map mkS) = mkS (gjL ls) := by
          unfold Txt.join gjL
          rw [StrLaws.glued_eq_join, join_mk]
        rw [htx]
        have hbs : AllBare s'.gens := AllBare.movedS (AllBare.push I₄.gens hbare) hm
        have I4g : Inv C { s₄ with gens := s'.gens } := ⟨I₄.g, I₄.b, I₄.bi, I₄.lim, I₄.tab, hbs, I₄.os, I₄.tk, I₄.k, I₄.bm⟩
        have hk' : ∀ b o, ¬ (b = s₄.heap.objs.size ∨ b = J) → s₄.heap.get? b = some o → s'.heap.get? b = some o := fun b o hb e => hm.heap b o (by simpa using hb) (hkeep b o e)
        have If : Inv C { s' with toks := k } := I₂.upd (s := { s₄ with gens := s'.gens }) I4g (S := fun b => b = s₄.heap.objs.size ∨ b = J) (by rintro b (rfl | rfl) <;> assumption) hk' rfl hm.os trivial
        have k2f : Kp C s₂ { s' with toks := k } := fun b o hb eb => hk' b o (by
          rintro (q | q)
          · rw [q, hsz2] at eb; cases eb
          · rw [q, hJ2] at eb; cases eb) (k₄ b o hb (k₃ b o hb eb))
        refine ⟨If, (k1.trans k₂).trans k2f, F₂, ⟨fx₂.le, fx₂.new, ⟨fun b o e => ⟨k2f b o (fx₂.ok.at' b o e).2 (fx₂.ok.at' b o e).1, (fx₂.ok.at' b o e).2⟩, fx₂.ok.k⟩⟩, _, .str _ _, hq⟩) fun _ => rfl
end

/-! # str.translate by the table of special signs; re.sub of the sole pattern -/
def spcl : List Nat := [40, 41, 91, 93, 123, 125, 63, 42, 43, 45, 124, 94, 36, 92, 46, 38, 126, 35, 32, 9, 10, 13, 11, 12]
def escL (c : Nat) : List Nat := if c ∈ spcl then [92, c] else [c]
/-- the table -/
def SpMap (C : Cx) (x : Str) : Prop := ∃ D o kvs, C.mg x = some (.ref D) ∧ (D == sysModules) = false ∧ C.K D o ∧ o.IsDictOf (intKind C.prog C.w) kvs ∧
    ∀ c : Nat, (valueAt kvs (c : Int) = none ∧ c ∉ spcl) ∨ ∃ t, valueAt kvs (c : Int) = some (.str (mkS [92, c]) t) ∧ c ∈ spcl
/-- the pattern -/
def SpPat (C : Cx) (x : Str) : Prop := ∃ p, C.mg x = some (.ref p) ∧ ∃ o T oT vs n t0 k, C.K p o ∧ o.cls = .type "re.Pattern" ∧ o.dict = none ∧ o.data = .fields #[t0, .int 32 n, .int 1 0, .none, .none, .ref T, .int 0 0] ∧ C.K T oT ∧ oT = tupObj vs k ∧
    (vs.toArray.map Builtin.Re.reRawOf).map (·.toNat) = cde
section
variable {C : Cx} {vn : Nm} {r : Nat} {kd : Kd} {A : Around} {s s₁ s' : Shared} {F F' : Fz} {env : Env} {ρ : Ρ}

def trw (d : V) (Q : V → Prop) : Prop := str1 d fun l => ∃ c, l = [c] ∧ c < 128 ∧ Q (.str (escL c))
def w_tr (a : Wp) (ρ : Ρ) (Q : V → Prop) : Prop := a false ρ fun d => trw d Q
theorem s_tr (O : Ok C vn) {m : Nat} {y : Expr} {p pg q : Pos} {a : Wp} (X : SpMap C (vn.vn m)) (hg : kd.lookup m = some .globalImplicit) (h : SX C vn r kd y a) (hb : baseOk y = true) (hline : (p.endLine == q.line) = true) :
    SX C vn r kd (.Call (.Attribute y "translate" p) [.Name (vn.vn m) pg] [] q) (pw (w_tr a)) := .plain rfl (fun {A s F env ρ Q} ev hw => by
  obtain ⟨D, o, kvs, hD, hsm, hK, hdict, hv⟩ := X
  refine wpAny_Call_method (T := "str") (id := "str.translate") (base_eq hb) (by rfl) hline PySem.F.plainAttrs_str PySem.F.slot_str_translate PySem.F.type_str_translate ((h.e ev hw).after fun v s₁ F₁ I₁ k₁ fx₁ ⟨d, rv, hd⟩ => ?_)
  obtain ⟨_, rfl, c, rfl, h128, hq⟩ := str1_inv hd
  obtain ⟨t, rfl⟩ := rv.str_inv
  refine ⟨typeIs_str _ _ _, (fun a e => by cases e), ?_⟩
  show wpAny _ A (callWith _ (.builtin "str.translate") [.str (mkS [c]) t] [(false, eval (.Name (vn.vn m) _) env)] []) _ _ s₁
  refine Calls.callWith_builtin rfl (Calls.evalArgs_plain (Calls.spliced_cons (nameG O I₁ (ev.eo.kp ev.I k₁ fx₁) hg hD (Calls.spliced_nil ?_))))
  have hm : s₁.heap.MapOf (intKind C.prog C.w) D (valueAt kvs) := (Heap.dictOf_iff.mpr ⟨o, (I₁.k _ _ hK).1, hdict⟩).mapOf
  have fin : ∀ {l : List Nat} {h' k u}, (∀ b o, s₁.heap.get? b = some o → h'.get? b = some o) → Q (.str l) → Pst C s F (Gv Q) (.str (mkS l) u) { s₁ with heap := h', toks := k } := fun {l h' k u} hup hq =>
    ⟨I₁.keep hup rfl rfl trivial, fun b o hb e => hup b o (k₁ b o hb e), F₁, ⟨fx₁.le, fx₁.new, ⟨fun b o e => ⟨hup b o (fx₁.ok.at' b o e).1, (fx₁.ok.at' b o e).2⟩, fx₁.ok.k⟩⟩, _, .str _ _, hq⟩
  refine call_translate ev.R.handled hsm hm h128 ?_
  unfold escL at hq
  rcases hv c with ⟨h1, h2⟩ | ⟨t', h1, h2⟩
  · rw [if_neg h2] at hq
    exact .inl ⟨h1, fun h' k u hk hup => fin hup hq⟩
  · rw [if_pos h2] at hq
    exact .inr ⟨[92, c], t', h1, by show 1 < 2; decide, by show 2 ≤ 100; decide, fun h' k u hk hup => fin hup hq⟩) fun _ => rfl

def subw (d : V) (Q : V → Prop) : Prop := str1 d fun l => l.length ≤ 1000000 ∧ l.all noAmp = true ∧ Q (.str l)
def w_sub (a : Wp) (ρ : Ρ) (Q : V → Prop) : Prop := a false ρ fun d => subw d Q
theorem s_sub (O : Ok C vn) {m : Nat} {y : Expr} {p pg pl q : Pos} {a : Wp} {params : Arguments} {body : Expr} {scope : Scope} (X : SpPat C (vn.vn m)) (hec : ∀ env, vn.ec env → env.code = .ref C.c) (hg : kd.lookup m = some .globalImplicit) (h : SX C vn r kd y a) (hline : (p.endLine == q.line) = true)
    (hdef : ∀ env, defaultsOf params env = ([], [])) (hfr : scope.names.all (fun x => x.2 != .free) = true) :
    SX C vn r kd (.Call (.Attribute (.Name (vn.vn m) pg) "sub" p) [.Lambda params body scope pl, y] [] q) (pw (w_sub a)) := .plain rfl (fun {A s F env ρ Q} ev hw => by
  have hfree : ∀ y ∈ scope.names, y.2 ≠ .free := fun y hy => bne_iff_ne.mp (List.all_eq_true.mp hfr y hy)
  have hcl : closureFor scope env = pure [] := by
    rw [closureFor_cl fun y hy hk => absurd hk (hfree y hy)]
    congr 1
    unfold clOf
    generalize ([] : List (Str × Addr)) = acc
    revert hfree
    generalize scope.names = l
    induction l generalizing acc with
    | nil => intro _; rfl
    | cons z l ih =>
      intro h
      have hz : (z.2 == NameKind.free) = false := beq_false_of_ne (h z (.head _))
      rw [List.foldl_cons]
      unfold clStep
      rw [hz]
      exact ih acc fun y hy => h y (.tail _ hy)
  obtain ⟨p', hp, o, T, oT, vs, n, t0, k, hK, hcls, hdict, hdata, hKT, hoT, hvs⟩ := X
  have hs : backTo q (starEach [.Lambda params body scope pl, y] env) = [(false, eval (.Lambda params body scope pl) env), (false, eval y env)] := by
    show backTo q ((false, eval (.Lambda params body scope pl) env) :: starEach [y] env) = _
    rw [plx_star h.p]; rfl
  refine wpAny_Call_method (T := "re.Pattern") (id := "re.Pattern.sub") rfl (by rw [hs]; rfl) hline plainAttrs_pat slot_pat_sub type_pat_sub (nameG O ev.I ev.eo hg hp ?_)
  refine ⟨⟨o, (ev.I.k _ _ hK).1, hcls⟩, fun b e => by cases e; exact ⟨o, (ev.I.k _ _ hK).1, hdict⟩, ?_⟩
  rw [hs]
  refine Calls.callWith_builtin rfl (Calls.evalArgs_plain (Calls.spliced_cons ?_))
  refine (lambda_sound ev.I ev.f (hec _ ev.eo.ec) ev.eo.glob (hdef env) hcl).after fun fv s₁ F₁ I₁ k₁ fx₁ ⟨fa, hfa, hft⟩ => Calls.spliced_cons ?_
  subst hfa
  refine (h.e (ev.go I₁ k₁ fx₁) hw).after fun v s₂ F₂ I₂ k₂ fx₂ ⟨d, rv, hd⟩ => Calls.spliced_nil ?_
  obtain ⟨l, rfl, hlen, hall, hq⟩ := str1_inv hd
  obtain ⟨t, rfl⟩ := rv.str_inv
  have hft2 : s₂.TypeIs (.ref fa) "function" := by
    obtain ⟨of, hof, hcf⟩ := hft
    refine ⟨of, k₂ _ _ ?_ hof, hcf⟩
    rintro rfl
    obtain ⟨ps, _, hP, _⟩ := I₁.tab
    cases hof.symm.trans hP
    cases hcf
  have hpat : IsPat s₂.heap p' := ⟨o, T, vs, n, (I₂.k _ _ hK).1, hcls, ⟨t0, hdata⟩, ⟨k, by rw [(I₂.k _ _ hKT).1, hoT]⟩, hvs⟩
  have K := k₁.trans k₂
  have FX := fx₁.trans fx₂ k₁
  exact call_sub (fun c hc => List.all_eq_true.mp hall c hc) hlen hpat hft2 fun h' k u hup =>
    ⟨I₂.keep hup rfl rfl trivial, fun b o hb e => hup b o (K b o hb e), F₂, ⟨FX.le, FX.new, ⟨fun b o e => ⟨hup b o (FX.ok.at' b o e).1, (FX.ok.at' b o e).2⟩, FX.ok.k⟩⟩, _, .str _ _, hq⟩) fun _ => rfl
end

/-! # What a function's variables hold -/
inductive LV where
  | val (d : V)
  | own (ds : List V)
  | own2 (fs : List V) (ls : List V)
  | app (n : Nat)
abbrev St := List (Nat × LV)
def LV.base : LV → Option V
  | .val d => some d
  | _ => none
def LV.all : LV → Option V
  | .val d => some d
  | .own ds => some (.list ds)
  | .own2 fs ls => some (.list (fs ++ [.list ls]))
  | .app _ => none
def ρof (f : LV → Option V) : St → Ρ
  | [] => []
  | (n, lv) :: σ => match f lv with | some d => (n, d) :: ρof f σ | none => ρof f σ
abbrev ρb : St → Ρ := ρof LV.base
abbrev ρa : St → Ρ := ρof LV.all
def LV.uses : LV → Bool → Prop
  | .own _, b => b = false
  | .own2 _ _, _ => True
  | _, _ => False
def Used (σ : St) (n : Nat) (b : Bool) : Prop := ∃ lv, σ.lookup n = some lv ∧ lv.uses b
/-- the bound method xs.append -/
def appObj (a : Addr) : Obj := { cls := .type "builtin_function_or_method", data := .fields #[.builtin "list.append", .ref a] }

def VarOk (h : Heap) (F : Fz) (v : Option Value) (ad : Nat → Bool → Addr) (n : Nat) : LV → Prop
  | .val d => ∃ u, v = some u ∧ Rep F u d
  | .own ds => ∃ vs k, v = some (.ref (ad n false)) ∧ h.get? (ad n false) = some (lstObj vs k) ∧ RepL F vs ds
  | .own2 fs ls => ∃ vs k us j, v = some (.ref (ad n false)) ∧ h.get? (ad n false) = some (lstObj (vs ++ [.ref (ad n true)]) k) ∧ h.get? (ad n true) = some (lstObj us j) ∧ RepL F vs fs ∧ RepL F us ls
  | .app m => ∃ q, v = some (.ref q) ∧ F q (appObj (ad m false))

structure Mut (env : Env) (own : List Str) (h0 : Heap) (F X : Fz) (a : Addr) : Prop where
  new : h0.get? a = none
  np : ¬ Priv env own a
  nf : ∀ o, ¬ F a o
  nx : ∀ o, ¬ X a o

/-- the static part of a frame -/
structure Fs (C : Cx) (vn : Nm) (kd : Kd) (env : Env) (own : List Str) (s₀ : Shared) : Prop where
  ap : Apart env own s₀.heap
  hv : ∀ n, isVar kd n = true → env.kindOf (vn.vn n) = some .local ∨ vn.vn n ∈ own
  glob : env.globals = mainGlobals
  bi : env.builtins = builtinsNs
  kk : ∀ n k, kd.lookup n = some k → env.kindOf (vn.vn n) = some k ∨ (k = .free ∧ env.kindOf (vn.vn n) = some .cell)
  inj : ∀ n m, isVar kd n = true → isVar kd m = true → vn.vn n = vn.vn m → n = m
  ec : vn.ec env
  i0 : Inv C s₀

/-- the variables and what they hold -/
structure Vs (vn : Nm) (kd : Kd) (env : Env) (own : List Str) (h0 : Heap) (X : Fz) (σ : St) (h : Heap) (F : Fz) (vr : Str → Option Value) (ad : Nat → Bool → Addr) : Prop where
  fr : Frm env own h vr
  ok : ∀ n lv, σ.lookup n = some lv → isVar kd n = true ∧ VarOk h F (vr (vn.vn n)) ad n lv
  mu : ∀ n b, Used σ n b → Mut env own h0 F X (ad n b)
  dj : ∀ n b m c, Used σ n b → Used σ m c → ad n b = ad m c → n = m ∧ b = c
structure Rl (C : Cx) (vn : Nm) (kd : Kd) (env : Env) (own : List Str) (s₀ : Shared) (F₀ X : Fz) (σ : St) (s : Shared) (F : Fz) : Prop where
  fs : Fs C vn kd env own s₀
  B : Bk C s₀ F₀ s F
  pf : ∀ a, Priv env own a → ∀ o, ¬ F a o
  nd : (σ.map Prod.fst).Nodup
  x : ∀ b o, X b o → s.heap.get? b = some o ∧ b ≠ C.P ∧ ¬ Priv env own b ∧ ∀ o, ¬ F b o
  ex : ∃ vr ad, Vs vn kd env own s₀.heap X σ s.heap F vr ad

section
variable {C : Cx} {A : Around} {s s₀ s₁ s₂ s' : Shared} {F F₀ F₁ F' X : Fz} {r : Nat} {env : Env} {own : List Str} {vn : Nm} {kd : Kd} {σ : St} {vr vr' : Str → Option Value} {ad ad' : Nat → Bool → Addr}

theorem Fs.ncP (f : Fs C vn kd env own s₀) {a : Addr} (h : s₀.heap.get? a = none) : a ≠ C.P := f.i0.freshNe h
theorem Fs.loc (f : Fs C vn kd env own s₀) {n : Nat} (h : kd.lookup n = some .local) : env.kindOf (vn.vn n) = some .local := (f.kk _ _ h).elim id fun e => nomatch e.1
theorem Fs.cell (f : Fs C vn kd env own s₀) {n : Nat} (h : kd.lookup n = some .cell) : env.kindOf (vn.vn n) = some .cell := (f.kk _ _ h).elim id fun e => nomatch e.1
theorem Mut.mono {a : Addr} (m : Mut env own s₀.heap F X a) (h : ∀ o, ¬ F' a o) : Mut env own s₀.heap F' X a := ⟨m.new, m.np, h, m.nx⟩
theorem VarOk.kp {h h' : Heap} {v : Option Value} {n : Nat} {lv : LV} (x : VarOk h F v ad n lv) (hF : ∀ a o, F a o → F' a o) (hk : ∀ b, lv.uses b → ∀ o, h.get? (ad n b) = some o → h'.get? (ad n b) = some o) (ha : ∀ b, lv.uses b → ad' n b = ad n b) (hp : ∀ m, lv = .app m → ad' m false = ad m false) : VarOk h' F' v ad' n lv := by
  cases lv with
  | val d => obtain ⟨v, e, rv⟩ := x; exact ⟨v, e, rv.mono hF⟩
  | own ds => obtain ⟨vs, k, e, q, rl⟩ := x; have ea := ha false rfl; exact ⟨vs, k, ea ▸ e, ea ▸ hk false rfl _ q, rl.mono hF⟩
  | own2 fs ls =>
    obtain ⟨vs, k, us, j, e, q, q2, r1, r2⟩ := x
    have e1 := ha false trivial
    have e2 := ha true trivial
    exact ⟨vs, k, us, j, e1 ▸ e, e1 ▸ e2 ▸ hk false trivial _ q, e2 ▸ hk true trivial _ q2, r1.mono hF, r2.mono hF⟩
  | app m => obtain ⟨q, e, w⟩ := x; have ea := hp m rfl; exact ⟨q, e, ea ▸ hF _ _ w⟩
theorem VarOk.get {h : Heap} {v : Option Value} {n : Nat} {lv : LV} (x : VarOk h F v ad n lv) {b : Bool} (u : lv.uses b) : ∃ vs k, h.get? (ad n b) = some (lstObj vs k) := by
  cases lv with
  | own ds => obtain ⟨vs, k, e, q, rl⟩ := x; cases u; exact ⟨_, _, q⟩
  | own2 fs ls => obtain ⟨vs, k, us, j, e, q, q2, r1, r2⟩ := x; cases b <;> exact ⟨_, _, by assumption⟩
  | _ => exact u.elim
theorem Vs.get (x : Vs vn kd env own s₀.heap X σ s.heap F vr ad) {n : Nat} {b : Bool} (u : Used σ n b) : ∃ vs k, s.heap.get? (ad n b) = some (lstObj vs k) :=
  let ⟨_, e, ul⟩ := u; (x.ok _ _ e).2.get ul

/-- evaluation keeps all -/
theorem Rl.kpX (R : Rl C vn kd env own s₀ F₀ X σ s F) (k : Kp C s s') (x : Fx C F F' s s') (h : Vs vn kd env own s₀.heap X σ s.heap F vr ad) : Vs vn kd env own s₀.heap X σ s'.heap F' vr ad where
  fr := h.fr.at fun b o hb e => k b o (R.fs.ncP (R.fs.ap.none b hb)) e
  ok := fun n lv e => ⟨(h.ok n lv e).1, (h.ok n lv e).2.kp x.le (fun b u o q => k _ o (R.fs.ncP (h.mu n b ⟨lv, e, u⟩).new) q) (fun _ _ => rfl) fun _ _ => rfl⟩
  mu := fun n b u => let ⟨_, _, q⟩ := h.get u; (h.mu n b u).mono (x.priv (h.mu n b u).nf q)
  dj := h.dj
theorem Rl.kp (R : Rl C vn kd env own s₀ F₀ X σ s F) (i : Inv C s') (k : Kp C s s') (x : Fx C F F' s s') : Rl C vn kd env own s₀ F₀ X σ s' F' :=
  let ⟨vr, ad, h⟩ := R.ex
  ⟨R.fs, R.B.go i k x, fun a pa => let ⟨_, ho⟩ := h.fr.some pa; x.priv (R.pf a pa) ho, R.nd, fun b o e => let ⟨h1, h2, h3, h4⟩ := R.x b o e; ⟨k b o h2 h1, h2, h3, x.priv h4 h1⟩, vr, ad, R.kpX k x h⟩

theorem mem_of_lookup {α : Type} {n : Nat} {lv : α} : ∀ {σ : List (Nat × α)}, σ.lookup n = some lv → (n, lv) ∈ σ
  | (k, d) :: β, h => by
    rw [List.lookup_cons] at h
    cases q : n == k with
    | true => rw [q] at h; cases h; rw [beq_iff_eq.mp q]; exact .head _
    | false => rw [q] at h; exact .tail _ (mem_of_lookup h)
theorem ρof_lookup (f : LV → Option V) : ∀ {σ : St} {n : Nat} {d : V}, (σ.map Prod.fst).Nodup → (ρof f σ).lookup n = some d → ∃ lv, σ.lookup n = some lv ∧ f lv = some d
  | (m, lv) :: σ, n, d, nd, h => by
    have nd := List.nodup_cons.mp nd
    have ih := fun h => @ρof_lookup f σ n d nd.2 h
    unfold ρof at h
    rw [List.lookup_cons]
    cases hb : f lv with
    | some e =>
      rw [hb] at h
      have h : List.lookup n ((m, e) :: ρof f σ) = some d := h
      rw [List.lookup_cons] at h
      cases q : n == m with
      | true => rw [q] at h; cases h; exact ⟨lv, rfl, hb⟩
      | false => rw [q] at h; exact ih h
    | none =>
      rw [hb] at h
      obtain ⟨lv', h1, h2⟩ := ih h
      cases q : n == m with
      | true => exact absurd (List.mem_map_of_mem (f := Prod.fst) (mem_of_lookup h1)) (beq_iff_eq.mp q ▸ nd.1)
      | false => exact ⟨lv', h1, h2⟩

/-- over the frozen and the owned objects -/
def Fz.plus (F : Fz) (σ : St) (ad : Nat → Bool → Addr) (h : Heap) : Fz := fun a o => F a o ∨ ∃ n b, Used σ n b ∧ a = ad n b ∧ h.get? a = some o
theorem Rl.rd (R : Rl C vn kd env own s₀ F₀ X σ s F) (h : Vs vn kd env own s₀.heap X σ s.heap F vr ad) {n : Nat} {lv : LV} (e : σ.lookup n = some lv) {v : Value} (hv : vr (vn.vn n) = some v) : RdAt env s.heap (vn.vn n) v :=
  h.fr.rd (fun x hx => (R.fs.ap.c x hx).1) (R.fs.hv _ (h.ok n lv e).1) hv
theorem Rl.envB (R : Rl C vn kd env own s₀ F₀ X σ s F) : EnvOk C vn kd env s.heap F (ρb σ) :=
  let ⟨vr, ad, h⟩ := R.ex
  ⟨R.fs.ap.kind, R.fs.glob, R.fs.bi, R.fs.kk, R.fs.ec, fun n d e => by
    obtain ⟨lv, e1, e2⟩ := ρof_lookup _ R.nd e
    have ok := (h.ok n lv e1).2
    cases lv with
    | val d' => cases e2; obtain ⟨v, e3, rv⟩ := ok; exact ⟨v, R.rd h e1 e3, rv⟩
    | _ => cases e2⟩
theorem Rl.envA (R : Rl C vn kd env own s₀ F₀ X σ s F) : ∃ G : Fz, (∀ a o, F a o → G a o) ∧ FzOk C G s.heap ∧ EnvOk C vn kd env s.heap G (ρa σ) := by
  obtain ⟨vr, ad, h⟩ := R.ex
  have up : ∀ a o, F a o → (F.plus σ ad s.heap) a o := fun _ _ e => .inl e
  refine ⟨F.plus σ ad s.heap, up, ⟨fun a o e => e.elim (R.B.f.at' a o) fun ⟨n, b, u, ea, e⟩ => ⟨e, by subst ea; exact R.fs.ncP (h.mu n b u).new⟩, fun a o e => .inl (R.B.f.k a o e)⟩, R.fs.ap.kind, R.fs.glob, R.fs.bi, R.fs.kk, R.fs.ec, fun n d e => ?_⟩
  obtain ⟨lv, e1, e2⟩ := ρof_lookup _ R.nd e
  have ok := (h.ok n lv e1).2
  cases lv with
  | val d' => cases e2; obtain ⟨v, e3, rv⟩ := ok; exact ⟨v, R.rd h e1 e3, rv.mono up⟩
  | own ds => cases e2; obtain ⟨vs, k, e3, q, rl⟩ := ok; exact ⟨_, R.rd h e1 e3, .list (.inr ⟨n, false, ⟨_, e1, rfl⟩, rfl, q⟩) (rl.mono up)⟩
  | own2 fs ls =>
    cases e2
    obtain ⟨vs, k, us, j, e3, q, q2, r1, r2⟩ := ok
    exact ⟨_, R.rd h e1 e3, .list (.inr ⟨n, false, ⟨_, e1, trivial⟩, rfl, q⟩) ((r1.mono up).append (.cons (.list (.inr ⟨n, true, ⟨_, e1, trivial⟩, rfl, q2⟩) (r2.mono up)) .nil))⟩
  | app m => cases e2

/-! ## a variable changes -/
def put : St → Nat → LV → St
  | [], n, lv => [(n, lv)]
  | (m, l) :: σ, n, lv => match m == n with | true => (n, lv) :: σ | false => (m, l) :: put σ n lv
def isApp (n : Nat) : LV → Bool
  | .app m => m == n
  | _ => false
def noApp (σ : St) (n : Nat) : Bool := σ.all fun p => !isApp n p.2
def keepv (σ : St) (l : List Nat) : St := σ.filter fun p => l.contains p.1
theorem put_keys : ∀ {σ : St} {n : Nat} {lv : LV} {k : Nat}, k ∈ (put σ n lv).map Prod.fst → k = n ∨ k ∈ σ.map Prod.fst
  | [], n, lv, k, h => .inl (List.mem_singleton.mp h)
  | (m, l) :: σ, n, lv, k, h => by
    unfold put at h
    cases q : m == n with
    | true => rw [q] at h; exact (List.mem_cons.mp h).imp id fun h => .tail _ h
    | false =>
      rw [q] at h
      rcases List.mem_cons.mp h with e | h
      · exact .inr (e ▸ .head _)
      · exact (put_keys h).imp id fun h => .tail _ h
theorem put_nodup : ∀ {σ : St} {n : Nat} {lv : LV}, (σ.map Prod.fst).Nodup → ((put σ n lv).map Prod.fst).Nodup
  | [], n, lv, _ => List.nodup_cons.mpr ⟨List.not_mem_nil, List.nodup_nil⟩
  | (m, l) :: σ, n, lv, h => by
    have h' := List.nodup_cons.mp h
    unfold put
    cases q : m == n with
    | true => obtain rfl := beq_iff_eq.mp q; exact h
    | false => exact List.nodup_cons.mpr ⟨fun hm => (put_keys hm).elim (ne_of_beq_false q) h'.1, put_nodup h'.2⟩
theorem put_self : ∀ {σ : St} {n : Nat} {lv : LV}, (put σ n lv).lookup n = some lv
  | [], n, lv => List.lookup_cons_self
  | (k, l) :: σ, n, lv => by
    unfold put
    cases q : k == n with
    | true => exact List.lookup_cons_self
    | false =>
      have : (n == k) = false := by rw [← q]; exact BEq.comm
      show List.lookup n ((k, l) :: put σ n lv) = _
      rw [List.lookup_cons, this]; exact put_self
theorem put_ne : ∀ {σ : St} {n m : Nat} {lv : LV}, m ≠ n → (put σ n lv).lookup m = σ.lookup m
  | [], n, m, lv, h => by
    show List.lookup m ((n, lv) :: []) = _
    rw [List.lookup_cons, beq_false_of_ne h]
  | (k, l) :: σ, n, m, lv, h => by
    unfold put
    cases q : k == n with
    | true =>
      obtain rfl := beq_iff_eq.mp q
      show List.lookup m ((k, lv) :: σ) = _
      rw [List.lookup_cons, List.lookup_cons, beq_false_of_ne h]
    | false =>
      show List.lookup m ((k, l) :: put σ n lv) = _
      rw [List.lookup_cons, List.lookup_cons, put_ne h]
theorem keepv_lookup {l : List Nat} : ∀ {σ : St} {m : Nat} {lv : LV}, (σ.map Prod.fst).Nodup → (keepv σ l).lookup m = some lv → σ.lookup m = some lv := by
  intro σ m lv nd h
  have hm := (List.mem_filter.mp (mem_of_lookup h)).1
  clear h
  induction σ with
  | nil => cases hm
  | cons p σ ih =>
    have nd' := List.nodup_cons.mp nd
    rw [List.lookup_cons]
    rcases List.mem_cons.mp hm with e | h
    · cases e; rw [beq_self_eq_true]
    · have : (m == p.1) = false := beq_false_of_ne fun e => nd'.1 (e ▸ List.mem_map_of_mem (f := Prod.fst) h)
      rw [this]; exact ih nd'.2 h
theorem used_put {n m : Nat} {b : Bool} {lv : LV} (u : Used (put σ n lv) m b) : (m = n ∧ lv.uses b) ∨ (m ≠ n ∧ Used σ m b) := by
  obtain ⟨l, e, ul⟩ := u
  by_cases h : m = n
  · subst h; rw [put_self] at e; cases e; exact .inl ⟨rfl, ul⟩
  · rw [put_ne h] at e; exact .inr ⟨h, l, e, ul⟩

/-- one variable anew -/
theorem Rl.set {n : Nat} {lv : LV} (R : Rl C vn kd env own s₀ F₀ X σ s F) (h : Vs vn kd env own s₀.heap X σ s.heap F vr ad) (B : Bk C s₀ F₀ s' F') (hF : ∀ a o, F a o → F' a o)
    (hZ : ∀ a o, F' a o → F a o ∨ (¬ Priv env own a ∧ (∀ o, ¬ X a o) ∧ ∀ m b, Used σ m b → m ≠ n → ad m b ≠ a))
    (hS : ∀ b o, s.heap.get? b = some o → (∃ o, X b o) ∨ (∃ m c, Used σ m c ∧ m ≠ n ∧ ad m c = b) → s'.heap.get? b = some o)
    (fr : Frm env own s'.heap vr') (hvr : ∀ y, y ≠ vn.vn n → vr' y = vr y) (had : ∀ m b, m ≠ n → ad' m b = ad m b) (happ : ad' n false = ad n false ∨ noApp σ n = true) (hn : isVar kd n = true)
    (ok : VarOk s'.heap F' (vr' (vn.vn n)) ad' n lv) (mu : ∀ b, lv.uses b → Mut env own s₀.heap F' X (ad' n b) ∧ ∀ m c, Used σ m c → m ≠ n → ad m c ≠ ad' n b) (hd : lv.uses false → lv.uses true → ad' n false ≠ ad' n true) :
    Rl C vn kd env own s₀ F₀ X (put σ n lv) s' F' := by
  have nF : ∀ {a}, (∀ o, ¬ F a o) → (Priv env own a ∨ (∃ o, X a o) ∨ ∃ m b, Used σ m b ∧ m ≠ n ∧ ad m b = a) → ∀ o, ¬ F' a o := fun nf hc o e => (hZ _ o e).elim (nf o) fun ⟨h1, h2, h3⟩ => by
    rcases hc with hc | ⟨o, hc⟩ | ⟨m, b, u, q, e⟩
    · exact h1 hc
    · exact h2 o hc
    · exact h3 m b u q e
  refine ⟨R.fs, B, fun a pa => nF (R.pf a pa) (.inl pa), put_nodup R.nd, fun b o e => ?_, vr', ad', fr, fun m l e => ?_, fun m b u => ?_, fun m b m' c u u' e => ?_⟩
  · obtain ⟨h1, h2, h3, h4⟩ := R.x b o e
    exact ⟨hS b o h1 (.inl ⟨o, e⟩), h2, h3, nF h4 (.inr (.inl ⟨o, e⟩))⟩
  · by_cases q : m = n
    · subst q; rw [put_self] at e; cases e; exact ⟨hn, ok⟩
    · rw [put_ne q] at e
      obtain ⟨hv, ok'⟩ := h.ok m l e
      refine ⟨hv, ?_⟩
      rw [hvr _ fun w => q (R.fs.inj m n hv hn w)]
      refine ok'.kp hF (fun b u o g => hS _ o g (.inr ⟨m, b, ⟨l, e, u⟩, q, rfl⟩)) (fun b _ => had m b q) fun j ej => ?_
      subst ej
      by_cases qj : j = n
      · subst qj
        refine happ.elim id fun na => ?_
        have na := List.all_eq_true.mp na _ (mem_of_lookup e)
        have : isApp j (.app j) = true := beq_self_eq_true j
        rw [this] at na; cases na
      · exact had j _ qj
  · rcases used_put u with ⟨q, w⟩ | ⟨q, w⟩
    · subst q; exact (mu b w).1
    · rw [had m b q]
      exact (h.mu m b w).mono (nF (h.mu m b w).nf (.inr (.inr ⟨m, b, w, q, rfl⟩)))
  · rcases used_put u with ⟨q, w⟩ | ⟨q, w⟩
    · rcases used_put u' with ⟨q', w'⟩ | ⟨q', w'⟩
      · subst q; subst q'
        refine ⟨rfl, ?_⟩
        cases b <;> cases c
        · rfl
        · exact absurd e (hd w w')
        · exact absurd e.symm (hd w' w)
        · rfl
      · subst q; rw [had m' c q'] at e; exact absurd e.symm ((mu b w).2 m' c w' q')
    · rcases used_put u' with ⟨q', w'⟩ | ⟨q', w'⟩
      · subst q'; rw [had m b q] at e; exact absurd e ((mu c w').2 m b w q)
      · rw [had m b q, had m' c q'] at e; exact h.dj m b m' c w w' e

/-- the heap that a store leaves -/
theorem Rl.stored {n : Nat} {lv : LV} {v : Value} (R : Rl C vn kd env own s₀ F₀ X σ s F) (h : Vs vn kd env own s₀.heap X σ s.heap F vr ad) (hn : isVar kd n = true) (had : ∀ m b, m ≠ n → ad' m b = ad m b) (happ : ad' n false = ad n false ∨ noApp σ n = true)
    (ok : ∀ h', (∀ b o, ¬ Priv env own b → s.heap.get? b = some o → h'.get? b = some o) → VarOk h' F (some v) ad' n lv) (mu : ∀ b, lv.uses b → Mut env own s₀.heap F X (ad' n b) ∧ ∀ m c, Used σ m c → m ≠ n → ad m c ≠ ad' n b)
    (hd : lv.uses false → lv.uses true → ad' n false ≠ ad' n true) {M : Model} {E : Value → Shared → Prop} {Q : Unit → Shared → Prop} (k : ∀ s', Rl C vn kd env own s₀ F₀ X (put σ n lv) s' F → (∀ b o, ¬ Priv env own b → s.heap.get? b = some o → s'.heap.get? b = some o) → Q () s') : wpAny M A (storeName env (vn.vn n) v) Q E s := by
  refine store_sound R.fs.ap h.fr (R.fs.hv _ hn) (fun h' k' _ fr' kp => k _ ?_ kp) trivial
  refine R.set (s' := { s with heap := h', toks := k' }) (vr' := updv vr (vn.vn n) v) (ad' := ad') h (R.B.upd (S := Priv env own) R.fs.ap.none (fun a o p => R.pf a p o) kp rfl rfl trivial) (fun _ _ e => e) (fun _ _ e => .inl e) (fun b o e hb => kp b o ?_ e) fr' (fun y hy => if_neg hy) had happ hn
    (by unfold updv; rw [if_pos rfl]; exact ok h' kp) mu hd
  rcases hb with ⟨o, hx⟩ | ⟨m, c, u, _, rfl⟩
  · exact (R.x b o hx).2.2.1
  · exact (h.mu m c u).np
/-- a plain value into a variable -/
theorem Rl.store (R : Rl C vn kd env own s₀ F₀ X σ s F) {n : Nat} {v : Value} {d : V} (hx : isVar kd n = true) (rv : Rep F v d) {M : Model} {E : Value → Shared → Prop} {Q : Unit → Shared → Prop}
    (k : ∀ s', Rl C vn kd env own s₀ F₀ X (put σ n (.val d)) s' F → Q () s') : wpAny M A (storeName env (vn.vn n) v) Q E s :=
  let ⟨_, _, h⟩ := R.ex
  R.stored (lv := .val d) h hx (fun _ _ _ => rfl) (.inl rfl) (fun _ _ => ⟨v, rfl, rv⟩) (fun _ u => u.elim) (fun u => u.elim) fun s' R' _ => k s' R'
def adAt (ad : Nat → Bool → Addr) (n : Nat) (a b : Addr) (m : Nat) (c : Bool) : Addr := if m = n then cond c b a else ad m c
theorem adAt_ne {n m : Nat} {a b : Addr} {c : Bool} (h : m ≠ n) : adAt ad n a b m c = ad m c := if_neg h
theorem adAt_f {n : Nat} {a b : Addr} : adAt ad n a b n false = a := if_pos rfl
theorem adAt_t {n : Nat} {a b : Addr} : adAt ad n a b n true = b := if_pos rfl
/-- an object unknown before is nobody's -/
theorem Rl.fresh (R : Rl C vn kd env own s₀ F₀ X σ s F) (h : Vs vn kd env own s₀.heap X σ s.heap F vr ad) {a : Addr} (ha : s.heap.get? a = none) : Mut env own s₀.heap F X a ∧ ∀ m c, Used σ m c → ad m c ≠ a :=
  ⟨⟨Kp.none R.B.kp (R.B.inv.freshNe ha) ha, fun p => let ⟨_, ho⟩ := h.fr.some p; (nomatch ha.symm.trans ho), fun o e => (nomatch ha.symm.trans (R.B.f.at' a o e).1), fun o e => (nomatch ha.symm.trans (R.x a o e).1)⟩,
    fun m c u e => let ⟨_, _, q⟩ := h.get u; nomatch ((congrArg s.heap.get? e).trans ha).symm.trans q⟩
/-- a list of one's own into a variable -/
theorem Rl.storeOwn (R₀ : Rl C vn kd env own s₀ F₀ X σ s₁ F₁) (I1 : Inv C s) (k1 : Kp C s₁ s) (x1 : Fx C F₁ F s₁ s) {n : Nat} {a : Addr} {vs : List Value} {k : Nat} {ds : List V} (hx : isVar kd n = true) (hs : s₁.heap.get? a = none) (haF : ∀ o, ¬ F a o)
    (hg : s.heap.get? a = some (lstObj vs k)) (rl : RepL F vs ds) (hna : noApp σ n = true) {M : Model} {E : Value → Shared → Prop} {Q : Unit → Shared → Prop}
    (q : ∀ s', Rl C vn kd env own s₀ F₀ X (put σ n (.own ds)) s' F → (∀ b o, ¬ Priv env own b → s.heap.get? b = some o → s'.heap.get? b = some o) → Q () s') : wpAny M A (storeName env (vn.vn n) (.ref a)) Q E s := by
  obtain ⟨vr, ad, h⟩ := R₀.ex
  obtain ⟨m, mj⟩ := R₀.fresh h hs
  refine (R₀.kp I1 k1 x1).stored (lv := .own ds) (ad' := adAt ad n a a) (R₀.kpX k1 x1 h) hx (fun _ _ q => adAt_ne q) (.inr hna) (fun h' kp => ⟨vs, k, by rw [adAt_f], by rw [adAt_f]; exact kp a _ m.np hg, rl⟩) (fun b u => ?_) (fun _ u => nomatch u) q
  cases u
  rw [adAt_f]
  exact ⟨m.mono haF, fun m c u _ => mj m c u⟩
/-- an owned thing changes -/
theorem Rl.muts (R : Rl C vn kd env own s₀ F₀ X σ s F) (h : Vs vn kd env own s₀.heap X σ s.heap F vr ad) {n : Nat} {c : Bool} {l lv : LV} (e : σ.lookup n = some l) (u : l.uses c) (hu : ∀ b, lv.uses b → l.uses b) (hk : ∀ b o, b ≠ ad n c → s.heap.get? b = some o → s'.heap.get? b = some o)
    (hg : s'.gens = s.gens) (ho : s'.os = s.os) (ok : VarOk s'.heap F (vr (vn.vn n)) ad n lv) : Rl C vn kd env own s₀ F₀ X (put σ n lv) s' F := by
  have hU : Used σ n c := ⟨_, e, u⟩
  have mu := h.mu n c hU
  have B : Bk C s₀ F₀ s' F := R.B.upd (S := fun a => a = ad n c) (by rintro a rfl; exact mu.new) (by rintro a o rfl; exact mu.nf o) hk hg ho trivial
  refine R.set h B (fun _ _ e => e) (fun _ _ e => .inl e) (fun b o g hb => hk b o ?_ g) (h.fr.at fun b o hb g => hk b o (fun q => mu.np (q ▸ hb)) g) (fun _ _ => rfl) (fun _ _ _ => rfl) (.inl rfl) (h.ok n l e).1 ok
    (fun b w => ⟨h.mu n b ⟨_, e, hu b w⟩, fun m c' v q z => q (h.dj m c' n b v ⟨_, e, hu b w⟩ z).1⟩) fun w w' z => nomatch (h.dj n false n true ⟨_, e, hu _ w⟩ ⟨_, e, hu _ w'⟩ z).2
  rintro rfl
  rcases hb with ⟨o, hx⟩ | ⟨m, c', v, q, z⟩
  · exact mu.nx o hx
  · exact q (h.dj m c' n c v hU z).1
/-- a list of one's own changes -/
theorem Rl.mutate (R₀ : Rl C vn kd env own s₀ F₀ X σ s₁ F₁) {n : Nat} {ds : List V} (hl : σ.lookup n = some (.own ds)) :
    ∃ a, RdAt env s₁.heap (vn.vn n) (.ref a) ∧ (∃ vs k, s₁.heap.get? a = some (lstObj vs k)) ∧ ∀ s F, Inv C s → Kp C s₁ s → Fx C F₁ F s₁ s → ∃ vs k, s.heap.get? a = some (lstObj vs k) ∧ RepL F vs ds ∧
      ∀ s' vs' k' ds', s'.heap.get? a = some (lstObj vs' k') → RepL F vs' ds' → (∀ b o, b ≠ a → s.heap.get? b = some o → s'.heap.get? b = some o) → s'.gens = s.gens → s'.os = s.os → Rl C vn kd env own s₀ F₀ X (put σ n (.own ds')) s' F := by
  obtain ⟨vr, ad, h⟩ := R₀.ex
  obtain ⟨_, vs, k, e1, e2, rl⟩ := h.ok n _ hl
  refine ⟨ad n false, R₀.rd h hl e1, ⟨vs, k, e2⟩, fun s F I1 k1 x1 => ?_⟩
  have h' := R₀.kpX k1 x1 h
  obtain ⟨_, vs, k, e1, e2, rl⟩ := h'.ok n _ hl
  exact ⟨vs, k, e2, rl, fun s' vs' k' ds' hg rl' hk h1 h2 => (R₀.kp I1 k1 x1).muts (lv := .own ds') h' hl (c := false) rfl (fun _ u => u) hk h1 h2 ⟨vs', k', e1, hg, rl'⟩⟩
/-- calling its append, kept in a variable -/
theorem Rl.mutApp (R₀ : Rl C vn kd env own s₀ F₀ X σ s₁ F₁) {y n : Nat} {ds : List V} (hy : σ.lookup y = some (.app n)) (hl : σ.lookup n = some (.own ds)) :
    ∃ a q, RdAt env s₁.heap (vn.vn y) (.ref q) ∧ s₁.heap.get? q = some (appObj a) ∧ ∀ s F, Inv C s → Kp C s₁ s → Fx C F₁ F s₁ s → ∃ vs k, s.heap.get? q = some (appObj a) ∧ s.heap.get? a = some (lstObj vs k) ∧ RepL F vs ds ∧
      ∀ s' vs' k' ds', s'.heap.get? a = some (lstObj vs' k') → RepL F vs' ds' → (∀ b o, b ≠ a → s.heap.get? b = some o → s'.heap.get? b = some o) → s'.gens = s.gens → s'.os = s.os → Rl C vn kd env own s₀ F₀ X (put σ n (.own ds')) s' F := by
  obtain ⟨vr, ad, h⟩ := R₀.ex
  obtain ⟨_, q, ey, hq⟩ := h.ok y _ hy
  refine ⟨ad n false, q, R₀.rd h hy ey, (R₀.B.f.at' _ _ hq).1, fun s F I1 k1 x1 => ?_⟩
  have h' := R₀.kpX k1 x1 h
  obtain ⟨_, vs, k, e1, e2, rl⟩ := h'.ok n _ hl
  exact ⟨vs, k, (x1.ok.at' _ _ (x1.le _ _ hq)).1, e2, rl, fun s' vs' k' ds' hg rl' hk h1 h2 => (R₀.kp I1 k1 x1).muts (lv := .own ds') h' hl (c := false) rfl (fun _ u => u) hk h1 h2 ⟨vs', k', e1, hg, rl'⟩⟩
/-- an owned list is owned no more -/
theorem Rl.freeze (R : Rl C vn kd env own s₀ F₀ X σ s F) {n : Nat} {ds : List V} (hl : σ.lookup n = some (.own ds)) : ∃ F', (∀ a o, F a o → F' a o) ∧ Rl C vn kd env own s₀ F₀ X (put σ n (.val (.list ds))) s F' := by
  obtain ⟨vr, ad, h⟩ := R.ex
  obtain ⟨hv, vs, k, e1, e2, rl⟩ := h.ok n _ hl
  have hu : Used σ n false := ⟨_, hl, rfl⟩
  have mu := h.mu n false hu
  exact ⟨F.add (ad n false) (lstObj vs k), fun _ _ e => .inl e, R.set (lv := .val (.list ds)) h (R.B.freeze mu.new e2) (fun _ _ e => .inl e) (fun a o e => e.imp id fun ⟨q, _⟩ => by subst q; exact ⟨mu.np, mu.nx, fun m b u q e => q (h.dj m b n false u hu e).1⟩) (fun _ _ g _ => g) h.fr (fun _ _ => rfl) (fun _ _ _ => rfl) (.inl rfl) hv
    ⟨_, e1, .list (.inr ⟨rfl, rfl⟩) (rl.mono fun _ _ e => .inl e)⟩ (fun _ u => u.elim) fun u => u.elim⟩
/-- the bound method of a list of one's own, kept in a variable -/
theorem Rl.alias (R : Rl C vn kd env own s₀ F₀ X σ s F) {x : Nat} {ds : List V} (hl : σ.lookup x = some (.own ds)) : ∃ a, RdAt env s.heap (vn.vn x) (.ref a) ∧ (∃ vs k, s.heap.get? a = some (lstObj vs k)) ∧
    ∀ {y : Nat} (_ : isVar kd y = true) {k : Nat} {M : Model} {A : Around} {E : Value → Shared → Prop} {Q : Unit → Shared → Prop}
      (_ : ∀ s' F', Rl C vn kd env own s₀ F₀ X (put σ y (.app x)) s' F' → (∀ a o, F a o → F' a o) → Q () s'), wpAny M A (storeName env (vn.vn y) (.ref s.heap.objs.size)) Q E { s with heap := s.heap.push (appObj a), toks := k } := by
  obtain ⟨vr, ad, h⟩ := R.ex
  obtain ⟨hv, vs, k0, e1, e2, rl⟩ := h.ok x _ hl
  refine ⟨ad x false, R.rd h hl e1, ⟨vs, k0, e2⟩, ?_⟩
  intro y hy k M A E Q q
  obtain ⟨I1, k1, F1, x1, hF1⟩ := pst_push (n := k) (a := ()) (Q := fun _ _ F' => F' = F.add s.heap.objs.size (appObj (ad x false))) (o := appObj (ad x false)) R.B.inv R.B.f rfl trivial
  exact (R.kp I1 k1 x1).stored (lv := .app x) (R.kpX k1 x1 h) hy (fun _ _ _ => rfl) (.inl rfl) (fun _ _ => ⟨_, rfl, hF1 ▸ .inr ⟨rfl, rfl⟩⟩) (fun _ u => u.elim) (fun u => u.elim) fun s' R' _ => q s' F1 R' x1.le
/-- fewer variables -/
theorem Rl.keep (R : Rl C vn kd env own s₀ F₀ X σ s F) (l : List Nat) : Rl C vn kd env own s₀ F₀ X (keepv σ l) s F :=
  let ⟨vr, ad, h⟩ := R.ex
  have key : ∀ {m b}, Used (keepv σ l) m b → Used σ m b := fun ⟨lv, e, u⟩ => ⟨lv, keepv_lookup R.nd e, u⟩
  ⟨R.fs, R.B, R.pf, R.nd.sublist (List.Sublist.map _ List.filter_sublist), R.x, vr, ad, h.fr, fun n lv e => h.ok n lv (keepv_lookup R.nd e), fun m b u => h.mu m b (key u), fun m b m' c u u' e => h.dj m b m' c (key u) (key u') e⟩
end
end Mine
open PySem PySem.W PyProof.Rows PySem.Calls
namespace Mine
abbrev boundApp (a : Addr) : Obj := appObj a
theorem slot_mdget : Slot "method_descriptor" "__get__" "method_descriptor.__get__" :=
  .of (owner := "method_descriptor") (n := "__get__") (by rw [typeLookup_type, builtinLookup_eq_fast]; kernel_rfl) (by decide +kernel) (by decide +kernel) (by decide +kernel)
    (by first | exact .inl (by decide +kernel) | exact .inr (by decide +kernel)) (by rw [isSubtype_type]; kernel_rfl)
theorem entry_mdget : entryFor table "method_descriptor.__get__" = some Builtin.«method_descriptor.__get__» := entryFor_of_tree (by kernel_rfl)
theorem args_mdget (a b c : Value) : argsOk "method_descriptor.__get__" ⟨[a, b, c], []⟩ := by unfold argsOk; kernel_rfl
theorem nostores : Builtin.ObjectAttr.takesStores (.builtin "list.append") = pure false := by
  first | rfl | kernel_rfl | (unfold Builtin.ObjectAttr.takesStores; rw [show typeOf (.builtin "list.append") = pure (.type "method_descriptor") from PySem.F.type_list_append]; first | rfl | kernel_rfl)
theorem sub_ll : isSubtype (.type "list") (.type "list") = pure true := by first | rfl | (rw [isSubtype_type]; kernel_rfl)
theorem meets_mdget (a : Addr) (vs : List Value) (k : Nat) : Meets (Builtin.«method_descriptor.__get__» ⟨[.builtin "list.append", .ref a, .type "list"], []⟩)
    (fun _ R s => s.heap.get? a = some { cls := .type "list", dict := none, data := .seq vs.toArray k, slots := #[] } ∧ R (.ok (.ret (.ref s.heap.objs.size))) { s with heap := s.heap.push (boundApp a) }) :=
  Meets.of_wp fun prog w A R s hs => by
    obtain ⟨hp, g, d, tk, os⟩ := s
    obtain ⟨hx, hs⟩ := hs
    have hT : (⟨hp, g, d, tk, os⟩ : Shared).TypeIs (.ref a) "list" := ⟨_, hx, rfl⟩
    have f1 := sub_ll
    unfold Builtin.«method_descriptor.__get__»
    repeat (any_goals (first | assumption | wp_step))
    have e : (".".intercalate ("list.append".cutAt '.').dropLast) = "list" := by decide +kernel
    rw [e]
    repeat (any_goals (first | assumption | wp_step))
    exact ⟨_, rfl, hs⟩
theorem meets_ga_append (a : Addr) (vs : List Value) (k : Nat) (u : Tok) : Meets (Builtin.«object.__getattribute__» ⟨[.ref a, .str "append" u], []⟩)
    (fun _ R s => s.heap.get? a = some { cls := .type "list", dict := none, data := .seq vs.toArray k, slots := #[] } ∧ R (.ok (.ret (.ref s.heap.objs.size))) { s with heap := s.heap.push (boundApp a) }) :=
  Meets.of_wp fun prog w A R s hs => by
    obtain ⟨hp, g, d, tk, os⟩ := s
    obtain ⟨hx, hs⟩ := hs
    have hT : (⟨hp, g, d, tk, os⟩ : Shared).TypeIs (.ref a) "list" := ⟨_, hx, rfl⟩
    have f6 := PySem.F.slot_list_append.lookup
    have f7 := PySem.F.type_list_append
    have f8 := slot_mdget.lookup
    have f9 := nostores
    unfold Builtin.«object.__getattribute__»
    repeat (any_goals (first | assumption | ((with_reducible show wpAny _ _ (call (Value.builtin "method_descriptor.__get__") _ _) _ _ _); refine call_meets slot_mdget f7 entry_mdget (args_mdget _ _ _) (meets_mdget a vs k) ⟨hx, ?_⟩) | wp_step))
    exact wpAny_pure ⟨_, rfl, hs⟩
section
variable {prog : Program} {w : World} {A : Around} {E : Value → Shared → Prop} {s : Shared}
theorem get_append {a : Addr} {vs : List Value} {k : Nat} {Q : Value → Shared → Prop} (hx : s.heap.get? a = some (lstObj vs k)) 
    (h : ∀ tk, Q (.ref s.heap.objs.size) { s with heap := s.heap.push (boundApp a), toks := tk }) : wpAny (model prog w) A (getAttr (.ref a) "append" true) Q E s := by
  obtain ⟨hp, g, d, tk, os⟩ := s
  unfold lstObj at hx
  have hT : ∀ tk', (⟨hp, g, d, tk', os⟩ : Shared).TypeIs (.ref a) "list" := fun _ => ⟨_, hx, rfl⟩
  have f3 := PySem.F.slot_list_getattribute.lookup
  have f4 := PySem.F.slot_list_getattribute.bind (.ref a)
  have f5 := am_list_getattr_none
  have f6 := PySem.F.slot_list_append.lookup
  have f7 := PySem.F.type_list_append
  have f8 := slot_mdget.lookup
  have f9 := nostores
  unfold getAttr getAttrBy
  repeat (any_goals (first | assumption | exact hT _ | ((with_reducible show wpAny _ _ (call (Value.builtin "list.__getattribute__") _ _) _ _ _); refine call_meets PySem.F.slot_list_getattribute (hT _) am_entry_list_getattribute (PySem.F.args_list_getattribute_2 _ _) (meets_ga_append a vs k _) ⟨hx, ?_⟩) | wp_step))
  exact wpAny_pure (h _)

theorem bound_sig : ∃ sig, Manifest.signature? "list.append" = some sig ∧ ∀ a v, Bind.checkArgs "list.append" { sig with full := s!"{Bind.lastOf "list"}.{Bind.lastOf "list.append"}" } ⟨[.ref a, v], []⟩ = pure () :=
  ⟨(Manifest.sig_list.lookup (String.ofList ['d', 'n', 'e', 'p', 'p', 'a'].reverse)).get (by decide +kernel), by
    rw [signature?_of (id := "list.append") (n := ['d', 'n', 'e', 'p', 'p', 'a']) (o := ['t', 's', 'i', 'l']) (by kernel_rfl) PySem.F.owner_list]
    exact (Option.some_get _).symm, fun a v => by kernel_rfl⟩
theorem sub_lmod : isSubtype (.type "list") (.type "module") = pure false := by first | rfl | (rw [isSubtype_type]; kernel_rfl)
theorem sub_ltype : isSubtype (.type "list") (.type "type") = pure false := by first | rfl | (rw [isSubtype_type]; kernel_rfl)
theorem callWith_app {pos : Pos} {u a : Addr} {args : List (Bool × Sem Value)} {Q : Value → Shared → Prop} {M : Model} (hplain : args.any (·.1) = false)
    (h : wpAny M A (evalArgs (.ref u) true args []) (fun x s₁ => s₁.heap.get? u = some (boundApp a) ∧ wpAny M A (call (.ref u) x.pos x.kw) Q E s₁) E s) : wpAny M A (callWith pos (.ref u) [] args []) Q E s := by
  unfold callWith
  refine wpAny_bind (wpAny_holding (wpAny_mono h (fun x s₁ h₁ => wpAny_bind (wpAny_standAt ?_)) fun _ _ x => x))
  obtain ⟨ho, hcall⟩ := h₁
  simp only [hplain, List.any_nil, Bool.or_false]
  refine wpAny_bind (m := keeperOf (.ref u)) ?_
  unfold keeperOf
  refine wpAny_bind (wpAny_load ho ?_)
  simp only [boundApp, appObj, show (Value.type "builtin_function_or_method" != Value.type "method") = true by decide, show (Value.type "builtin_function_or_method" == Value.type "builtin_function_or_method" || Value.type "builtin_function_or_method" == Value.type "method-wrapper") = true by decide, if_true]
  refine wpAny_pure ?_
  exact wpAny_bind (wpAny_mono hcall (fun r s₂ hr => wpAny_bind (wpAny_holding (wpAny_point (wpAny_pure hr)))) fun _ _ x => x)

theorem call_app {u a : Addr} {v : Value} {vs : List Value} {k : Nat} {Q : Value → Shared → Prop} (ho : s.heap.get? u = some (boundApp a)) (hx : s.heap.get? a = some (lstObj vs k)) (hz : vs.length ≤ sizeLine)
    (h : Q .none { s with heap := s.heap.update a (Obj.mapSeq fun xs => xs.push v) }) : wpAny (model prog w) A (call (.ref u) [v]) Q E s := by
  refine wpAny_call (codeAny_of_tree ?_)
  show wpAny _ A.in1 (callAny (.ref u) ⟨[v], []⟩) _ _ s
  simp only [callAny]
  refine wpAny_bind (wpAny_load ho ?_)
  simp only [boundApp, appObj, show (Value.type "builtin_function_or_method" == Value.type "method" || Value.type "builtin_function_or_method" == Value.type "builtin_function_or_method" || Value.type "builtin_function_or_method" == Value.type "method-wrapper") = true by decide, if_true]
  have hT : s.TypeIs (.ref a) "list" := ⟨_, hx, rfl⟩
  have hc : ∀ {P : Unit → Shared → Prop} {E' : Value → Shared → Prop}, P () s → wpAny (model prog w) A.in1 (checkBoundCall "list.append" ⟨[.ref a, v], []⟩) P E' s := by
    intro P E' hp
    obtain ⟨sig, hs, hck⟩ := bound_sig
    unfold checkBoundCall
    rw [hs]
    dsimp only
    rw [show builtinKind "list.append" = some .method by decide +kernel]
    dsimp only
    rw [if_neg (by decide)]
    refine wpAny_bind (wpAny_isInstance hT sub_lmod ?_)
    rw [if_neg (by decide +kernel)]
    refine wpAny_bind ?_
    unfold isType
    refine wpAny_bind (wpAny_loadPart hx (wpAny_pure ?_))
    dsimp only [lstObj]
    rw [if_neg (by decide)]
    refine wpAny_bind (wpAny_typeOf hT ?_)
    dsimp only
    exact wpAny_of_eq (hck a v) hp
  have plainA : plainId "list.append" = true := PySem.F.slot_list_append.plain
  show wpAny _ A.in1 (if (Value.type "builtin_function_or_method" != Value.type "method") = true then (do
    checkBoundCall "list.append" ⟨[.ref a, v], []⟩
    again (.builtin "list.append" ⟨[.ref a, v], []⟩)) else _) _ _ s
  rw [if_pos (by decide)]
  refine wpAny_bind (hc (wpAny_pure ⟨plainId_quiet plainA _, codeAny_builtin PySem.F.entry_list_append ?_⟩))
  rw [Around.under_plainId plainA]
  exact PySem.list_append a vs.toArray k v (by rw [List.size_toArray]; exact hz) prog w A (fun r s' => match r with | .ok (.ret v) => Q v s' | .ok _ => False | .error e => E e s') s ⟨hx, h⟩
end
open PySem.MeetsSeq PySem.AutoSeq1 in
theorem setitem_at (l : Addr) (items : Array Value) (n : Nat) (i : Int) (u : Tok) (v : Value) (k : Nat) (hfit : Builtin.List.listFitsIndex i = true) (hk : seqIndex? i items.size = some k) (hlt : k < items.size) :
    Meets (Builtin.«list.__setitem__» ⟨[.ref l, .int i u, v], []⟩)
      (fun _ R s => s.heap.get? l = some { cls := .type "list", dict := none, data := .seq items n, slots := #[] } ∧ R (.ok (.ret .none)) { s with heap := s.heap.update l (Obj.mapSeq fun xs => xs.setIfInBounds k v) }) :=
  .of_wp fun prog w A R s h => by
    obtain ⟨hp, g, d, tk, os⟩ := s; obtain ⟨hl, h⟩ := h
    have hf : ¬ (!Builtin.List.listFitsIndex i) = true := by simp [hfit]
    have f1 := AutoSeq1.idx_int
    wp_walk using wpAny_loadPart' hl
    have fin : wpAny (model prog w) A.in1 (do setSeqItemAt l k v; ret .none) (fun fin s' => ∃ v, fin = Fin.done (Flow.ret v) ∧ R (Except.ok (Flow.ret v)) s') (fun e s' => R (Except.error e) s') { heap := hp, gens := g, drawn := d, toks := tk, os := os } :=
      wpAny_bind (wpAny_setSeqItemAt hl rfl (wpAny_pure ⟨_, rfl, h⟩))
    have hx : items[k]? = some items[k] := by simp [hlt]
    cases i with
    | ofNat j =>
      have hj : k = j := by
        have := hk
        unfold seqIndex? at this
        simp at this
        omega
      subst hj
      refine wpAny_bind (wpAny_seqItemAt hl rfl (wpAny_pure ?_))
      have e : Option.map (fun x => (k, x)) items[k]? = some (k, items[k]) := by rw [hx]; rfl
      generalize Option.map (fun x => (k, x)) items[k]? = z at e ⊢
      subst e
      exact fin
    | negSucc j =>
      dsimp only
      clear hf hfit
      generalize Int.negSucc j = i' at hk ⊢
      wp_walk using wpAny_loadPart' hl
      rw [hk]
      simp only [Option.bind_some, hx, Option.map_some]
      exact fin
section
variable {prog : Program} {w : World} {A : Around} {E : Value → Shared → Prop} {s : Shared}
theorem setItem_at {l : Addr} {vs : List Value} {n : Nat} {i : Int} {u : Tok} {v : Value} {k : Nat} {Q : Unit → Shared → Prop} (hl : s.heap.get? l = some (lstObj vs n)) (hfit : Builtin.List.listFitsIndex i = true) (hk : seqIndex? i vs.length = some k) (hlt : k < vs.length)
    (h : Q () { s with heap := s.heap.update l (Obj.mapSeq fun xs => xs.setIfInBounds k v) }) : wpAny (model prog w) A (setItem (.ref l) (.int i u) v) Q E s := by
  have hT : s.TypeIs (.ref l) "list" := ⟨_, hl, rfl⟩
  unfold setItem
  refine wpAny_holding ?_
  refine wpAny_bind (wpAny_sequenceKey hT (by decide) ?_)
  refine wpAny_bind (wpAny_callSpecial?_slot (name := Str.ofString "__setitem__") hT slot_list_setitem
    (call_meets PySem.F.slot_list_setitem hT PySem.F.entry_list_setitem (PySem.F.args_list_setitem_3 _ _ _) (setitem_at l vs.toArray n i u v k hfit (by rw [List.size_toArray]; exact hk) (by rw [List.size_toArray]; exact hlt)) ⟨hl, ?_⟩))
  exact wpAny_pure h
end

/-! # Statements: what is asked ahead of them -/
inductive Fl where
  | next
  | brk
  | ret (d : V)
def FlOk (F : Fz) : Flow → Fl → Prop
  | .next, .next => True
  | .brk, .brk => True
  | .ret v, .ret d => Rep F v d
  | _, _ => False
abbrev Kt := Fl → St → Prop
abbrev Xp := St → Kt → Prop
def putβ (σ : St) : Ρ → St
  | [] => σ
  | (n, d) :: β => putβ (put σ n (.val d)) β
def ownw (σ : St) (n : Nat) (K : List V → Prop) : Prop := match σ.lookup n with | some lv => (match lv with | .own ds => K ds | _ => False) | none => False
def valw (σ : St) (n : Nat) (K : V → Prop) : Prop := match σ.lookup n with | some lv => (match lv with | .val d => K d | _ => False) | none => False
def appw (σ : St) (n : Nat) (K : Nat → Prop) : Prop := match σ.lookup n with | some lv => (match lv with | .app m => K m | _ => False) | none => False
theorem ownw_inv {σ : St} {n : Nat} {K : List V → Prop} (h : ownw σ n K) : ∃ ds, σ.lookup n = some (.own ds) ∧ K ds := by
  unfold ownw at h
  cases e : σ.lookup n with
  | none => rw [e] at h; exact h.elim
  | some lv => rw [e] at h; cases lv <;> first | exact ⟨_, rfl, h⟩ | exact h.elim
theorem valw_inv {σ : St} {n : Nat} {K : V → Prop} (h : valw σ n K) : ∃ d, σ.lookup n = some (.val d) ∧ K d := by
  unfold valw at h
  cases e : σ.lookup n with
  | none => rw [e] at h; exact h.elim
  | some lv => rw [e] at h; cases lv <;> first | exact ⟨_, rfl, h⟩ | exact h.elim
theorem appw_inv {σ : St} {n : Nat} {K : Nat → Prop} (h : appw σ n K) : ∃ m, σ.lookup n = some (.app m) ∧ K m := by
  unfold appw at h
  cases e : σ.lookup n with
  | none => rw [e] at h; exact h.elim
  | some lv => rw [e] at h; cases lv <;> first | exact ⟨_, rfl, h⟩ | exact h.elim

/-- where a statement leaves -/
def XPost (C : Cx) (vn : Nm) (kd : Kd) (env : Env) (own : List Str) (s₀ : Shared) (F₀ X : Fz) (F : Fz) (K : Kt) (fl : Flow) (s' : Shared) : Prop :=
  ∃ F' σ' f, Rl C vn kd env own s₀ F₀ X σ' s' F' ∧ (∀ a o, F a o → F' a o) ∧ FlOk F' fl f ∧ K f σ'
/-- a statement is served -/
structure SS (C : Cx) (vn : Nm) (r : Nat) (kd : Kd) (st : Stmt) (x : Xp) : Prop where
  go : ∀ {A s F X σ K env own s₀ F₀}, Room r A → Rl C vn kd env own s₀ F₀ X σ s F → x σ K → wpAny (model C.prog C.w) A (exec st env) (XPost C vn kd env own s₀ F₀ X F K) (fun _ _ => False) s
structure SL (C : Cx) (vn : Nm) (r : Nat) (kd : Kd) (ss : List Stmt) (x : Xp) : Prop where
  go : ∀ {A s F X σ K env own s₀ F₀}, Room r A → Rl C vn kd env own s₀ F₀ X σ s F → x σ K → wpAny (model C.prog C.w) A (execs ss env) (XPost C vn kd env own s₀ F₀ X F K) (fun _ _ => False) s

section
variable {C : Cx} {A : Around} {s s₀ s₁ s₂ s' : Shared} {F F₀ F₁ F' X : Fz} {r : Nat} {env : Env} {own : List Str} {vn : Nm} {kd : Kd} {σ : St} {K : Kt}

theorem XPost.le {fl : Flow} (h : XPost C vn kd env own s₀ F₀ X F' K fl s') (hF : ∀ a o, F a o → F' a o) : XPost C vn kd env own s₀ F₀ X F K fl s' :=
  let ⟨F'', σ', f, R, le, ok, k⟩ := h; ⟨F'', σ', f, R, fun a o e => le a o (hF a o e), ok, k⟩
theorem wle {α : Type} {t : Sem α} {g : α → Flow} (h : wpAny (model C.prog C.w) A t (fun a => XPost C vn kd env own s₀ F₀ X F' K (g a)) (fun _ _ => False) s) (hF : ∀ a o, F a o → F' a o) : wpAny (model C.prog C.w) A t (fun a => XPost C vn kd env own s₀ F₀ X F K (g a)) (fun _ _ => False) s :=
  wpAny_mono h (fun _ _ h => h.le hF) fun _ _ e => e
theorem Rl.next (R : Rl C vn kd env own s₀ F₀ X σ s F) (h : K .next σ) : XPost C vn kd env own s₀ F₀ X F K .next s := ⟨F, σ, .next, R, fun _ _ e => e, trivial, h⟩
theorem Rl.ev (R : Rl C vn kd env own s₀ F₀ X σ s F) (Rm : Room r A) : Ev C vn r kd A s F env (ρb σ) := ⟨Rm, R.B.inv, R.B.f, R.envB⟩
/-- an expression's value, over what is frozen -/
theorem Rl.evB (R : Rl C vn kd env own s₀ F₀ X σ s F) (Rm : Room r A) {w : Wp} {x : Expr} (h : SX C vn r kd x w) {Q : V → Prop} (hw : w false (ρb σ) Q) {P : Value → Shared → Prop}
    (k : ∀ v s' F' d, Rl C vn kd env own s₀ F₀ X σ s' F' → (∀ a o, F a o → F' a o) → Rep F' v d → Q d → P v s') : wpAny (model C.prog C.w) A (eval x env) P (fun _ _ => False) s :=
  (h.e (R.ev Rm) hw).after fun v s' F' I' k' fx ⟨d, rv, hq⟩ => k v s' F' d (R.kp I' k' fx) fx.le rv hq
theorem Rl.evBs (R : Rl C vn kd env own s₀ F₀ X σ s F) (Rm : Room r A) {l : List Wp} {xs : List Expr} (h : SA C vn r kd xs l) {Q : List V → Prop} (hw : wsL l (ρb σ) Q) {P : List Value → Shared → Prop}
    (k : ∀ v s' F' d, Rl C vn kd env own s₀ F₀ X σ s' F' → (∀ a o, F a o → F' a o) → RepL F' v d → d.length = l.length → Q d → P v s') : wpAny (model C.prog C.w) A (spliced (xs.map fun x => (false, eval x env))) P (fun _ _ => False) s :=
  (h.ev (R.ev Rm) hw).after fun v s' F' I' k' fx ⟨d, rv, hl, hq⟩ => k v s' F' d (R.kp I' k' fx) fx.le rv hl hq
/-- the road back from over all variables -/
theorem Rl.back {G G' : Fz} (R : Rl C vn kd env own s₀ F₀ X σ s F) (up : ∀ a o, F a o → G a o) (I : Inv C s') (k : Kp C s s') (fx : Fx C G G' s s') : Rl C vn kd env own s₀ F₀ X σ s' F :=
  R.kp I k (Fx.refl ⟨fun a o e => fx.ok.at' a o (fx.le a o (up a o e)), R.B.f.k⟩)
/-- a flat value, over all variables -/
theorem Rl.evA (R : Rl C vn kd env own s₀ F₀ X σ s F) (Rm : Room r A) {w : Wp} {x : Expr} (h : SX C vn r kd x w) {Q : V → Prop} (hw : w false (ρa σ) Q) {P : Value → Shared → Prop}
    (k : ∀ v s' d, Rl C vn kd env own s₀ F₀ X σ s' F → (d.flat = true → Rep F v d) → Q d → P v s') : wpAny (model C.prog C.w) A (eval x env) P (fun _ _ => False) s :=
  let ⟨_, up, f, eo⟩ := R.envA
  (h.e ⟨Rm, R.B.inv, f, eo⟩ hw).after fun v s' F' I' k' fx ⟨d, rv, hq⟩ => k v s' d (R.back up I' k' fx) (fun hf => rv.of_flat hf) hq
theorem Rl.evT (R : Rl C vn kd env own s₀ F₀ X σ s F) (Rm : Room r A) {w : Wp} {x : Expr} (h : SX C vn r kd x w) {K : Bool → Prop} (hw : w true (ρa σ) fun d => bw d K) {P : Bool → Shared → Prop}
    (k : ∀ b s', Rl C vn kd env own s₀ F₀ X σ s' F → K b → P b s') : wpAny (model C.prog C.w) A (isTrue x env (eval x env)) P (fun _ _ => False) s :=
  let ⟨_, up, f, eo⟩ := R.envA
  (h.t ⟨Rm, R.B.inv, f, eo⟩ hw).after fun b s' F' I' k' fx hq => k b s' (R.back up I' k' fx) hq
theorem Rl.ext (R : Rl C vn kd env own s₀ F₀ X σ s F) {h' : Heap} {k : Nat} (up : ∀ b o, s.heap.get? b = some o → h'.get? b = some o) : Rl C vn kd env own s₀ F₀ X σ { s with heap := h', toks := k } F :=
  R.kp (s' := { s with heap := h', toks := k }) (R.B.inv.keep up rfl rfl trivial) (fun b o _ e => up b o e) (Fx.refl ⟨fun b o e => ⟨up b o (R.B.f.at' b o e).1, (R.B.f.at' b o e).2⟩, R.B.f.k⟩)
/-- targets -/
theorem Rl.assign (R : Rl C vn kd env own s₀ F₀ X σ s F) (hh : A.handled = none) {xs : List Nat} {tg : Expr} {v : Value} {d : V} {β : Ρ} (hT : Tg vn kd xs tg) (rv : Rep F v d) (hb : bindp xs d = some β) {E : Value → Shared → Prop} {Q : Unit → Shared → Prop}
    (k : ∀ s', Rl C vn kd env own s₀ F₀ X (putβ σ β) s' F → Q () s') : wpAny (model C.prog C.w) A (assign tg env v) Q E s := by
  cases hT with
  | one hx => cases hb; exact wpAny_assign_Name (R.store hx rv k)
  | two hx hy hne =>
    obtain ⟨a, b, hd, rfl⟩ := bindp2_inv hb
    exact assign2_go hh R.B.f ⟨d, rv, hd⟩ fun h' v1 v2 up r1 r2 => (R.ext (k := s.toks) up).store hx r1 fun s2 R2 => R2.store hy r2 k

def x_nil : Xp := fun σ K => K .next σ
theorem SL.nil : SL C vn r kd [] x_nil := .mk fun _ R h => wpAny_execs_nil (R.next h)
/-- what comes after -/
def sq (y : Xp) (K : Kt) : Kt := fun f σ => match f with | .next => y σ K | .brk => K .brk σ | .ret v => K (.ret v) σ
def x_sq (x y : Xp) : Xp := fun σ K => x σ (sq y K)
theorem SL.cons {st : Stmt} {ss : List Stmt} {x y : Xp} (h : SS C vn r kd st x) (h' : SL C vn r kd ss y) : SL C vn r kd (st :: ss) (x_sq x y) := .mk fun Rm R hx => by
  refine wpAny_execs_cons (wpAny_mono (h.go Rm R hx) (fun fl s' h => ?_) fun _ _ e => e)
  obtain ⟨F', σ', f, R', le, okf, hq⟩ := h
  cases fl <;> cases f <;> first | exact okf.elim | skip
  · exact wle (g := id) (h'.go Rm R' hq) le
  · exact ⟨F', σ', .brk, R', le, trivial, hq⟩
  · exact ⟨F', σ', .ret _, R', le, okf, hq⟩
/-- what holds in the middle -/
def mdK (P : St → Prop) (K : Kt) : Kt := fun f σ => match f with | .next => P σ | .brk => K .brk σ | .ret v => K (.ret v) σ
def x_mid (x y : Xp) : Xp := fun σ K => ∃ P : St → Prop, x σ (mdK P K) ∧ ∀ σ, P σ → y σ K
theorem SL.mid {st : Stmt} {ss : List Stmt} {x y : Xp} (h : SS C vn r kd st x) (h' : SL C vn r kd ss y) : SL C vn r kd (st :: ss) (x_mid x y) := .mk fun Rm R ⟨P, hx, hy⟩ => by
  refine wpAny_execs_cons (wpAny_mono (h.go Rm R hx) (fun fl s' h => ?_) fun _ _ e => e)
  obtain ⟨F', σ', f, R', le, okf, hq⟩ := h
  cases fl <;> cases f <;> first | exact okf.elim | skip
  · exact wle (g := id) (h'.go Rm R' (hy _ hq)) le
  · exact ⟨F', σ', .brk, R', le, trivial, hq⟩
  · exact ⟨F', σ', .ret _, R', le, okf, hq⟩
def x_frz (n : Nat) (y : Xp) : Xp := fun σ K => ownw σ n fun ds => y (put σ n (.val (.list ds))) K
theorem SL.frz (n : Nat) {ss : List Stmt} {y : Xp} (h : SL C vn r kd ss y) : SL C vn r kd ss (x_frz n y) := .mk fun Rm R hx => by
  obtain ⟨ds, hl, hy⟩ := ownw_inv hx
  obtain ⟨F', le, R'⟩ := R.freeze hl
  exact wle (g := id) (h.go Rm R' hy) le
def x_keep (l : List Nat) (y : Xp) : Xp := fun σ K => y (keepv σ l) K
theorem SL.keep (l : List Nat) {ss : List Stmt} {y : Xp} (h : SL C vn r kd ss y) : SL C vn r kd ss (x_keep l y) := .mk fun Rm R hx => h.go Rm (R.keep l) hx

/-! ## assignments -/
def isComp : Expr → Bool
  | .ListComp .. => true
  | .SetComp .. => true
  | .DictComp .. => true
  | _ => false
theorem swapsWith_no {v : Expr} {t : Option Expr} {n : Nat} (h : isComp v = false) : swapsWith v t n env = pure false := by
  unfold swapsWith
  cases v <;> first | rfl | cases h
theorem blockKind_fn (h : env.scope.kind = .function) : env.blockKind = .function := by
  unfold Env.blockKind; rw [h]; rfl
theorem swapsWith_cell {a : Expr} {b : List Comprehension} {c : Scope} {d p : Pos} {x : Str} {n : Nat} (hk : env.kindOf x = some .cell) : swapsWith (.ListComp a b c d) (some (.Name x p)) n env = pure false := by
  unfold swapsWith
  have : (env.kindOf x == some NameKind.local) = false := by rw [hk]; rfl
  simp [this]
theorem swapsWith_local {a : Expr} {b : List Comprehension} {c : Scope} {d p : Pos} {x : Str} {n : Nat} (hf : env.scope.kind = .function) (hk : env.kindOf x = some .local) (hp : (p.line == d.line) = true)
    (hn : (c.names.any fun (n, k) => n == x && (k == .local || k == .cell)) = false) : swapsWith (.ListComp a b c d) (some (.Name x p)) n env = pure true := by
  unfold swapsWith
  simp only [blockKind_fn hf, hk]
  show (pure _ : Sem Bool) = _
  rw [show (p.line == (Expr.ListComp a b c d).pos.line) = true from hp, hn]
  rfl
/-- a value stored -/
theorem Rl.put (R : Rl C vn kd env own s₀ F₀ X σ s F) {n : Nat} {v : Value} {d : V} (hx : isVar kd n = true) (rv : Rep F v d) (h : K .next (put σ n (.val d))) :
    wpAny (model C.prog C.w) A (storeName env (vn.vn n) v) (fun _ => XPost C vn kd env own s₀ F₀ X F K .next) (fun _ _ => False) s :=
  R.store hx rv fun _ R' => R'.next h
def x_asg (n : Nat) (a : Wp) : Xp := fun σ K => a false (ρb σ) fun d => K .next (put σ n (.val d))
theorem s_asg (n : Nat) {p q : Pos} {v : Expr} {a : Wp} (h : SX C vn r kd v a) (hx : isVar kd n = true) (hc : isComp v = false) : SS C vn r kd (.Assign [.Name (vn.vn n) p] v q) (x_asg n a) := .mk fun Rm R hw =>
  wpAny_Assign_Name (R.evB Rm h hw fun _ _ _ _ R' le rv hq => wle (g := fun _ => Flow.next) (R'.put hx rv hq) le) (swapsWith_no hc)
/-- a comprehension into a cell -/
theorem s_asgX (n : Nat) {p q : Pos} {a' : Expr} {b : List Comprehension} {c : Scope} {d : Pos} {a : Wp} (h : SX C vn r kd (.ListComp a' b c d) a) (hx : kd.lookup n = some .cell) : SS C vn r kd (.Assign [.Name (vn.vn n) p] (.ListComp a' b c d) q) (x_asg n a) := .mk fun Rm R hw =>
  wpAny_Assign_Name (R.evB Rm h hw fun _ _ _ _ R' le rv hq => wle (g := fun _ => Flow.next) (R'.put (by unfold isVar; rw [hx]) rv hq) le) (swapsWith_cell (R.fs.cell hx))
/-- a new list, kept by nobody, stored -/
theorem Rl.putOwn (R : Rl C vn kd env own s₀ F₀ X σ s F) {n : Nat} {vs : List Value} {ds : List V} (hx : isVar kd n = true) (rl : RepL F vs ds) (hna : noApp σ n = true) (h : K .next (Mine.put σ n (.own ds))) {k : Nat} :
    wpAny (model C.prog C.w) A (storeName env (vn.vn n) (.ref s.heap.objs.size)) (fun _ => XPost C vn kd env own s₀ F₀ X F K .next) (fun _ _ => False) { s with heap := s.heap.push (lstObj vs 0), toks := k } := by
  have hs := get_size s.heap
  have up : ∀ b o, s.heap.get? b = some o → (s.heap.push (lstObj vs 0)).get? b = some o := fun b o e => Heap.get?_push_of_some _ e
  exact R.storeOwn (s := { s with heap := s.heap.push (lstObj vs 0), toks := k }) (R.B.inv.keep up rfl rfl trivial) (fun b o _ e => up b o e) (Fx.refl ⟨fun b o e => ⟨up b o (R.B.f.at' b o e).1, (R.B.f.at' b o e).2⟩, R.B.f.k⟩) (k := 0) (vs := vs) hx hs
    (fun o e => nomatch hs.symm.trans (R.B.f.at' _ _ e).1) (Heap.get?_push_size _ rfl) rl hna fun s'' R'' _ => R''.next h
def x_asgL (n : Nat) (l : List Wp) : Xp := fun σ K => noApp σ n = true ∧ wsL l (ρb σ) fun ds => K .next (put σ n (.own ds))
theorem s_asgL (n : Nat) {p q pl : Pos} {xs : List Expr} {l : List Wp} (h : SA C vn r kd xs l) (hx : isVar kd n = true) (hz : Nat.ble l.length 100 = true) : SS C vn r kd (.Assign [.Name (vn.vn n) p] (.List xs pl) q) (x_asgL n l) := .mk fun {A s F X σ K env own s₀ F₀} Rm R hw => by
  refine wpAny_Assign_Name ?_ (swapsWith_no rfl)
  show wpAny _ A (do standAt pl; newList (← spliced (backTo pl (starEach xs env)))) _ _ s
  rw [h.args]
  refine wpAny_bind (wpAny_standAt (wpAny_bind (R.evBs Rm h hw.2 fun vs s' F' ds R' le rl hlen hq => ?_)))
  exact wpAny_newList (wle (g := fun _ => Flow.next) (R'.putOwn (k := s'.toks) hx rl hw.1 hq) le) (by rw [rl.length, hlen]; exact sizeLine_big (Nat.le_trans (Nat.le_of_ble_eq_true hz) (by decide)))
def cat2 (a b : V) (K : List V → Prop) : Prop := lst1 a fun p => lst1 b fun q => p.length + q.length ≤ 1000000 ∧ K (p ++ q)
def x_asgP (n : Nat) (a b : Wp) : Xp := fun σ K => noApp σ n = true ∧ a false (ρb σ) fun u => b false (ρb σ) fun v => cat2 u v fun ds => K .next (put σ n (.own ds))
theorem s_asgP (n : Nat) {p q pl : Pos} {u v : Expr} {a b : Wp} (ha : SX C vn r kd u a) (hb : SX C vn r kd v b) (hx : isVar kd n = true) : SS C vn r kd (.Assign [.Name (vn.vn n) p] (.BinOp u .Add v pl) q) (x_asgP n a b) := .mk fun {A s F X σ K env own s₀ F₀} Rm R hw => by
  refine wpAny_Assign_Name (wpAny_BinOp ?_) (swapsWith_no rfl)
  refine pair_sound ha hb (R.ev Rm) hw.2 fun va vb s' F' da db I' k' fx ra rb hq => ?_
  obtain ⟨l, rfl, hq1⟩ := lst1_inv hq
  obtain ⟨m, rfl, hz, hq2⟩ := lst1_inv hq1
  obtain ⟨_, vs, _, rfl, ha, la⟩ := ra.list_inv
  obtain ⟨_, us, _, rfl, hb, lb⟩ := rb.list_inv
  refine PySem.P.add_list (fx.ok.at' _ _ ha).1 (fx.ok.at' _ _ hb).1 ?_ (by rw [List.size_toArray, List.size_toArray, la.length, lb.length]; exact sizeLine_big hz)
  have := (R.kp I' k' fx).putOwn (A := A) (k := s'.toks) hx (la.append lb) hw.1 hq2
  rw [List.append_toArray]
  exact wle (g := fun _ => Flow.next) this fx.le
def x_unp (xs : List Nat) (a : Wp) : Xp := fun σ K => a false (ρb σ) fun d => obw (bindp xs d) fun β => K .next (putβ σ β)
theorem s_unp (x y : Nat) {i j : Pos} {k : Nat} {p q : Pos} {v : Expr} {a : Wp} (h : SX C vn r kd v a) (hT : Tg vn kd [x, y] (.Tuple [.Name (vn.vn x) i, .Name (vn.vn y) j] k p)) (hc : isComp v = false) (hn : (match v with | .Tuple .. => true | _ => false) = false) :
    SS C vn r kd (.Assign [.Tuple [.Name (vn.vn x) i, .Name (vn.vn y) j] k p] v q) (x_unp [x, y] a) := .mk fun {A s F X σ K env own s₀ F₀} Rm R hw => by
  have hsw : swappedStores [.Tuple [.Name (vn.vn x) i, .Name (vn.vn y) j] k p] v env = pure none := by
    unfold swappedStores
    cases v <;> first | (cases hn; done) | rfl
  refine wpAny_Assign_stores (R.evB Rm h hw fun u s' F' d R' le rv hq => ?_) (by unfold swapsWithSole; exact swapsWith_no hc) hsw
  obtain ⟨β, hβ, hq⟩ := obw_inv hq
  exact R'.assign Rm.handled hT rv hβ fun s'' R'' => (R''.next hq).le le

def augw (op : Operator) (a b : V) (Q : V → Prop) : Prop :=
  match op with
  | .Add => (match a with
    | .int a => int1 b fun b => Q (.int (a + b))
    | .str a => str1 b fun b => a.length + b.length ≤ 1000000 ∧ Q (.str (a ++ b))
    | _ => False)
  | .Sub => int2 a b fun a b => Q (.int (a - b))
  | .Mult => int2 a b fun a b => (a.natAbs < 2 ^ 60 ∨ b.natAbs < 2 ^ 60) ∧ Q (.int (a * b))
  | _ => False
theorem aug_sound {op : Operator} {u v : Value} {a b : V} {Q : V → Prop} (I : Inv C s) (f : FzOk C F s.heap) (ra : Rep F u a) (rb : Rep F v b) (h : augw op a b Q) : TrV C A (inplaceOp op u v) s F fun d => d.flat = true ∧ Q d := by
  cases op with
  | Add => cases a with
    | int i =>
      obtain ⟨j, rfl, h⟩ := int1_inv h
      obtain ⟨_, rfl⟩ := ra.int_inv
      obtain ⟨_, rfl⟩ := rb.int_inv
      exact PySem.P.iadd_int (pst_int I f ⟨rfl, h⟩ trivial)
    | str i =>
      obtain ⟨j, rfl, hz, h⟩ := str1_inv h
      obtain ⟨_, rfl⟩ := ra.str_inv
      obtain ⟨_, rfl⟩ := rb.str_inv
      exact PySem.SB.iadd (fun t' k => pst_str I f ⟨rfl, h⟩ (mkS_append _ _) trivial) (by rw [mkS_length, mkS_length]; exact sizeLine_big hz)
    | _ => exact h.elim
  | Sub => exact int2_go ra rb h fun _ _ _ _ e e' h => e ▸ e' ▸ PySem.P.isub_int (pst_int I f ⟨rfl, h⟩ trivial)
  | Mult => exact int2_go ra rb h fun _ _ _ _ e e' h => e ▸ e' ▸ PySem.P.imul_int (pst_int I f ⟨rfl, h.2⟩ trivial) (mul_ok h.1)
  | _ => exact h.elim
def x_aug (n : Nat) (op : Operator) (a : Wp) : Xp := fun σ K => valw σ n fun d => d.flat = true ∧ a false (ρa σ) fun v => v.flat = true ∧ augw op d v fun q => K .next (put σ n (.val q))
theorem s_aug (n : Nat) {op : Operator} {p q : Pos} {v : Expr} {a : Wp} (h : SX C vn r kd v a) : SS C vn r kd (.AugAssign (.Name (vn.vn n) p) op v q) (x_aug n op a) := .mk fun Rm R hw => by
  obtain ⟨d, hl, hf, hw⟩ := valw_inv hw
  obtain ⟨vr, ad, hV⟩ := R.ex
  obtain ⟨hv, u, e, ru⟩ := hV.ok n _ hl
  refine wpAny_AugAssign_Name (wp_loadRd R.fs.ap.kind (R.rd hV hl e) (R.evA Rm h hw fun w s' d' R' rw' hq => ?_))
  refine (aug_sound R'.B.inv R'.B.f ru (rw' hq.1) hq.2).after fun z s2 F2 I2 k2 fx ⟨d2, r2, hfl, h2⟩ => ?_
  exact (R'.back (fun _ _ e => e) I2 k2 fx).put hv (r2.of_flat hfl) h2
def x_ret (a : Wp) : Xp := fun σ K => a false (ρb σ) fun d => K (.ret d) σ
theorem s_ret {x : Expr} {q : Pos} {a : Wp} (h : SX C vn r kd x a) : SS C vn r kd (.Return (some x) q) (x_ret a) := .mk fun Rm R hw =>
  wpAny_Return_some (R.evB Rm h hw fun v s' F' d R' le rv hq => ⟨F', _, .ret d, R', le, rv, hq⟩)
def x_asrt (a : Wp) : Xp := fun σ K => a true (ρa σ) fun d => bw d fun c => c = true ∧ K .next σ
theorem s_asrt {x : Expr} {m : Option Expr} {q : Pos} {a : Wp} (h : SX C vn r kd x a) : SS C vn r kd (.Assert x m q) (x_asrt a) := .mk fun Rm R hw =>
  wpAny_Assert_holds (R.evT Rm h hw fun b s' R' hq => ⟨hq.1, R'.next hq.2⟩)
/-- a statement that is never reached -/
def x_any : Xp := fun _ _ => False
theorem s_any {st : Stmt} : SS C vn r kd st x_any := .mk fun _ _ h => h.elim
def x_brk : Xp := fun σ K => K .brk σ
theorem s_brk {q : Pos} : SS C vn r kd (.Break q) x_brk := .mk fun _ R hw => wpAny_Break ⟨_, _, .brk, R, fun _ _ e => e, trivial, hw⟩
def x_if (t : Wp) (a b : Xp) : Xp := fun σ K => t true (ρa σ) fun d => bw d fun c => (c = true → a σ K) ∧ (c = false → b σ K)
theorem s_ifs {x : Expr} {y z : List Stmt} {p : Pos} {t : Wp} {a b : Xp} (ht : SX C vn r kd x t) (ha : SL C vn r kd y a) (hb : SL C vn r kd z b) : SS C vn r kd (.If x y z p) (x_if t a b) := .mk fun Rm R hw =>
  wpAny_If (R.evT Rm ht hw fun c s' R' hq => by
    cases c
    · exact hb.go Rm R' (hq.2 rfl)
    · exact ha.go Rm R' (hq.1 rfl))
end

/-! # Lists of one's own -/
section
variable {C : Cx} {A : Around} {s s₀ s₁ s₂ s' : Shared} {F F₀ F₁ F' X : Fz} {r : Nat} {env : Env} {own : List Str} {vn : Nm} {kd kd' : Kd} {σ : St} {K : Kt}

theorem updSeq {a : Addr} {vs : List Value} {k : Nat} {f : Array Value → Array Value} {h : Heap} (hg : h.get? a = some (lstObj vs k)) : ∃ k', (h.update a (Obj.mapSeq f)).get? a = some (lstObj (f vs.toArray).toList k') ∧ ∀ b o, b ≠ a → h.get? b = some o → (h.update a (Obj.mapSeq f)).get? b = some o := updSeq0 hg

def x_app (n : Nat) (a : Wp) : Xp := fun σ K => ownw σ n fun ds => ds.length ≤ 1000000 ∧ a false (ρb σ) fun d => K .next (put σ n (.own (ds ++ [d])))
theorem s_app (O : Ok C vn) (n : Nat) {y : Expr} {p q p3 p4 : Pos} {a : Wp} (h : SX C vn r kd y a) (hline : (q.endLine == p3.line) = true) : SS C vn r kd (.Expr (.Call (.Attribute (.Name (vn.vn n) p) "append" q) [y] [] p3) p4) (x_app n a) := .mk fun {A s F X σ K env own s₀ F₀} Rm R hw => by
  obtain ⟨ds, hl, hz, hw⟩ := ownw_inv hw
  obtain ⟨a, rd, ⟨vs, k, hg⟩, mu⟩ := R.mutate hl
  have hs : backTo p3 (starEach [y] env) = [(false, eval y env)] := (SA.one h).args
  refine wpAny_Expr_any (wpAny_Call_method (T := "list") (id := "list.append") rfl (by rw [hs]; rfl) hline PySem.F.plainAttrs_list PySem.F.slot_list_append PySem.F.type_list_append (wpAny_Name (wp_loadRd R.fs.ap.kind rd ?_) (by simpa using O.dbg n))) (by unfold interactive; rw [R.fs.ap.kind]; rfl) (by rfl)
  refine ⟨⟨_, hg, rfl⟩, fun b e => by cases e; exact ⟨_, hg, rfl⟩, ?_⟩
  rw [hs]
  refine PySem.P.append_list ((h.e (R.ev Rm) hw).after fun v s' F' I' k' fx ⟨d, rv, hq⟩ => ?_)
  obtain ⟨vs', k2, hg', rl', up⟩ := mu s' F' I' k' fx
  refine ⟨vs'.toArray, k2, by rw [List.size_toArray, rl'.length]; exact sizeLine_big hz, hg', ?_⟩
  obtain ⟨k3, u1, u2⟩ := updSeq (f := fun xs => xs.push v) hg'
  exact ((up { s' with heap := s'.heap.update a (Obj.mapSeq fun xs => xs.push v) } (vs' ++ [v]) k3 (ds ++ [d]) (by rw [u1]; simp) (rl'.append (.cons rv .nil)) u2 rfl rfl).next hq).le fx.le
def x_rev (n : Nat) : Xp := fun σ K => ownw σ n fun ds => ds.length ≤ 1000000 ∧ K .next (put σ n (.own ds.reverse))
theorem s_rev (O : Ok C vn) (n : Nat) {p q p3 p4 : Pos} (hline : (q.endLine == p3.line) = true) : SS C vn r kd (.Expr (.Call (.Attribute (.Name (vn.vn n) p) "reverse" q) [] [] p3) p4) (x_rev n) := .mk fun {A s F X σ K env own s₀ F₀} Rm R hw => by
  obtain ⟨ds, hl, hz, hw⟩ := ownw_inv hw
  obtain ⟨a, rd, ⟨vs, k, hg⟩, mu⟩ := R.mutate hl
  refine wpAny_Expr_any (wpAny_Call_method (T := "list") (id := "list.reverse") rfl (by rfl) hline PySem.F.plainAttrs_list PySem.F.slot_list_reverse PySem.F.type_list_reverse (wpAny_Name (wp_loadRd R.fs.ap.kind rd ?_) (by simpa using O.dbg n))) (by unfold interactive; rw [R.fs.ap.kind]; rfl) (by rfl)
  refine ⟨⟨_, hg, rfl⟩, fun b e => by cases e; exact ⟨_, hg, rfl⟩, ?_⟩
  obtain ⟨vs', k2, hg', rl', up⟩ := mu s F R.B.inv (Kp.refl _ _) (Fx.refl R.B.f)
  refine PySem.P.reverse_list hg' ?_ (by rw [List.size_toArray, rl'.length]; exact sizeLine_big hz)
  obtain ⟨k3, u1, u2⟩ := updSeq (f := fun xs => xs.reverse) hg'
  exact (up { s with heap := s.heap.update a (Obj.mapSeq fun xs => xs.reverse) } vs'.reverse k3 ds.reverse (by rw [u1]; simp) rl'.reverse u2 rfl rfl).next hw
theorem ixOf_fit {j : Int} {n k : Nat} (hn : n ≤ 1000000) (h : ixOf j n = some k) : Builtin.List.listFitsIndex j = true ∧ seqIndex? j n = some k ∧ k < n := by
  have hr := ixOf_range h
  exact ⟨by simp [Builtin.List.listFitsIndex]; omega, seqIndex_ixOf h, hr.2.2⟩
/-- the place of a list that an index names -/
def plw (i : V) (ds : List V) (P : Nat → Prop) : Prop := int1 i fun j => ds.length ≤ 1000000 ∧ ∃ k, ixOf j ds.length = some k ∧ P k
theorem set_go {a : Addr} {vs : List Value} {k m : Nat} {j : Int} {t : Tok} {u : Value} {ds : List V} {d : V} {n : Nat} (hg : s.heap.get? a = some (lstObj vs k)) (rl : RepL F vs ds) (hz : ds.length ≤ 1000000) (hm : ixOf j ds.length = some m) (ru : Rep F u d)
    (up : ∀ s' vs' k' ds', s'.heap.get? a = some (lstObj vs' k') → RepL F vs' ds' → (∀ b o, b ≠ a → s.heap.get? b = some o → s'.heap.get? b = some o) → s'.gens = s.gens → s'.os = s.os → Rl C vn kd env own s₀ F₀ X (put σ n (.own ds')) s' F) {Q : Unit → Shared → Prop} {E : Value → Shared → Prop}
    (q : ∀ s', Rl C vn kd env own s₀ F₀ X (put σ n (.own (ds.set m d))) s' F → Q () s') : wpAny (model C.prog C.w) A (setItem (.ref a) (.int j t) u) Q E s := by
  obtain ⟨g1, g2, g3⟩ := ixOf_fit hz hm
  refine setItem_at hg g1 (by rw [rl.length]; exact g2) (by rw [rl.length]; exact g3) ?_
  obtain ⟨k3, u1, u2⟩ := updSeq (f := fun xs => xs.setIfInBounds m u) hg
  exact q _ (up { s with heap := s.heap.update a (Obj.mapSeq fun xs => xs.setIfInBounds m u) } (vs.set m u) k3 (ds.set m d) (by rw [u1]; simp) (rl.set ru m) u2 rfl rfl)
def x_setI (n : Nat) (i e : Wp) : Xp := fun σ K => ownw σ n fun ds => e false (ρa σ) fun d => i false (ρa σ) fun iv => d.flat = true ∧ plw iv ds fun k => K .next (put σ n (.own (ds.set k d)))
theorem s_setI (O : Ok C vn) (n : Nat) {p p1 q : Pos} {iy v : Expr} {i e : Wp} (hi : SX C vn r kd iy i) (he : SX C vn r kd v e) (hc : isComp v = false) : SS C vn r kd (.Assign [.Subscript (.Name (vn.vn n) p) iy p1] v q) (x_setI n i e) := .mk fun {A s F X σ K env own s₀ F₀} Rm R hw => by
  obtain ⟨ds, hl, hw⟩ := ownw_inv hw
  obtain ⟨a, rd, _, mu⟩ := R.mutate hl
  obtain ⟨G, up, f, eo⟩ := R.envA
  have ev : Ev C vn r kd A s G env (ρa σ) := ⟨Rm, R.B.inv, f, eo⟩
  refine wpAny_Assign_Subscript ((he.e ev hw).after fun u s1 F1 I1 k1 fx1 ⟨d, ru, hd⟩ => ?_) (swapsWith_no hc)
  refine wpAny_Name (wp_loadRd R.fs.ap.kind (rd.kp R.B.inv k1) ?_) (by simpa using O.dbg n)
  refine (hi.e (ev.go I1 k1 fx1) hd).after fun w s2 F2 I2 k2 fx2 ⟨d2, rw', hf, hd2⟩ => ?_
  have fx12 := fx1.trans fx2 k1
  obtain ⟨vs, k, hg, rl, upd⟩ := mu s2 F I2 (k1.trans k2) (Fx.refl ⟨fun a o e => fx12.ok.at' a o (fx12.le a o (up a o e)), R.B.f.k⟩)
  obtain ⟨j, rfl, hz, m, hm, hK⟩ := int1_inv hd2
  obtain ⟨t, rfl⟩ := rw'.int_inv
  exact set_go hg rl hz hm (ru.of_flat hf) upd fun s' R' => R'.next hK
def x_augI (n : Nat) (i : Wp) (op : Operator) (e : Wp) : Xp := fun σ K => ownw σ n fun ds => i false (ρa σ) fun iv => plw iv ds fun k => ∃ old, ds[k]? = some old ∧ old.flat = true ∧ e false (ρa σ) fun d => d.flat = true ∧ augw op old d fun z => K .next (put σ n (.own (ds.set k z)))
theorem s_augI (O : Ok C vn) (n : Nat) {op : Operator} {p p1 q : Pos} {iy v : Expr} {i e : Wp} (hi : SX C vn r kd iy i) (he : SX C vn r kd v e) (hsl : (match iy with | .Slice .. => false | _ => true) = true) : SS C vn r kd (.AugAssign (.Subscript (.Name (vn.vn n) p) iy p1) op v q) (x_augI n i op e) := .mk fun {A s F X σ K env own s₀ F₀} Rm R hw => by
  obtain ⟨ds, hl, hw⟩ := ownw_inv hw
  obtain ⟨a, rd, _, mu⟩ := R.mutate hl
  obtain ⟨G, up, f, eo⟩ := R.envA
  have ev : Ev C vn r kd A s G env (ρa σ) := ⟨Rm, R.B.inv, f, eo⟩
  have bF : ∀ {s' G'}, Fx C G G' s s' → FzOk C F s'.heap := fun fx => ⟨fun a o e => fx.ok.at' a o (fx.le a o (up a o e)), R.B.f.k⟩
  refine wpAny_AugAssign_SubscriptAny (wpAny_Name (wp_loadRd R.fs.ap.kind rd ?_) (by simpa using O.dbg n)) (by intro _ _ _; cases iy <;> first | rfl | cases hsl)
  refine (hi.e ev hw).after fun w s1 F1 I1 k1 fx1 ⟨d1, rw', hd1⟩ => ?_
  obtain ⟨j, rfl, hz, m, hm, old, hold, hof, hw2⟩ := int1_inv hd1
  obtain ⟨t, rfl⟩ := rw'.int_inv
  obtain ⟨vs, k, hg, rl, _⟩ := mu s1 F I1 k1 (Fx.refl (bF fx1))
  obtain ⟨g1, g2, g3⟩ := ixOf_fit hz hm
  have fa : FzOk C (Fz.add F a (lstObj vs k)) s1.heap := ⟨fun b o e => e.elim (fun e => (bF fx1).at' b o e) fun ⟨q, w⟩ => by
    subst q; subst w
    refine ⟨hg, fun q => ?_⟩
    subst q
    obtain ⟨ps, _, hp, _⟩ := I1.tab
    exact (nomatch hg.symm.trans hp), fun b o e => .inl (R.B.f.k b o e)⟩
  refine (itemw_sound (Q := fun d => d = old) I1 fa (Rep.list (.inr ⟨rfl, rfl⟩) (rl.mono fun _ _ e => .inl e)) (.int j t) ⟨hz, m, old, hm, hold, rfl⟩).after fun ov s2 F2 I2 k2 fx2 ⟨d2, ro, e2⟩ => ?_
  subst e2
  have ro := ro.of_flat (F' := F) hof
  have fx12 : Fx C G F1 s s2 := ⟨fx1.le, fx1.new, fx1.ok.kp k2⟩
  refine (he.e (ev.go I2 (k1.trans k2) fx12) hw2).after fun u s3 F3 I3 k3 fx3 ⟨d3, ru, hd3⟩ => ?_
  have f3 := bF (fx12.trans fx3 (k1.trans k2))
  refine (aug_sound I3 f3 ro (ru.of_flat hd3.1) hd3.2).after fun z s4 F4 I4 k4 fx4 ⟨d4, rz, hzf, hK⟩ => ?_
  obtain ⟨vs', k', hg', rl', upd⟩ := mu s4 F I4 (((k1.trans k2).trans k3).trans k4) (Fx.refl ⟨fun b o e => fx4.ok.at' b o (fx4.le b o e), R.B.f.k⟩)
  exact set_go hg' rl' hz hm (rz.of_flat hzf) upd fun s' R' => R'.next hK
def x_delI (n : Nat) (i : Wp) : Xp := fun σ K => ownw σ n fun ds => i false (ρa σ) fun iv => plw iv ds fun k => K .next (put σ n (.own (ds.eraseIdx k)))
theorem s_delI (O : Ok C vn) (n : Nat) {p p1 q : Pos} {iy : Expr} {i : Wp} (hi : SX C vn r kd iy i) : SS C vn r kd (.Delete [.Subscript (.Name (vn.vn n) p) iy p1] q) (x_delI n i) := .mk fun {A s F X σ K env own s₀ F₀} Rm R hw => by
  obtain ⟨ds, hl, hw⟩ := ownw_inv hw
  obtain ⟨a, rd, _, mu⟩ := R.mutate hl
  obtain ⟨G, up, f, eo⟩ := R.envA
  refine wpAny_Delete ?_
  show wpAny _ A (do delete (.Subscript (.Name (vn.vn n) p) iy p1) env; deleteEach [] env) _ _ s
  refine wpAny_bind (wpAny_delete_Subscript (wpAny_Name (wp_loadRd R.fs.ap.kind rd ?_) (by simpa using O.dbg n)))
  refine (hi.e ⟨Rm, R.B.inv, f, eo⟩ hw).after fun w s1 F1 I1 k1 fx1 ⟨d1, rw', hd1⟩ => ?_
  obtain ⟨j, rfl, hz, m, hm, hK⟩ := int1_inv hd1
  obtain ⟨t, rfl⟩ := rw'.int_inv
  obtain ⟨g1, g2, g3⟩ := ixOf_fit hz hm
  obtain ⟨vs, k, hg, rl, upd⟩ := mu s1 F I1 k1 (Fx.refl ⟨fun a o e => fx1.ok.at' a o (fx1.le a o (up a o e)), R.B.f.k⟩)
  have hlen := rl.length
  refine PySem.P.delItem_list hg g1 (by rw [List.size_toArray, hlen]; exact g2) ?_ (by rw [List.size_toArray, hlen]; exact sizeLine_big hz)
  obtain ⟨k3, u1, u2⟩ := updSeq (f := fun xs => xs.eraseIdxIfInBounds m) hg
  refine wpAny_deleteEach_nil ?_
  exact (upd { s1 with heap := s1.heap.update a (Obj.mapSeq fun xs => xs.eraseIdxIfInBounds m) } (vs.eraseIdx m) k3 (ds.eraseIdx m) (by rw [u1]; congr 1; unfold lstObj; congr 1; simp [Array.eraseIdxIfInBounds, hlen, g3]) (rl.eraseIdx m) u2 rfl rfl).next hK
def x_alias (y n : Nat) : Xp := fun σ K => ownw σ n fun _ => K .next (put σ y (.app n))
theorem s_alias (O : Ok C vn) (y n : Nat) {p p1 p2 q : Pos} (hy : isVar kd y = true) : SS C vn r kd (.Assign [.Name (vn.vn y) p] (.Attribute (.Name (vn.vn n) p1) "append" p2) q) (x_alias y n) := .mk fun {A s F X σ K env own s₀ F₀} Rm R hw => by
  obtain ⟨ds, hl, hw⟩ := ownw_inv hw
  obtain ⟨a, rd, ⟨vs, k, hg⟩, st⟩ := R.alias hl
  refine wpAny_Assign_Name ?_ (swapsWith_no rfl)
  show wpAny _ A (do
    let o ← eval (.Name (vn.vn n) p1) env
    standAt p2.atName
    let r ← holding [o] (getAttr o "append" true)
    letTemporaryGo (.Name (vn.vn n) p1) o r
    pure r) _ _ s
  refine wpAny_bind (wpAny_Name (wp_loadRd R.fs.ap.kind rd ?_) (by simpa using O.dbg n))
  refine wpAny_bind (wpAny_standAt (wpAny_bind (wpAny_holding (get_append hg fun tk => ?_))))
  refine wpAny_bind (wpAny_letTemporaryGo (wpAny_pure ?_))
  exact st hy fun s' F' R' le => (R'.next hw).le le
def x_add (y : Nat) (a : Wp) : Xp := fun σ K => appw σ y fun n => ownw σ n fun ds => ds.length ≤ 1000000 ∧ a false (ρb σ) fun d => K .next (put σ n (.own (ds ++ [d])))
theorem s_add (O : Ok C vn) (y : Nat) {p p1 q : Pos} {z : Expr} {a : Wp} (h : SX C vn r kd z a) : SS C vn r kd (.Expr (.Call (.Name (vn.vn y) p) [z] [] p1) q) (x_add y a) := .mk fun {A s F X σ K env own s₀ F₀} Rm R hw => by
  obtain ⟨n, hy, hw⟩ := appw_inv hw
  obtain ⟨ds, hl, hz, hw⟩ := ownw_inv hw
  obtain ⟨a, u, rd, hu, mu⟩ := R.mutApp hy hl
  have hs : backTo p1 (starEach [z] env) = [(false, eval z env)] := (SA.one h).args
  refine wpAny_Expr_any (wpAny_Call_NameR (wpAny_Name (wp_loadRd R.fs.ap.kind rd ?_) (by simpa using O.dbg y))) (by unfold interactive; rw [R.fs.ap.kind]; rfl) (by rfl)
  rw [hs]
  refine callWith_app (a := a) rfl (Calls.evalArgs_plain (Calls.spliced_cons ((h.e (R.ev Rm) hw).after fun v s' F' I' k' fx ⟨d, rv, hq⟩ => Calls.spliced_nil ?_)))
  obtain ⟨vs', k2, hu', hg', rl', up⟩ := mu s' F' I' k' fx
  refine ⟨hu', call_app hu' hg' (by rw [rl'.length]; exact sizeLine_big hz) ?_⟩
  obtain ⟨k3, u1, u2⟩ := updSeq (f := fun xs => xs.push v) hg'
  exact ((up { s' with heap := s'.heap.update a (Obj.mapSeq fun xs => xs.push v) } (vs' ++ [v]) k3 (ds ++ [d]) (by rw [u1]; simp) (rl'.append (.cons rv .nil)) u2 rfl rfl).next hq).le fx.le

/-- a comprehension's list is one's own -/
theorem Rl.other (R : Rl C vn kd env own s₀ F₀ X σ s F) {L : Addr} {m : Str → Option Value} (h0 : s₀.heap.get? L = none) (hp : ¬ Priv env own L) (hF : ∀ o, ¬ F L o) (hX : ∀ o, ¬ X L o) (hn : s.heap.Ns L m)
    (hk : ∀ b o, b ≠ L → s.heap.get? b = some o → s'.heap.get? b = some o) (hg : s'.gens = s.gens) (ho : s'.os = s.os) : Rl C vn kd env own s₀ F₀ X σ s' F := by
  obtain ⟨vr, ad, h⟩ := R.ex
  refine ⟨R.fs, R.B.upd (S := fun a => a = L) (by rintro a rfl; exact h0) (by rintro a o rfl; exact hF o) hk hg ho trivial, R.pf, R.nd, fun b o e => ⟨hk b o (by rintro rfl; exact hX o e) (R.x b o e).1, (R.x b o e).2⟩, vr, ad, h.fr.at fun b o hb e => hk b o (by rintro rfl; exact hp hb) e,
    fun n lv e => ⟨(h.ok n lv e).1, (h.ok n lv e).2.kp (fun _ _ e => e) (fun b u o w => hk _ o ?_ w) (fun _ _ => rfl) fun _ _ => rfl⟩, h.mu, h.dj⟩
  obtain ⟨vs, k, q⟩ := (h.ok n lv e).2.get u
  rintro rfl
  obtain ⟨o', es, ep, q', hd, _⟩ := hn
  cases q.symm.trans q'
  cases hd
def x_asgC (n : Nat) (xs fr : List Nat) (src : Ρ → (List V → Prop) → Prop) (cond : Option Wp) (elt : Wp) : Xp := fun σ K => noApp σ n = true ∧ w_comp xs fr src cond elt (ρb σ) fun d => lst1 d fun ds => K .next (put σ n (.own ds))
theorem s_asgC (O : Ok C vn) (n : Nat) (xs fr : List Nat) {rg : Bool} (kd' : Kd) {src : Ρ → (List V → Prop) → Prop} {cond : Option Wp} {elt : Wp} {ex tg iter : Expr} {ifs : List Expr} {scope : Scope} {p q q' : Pos}
    (hI : SSrc C vn r kd rg iter src) (hT : Tg vn kd' xs tg) (ck : compOk vn kd kd' scope fr = true) (hC : STst C vn r kd' ifs cond) (hE : SX C vn r kd' ex elt) (hl : kd.lookup n = some .local) (hp : (p.line == q.line) = true)
    (hn : (scope.names.any fun (m, k) => m == vn.vn n && (k == .local || k == .cell)) = false) :
    SS C vn r kd (.Assign [.Name (vn.vn n) p] (.ListComp ex [⟨tg, iter, ifs, 0⟩] scope q) q') (x_asgC n xs fr src cond elt) := .mk fun {A s F X σ K env own s₀ F₀} Rm R hw => by
  obtain ⟨hna, hw⟩ := hw
  have hv : isVar kd n = true := by unfold isVar; rw [hl]
  have hsw := swapsWith_local (a := ex) (b := [⟨tg, iter, ifs, 0⟩]) (c := scope) (d := q) (p := p) (n := q'.line) R.fs.ap.kind (R.fs.loc hl) hp hn
  rw [exec_Assign_Name_used _ _ _ _ hsw]
  refine wpAny_bind (wpAny_standAt (wpAny_bind ?_))
  show wpAny _ A (do
    let _ ← comprehension (.ListComp ex [⟨tg, iter, ifs, 0⟩] scope q) scope env (firstIterPos [⟨tg, iter, ifs, 0⟩] q) (newList []) false (eval iter env) (some (PySem.assign (.Name (vn.vn n) p) env))) _ _ s
  refine wpAny_bind (wpAny_mono (comp_sound (P := fun _ s' => XPost C vn kd env own s₀ F₀ X F K .next s') O (R.ev Rm) hI hT (.of ck) hC hE hw (use := some (PySem.assign (.Name (vn.vn n) p) env)) ?_) (fun _ s' h => wpAny_pure (wpAny_pure h)) fun _ _ e => e)
  intro D L s5 F5 vs k m ds B5 hD hL hDL e5 nD nL hnL rl hq
  have R5 := R.kp B5.inv B5.kp B5.fx
  show wpAny _ A (PySem.assign (.Name (vn.vn n) p) env (.ref D)) _ _ s5
  obtain ⟨vr, ad, hV⟩ := R.ex
  obtain ⟨mL, _⟩ := R.fresh hV hL
  refine wpAny_assign_Name (R.storeOwn B5.inv B5.kp B5.fx hv hD nD e5 rl hna fun s6 R6 kp6 => ?_)
  have hn6 := hnL.at' fun o e => kp6 L o mL.np e
  exact ⟨m, hn6, fun h' hs' => ((R6.other (s' := { s6 with heap := h' }) mL.new mL.np nL mL.nx hn6 (fun b o hb e => hs'.extBut b o hb e) rfl rfl).next hq).le B5.fx.le⟩
end

/-! # Two at once -/
section
variable {C : Cx} {A : Around} {s s₀ s₁ s₂ s' : Shared} {F F₀ F₁ F' X : Fz} {r : Nat} {env : Env} {own : List Str} {vn : Nm} {kd kd' : Kd} {σ : St} {K : Kt}

theorem plx_st {e : Expr} (h : plx e = true) : PySem.swappedStores.match_5 (fun _ => Bool) e (fun _ _ => true) (fun _ => false) = false := by cases e <;> first | rfl | cases h
theorem swapped_eq {i j : Str} {p q p' : Pos} {k k' : Nat} {q' : Pos} {u v : Expr} (hf : env.scope.kind = .function) (hu : plx u = true) (hv : plx v = true) :
    swappedStores [.Tuple [.Name i p, .Name j q] k p'] (.Tuple [u, v] k' q') env = (do
      let names := [Expr.Name i p, .Name j q].filterMap fun x => PySem.swappedStores.match_8 (fun _ => Option Str) x (fun id pos => if (env.kindOf id == some .local && pos.line == p.line) = true then some id else none) fun _ => none
      if (names.length != 2 || names.eraseDups.length != names.length) = true then return none
      if ([u, v].all (foldedForSure 8)) = true then return none
      if ([u, v].all (constantsAlone 8)) = true then unsupported "assign.tuple-of-constant-expressions:order-of-the-stores"
      return some names) := by
  unfold swappedStores
  dsimp only
  rw [blockKind_fn hf, List.any_cons, List.any_cons, plx_st hu, plx_st hv]
  rfl
theorem swapped_two {i j : Str} {p q p' : Pos} {k k' : Nat} {q' : Pos} {u v : Expr} (hf : env.scope.kind = .function) (hi : env.kindOf i = some .local) (hj : env.kindOf j = some .local) (hl : (p.line == q.line) = true) (hne : i ≠ j)
    (hu : plx u = true) (hv : plx v = true) (h1 : [u, v].all (foldedForSure 8) = false) (h2 : [u, v].all (constantsAlone 8) = false) :
    swappedStores [.Tuple [.Name i p, .Name j q] k p'] (.Tuple [u, v] k' q') env = pure (some [i, j]) := by
  have hlq : q.line = p.line := (beq_iff_eq.mp hl).symm
  rw [swapped_eq hf hu hv, h1, h2]
  have e : ([Expr.Name i p, .Name j q].filterMap fun x => PySem.swappedStores.match_8 (fun _ => Option Str) x (fun id pos => if (env.kindOf id == some .local && pos.line == p.line) = true then some id else none) fun _ => none) = [i, j] := by
    simp [hi, hj, hlq]
  rw [e]
  have hne' : (j == i) = false := by simpa using Ne.symm hne
  have e2 : [i, j].eraseDups = [i, j] := by rw [List.eraseDups_cons, List.filter_cons, hne']; simp [List.eraseDups_cons]
  dsimp only
  rw [e2]; rfl
theorem swapped_fold {i j : Str} {p q p' : Pos} {k k' : Nat} {q' : Pos} {u v : Expr} (hf : env.scope.kind = .function) (hu : plx u = true) (hv : plx v = true) (h : [u, v].all (foldedForSure 8) = true) :
    swappedStores [.Tuple [.Name i p, .Name j q] k p'] (.Tuple [u, v] k' q') env = pure none := by
  rw [swapped_eq hf hu hv, h]
  dsimp only
  split
  · rfl
  · rfl
theorem short2 {α β : Type} (f : α → Option β) (a b : α) (h : f a = none ∨ f b = none) : ([a, b].filterMap f).length < 2 := by
  rcases h with h | h
  · rw [List.filterMap_cons, h]
    cases e : f b <;> simp [List.filterMap_cons, e]
  · cases e : f a <;> simp [List.filterMap_cons, e, h]
theorem swapped_cell {i j : Str} {p q p' : Pos} {k k' : Nat} {q' : Pos} {u v : Expr} (hf : env.scope.kind = .function) (hu : plx u = true) (hv : plx v = true) (hi : env.kindOf i = some .cell ∨ env.kindOf j = some .cell) :
    swappedStores [.Tuple [.Name i p, .Name j q] k p'] (.Tuple [u, v] k' q') env = pure none := by
  rw [swapped_eq hf hu hv]
  have h0 : ∀ {x : Str} {l : Bool}, env.kindOf x = some .cell → (env.kindOf x == some .local && l) = false := fun h => by rw [h]; rfl
  have e := short2 (fun x => PySem.swappedStores.match_8 (fun _ => Option Str) x (fun id pos => if (env.kindOf id == some .local && pos.line == p.line) = true then some id else none) fun _ => none) (.Name i p) (.Name j q) (hi.imp (fun h => by dsimp only; rw [h0 h]; rfl) fun h => by dsimp only; rw [h0 h]; rfl)
  dsimp only at e ⊢
  generalize List.filterMap _ [Expr.Name i p, .Name j q] = l at e ⊢
  rw [if_pos]
  have : (l.length != 2) = true := bne_iff_ne.mpr (Nat.ne_of_lt e)
  rw [this]; rfl
def tup2 (d : V) (P : V → V → Prop) : Prop := ∃ d1 d2, d = .tuple [d1, d2] ∧ P d1 d2
/-- two values in a tuple -/
theorem two_ev {k' : Nat} {q' : Pos} {u v : Expr} {a b : Wp} {Qq : V → V → Prop} (R : Rl C vn kd env own s₀ F₀ X σ s F) (Rm : Room r A) (ha : SX C vn r kd u a) (hb : SX C vn r kd v b) (hw : w_tup [a, b] (ρb σ) fun d => tup2 d Qq) {P : Value → Shared → Prop}
    (kk : ∀ t s' F' v1 v2 d1 d2, Rl C vn kd env own s₀ F₀ X σ s' F' → (∀ a o, F a o → F' a o) → s'.heap.IsTuple t #[v1, v2] → Rep F' (.ref t) (.tuple [d1, d2]) → Rep F' v1 d1 → Rep F' v2 d2 → Qq d1 d2 → P (.ref t) s') : wpAny (model C.prog C.w) A (eval (.Tuple [u, v] k' q') env) P (fun _ _ => False) s := by
  refine R.evB Rm (s_tup (.cons ha (.cons hb .nil)) rfl) hw fun v s' F' d R' le rv hq => ?_
  obtain ⟨d1, d2, rfl, hq⟩ := hq
  obtain ⟨t, vs, n, rfl, ht, lt⟩ := rv.tuple_inv
  obtain ⟨v1, v2, rfl, r1, r2⟩ := lt.two
  exact kk t s' F' v1 v2 d1 d2 R' le ⟨_, (R'.B.f.at' _ _ ht).1, rfl, _, rfl⟩ rv r1 r2 hq
/-- the last first -/
def x_two (x y : Nat) (a b : Wp) : Xp := fun σ K => w_tup [a, b] (ρb σ) fun d => tup2 d fun u v => K .next (put (put σ y (.val v)) x (.val u))
theorem s_two (x y : Nat) {p q p' q' q'' : Pos} {k k' : Nat} {u v : Expr} {a b : Wp} (ha : SX C vn r kd u a) (hb : SX C vn r kd v b) (hx : kd.lookup x = some .local) (hy : kd.lookup y = some .local) (hl : (p.line == q.line) = true) (hne : vn.vn x ≠ vn.vn y)
    (h1 : [u, v].all (foldedForSure 8) = false) (h2 : [u, v].all (constantsAlone 8) = false) : SS C vn r kd (.Assign [.Tuple [.Name (vn.vn x) p, .Name (vn.vn y) q] k p'] (.Tuple [u, v] k' q') q'') (x_two x y a b) := .mk fun {A s F X σ K env own s₀ F₀} Rm R hw => by
  have hsn := swapped_two (p := p) (q := q) (p' := p') (k := k) (k' := k') (q' := q') R.fs.ap.kind (R.fs.loc hx) (R.fs.loc hy) hl hne ha.p hb.p h1 h2
  rw [exec_Assign_arm]
  refine wpAny_bind (wpAny_standAt ?_)
  show wpAny _ A (do
    let vv ← eval (.Tuple [u, v] k' q') env
    assignStores env vv (← swappedStores [.Tuple [.Name (vn.vn x) p, .Name (vn.vn y) q] k p'] (.Tuple [u, v] k' q') env) ((assignEach [.Tuple [.Name (vn.vn x) p, .Name (vn.vn y) q] k p'] env).map (·.2))) _ _ s
  refine wpAny_bind (two_ev R Rm ha hb hw fun t s' F' v1 v2 d1 d2 R' le it rt r1 r2 hq => ?_)
  rw [hsn]
  refine wpAny_bind (wpAny_pure ?_)
  show wpAny _ A (do
    rule "assign.swapped-stores"
    let items ← unpackItems (.ref t) (#[v1, v2] : Array Value).size none
    assignInOrder ([vn.vn y, vn.vn x].map fun n => bindName env n) items.reverse
    pure Flow.next) _ _ s'
  refine wpAny_bind (wpAny_rule (wpAny_bind (wpAny_unpackItems_tuple Rm.handled it fun h1 hx1 => ?_)))
  have R1 := R'.ext (k := s'.toks) (h' := h1) fun b o e => hx1 b o (by rintro rfl; rw [get_size] at e; cases e) e
  show wpAny _ A (do assignInOrder [bindName env (vn.vn y), bindName env (vn.vn x)] [v2, v1]; pure Flow.next) _ _ _
  refine wpAny_bind ?_
  show wpAny _ A (do holding _ (bindName env (vn.vn y) v2); assignInOrder [bindName env (vn.vn x)] [v1]) _ _ _
  refine wpAny_bind (wpAny_holding (wpAny_bindName (R1.store (by unfold isVar; rw [hy]) r2 fun s2 R2 => ?_)))
  show wpAny _ A (do holding _ (bindName env (vn.vn x) v1); assignInOrder [] []) _ _ _
  exact wpAny_bind (wpAny_holding (wpAny_bindName (R2.store (by unfold isVar; rw [hx]) r1 fun s3 R3 => wpAny_pure (wpAny_pure ((R3.next hq).le le)))))
/-- the first first -/
def x_two' (x y : Nat) (a b : Wp) : Xp := fun σ K => w_tup [a, b] (ρb σ) fun d => tup2 d fun u v => K .next (put (put σ x (.val u)) y (.val v))
theorem two_go (x y : Nat) {p q p' q' q'' : Pos} {k k' : Nat} {u v : Expr} {a b : Wp} (ha : SX C vn r kd u a) (hb : SX C vn r kd v b) (hT : Tg vn kd [x, y] (.Tuple [.Name (vn.vn x) p, .Name (vn.vn y) q] k p')) (Rm : Room r A) (R : Rl C vn kd env own s₀ F₀ X σ s F) (hw : x_two' x y a b σ K)
    (hs : swappedStores [.Tuple [.Name (vn.vn x) p, .Name (vn.vn y) q] k p'] (.Tuple [u, v] k' q') env = pure none) : wpAny (model C.prog C.w) A (exec (.Assign [.Tuple [.Name (vn.vn x) p, .Name (vn.vn y) q] k p'] (.Tuple [u, v] k' q') q'') env) (XPost C vn kd env own s₀ F₀ X F K) (fun _ _ => False) s := by
  refine wpAny_Assign_stores (two_ev R Rm ha hb hw fun t s' F' v1 v2 d1 d2 R' le it rt r1 r2 hq => ?_) rfl hs
  show wpAny _ A (PySem.assign (.Tuple [.Name (vn.vn x) p, .Name (vn.vn y) q] k p') env (.ref t)) _ _ s'
  exact R'.assign (xs := [x, y]) (β := [(x, d1), (y, d2)]) Rm.handled hT rt rfl fun s'' R'' => (R''.next hq).le le
theorem s_twoF (x y : Nat) {p q p' q' q'' : Pos} {k k' : Nat} {u v : Expr} {a b : Wp} (ha : SX C vn r kd u a) (hb : SX C vn r kd v b) (hT : Tg vn kd [x, y] (.Tuple [.Name (vn.vn x) p, .Name (vn.vn y) q] k p')) (h : [u, v].all (foldedForSure 8) = true) :
    SS C vn r kd (.Assign [.Tuple [.Name (vn.vn x) p, .Name (vn.vn y) q] k p'] (.Tuple [u, v] k' q') q'') (x_two' x y a b) := .mk fun Rm R hw => two_go x y ha hb hT Rm R hw (swapped_fold R.fs.ap.kind ha.p hb.p h)
theorem s_twoC (x y : Nat) {p q p' q' q'' : Pos} {k k' : Nat} {u v : Expr} {a b : Wp} (ha : SX C vn r kd u a) (hb : SX C vn r kd v b) (hT : Tg vn kd [x, y] (.Tuple [.Name (vn.vn x) p, .Name (vn.vn y) q] k p')) (h : kd.lookup x = some .cell ∨ kd.lookup y = some .cell) :
    SS C vn r kd (.Assign [.Tuple [.Name (vn.vn x) p, .Name (vn.vn y) q] k p'] (.Tuple [u, v] k' q') q'') (x_two' x y a b) := .mk fun Rm R hw => two_go x y ha hb hT Rm R hw (swapped_cell R.fs.ap.kind ha.p hb.p (h.imp R.fs.cell R.fs.cell))
end

/-! # Loops -/
/-- over the objects of a loop, as they stand in h -/
def Yat (X : Fz) (as : List Addr) (h : Heap) : Fz := fun b o => X b o ∨ (b ∈ as ∧ h.get? b = some o)
section
variable {C : Cx} {A : Around} {s s₀ s₁ s₂ s' : Shared} {F F₀ F₁ F' X : Fz} {r : Nat} {env : Env} {own : List Str} {vn : Nm} {kd kd' : Kd} {σ : St} {K : Kt}

theorem Rl.xmono {X' : Fz} (R : Rl C vn kd env own s₀ F₀ X' σ s F) (h : ∀ b o, X b o → X' b o) : Rl C vn kd env own s₀ F₀ X σ s F :=
  ⟨R.fs, R.B, R.pf, R.nd, fun b o e => R.x b o (h b o e), let ⟨vr, ad, V⟩ := R.ex; ⟨vr, ad, V.fr, V.ok, fun n b u => let m := V.mu n b u; ⟨m.new, m.np, m.nf, fun o e => m.nx o (h _ o e)⟩, V.dj⟩⟩
/-- the iterator of a loop steps on -/
theorem Rl.tick {as : List Addr} {hh : Heap} (R : Rl C vn kd env own s₀ F₀ (Yat X as hh) σ s F) (hw : ∀ a ∈ as, s₀.heap.get? a = none ∧ (∀ o, ¬ X a o) ∧ ∃ o, hh.get? a = some o) (hk : ∀ b o, b ∉ as → s.heap.get? b = some o → s'.heap.get? b = some o)
    (hg : s'.gens = s.gens) (ho : s'.os = s.os) : Rl C vn kd env own s₀ F₀ (Yat X as s'.heap) σ s' F := by
  obtain ⟨vr, ad, V⟩ := R.ex
  have hy : ∀ a ∈ as, a ≠ C.P ∧ ¬ Priv env own a ∧ ∀ o, ¬ F a o := fun a ha => let ⟨_, _, o, e⟩ := hw a ha; (R.x a o (.inr ⟨ha, e⟩)).2
  have hm : ∀ n b, Used σ n b → ad n b ∉ as := fun n b u ha => let ⟨_, _, o, e⟩ := hw _ ha; (V.mu n b u).nx o (.inr ⟨ha, e⟩)
  refine ⟨R.fs, R.B.upd (S := fun a => a ∈ as) (fun a ha => (hw a ha).1) (fun a o ha => (hy a ha).2.2 o) hk hg ho trivial, R.pf, R.nd, fun b p e => ?_, vr, ad, V.fr.at fun b o hb e => hk b o (fun ha => (hy b ha).2.1 hb) e,
    fun n lv e => ⟨(V.ok n lv e).1, (V.ok n lv e).2.kp (fun _ _ e => e) (fun b u p w => hk _ p (hm n b ⟨lv, e, u⟩) w) (fun _ _ => rfl) fun _ _ => rfl⟩, fun n b u => ?_, V.dj⟩
  · rcases e with e | ⟨ha, e⟩
    · obtain ⟨g1, g2⟩ := R.x b p (.inl e)
      exact ⟨hk b p (fun ha => (hw b ha).2.1 p e) g1, g2⟩
    · exact ⟨e, hy b ha⟩
  · have m := V.mu n b u
    exact ⟨m.new, m.np, m.nf, fun p e => e.elim (fun e => m.nx p (.inl e)) fun e => hm n b u e.1⟩
/-- the iterator of a loop is taken in -/
theorem Rl.take {as : List Addr} (R : Rl C vn kd env own s₀ F₀ X σ s₁ F') (I : Inv C s) (k : Kp C s₁ s) (fx : Fx C F' F s₁ s) (hI : ∀ a ∈ as, s₁.heap.get? a = none ∧ ∀ o, ¬ F a o) : Rl C vn kd env own s₀ F₀ (Yat X as s.heap) σ s F := by
  have R1 := R.kp I k fx
  obtain ⟨vr, ad, V⟩ := R.ex
  have fr := fun a ha => (R.fresh V (hI a ha).1)
  have V1 := R.kpX k fx V
  refine ⟨R1.fs, R1.B, R1.pf, R1.nd, fun b p e => ?_, vr, ad, V1.fr, V1.ok, fun n b u => ?_, V1.dj⟩
  · rcases e with e | ⟨ha, e⟩
    · exact R1.x b p e
    · exact ⟨e, R.B.inv.freshNe (hI b ha).1, (fr b ha).1.np, (hI b ha).2⟩
  · have m := V1.mu n b u
    exact ⟨m.new, m.np, m.nf, fun p e => e.elim (m.nx p) fun e => (fr _ e.1).2 n b u rfl⟩
/-- a body's flow, seen by its loop -/
def lpK (P : St → Prop) (K : Kt) : Kt := fun f σ => match f with | .next => P σ | .brk => K .next σ | .ret v => K (.ret v) σ
def x_while (t : Wp) (b : Xp) : Xp := fun σ K => ∃ I : Nat → St → Prop, (∃ n, I n σ) ∧ ∀ n σ, I n σ → t true (ρa σ) fun d => bw d fun c => (c = true → b σ (lpK (fun σ' => ∃ m, m < n ∧ I m σ') K)) ∧ (c = false → K .next σ)
theorem s_while {x : Expr} {y : List Stmt} {p : Pos} {t : Wp} {b : Xp} (ht : SX C vn r kd x t) (hb : SL C vn r kd y b) : SS C vn r kd (.While x y [] p) (x_while t b) := .mk fun {A s F X σ K env own s₀ F₀} Rm R hw => by
  obtain ⟨I, ⟨n, hn⟩, step⟩ := hw
  refine wpAny_While (codeAny_whileLoop (fun k s' => ∃ F' σ', Rl C vn kd env own s₀ F₀ X σ' s' F' ∧ (∀ a o, F a o → F' a o) ∧ I k σ') ?_ n ⟨F, σ, R, fun _ _ e => e, hn⟩)
  rintro k s' ⟨F', σ', R', le, hI⟩
  refine wpAny_mono (R'.evT Rm ht (step k σ' hI) (P := fun b s₂ => Rl C vn kd env own s₀ F₀ X σ' s₂ F' ∧ _) fun b s₂ R₂ hk => ⟨R₂, hk⟩) (fun b' s₂ h => ?_) fun _ _ e => e.elim
  obtain ⟨R₂, hk⟩ := h
  cases b' with
  | false => exact wpAny_execs_nil ⟨F', σ', .next, R₂, le, trivial, hk.2 rfl⟩
  | true =>
    simp only [if_true]
    refine wpAny_mono (hb.go Rm R₂ (hk.1 rfl)) (fun fl s₃ h => ?_) fun _ _ e => e.elim
    obtain ⟨F₃, σ₃, f, R₃, le₃, ok, hq⟩ := h
    have le' : ∀ a o, F a o → F₃ a o := fun a o e => le₃ a o (le a o e)
    cases fl <;> cases f <;> first | exact ok.elim | skip
    · obtain ⟨m, hm, hi⟩ := hq
      exact ⟨m, hm, F₃, σ₃, R₃, le', hi⟩
    · exact ⟨F₃, σ₃, .next, R₃, le', trivial, hq⟩
    · exact ⟨F₃, σ₃, .ret _, R₃, le', ok, hq⟩

/-- where the loop's source leaves -/
theorem src_loop {rg : Bool} {iter : Expr} {src : Ρ → (List V → Prop) → Prop} {Q : List V → Prop} (R : Rl C vn kd env own s₀ F₀ X σ s F) (Rm : Room r A) (h : SSrc C vn r kd rg iter src) (hw : src (cond rg (ρa σ) (ρb σ)) Q) :
    wpAny (model C.prog C.w) A (eval iter env) (fun x s₁ => wpAny (model C.prog C.w) A (pyIter x) (fun itv s₂ => ∃ F₂ h0 I fp n P St ds, itv = .ref I ∧ (∀ a o, F a o → F₂ a o) ∧ s.heap.get? I = none ∧ ItOk C h0 F₂ s₂.heap I fp n P St ds ∧
      Rl C vn kd env own s₀ F₀ (Yat X [I] s₂.heap) σ s₂ F₂ ∧ Q ds) (fun _ _ => False) s₁) (fun _ _ => False) s := by
  cases rg with
  | false =>
    refine wpAny_mono (h.e (R.ev Rm) hw) (fun x s₁ h => wpAny_mono h (fun itv s₂ h => ?_) fun _ _ e => e) fun _ _ e => e
    obtain ⟨F₂, h0, I, fp, n, P, St, ds, rfl, B, hI, io, _, hq⟩ := h
    exact ⟨F₂, h0, I, fp, n, P, St, ds, rfl, B.fx.le, hI, io, R.take B.inv B.kp B.fx (fun a ha => by rw [List.mem_singleton.mp ha]; exact ⟨hI, io.nf⟩), hq⟩
  | true =>
    obtain ⟨G, up, f, eo⟩ := R.envA
    refine wpAny_mono (h.e ⟨Rm, R.B.inv, f, eo⟩ hw) (fun x s₁ h => wpAny_mono h (fun itv s₂ h => ?_) fun _ _ e => e) fun _ _ e => e
    obtain ⟨F₂, h0, I, fp, n, P, St, ds, rfl, B, hI, io, hfp, hq⟩ := h
    have hle : ∀ a o, F a o → F₂ a o := fun a o e => B.fx.le a o (up a o e)
    have nf : ∀ o, ¬ F I o := fun o e => io.nf o (hle _ _ e)
    refine ⟨F, h0, I, fp, n, P, St, ds, rfl, fun _ _ e => e, hI, ⟨io.W, io.st, io.sz, io.lo, nf, fun b hb => .inl (List.mem_singleton.mp ((hfp rfl).1 ▸ hb)), io.len, fun i v hp => ?_, io.quiet⟩,
      R.take B.inv B.kp (Fx.refl ⟨fun a o e => B.f.at' a o (hle a o e), R.B.f.k⟩) (fun a ha => by rw [List.mem_singleton.mp ha]; exact ⟨hI, nf⟩), hq⟩
    obtain ⟨d, hd, rv⟩ := io.val i v hp
    exact ⟨d, hd, rv.of_flat ((hfp rfl).2 d (List.mem_of_getElem? hd))⟩
def x_for (xs : List Nat) (rg : Bool) (src : Ρ → (List V → Prop) → Prop) (b o : Xp) : Xp := fun σ K => src (cond rg (ρa σ) (ρb σ)) fun ds => ∃ I : Nat → St → Prop, I 0 σ ∧
  (∀ i d σ, ds[i]? = some d → I i σ → obw (bindp xs d) fun β => b (putβ σ β) (lpK (I (i + 1)) K)) ∧ ∀ σ, I ds.length σ → o σ K
theorem s_for (xs : List Nat) {rg : Bool} {src : Ρ → (List V → Prop) → Prop} {b o : Xp} {tg iter : Expr} {y z : List Stmt} {p : Pos} (hI : SSrc C vn r kd rg iter src) (hT : Tg vn kd xs tg) (hb : SL C vn r kd y b) (ho : SL C vn r kd z o) :
    SS C vn r kd (.For tg iter y z p) (x_for xs rg src b o) := .mk fun {A s F X σ K env own s₀ F₀} Rm R hw => by
  refine wpAny_For (wpAny_mono (src_loop R Rm hI hw) (fun x s₁ h => wpAny_mono h (fun itv s₂ h => ?_) fun _ _ e => e.elim) fun _ _ e => e.elim) (plx_set hI.p env)
  obtain ⟨F₂, h0, I, fp, n, P, St, ds, rfl, le₂, hI, io, R₂, Iv, h1, h2, h3⟩ := h
  obtain ⟨vr, ad, V⟩ := R.ex
  obtain ⟨mI, _⟩ := R.fresh V hI
  have W := io.W A Rm.handled
  refine codeAny_forLoop_any (fun k s' => ∃ i F' σ' hh, Rl C vn kd env own s₀ F₀ (Yat X [I] hh) σ' s' F' ∧ (∃ o, hh.get? I = some o) ∧ (∀ a o, F₂ a o → F' a o) ∧ i ≤ n ∧ k = n + 1 - i ∧ St i s'.heap ∧ Iv i σ') ?_ (n + 1)
    ⟨0, F₂, σ, _, R₂, let ⟨o, _, e, _⟩ := io.quiet 0 _ io.st; ⟨o, e⟩, fun _ _ e => e, Nat.zero_le _, rfl, io.st, h1⟩
  rintro k s' ⟨i, F', σ', hh, R', hhI, le', hi, rfl, hst, hIv⟩
  have tick : ∀ {h' tk}, (∀ b, b ∉ [I] → ∀ o, s'.heap.get? b = some o → h'.get? b = some o) → Rl C vn kd env own s₀ F₀ (Yat X [I] h') σ' { s' with heap := h', toks := tk } F' := fun {h' tk} hk =>
    R'.tick (s' := { s' with heap := h', toks := tk }) (fun a ha => by rw [List.mem_singleton.mp ha]; exact ⟨mI.new, mI.nx, hhI⟩) (fun b o hb e => hk b hb o e) rfl rfl
  by_cases hlt : i < n
  · refine wpAny_with_toks (n := 0) (Nat.zero_le _) (wpAny_mono (W.item i _ (fun q s₁ => 0 ≤ s₁.toks → _) (fun _ _ => False) hlt hst fun v h' tk hPv hst' hk' => ?_) (fun _ _ e => e) fun _ _ e => e.elim)
    intro _
    obtain ⟨d, hdi, rd⟩ := io.val i v hPv
    obtain ⟨oI, TI, hIo', hIc, hIq⟩ := io.quiet _ _ hst'
    have R1 := tick (tk := tk) fun b hb o e => hk' b o hb e
    obtain ⟨β, hβ, hbody⟩ := obw_inv (h2 i d σ' hdi hIv)
    refine hT.quiet hIo' hIc hIq (R1.assign Rm.handled hT (rd.mono le') hβ fun s₂' R2 => ?_)
    refine wpAny_mono (hb.go Rm R2 hbody) (fun fl s₃ h => ?_) fun _ _ e => e.elim
    obtain ⟨F₃, σ₃, f, R₃, le₃, okf, hq⟩ := h
    have leA : ∀ a o, F a o → F₃ a o := fun a o e => le₃ a o (le' a o (le₂ a o e))
    have wk : Rl C vn kd env own s₀ F₀ X σ₃ s₃ F₃ := R₃.xmono fun _ _ e => .inl e
    cases fl <;> cases f <;> first | exact okf.elim | skip
    · refine ⟨n + 1 - (i + 1), by omega, i + 1, F₃, σ₃, h', R₃, ⟨oI, hIo'⟩, fun a o e => le₃ a o (le' a o e), hlt, rfl, ?_, hq⟩
      refine W.frame _ _ _ hst' fun b hb o e => ?_
      rcases io.fp b hb with qb | ⟨o2, q⟩
      · exact (R₃.x b o (.inr ⟨List.mem_singleton.mpr qb, e⟩)).1
      · have e1 := (R1.B.f.at' b o2 (le' b o2 q)).1
        cases e1.symm.trans e
        exact (R₃.B.f.at' b _ (le₃ b _ (le' b _ q))).1
    · exact ⟨F₃, σ₃, .next, wk, leA, trivial, hq⟩
    · exact ⟨F₃, σ₃, .ret _, wk, leA, okf, hq⟩
  · have hin : i = n := by omega
    subst hin
    refine wpAny_with_toks (n := 0) (Nat.zero_le _) (wpAny_mono (W.done _ (fun q s₁ => 0 ≤ s₁.toks → _) (fun _ _ => False) hst fun h' tk hk' => ?_) (fun _ _ e => e) fun _ _ e => e.elim)
    intro _
    have R1 : Rl C vn kd env own s₀ F₀ X σ' _ F' := (tick (tk := tk) fun b hb o e => hk' b o hb e).xmono fun _ _ e => .inl e
    exact wpAny_mono (ho.go Rm R1 (h3 σ' (io.len ▸ hIv))) (fun fl s₃ h => h.le fun a o e => le' a o (le₂ a o e)) fun _ _ e => e.elim
end

/-! # Whole functions -/
theorem bindL_not {kindOf : Str → Option NameKind} : ∀ {binds : List (Str × Value)} {m : Str → Option Value} {x : Str}, x ∉ binds.map Prod.fst → bindL kindOf binds m x = m x
  | [], _, _, _ => rfl
  | (n, v) :: r, m, x, h => by
    have h := not_or.mp fun q => h (List.mem_cons.mpr q)
    unfold bindL
    rw [bindL_not h.2]
    split
    · exact if_neg h.1
    · rfl
theorem bindC_not {kindOf : Str → Option NameKind} : ∀ {binds : List (Str × Value)} {m : Str → Option Value} {x : Str}, x ∉ binds.map Prod.fst → bindC kindOf binds m x = m x
  | [], _, _, _ => rfl
  | (n, v) :: r, m, x, h => by
    have h := not_or.mp fun q => h (List.mem_cons.mpr q)
    unfold bindC
    rw [bindC_not h.2]
    split
    · rfl
    · exact if_neg h.1
theorem bind_vr {kindOf : Str → Option NameKind} : ∀ {binds : List (Str × Value)} {m cm : Str → Option Value}, (binds.map Prod.fst).Nodup → ∀ {x : Str} {v : Value}, (x, v) ∈ binds →
    (if kindOf x = some .local then bindL kindOf binds m x else bindC kindOf binds cm x) = some v
  | (n, u) :: r, m, cm, nd, x, v, h => by
    have nd := List.nodup_cons.mp nd
    unfold bindL bindC
    rcases List.mem_cons.mp h with e | h
    · cases e
      rw [bindL_not nd.1, bindC_not nd.1]
      by_cases hk : kindOf n = some .local
      · simp [hk]
      · simp [hk]
    · exact bind_vr nd.2 h
theorem cellsFrom_mem : ∀ (names : List (Str × NameKind)) (n : Nat) (acc : List (Str × Addr)) (x : Str), ((acc.lookup x).isSome = true ∨ (x, NameKind.cell) ∈ names) → ((cellsFrom n names acc).lookup x).isSome = true
  | [], _, acc, x, h => h.elim id fun h => by cases h
  | (name, kind) :: r, n, acc, x, h => by
    unfold cellsFrom
    split
    · rename_i hk
      refine cellsFrom_mem r _ _ x ?_
      rw [List.lookup_cons]
      rcases h with h | h
      · left; split <;> first | rfl | exact h
      · rcases List.mem_cons.mp h with e | h
        · cases e; left; rw [beq_self_eq_true]; rfl
        · exact .inr h
    · rename_i hk
      refine cellsFrom_mem r _ _ x ?_
      rcases h with h | h
      · exact .inl h
      · rcases List.mem_cons.mp h with e | h
        · cases e; exact absurd rfl hk
        · exact .inr h

def ownOf (names : List (Str × NameKind)) : List Str := (names.filter fun x => x.2 == .cell).map Prod.fst
/-- the scope of a function: its names by number -/
def scopeOk (vn : Nm) (kd : Kd) (sc : Scope) : Bool := sc.kind == .function && !sc.isGenerator && !sc.isCoroutine && (sc.names.all fun x => x.2 != .cell || sc.names.lookup x.1 == some .cell) && kd.all fun p => sc.names.lookup (vn.vn p.1) == some p.2
/-- two variables have two names -/
def injOk (vn : Nm) : Kd → Bool
  | [] => true
  | p :: l => (!(p.2 == .local || p.2 == .cell) || l.all fun q => q.1 == p.1 || !(q.2 == .local || q.2 == .cell) || vn.vn p.1 != vn.vn q.1) && injOk vn l
theorem isVar_mem {kd : Kd} {n : Nat} (h : isVar kd n = true) : ∃ k, (n, k) ∈ kd ∧ (k == .local || k == .cell) = true := by
  unfold isVar at h
  cases e : kd.lookup n with
  | none => rw [e] at h; cases h
  | some k => rw [e] at h; refine ⟨k, lookup_memK e, ?_⟩; cases k <;> first | rfl | cases h
theorem injOk_out {vn : Nm} : ∀ {kd : Kd}, injOk vn kd = true → ∀ {n m : Nat} {k j : NameKind}, (n, k) ∈ kd → (m, j) ∈ kd → (k == .local || k == .cell) = true → (j == .local || j == .cell) = true → vn.vn n = vn.vn m → n = m
  | p :: l, h, n, m, k, j, hn, hm, hk, hj, e => by
    have ⟨h1, h2⟩ := and2 h
    have key : ∀ {a b : Nat} {c d : NameKind}, p = (a, c) → (b, d) ∈ l → (c == .local || c == .cell) = true → (d == .local || d == .cell) = true → vn.vn a = vn.vn b → b = a := by
      intro a b c d ep hb hc hd e
      subst ep
      rw [show (!(c == .local || c == .cell)) = false by rw [hc]; rfl, Bool.false_or] at h1
      have := List.all_eq_true.mp h1 _ hb
      rcases or2 this with q | q
      · rcases or2 q with q | q
        · exact beq_iff_eq.mp q
        · rw [hd] at q; cases q
      · exact absurd e (bne_iff_ne.mp q)
    rcases List.mem_cons.mp hn with q | hn
    · rcases List.mem_cons.mp hm with q' | hm
      · cases q.trans q'.symm; rfl
      · exact (key q.symm hm hk hj e).symm
    · rcases List.mem_cons.mp hm with q' | hm
      · exact key q'.symm hn hj hk e.symm
      · exact injOk_out h2 hn hm hk hj e
def σ0 : List Nat → List V → St
  | p :: ps, d :: ds => (p, .val d) :: σ0 ps ds
  | _, _ => []
/-- the flow of a whole body -/
def retK (Q : V → Prop) : Kt := fun f _ => match f with | .ret d => Q d | .next => Q .none | .brk => False

/-- a function object that stands -/
structure FnD (C : Cx) (a : Addr) (ps : List Str) (sc : Scope) (ss : List Stmt) : Prop where
  ex : ∃ o fd, C.K a o ∧ o.data = .func fd ∧ fd.body = .stmts ss ∧ fd.scope = sc ∧ fd.closure = [] ∧ fd.globals = mainGlobals ∧ fd.builtins = builtinsNs ∧
    (∀ vals, vals.length = ps.length → bindArgs fd ⟨vals, []⟩ = pure (ps.zip vals)) ∧ ∃ c oc vs t, fd.code = .ref c ∧ C.K c oc ∧ oc.data = .fields vs ∧ vs[1]? = some (.str fd.qualname t)

section
variable {C : Cx} {vn : Nm} {r : Nat} {kd : Kd}

theorem zipL {F : Fz} {vr : Str → Option Value} : ∀ {ps : List Nat} {args : List Value} {ds : List V}, RepL F args ds → ps.length = args.length → (∀ x v, (x, v) ∈ (ps.map vn.vn).zip args → vr x = some v) →
    ∀ n lv, (σ0 ps ds).lookup n = some lv → n ∈ ps ∧ ∃ d, lv = .val d ∧ ∃ v, vr (vn.vn n) = some v ∧ Rep F v d
  | [], [], _, .nil, _, _, n, lv, h => by cases h
  | p :: ps, v :: args, d :: ds, .cons rv rl, hl, hv, n, lv, h => by
    have ih := @zipL F vr ps args ds rl (Nat.succ.inj hl) fun x v hm => hv x v (.tail _ hm)
    have h : List.lookup n ((p, .val d) :: σ0 ps ds) = some lv := h
    rw [List.lookup_cons] at h
    cases q : n == p with
    | true => rw [q] at h; cases h; rw [beq_iff_eq.mp q]; exact ⟨.head _, d, rfl, v, hv _ _ (.head _), rv⟩
    | false =>
      rw [q] at h
      obtain ⟨h1, h2⟩ := ih n lv h
      exact ⟨.tail _ h1, h2⟩
theorem σ0_keys : ∀ (ps : List Nat) (ds : List V), ((σ0 ps ds).map Prod.fst).Sublist ps
  | [], ds => by cases ds <;> exact List.Sublist.refl _
  | p :: ps, [] => List.nil_sublist _
  | p :: ps, d :: ds => (σ0_keys ps ds).cons_cons p
theorem σ0_val : ∀ {ps : List Nat} {ds : List V} {n : Nat} {lv : LV}, (n, lv) ∈ σ0 ps ds → ∃ d, lv = .val d
  | [], ds, _, _, h => by cases ds <;> cases h
  | _ :: _, [], _, _, h => by cases h
  | p :: ps, d :: ds, n, lv, h => by
    rcases List.mem_cons.mp h with e | h
    · cases e; exact ⟨_, rfl⟩
    · exact σ0_val h
theorem σ0_not_used {ps : List Nat} {ds : List V} {n : Nat} {b : Bool} : ¬ Used (σ0 ps ds) n b := fun ⟨_, h, u⟩ => by
  obtain ⟨d, rfl⟩ := σ0_val (mem_of_lookup h)
  exact u
theorem nodup_vn : ∀ {ps : List Nat}, ps.Nodup → (∀ p ∈ ps, ∀ q ∈ ps, vn.vn p = vn.vn q → p = q) → (ps.map vn.vn).Nodup
  | [], _, _ => List.Pairwise.nil
  | p :: ps, nd, h => by
    have nd := List.nodup_cons.mp nd
    refine List.nodup_cons.mpr ⟨fun hm => ?_, nodup_vn nd.2 fun q hq q' hq' => h q (.tail _ hq) q' (.tail _ hq')⟩
    obtain ⟨q, hq, e⟩ := List.mem_map.mp hm
    exact nd.1 (h p (.head _) q (.tail _ hq) e.symm ▸ hq)
theorem Fn.of_body {a : Addr} {ps : List Nat} {sc : Scope} {ss : List Stmt} {X : Xp} {w : List V → (V → Prop) → Prop} (D : FnD C a (ps.map vn.vn) sc ss) (hb : SL C vn r kd ss X) (hsc : scopeOk vn kd sc = true) (hinj : injOk vn kd = true) (hps : (ps.all fun p => isVar kd p) = true) (nd : ps.Nodup)
    (hec : ∀ o fd L, C.K a o → o.data = .func fd → vn.ec (callEnvC fd L a)) (hw : ∀ ds Q, w ds Q → ds.length = ps.length ∧ X (σ0 ps ds) (retK Q)) : Fn C a (r + 1) w := by
  obtain ⟨o, fd, hK, hd, hbody, hscope, hclo, hglob, hbi, hbind, c, oc, vs, t, hc, hKc, hdc, hvs⟩ := D.ex
  subst hscope
  intro A s F args ds Q R I f rl hq
  obtain ⟨hlen, hx⟩ := hw ds Q hq
  have ⟨hsc, hkd⟩ := and2 hsc
  have ⟨hsc, hcells⟩ := and2 hsc
  have ⟨hsc, hco⟩ := and2 hsc
  have ⟨hkind, hgen⟩ := and2 hsc
  have hkind := beq_iff_eq.mp hkind
  have hgen : fd.scope.isGenerator = false := by cases h : fd.scope.isGenerator <;> first | rfl | (rw [h] at hgen; cases hgen)
  have hco : fd.scope.isCoroutine = false := by cases h : fd.scope.isCoroutine <;> first | rfl | (rw [h] at hco; cases hco)
  have hps : ∀ p ∈ ps, isVar kd p = true := List.all_eq_true.mp hps
  have lk : ∀ n k, kd.lookup n = some k → fd.scope.names.lookup (vn.vn n) = some k := fun n k e => beq_iff_eq.mp (List.all_eq_true.mp hkd _ (lookup_memK e))
  have inj : ∀ n m, isVar kd n = true → isVar kd m = true → vn.vn n = vn.vn m → n = m := fun n m hn hm e =>
    let ⟨_, h1, h2⟩ := isVar_mem hn; let ⟨_, h3, h4⟩ := isVar_mem hm; injOk_out hinj h1 h3 h2 h4 e
  have hal : args.length = (ps.map vn.vn).length := by rw [List.length_map, rl.length, hlen]
  have hndn : ((ps.map vn.vn).zip args |>.map Prod.fst).Nodup := by
    rw [List.map_fst_zip (Nat.le_of_eq hal.symm)]
    exact nodup_vn nd fun p hp q hq e => inj p q (hps p hp) (hps q hq) e
  have cellLk : ∀ x ∈ ownOf fd.scope.names, fd.scope.names.lookup x = some .cell := fun x hx => by
    obtain ⟨⟨y, k⟩, hy, rfl⟩ := List.mem_map.mp hx
    obtain ⟨hy1, hy2⟩ := List.mem_filter.mp hy
    obtain rfl : k = .cell := beq_iff_eq.mp hy2
    exact beq_iff_eq.mp ((or2 (List.all_eq_true.mp hcells _ hy1)).elim (fun h => nomatch h) id)
  have lkOwn : ∀ x, fd.scope.names.lookup x = some .cell → x ∈ ownOf fd.scope.names := fun x hx => List.mem_map.mpr ⟨(x, .cell), List.mem_filter.mpr ⟨PySem.mem_of_lookup hx, rfl⟩, rfl⟩
  have varK : ∀ n, isVar kd n = true → fd.scope.names.lookup (vn.vn n) = some .local ∨ fd.scope.names.lookup (vn.vn n) = some .cell := fun n h => by
    unfold isVar at h
    cases e : kd.lookup n with
    | none => rw [e] at h; cases h
    | some k => rw [e] at h; cases k <;> first | exact .inl (lk _ _ e) | exact .inr (lk _ _ e) | cases h
  refine wpAny_call (codeAny_call_function R.lt (I.k a o hK).1 hd hco hgen hbody ⟨c, oc, vs, t, hc, (I.k c oc hKc).1, hdc, hvs⟩ ?_)
  rw [hbind args hal, hclo]
  have hkd : ∀ x ∈ (ps.map vn.vn).zip args, fd.scope.names.lookup x.1 = some .local ∨ (fd.scope.names.lookup x.1 = some .cell ∧ ((cellsFrom (s.heap.objs.size + 1) fd.scope.names []).lookup x.1).isSome = true) := fun x hx => by
    obtain ⟨p, hp, e⟩ := List.mem_map.mp (List.of_mem_zip hx).1
    exact e ▸ (varK p (hps p hp)).imp id fun h => ⟨h, cellsFrom_mem _ _ _ _ (.inr (PySem.mem_of_lookup h))⟩
  refine wpAny_pure (wpAny_mono (wpAny_toks_of (n := 0) (Nat.zero_le _) (wpAny_newFunctionEnv_cells (Q := fun env s' => env = callEnvC fd s.heap.objs.size a ∧ InCallC s env.locals (bindL env.kindOf ((ps.map vn.vn).zip args) fun _ => none) env.cells (bindC env.kindOf ((ps.map vn.vn).zip args) fun _ => none) s')
    (E := fun _ _ => False) hkind hkd fun env he s' x => ⟨he, x⟩)) (fun env s₁ h => ?_) fun _ _ h => h.2.elim)
  obtain ⟨_, he, X'⟩ := h
  subst he
  refine ⟨I.lim.keeps X'.toInCall.keep, codeAny_func ?_⟩
  generalize hEnv : callEnvC fd s.heap.objs.size a = env at X' ⊢
  have hL : env.locals = s.heap.objs.size := by rw [← hEnv]; rfl
  have hscope : env.scope = fd.scope := by rw [← hEnv]; rfl
  have hcl : env.cells = cellsFrom (s.heap.objs.size + 1) fd.scope.names [] := by rw [← hEnv]; rfl
  have hko : ∀ x, env.kindOf x = fd.scope.names.lookup x := fun x => by unfold Env.kindOf; rw [hscope]
  obtain ⟨h₁, tk, e₁⟩ := X'.toInCall.same
  subst e₁
  have hup : ∀ b o, s.heap.get? b = some o → h₁.get? b = some o := X'.toInCall.keep
  have B₁ : Bk C s F { s with heap := h₁, toks := tk } F := ⟨I, I.keep hup rfl rfl trivial, fun b o _ e => hup b o e, Fx.refl ⟨fun b o e => ⟨hup b o (f.at' b o e).1, (f.at' b o e).2⟩, f.k⟩⟩
  have hcs : ∀ x ∈ ownOf fd.scope.names, ∃ c, env.cells.lookup x = some c := fun x hx => by
    rw [hcl]; exact Option.isSome_iff_exists.mp (cellsFrom_mem fd.scope.names (s.heap.objs.size + 1) [] x (.inr (PySem.mem_of_lookup (cellLk x hx))))
  have hAp : Apart env (ownOf fd.scope.names) s.heap := by
    refine ⟨hscope ▸ hkind, hL ▸ get_size _, fun x hx => ?_, fun x hx y hy hxy e => ?_⟩
    · obtain ⟨c, hc⟩ := hcs x hx
      have hab := X'.above x c (PySem.mem_of_lookup hc)
      refine ⟨(hko x).trans (cellLk x hx), c, hc, ?_, Nat.ne_of_gt hab⟩
      cases e : s.heap.get? c with
      | none => rfl
      | some o => exact absurd (Nat.lt_trans (Heap.lt_size e) (hL ▸ hab)) (Nat.lt_irrefl _)
    · obtain ⟨c, hc⟩ := hcs x hx
      exact hxy (name_of_addr X'.apart (PySem.mem_of_lookup hc) (PySem.mem_of_lookup (e ▸ hc)))
  have hFs : Fs C vn kd env (ownOf fd.scope.names) s :=
    ⟨hAp, fun n hn => (varK n hn).imp (fun h => (hko _).trans h) (lkOwn _), by rw [← hEnv]; exact hglob, by rw [← hEnv]; exact hbi, fun n k e => .inl ((hko _).trans (lk n k e)), inj, by rw [← hEnv]; exact hec o fd _ hK hd, I⟩
  let vr : Str → Option Value := fun x => if env.kindOf x = some .local then bindL env.kindOf ((ps.map vn.vn).zip args) (fun _ => none) x else bindC env.kindOf ((ps.map vn.vn).zip args) (fun _ => none) x
  have hfr : Frm env (ownOf fd.scope.names) h₁ vr := by
    refine ⟨⟨_, X'.toInCall.ns, fun x hx => (if_pos hx).symm⟩, fun x hx => ?_⟩
    obtain ⟨hk, c, hc, _⟩ := hAp.c x hx
    refine ⟨c, hc, ?_⟩
    have : vr x = bindC env.kindOf ((ps.map vn.vn).zip args) (fun _ => none) x := if_neg (by rw [hk]; exact fun h => nomatch h)
    rw [this]; exact X'.cell x c hc
  have hRl : Rl C vn kd env (ownOf fd.scope.names) s F (fun _ _ => False) (σ0 ps ds) { s with heap := h₁, toks := tk } F := by
    refine ⟨hFs, B₁, fun b pb o e => (nomatch (hAp.none b pb).symm.trans (f.at' b o e).1), nd.sublist (σ0_keys ps ds), fun _ _ h => h.elim, vr, fun _ _ => 0, hfr, fun n lv e => ?_, fun n b u => absurd u σ0_not_used, fun n b m c u => absurd u σ0_not_used⟩
    obtain ⟨hm, d, rfl, v, e1, rv⟩ := zipL (vn := vn) rl ((List.length_map ..).symm.trans hal.symm) (fun x v hm => bind_vr hndn hm) n lv e
    exact ⟨hps n hm, v, e1, rv⟩
  refine wpAny_mono (hb.go (A := A.deeper env) (K := retK Q) (R.deeper env) hRl hx) (fun fl s' h => ?_) fun _ _ e => e.elim
  obtain ⟨F', σ', fl', R', le, okf, hq'⟩ := h
  cases fl <;> cases fl' <;> first | exact okf.elim | exact hq'.elim | skip
  · exact R'.B.toPst ⟨_, .none, hq'⟩
  · exact R'.B.toPst ⟨_, okf, hq'⟩
end

/-! # The program's own texts -/
def fnB (p : Program) (k : Nat) : List Stmt := match p.main.body[k]? with | some s => (match s with | .FunctionDef _ _ b .. => b | _ => []) | none => []
def fnS (p : Program) (k : Nat) : Option Stmt := p.main.body[k]?
def fnSc (p : Program) (k : Nat) : Scope := match p.main.body[k]? with | some s => (match s with | .FunctionDef _ _ _ _ _ _ sc .. => sc | _ => p.main.scope) | none => p.main.scope
def nth : List String → Nat → Str
  | [], _ => Str.ofString ""
  | s :: _, 0 => Str.ofString s
  | _ :: l, n + 1 => nth l n
abbrev Nn (l : List String) (ec : Env → Prop) : Nm := ⟨nth l, ec⟩
theorem nth_mem : ∀ {l : List String} {n : Nat}, nth l n = Str.ofString "" ∨ ∃ s ∈ l, nth l n = Str.ofString s
  | [], _ => .inl rfl
  | s :: _, 0 => .inr ⟨s, .head _, rfl⟩
  | _ :: l, n + 1 => (nth_mem (l := l) (n := n)).imp id fun ⟨s, h, e⟩ => ⟨s, .tail _ h, e⟩
theorem Ok.of {C : Cx} {l : List String} {ec : Env → Prop} (hb : ∀ x ∈ biNames, C.mg x = none) (he : ∀ scope cl L env, ec env → ec (compEnvC scope cl L env)) (hd : (l.all fun s => Str.ofString s != "__debug__") = true) : Ok C (Nn l ec) :=
  ⟨hb, he, fun n e => (nth_mem (l := l) (n := n)).elim (fun h => absurd (h.symm.trans e) (by decide +kernel)) fun ⟨s, h, e'⟩ => bne_iff_ne.mp (List.all_eq_true.mp hd s h) (e'.symm.trans e)⟩
open PySem.AutoSeq1 (wpAny_loadPart')

/-! # enumerate(a tuple) -/
theorem meets_enum_tup (l : Addr) (items : Array Value) (n : Nat) :
    Meets (Builtin.«enumerate.__new__» ⟨[.type "enumerate", .ref l], []⟩) (fun _ R s => s.heap.get? l = some { cls := .type "tuple", dict := none, data := .seq items n, slots := #[] } ∧
      R (.ok (.ret (.ref (s.heap.push { cls := .type "tuple_iterator", data := .fields #[.ref l, .int 0 0] }).objs.size)))
        { s with heap := (s.heap.push { cls := .type "tuple_iterator", data := .fields #[.ref l, .int 0 0] }).push { cls := .type "enumerate", data := .fields #[.none, .bool false, .ref s.heap.objs.size, rawInt 0, .none, .none] } }) :=
  .of_wp fun prog w A R s h => by
    obtain ⟨hp, g, d, tk, os⟩ := s; obtain ⟨hl, h⟩ := h
    have hsub := sub_enumerate
    have hL : Heap.IsTuple (Shared.heap ⟨hp, g, d, tk, os⟩) l items := ⟨_, hl, rfl, n, rfl⟩
    wp_walk using wpAny_loadPart' hl
    refine wpAny_stack_any fun st => wpAny_pure ?_
    split
    · rename_i c _ _ _ _ _
      cases (c == Value.type "enumerate")
      · wp_walk using wpAny_loadPart' hl, wpAny_pyIter_tuple hL
        exact ⟨_, rfl, h⟩
      · wp_walk using wpAny_loadPart' hl, wpAny_pyIter_tuple hL
        exact ⟨_, rfl, h⟩
    · wp_walk using wpAny_loadPart' hl, wpAny_pyIter_tuple hL
      exact ⟨_, rfl, h⟩

section
variable {prog : Program} {w : World} {A : Around} {E : Value → Shared → Prop} {s : Shared}
theorem call_enum_tup {l : Addr} {items : Array Value} {n : Nat} {Q : Value → Shared → Prop} (hl : s.heap.get? l = some { cls := .type "tuple", dict := none, data := .seq items n, slots := #[] })
    (h : ∀ h', IsEnum h' (s.heap.objs.size + 1) s.heap.objs.size 0 .none → h'.IsTupleIter s.heap.objs.size l 0 → (∀ b o, s.heap.get? b = some o → h'.get? b = some o) → Q (.ref (s.heap.objs.size + 1)) { s with heap := h' }) :
    wpAny (model prog w) A (call (.type "enumerate") [.ref l]) Q E s := by
  refine callType_new PySem.F.called_enumerate (by decide) (PySem.F.typeCall_enumerate_1 _) (PySem.F.newCall_enumerate_1 _) (fun obj => PySem.F.args_object_init_2 obj _) PySem.F.entry_enumerate_new
    (meets_enum_tup l items n) ⟨hl, ?_⟩
  have hz : (s.heap.push { cls := .type "tuple_iterator", data := .fields #[.ref l, .int 0 0] }).objs.size = s.heap.objs.size + 1 := Heap.size_push ..
  show _ ∧ _
  rw [hz]
  have he : IsEnum ((s.heap.push { cls := .type "tuple_iterator", data := .fields #[.ref l, .int 0 0] }).push
      { cls := .type "enumerate", data := .fields #[.none, .bool false, .ref s.heap.objs.size, rawInt 0, .none, .none] }) (s.heap.objs.size + 1) s.heap.objs.size 0 .none := by
    have := Heap.get?_push_size (s.heap.push { cls := .type "tuple_iterator", data := .fields #[.ref l, .int 0 0] })
      (o := { cls := .type "enumerate", data := .fields #[.none, .bool false, .ref s.heap.objs.size, rawInt 0, .none, .none] }) rfl
    rw [hz] at this; exact this
  exact ⟨⟨_, he, rfl⟩, h _ he ⟨_, Heap.get?_push_of_some _ (Heap.get?_push_size _ rfl), rfl, rfl⟩ fun b o x => Heap.get?_push_of_some _ (Heap.get?_push_of_some _ x)⟩

theorem nextOf_tup_item {it t : Addr} {i : Nat} {items : Array Value} {x : Value} {Q : Value → Shared → Prop} (hit : s.heap.IsTupleIter it t i) (ht : s.heap.IsTuple t items) (hx : items[i]? = some x)
    (hQ : ∀ h', h'.IsTupleIter it t (i + 1) → Heap.SameBut it s.heap h' → Q x { s with heap := h' }) : wpAny (model prog w) A (Builtin.SmallTypes.nextOf (.ref it)) Q E s := by
  obtain ⟨o, ho, hc, hd⟩ := id hit
  obtain ⟨ol, hol, _, nl, hdl⟩ := ht
  unfold Builtin.SmallTypes.nextOf
  refine wpAny_bind (wpAny_callSpecial?_slot (name := Str.ofString "__next__") hit.typeIs PySem.F.slot_tuple_iterator_next
    (wpAny_call_entry PySem.F.slot_tuple_iterator_next hit.typeIs PySem.F.entry_tuple_iterator_next ?_ (PySem.F.args_tuple_iterator_next_1 _)))
  show wpAny _ _ (field (.ref it) 0 >>= _) _ _ s
  refine wpAny_bind (wpAny_field ho hd (x := .ref t) rfl ?_)
  show wpAny _ _ (if (Value.ref t == Value.none) = true then _ else _) _ _ s
  rw [if_neg (show ¬ ((Value.ref t == Value.none) = true) from Bool.false_ne_true)]
  show wpAny _ _ (field (.ref it) 1 >>= _) _ _ s
  refine wpAny_bind (wpAny_field ho hd (x := .int i 0) rfl ?_)
  show wpAny _ _ (seqItems? (.ref t) >>= _) _ _ s
  refine wpAny_bind (wpAny_seqItems hol hdl ?_)
  simp only [Int.toNat_natCast, hx]
  refine wpAny_bind (wpAny_setField ho hd (by simp) (wpAny_pure ⟨x, rfl, wpAny_pure (hQ _ ?_ (Heap.SameBut.update ..))⟩))
  exact ⟨_, Heap.get?_update_self _ ho (Obj.isFreed_of_fields (Obj.data_mapFields hd _)), (Obj.cls_mapFields ..).trans hc, by
    rw [Obj.data_mapFields hd]; simp [rawInt]⟩
theorem nextOf_tup_end {it t : Addr} {i : Nat} {items : Array Value} {Q : Value → Shared → Prop} (hh : A.handled = none) (hit : s.heap.IsTupleIter it t i) (ht : s.heap.IsTuple t items) (hx : items[i]? = none)
    (hE : ∀ h' e, Heap.ExtBut it s.heap h' → (∃ o, h'.get? e = some o ∧ o.cls = .type "StopIteration") → E (.ref e) { s with heap := h' }) : wpAny (model prog w) A (Builtin.SmallTypes.nextOf (.ref it)) Q E s := by
  obtain ⟨o, ho, hc, hd⟩ := id hit
  obtain ⟨ol, hol, _, nl, hdl⟩ := ht
  unfold Builtin.SmallTypes.nextOf
  refine wpAny_bind (wpAny_callSpecial?_slot (name := Str.ofString "__next__") hit.typeIs PySem.F.slot_tuple_iterator_next
    (wpAny_call_entry PySem.F.slot_tuple_iterator_next hit.typeIs PySem.F.entry_tuple_iterator_next ?_ (PySem.F.args_tuple_iterator_next_1 _)))
  show wpAny _ _ (field (.ref it) 0 >>= _) _ _ s
  refine wpAny_bind (wpAny_field ho hd (x := .ref t) rfl ?_)
  show wpAny _ _ (if (Value.ref t == Value.none) = true then _ else _) _ _ s
  rw [if_neg (show ¬ ((Value.ref t == Value.none) = true) from Bool.false_ne_true)]
  show wpAny _ _ (field (.ref it) 1 >>= _) _ _ s
  refine wpAny_bind (wpAny_field ho hd (x := .int i 0) rfl ?_)
  show wpAny _ _ (seqItems? (.ref t) >>= _) _ _ s
  refine wpAny_bind (wpAny_seqItems hol hdl ?_)
  simp only [Int.toNat_natCast, hx]
  refine wpAny_bind (wpAny_rule (wpAny_bind (wpAny_setField ho hd (by simp) ?_)))
  show wpAny _ _ (newExc (.type "StopIteration") [] >>= _) _ _ _
  refine wpAny_bind ?_
  simp only [newExc, newTuple]
  refine wpAny_bind (wpAny_newObj_type ?_ (by size_fits))
  refine wpAny_bind (m := firstArgMember _ _) (wpAny_of_eq (a := Value.none) (by first | rfl | (simp only [firstArgMember]; rfl)) ?_)
  refine wpAny_newObj_type ?_ (by size_fits)
  simp only [raiseNew]
  refine wpAny_bind (wpAny_handled ?_)
  first | rw [show A.in1.handled = none from hh] | rw [hh]
  refine wpAny_bind (wpAny_pure (wpAny_throw ?_))
  exact hE _ _ (((Heap.SameBut.update ..).extBut.push _).push _) ⟨_, Heap.get?_push_size _ rfl, rfl⟩
end
theorem drawsTup {prog : Program} {w : World} {A : Around} (hh : A.handled = none) (it l : Addr) (hne : l ≠ it) (items : Array Value) :
    Draws prog w A it [it, l] items.size (fun i v => items[i]? = some v) (fun i h => h.IsTupleIter it l i ∧ h.IsTuple l items) where
  live := fun _ _ st => let ⟨o, ho, _⟩ := st.1; ⟨o, ho⟩
  frame := fun _ _ _ st hk => ⟨st.1.at fun o e => hk it (by simp) o e, st.2.at fun o e => hk l (by simp) o e⟩
  item := fun i s Q E hi st hQ => by
    refine nextOf_tup_item st.1 st.2 (x := items[i]) (by simp [hi]) fun h' hit' hs' => ?_
    exact hQ _ h' s.toks (by simp [hi]) ⟨hit', st.2.extBut hs'.extBut hne⟩ hs'
  done := fun s Q E st hE => nextOf_tup_end hh st.1 st.2 (by simp) hE


section
variable {C : Cx} {A : Around} {s s₀ s₁ s₂ s' : Shared} {F F₀ F₁ F' X : Fz} {r : Nat} {env : Env} {own : List Str} {vn : Nm} {kd kd' : Kd} {σ : St} {K : Kt}
theorem boot_enumerate : bootBuiltins "enumerate" = some (.type "enumerate") := by decide +kernel
def tupw (d : V) (P : List V → Prop) : Prop := match d with | .tuple l => P l | _ => False
theorem tupw_inv {d : V} {P : List V → Prop} (h : tupw d P) : ∃ l, d = .tuple l ∧ P l := by cases d <;> first | exact ⟨_, rfl, h⟩ | exact h.elim
def x_forE (x y : Nat) (a : Wp) (b : Xp) : Xp := fun σ K => a false (ρb σ) fun d => tupw d fun ds => ∃ I : Nat → St → Prop, I 0 σ ∧
  (∀ (i : Nat) d σ, ds[i]? = some d → I i σ → b (put (put σ x (.val (.int i))) y (.val d)) (lpK (I (i + 1)) K)) ∧ ∀ σ, I ds.length σ → K .next σ
theorem s_forE (O : Ok C vn) (x y : Nat) {e : Nat} {p q p1 p2 p4 p5 : Pos} {k : Nat} {g : Expr} {ss : List Stmt} {a : Wp} {b : Xp} (hn : vn.vn e = "enumerate") (hx : kd.lookup e = some .globalImplicit) (hT : Tg vn kd [x, y] (.Tuple [.Name (vn.vn x) p, .Name (vn.vn y) q] k p1)) (hg : SX C vn r kd g a) (hb : SL C vn r kd ss b) :
    SS C vn r kd (.For (.Tuple [.Name (vn.vn x) p, .Name (vn.vn y) q] k p1) (.Call (.Name (vn.vn e) p2) [g] [] p4) ss [] p5) (x_forE x y a b) := .mk fun {A s F X σ K env own s₀ F₀} Rm R hw => by
  have ev := R.ev Rm
  refine wpAny_For (wpAny_Call_NameR (nameB O ev.I ev.eo hx hn (by decide +kernel) boot_enumerate (by decide +kernel) ?_)) (fun v => rfl)
  show wpAny _ A (callWith p4 (.type "enumerate") [] (backTo p4 (starEach [g] env)) []) _ _ s
  rw [(SA.one hg).args]
  refine PySem.callWith_type rfl (Calls.evalArgs_plain (Calls.spliced_cons ((hg.e ev hw).after fun v s₁ F₁ I₁ k₁ fx₁ ⟨d, rv, hd⟩ => Calls.spliced_nil ?_)))
  obtain ⟨ds, rfl, Iv, h1, h2, h3⟩ := tupw_inv hd
  obtain ⟨l, vs', m, rfl, ha, la⟩ := rv.tuple_inv
  have hl := (fx₁.ok.at' _ _ ha).1
  refine call_enum_tup hl fun h' hE hI hk => ?_
  have fresh : ∀ a, s₁.heap.objs.size ≤ a → s₁.heap.get? a = none := fun a ha => by
    cases q : s₁.heap.get? a with
    | none => rfl
    | some o => exact absurd (Heap.lt_size q) (Nat.not_lt.mpr ha)
  generalize hen : s₁.heap.objs.size + 1 = en at hE ⊢
  generalize hit : s₁.heap.objs.size = it at hE hI
  have fen : s₁.heap.get? en = none := fresh _ (hen ▸ Nat.le_succ _)
  have fit : s₁.heap.get? it = none := fresh _ (Nat.le_of_eq hit)
  have hne : en ≠ it := by rw [← hen, ← hit]; exact Nat.ne_of_gt (Nat.lt_succ_self _)
  have hlen : l ≠ en := by rintro rfl; cases fen.symm.trans hl
  have hlit : l ≠ it := by rintro rfl; cases fit.symm.trans hl
  have R₁ := R.kp I₁ k₁ fx₁
  obtain ⟨vr, ad, V⟩ := R₁.ex
  have mas : ∀ {P : Addr → Prop}, P en → P it → ∀ a ∈ [en, it], P a := fun h1 h2 a ha => (List.mem_cons.mp ha).elim (fun e => e ▸ h1) fun h => List.mem_singleton.mp h ▸ h2
  have hfr := mas (P := fun a => Mut env own s₀.heap F₁ X a) (R₁.fresh V fen).1 (R₁.fresh V fit).1
  have R₂ : Rl C vn kd env own s₀ F₀ (Yat X [en, it] h') σ { s₁ with heap := h' } F₁ := R₁.take (s := { s₁ with heap := h' }) (I₁.keep hk rfl rfl trivial) (fun b o _ e => hk b o e)
    (Fx.refl ⟨fun b o e => ⟨hk b o (fx₁.ok.at' b o e).1, (fx₁.ok.at' b o e).2⟩, fx₁.ok.k⟩) fun a ha => ⟨mas (P := fun a => s₁.heap.get? a = none) fen fit a ha, (hfr a ha).nf⟩
  have W : WalksT C.prog C.w A en (en :: [it, l]) [en, it] vs'.toArray.size _ _ _ := WalksT.enumerateD (drawsTup (A := A.in1) Rm.handled it l hlit vs'.toArray) en hne (by simp [hne, Ne.symm hlen]) (by simp)
  refine wpAny_pyIter_enum hE ?_
  have hsz : vs'.toArray.size = ds.length := by rw [List.size_toArray, la.length]
  obtain ⟨oi, hoi, _⟩ := id hI
  refine codeAny_forLoop_any (fun k s' => ∃ i F' σ' hh, Rl C vn kd env own s₀ F₀ (Yat X [en, it] hh) σ' s' F' ∧ ((∃ o, hh.get? en = some o) ∧ ∃ o, hh.get? it = some o) ∧ (∀ a o, F₁ a o → F' a o) ∧ i ≤ ds.length ∧ k = ds.length + 1 - i ∧
    ((∃ old, IsEnum s'.heap en it i old) ∧ s'.heap.IsTupleIter it l i ∧ s'.heap.IsTuple l vs'.toArray) ∧ Iv i σ') ?_ (ds.length + 1)
    ⟨0, F₁, σ, h', R₂, ⟨⟨_, hE⟩, ⟨oi, hoi⟩⟩, fun _ _ e => e, Nat.zero_le _, rfl, ⟨⟨_, hE⟩, hI, ⟨_, hk _ _ hl, rfl, _, rfl⟩⟩, h1⟩
  rintro kk s' ⟨i', F', σ', hh, R', hhI, le', hi, rfl, hst, hIv⟩
  have tick : ∀ {hh : Heap} {s1 s2 : Shared}, Rl C vn kd env own s₀ F₀ (Yat X [en, it] hh) σ' s1 F' → ((∃ o, hh.get? en = some o) ∧ ∃ o, hh.get? it = some o) → (∀ b o, b ∉ [en, it] → s1.heap.get? b = some o → s2.heap.get? b = some o) →
      s2.gens = s1.gens → s2.os = s1.os → Rl C vn kd env own s₀ F₀ (Yat X [en, it] s2.heap) σ' s2 F' := fun {hh s1 s2} R1 hx hk hgn ho =>
    R1.tick (fun a ha => ⟨(hfr a ha).new, (hfr a ha).nx, mas (P := fun a => ∃ o, hh.get? a = some o) hx.1 hx.2 a ha⟩) hk hgn ho
  by_cases hlt : i' < ds.length
  · refine wpAny_with_toks (n := 0) (Nat.zero_le _) (wpAny_mono (W.item i' _ (fun q s₁ => 0 ≤ s₁.toks → _) (fun _ _ => False) (by rw [hsz]; exact hlt) hst fun Tt vals h2' tk hPt hTs hTt hMid hk2 => ?_) (fun _ _ e => e) fun _ _ e => e.elim)
    intro _
    obtain ⟨t0, xv, hxv, rfl⟩ := hPt
    obtain ⟨d, hd, rd⟩ := la.getV i' xv (by simpa using hxv)
    obtain ⟨⟨xo, hEo⟩, ⟨hI2, hTup2⟩, hTe, hTi⟩ := id hMid
    obtain ⟨oi2, hoi2, _⟩ := id hI2
    have R3 := tick (s2 := { s' with heap := h2', toks := tk }) R' hhI (fun b o hb e => hk2 b o hb e) rfl rfl
    refine W.go _ _ _ i' Tt _ _ _ hMid fun h3' hst3 hk3 => ?_
    obtain ⟨⟨old3, hE3⟩, hI3, hTup3⟩ := id hst3
    obtain ⟨oi3, hoi3, _⟩ := id hI3
    have R4 := tick (s2 := { s' with heap := h3', toks := tk }) R3 ⟨⟨_, hEo⟩, _, hoi2⟩ (fun b o hb e => hk3 b o hb e) rfl rfl
    have hT3 : h3'.IsTuple Tt #[.int i' t0, xv] := by
      obtain ⟨o, ho, r⟩ := hTt
      exact ⟨o, hk3 Tt o (by simp [hTe, hTi]) ho, r⟩
    cases hT with
    | two hx hy hne' =>
    refine wpAny_assign_Tuple Rm.handled hT3 rfl rfl fun h4 hx4 => ?_
    have R5 := R4.ext (k := tk) (h' := h4) fun b o e => hx4 b o (by rintro rfl; rw [get_size] at e; cases e) e
    show wpAny _ A (do holding _ (PySem.assign (.Name (vn.vn x) p) env _); assignInOrder [fun v => PySem.assign (.Name (vn.vn y) q) env v] _) _ _ _
    refine wpAny_bind (wpAny_holding (wpAny_assign_Name (R5.store hx (.int i' t0) fun s5 R5 => ?_)))
    show wpAny _ A (do holding _ (PySem.assign (.Name (vn.vn y) q) env _); assignInOrder [] _) _ _ _
    refine wpAny_bind (wpAny_holding (wpAny_assign_Name (R5.store hy (rd.mono le') fun s6 R6 => wpAny_pure ?_)))
    refine wpAny_mono (hb.go Rm R6 (h2 i' d σ' hd hIv)) (fun fl s₃ h => ?_) fun _ _ e => e.elim
    obtain ⟨F₃, σ₃, f, R₃, le₃, okf, hq⟩ := h
    have leA : ∀ a o, F a o → F₃ a o := fun a o e => le₃ a o (le' a o (fx₁.le a o e))
    have wk : Rl C vn kd env own s₀ F₀ X σ₃ s₃ F₃ := R₃.xmono fun _ _ e => .inl e
    cases fl <;> cases f <;> first | exact okf.elim | skip
    · refine ⟨ds.length + 1 - (i' + 1), by omega, i' + 1, F₃, σ₃, h3', R₃, ⟨⟨_, hE3⟩, _, hoi3⟩, fun a o e => le₃ a o (le' a o e), hlt, rfl, ?_, hq⟩
      refine W.frame _ _ _ hst3 fun b hb o e => ?_
      rcases List.mem_cons.mp hb with hb | hb
      · exact (R₃.x _ _ (.inr ⟨hb ▸ .head _, e⟩)).1
      · rcases List.mem_cons.mp hb with hb | hb
        · exact (R₃.x _ _ (.inr ⟨hb ▸ .tail _ (.head _), e⟩)).1
        · obtain rfl := List.mem_singleton.mp hb
          have e1 := (R4.B.f.at' _ _ (le' _ _ ha)).1
          cases e1.symm.trans e
          exact (R₃.B.f.at' _ _ (le₃ _ _ (le' _ _ ha))).1
    · exact ⟨F₃, σ₃, .next, wk, leA, trivial, hq⟩
    · exact ⟨F₃, σ₃, .ret _, wk, leA, okf, hq⟩
  · have hin : i' = ds.length := by omega
    subst hin
    refine wpAny_with_toks (n := 0) (Nat.zero_le _) (wpAny_mono (W.done _ (fun q s₁ => 0 ≤ s₁.toks → _) (fun _ _ => False) (by rw [hsz]; exact hst) fun h' tk hk' => ?_) (fun _ _ e => e) fun _ _ e => e.elim)
    intro _
    have R5 : Rl C vn kd env own s₀ F₀ X σ' { s' with heap := h', toks := tk } F' := (tick (s2 := { s' with heap := h', toks := tk }) R' hhI (fun b o hb e => hk' b o hb e) rfl rfl).xmono fun _ _ e => .inl e
    exact wpAny_execs_nil ((R5.next (h3 σ' hIv)).le fun a o e => le' a o (fx₁.le a o e))
end

/-! # list.count(None), list.index(None) -/
def isNone : Value → Bool
  | .none => true
  | _ => false
def vNone : V → Bool
  | .none => true
  | _ => false
def okNone : V → Bool
  | .raw _ => false
  | _ => true
section
open PySem.SeqAt PySem.MeetsSeq PySem.AutoSeq1
theorem count_loopAt (l : Addr) (items : Array Value) (n : Nat) (x : Value) (e : Value → Bool) (k : Nat) :
    ∀ (i : Nat) (found : Int), items.size - i = k → Meets (Builtin.«list.count.loop» ⟨[.ref l, x, rawInt i, rawInt found], []⟩)
      (fun A R s => s.heap.get? l = some { cls := .type "list", dict := none, data := .seq items n, slots := #[] } ∧ (∀ y, y ∈ items → EqAt A.in1 s y x (e y)) ∧
        R (.ok (.ret (.int (found + ((items.toList.drop i).countP e : Nat)) s.toks))) { s with toks := s.toks + 1 }) := by
  induction k with
  | zero =>
    intro i found hk prog w A R s h
    obtain ⟨hp, g, d, tk, os⟩ := s; obtain ⟨hl, he, h⟩ := h
    wp_walk using wpAny_loadPart' hl
    have hi : items[((i : Nat) : Int).toNat]? = none := by simp; omega
    have hd : items.toList.drop i = [] := by simp; omega
    rw [hd] at h
    rw [hi]
    wp_walk
    simpa using h
  | succ k ih =>
    intro i found hk prog w A R s h
    obtain ⟨hp, g, d, tk, os⟩ := s; obtain ⟨hl, he, h⟩ := h
    wp_walk using wpAny_loadPart' hl
    have hlt : i < items.size := by omega
    have hi : items[((i : Nat) : Int).toNat]? = some items[i] := by simp [hlt]
    have hd : items.toList.drop i = items[i] :: items.toList.drop (i + 1) := by simp [List.drop_eq_getElem_cons, hlt]
    have hc : ((i : Int) + 1) = ((i + 1 : Nat) : Int) := by push_cast; rfl
    rw [hd, List.countP_cons] at h
    rw [hi]
    refine wpAny_bind (he _ (Array.getElem_mem hlt) prog w _ _ ?_)
    wp_walk
    rw [hc]
    refine ⟨plainId_quiet plain_count_loop _, codeAny_builtin entry_count_loop (by
      rw [Around.under_plainId plain_count_loop _]
      refine ih (i + 1) _ (by omega) prog w A R _ ⟨hl, he, ?_⟩
      cases hb : e items[i] with
      | false =>
        simp only [hb, Bool.false_eq_true, if_false, Nat.add_zero] at h ⊢
        exact h
      | true =>
        simp only [hb, if_true] at h ⊢
        have e1 : found + 1 + ((List.countP e (List.drop (i + 1) items.toList) : Nat) : Int) = found + ((List.countP e (List.drop (i + 1) items.toList) + 1 : Nat) : Int) := by push_cast; omega
        rw [e1]
        exact h)⟩
theorem list_countAt (l : Addr) (items : Array Value) (n : Nat) (x : Value) (e : Value → Bool) :
    Meets (Builtin.«list.count» ⟨[.ref l, x], []⟩)
      (fun A R s => s.heap.get? l = some { cls := .type "list", dict := none, data := .seq items n, slots := #[] } ∧ (∀ y, y ∈ items → EqAt A.in1 s y x (e y)) ∧ R (.ok (.ret (.int (items.toList.countP e : Nat) s.toks))) { s with toks := s.toks + 1 }) := by
  intro prog w A R s h
  obtain ⟨hp, g, d, tk, os⟩ := s; obtain ⟨hl, he, h⟩ := h
  wp_walk using wpAny_loadPart' hl
  exact ⟨plainId_quiet plain_count_loop _, codeAny_builtin entry_count_loop (by
    rw [Around.under_plainId plain_count_loop _]
    exact count_loopAt l items n x e _ 0 0 rfl prog w A R _ ⟨hl, he, by simpa using h⟩)⟩
theorem index_loopAt (l : Addr) (items : Array Value) (n : Nat) (x : Value) (e : Value → Bool) (upto : Int) (j : Nat) (hj : j < items.size) (hupto : (j : Int) < upto)
    (hit : e items[j] = true) (k : Nat) :
    ∀ i : Nat, j - i = k → i ≤ j → (∀ m (hm : m < items.size), i ≤ m → m < j → e items[m] = false) → Meets (Builtin.«list.index.loop» ⟨[.ref l, x, rawInt i, rawInt upto], []⟩)
      (fun A R s => s.heap.get? l = some { cls := .type "list", dict := none, data := .seq items n, slots := #[] } ∧ (∀ y, y ∈ items → EqAt A.in1 s y x (e y)) ∧ R (.ok (.ret (.int j s.toks))) { s with toks := s.toks + 1 }) := by
  induction k with
  | zero =>
    intro i hk hij hno prog w A R s h
    obtain ⟨hp, g, d, tk, os⟩ := s; obtain ⟨hl, he, h⟩ := h
    have hij' : i = j := by omega
    subst hij'
    wp_walk using wpAny_loadPart' hl
    have hi : (if (i : Int) < upto then items[((i : Nat) : Int).toNat]? else none) = some items[i] := by simp [hupto, hj]
    rw [hi]
    refine wpAny_bind (he _ (Array.getElem_mem hj) prog w _ _ ?_)
    rw [hit]
    wp_walk
    exact h
  | succ k ih =>
    intro i hk hij hno prog w A R s h
    obtain ⟨hp, g, d, tk, os⟩ := s; obtain ⟨hl, he, h⟩ := h
    have hlt : i < items.size := by omega
    have hst : (i : Int) < upto := by omega
    wp_walk using wpAny_loadPart' hl
    have hi : (if (i : Int) < upto then items[((i : Nat) : Int).toNat]? else none) = some items[i] := by simp [hst, hlt]
    have hc : ((i : Int) + 1) = ((i + 1 : Nat) : Int) := by push_cast; rfl
    rw [hi]
    refine wpAny_bind (he _ (Array.getElem_mem hlt) prog w _ _ ?_)
    rw [hno i hlt (Nat.le_refl _) (by omega)]
    wp_walk
    rw [hc]
    exact ⟨plainId_quiet plain_index_loop _, codeAny_builtin entry_index_loop (by
      rw [Around.under_plainId plain_index_loop _]
      exact ih (i + 1) (by omega) (by omega) (fun m hm h1 h2 => hno m hm (by omega) h2) prog w A R _ ⟨hl, he, h⟩)⟩
theorem list_indexAt (l : Addr) (items : Array Value) (n : Nat) (x : Value) (e : Value → Bool) (j : Nat) (hj : j < items.size) (hsmall : (j : Int) < 2 ^ 63 - 1)
    (hit : e items[j] = true) (hno : ∀ m (hm : m < items.size), m < j → e items[m] = false) :
    Meets (Builtin.«list.index» ⟨[.ref l, x], []⟩)
      (fun A R s => s.heap.get? l = some { cls := .type "list", dict := none, data := .seq items n, slots := #[] } ∧ (∀ y, y ∈ items → EqAt A.in1 s y x (e y)) ∧ R (.ok (.ret (.int j s.toks))) { s with toks := s.toks + 1 }) := by
  intro prog w A R s h
  obtain ⟨hp, g, d, tk, os⟩ := s; obtain ⟨hl, he, h⟩ := h
  wp_walk using wpAny_loadPart' hl
  have a1 : ((fun i : Int => if i < 0 then max 0 (i + (items.size : Int)) else i) ((none : Option Int).getD 0)) = ((0 : Nat) : Int) := by simp
  have a2 : ((fun i : Int => if i < 0 then max 0 (i + (items.size : Int)) else i) ((none : Option Int).getD (2 ^ 63 - 1))) = 2 ^ 63 - 1 := by simp
  rw [a1, a2]
  exact ⟨plainId_quiet plain_index_loop _, codeAny_builtin entry_index_loop (by
    rw [Around.under_plainId plain_index_loop _]
    exact index_loopAt l items n x e (2 ^ 63 - 1) j hj hsmall hit _ 0 rfl (Nat.zero_le _) (fun m hm _ h2 => hno m hm h2) prog w A R _ ⟨hl, he, h⟩)⟩
end

section
variable {C : Cx} {A : Around} {s : Shared} {F : Fz} {r : Nat}
open PySem.SeqAt in
theorem none_eq (f : FzOk C F s.heap) (hu : A.units < cLine) {y : Value} {d : V} (ry : Rep F y d) (hd : okNone d = true) : EqAt A s y .none (isNone y) ∧ isNone y = vNone d := by
  cases ry with
  | none => exact ⟨.same _, rfl⟩
  | bool b => exact ⟨.bool_none b, rfl⟩
  | int i t => exact ⟨.int_none i t, rfl⟩
  | str l t => exact ⟨.str_none _ t, rfl⟩
  | tuple ha la => exact ⟨.tuple_none ⟨_, (f.at' _ _ ha).1, rfl, _, rfl⟩ hu, rfl⟩
  | list ha la => exact ⟨.list_none (f.isList ha) hu, rfl⟩
  | raw v => cases hd
theorem RepL.countNone : ∀ {vs : List Value} {ds : List V}, RepL F vs ds → (∀ d ∈ ds, okNone d = true) → vs.countP isNone = ds.countP vNone
  | _, _, .nil, _ => rfl
  | v :: vs, d :: ds, .cons hd r, h => by
    rw [List.countP_cons, List.countP_cons, RepL.countNone r fun d hm => h d (.tail _ hm)]
    have : isNone v = vNone d := by
      have h1 := h _ (.head _)
      cases hd <;> first | rfl | cases h1
    rw [this]
def cntw (d : V) (Q : V → Prop) : Prop :=
  match d with
  | .list ds => ds.length ≤ 1000000 ∧ ds.all okNone = true ∧ Q (.int (ds.countP vNone : Nat))
  | _ => False
def idxw (d : V) (Q : V → Prop) : Prop :=
  match d with
  | .list ds => ds.length ≤ 1000000 ∧ ds.all okNone = true ∧ ∃ j, ds[j]?.map vNone = some true ∧ (∀ i, i < j → ds[i]?.map vNone = some false) ∧ Q (.int (j : Nat))
  | _ => False
theorem cnt_sound {v : Value} {d : V} {Q : V → Prop} (R : Room r A) (I : Inv C s) (f : FzOk C F s.heap) (rv : Rep F v d) (h : cntw d Q) : TrV C A (call (.builtin "list.count") [v, .none]) s F Q := by
  refine tr_of I ?_
  unfold cntw at h
  split at h
  · cases rv with
    | list ha la =>
      rename_i vs _
      obtain ⟨h1, h2, h3⟩ := h
      have hk := fun y hy => List.all_eq_true.mp h2 y hy
      refine call_meets PySem.F.slot_list_count ⟨_, (f.at' _ _ ha).1, rfl⟩ PySem.F.entry_list_count (PySem.F.args_list_count_2 _ _) (list_countAt _ vs.toArray _ .none isNone) ⟨(f.at' _ _ ha).1, fun y hy => ?_, ?_⟩
      · obtain ⟨i, hi⟩ := List.mem_iff_getElem?.mp (by simpa using hy)
        obtain ⟨d, hd, ry⟩ := la.getV i y hi
        exact (none_eq f (by have := R.u; show A.units + 1 < _; omega) ry (hk d (List.mem_of_getElem? hd))).1
      · have e : vs.toArray.toList.countP isNone = _ := la.countNone hk
        dsimp only
        rw [e]
        exact pst_int I f h3
  · exact h.elim
theorem idx_sound {v : Value} {d : V} {Q : V → Prop} (R : Room r A) (I : Inv C s) (f : FzOk C F s.heap) (rv : Rep F v d) (h : idxw d Q) : TrV C A (call (.builtin "list.index") [v, .none]) s F Q := by
  refine tr_of I ?_
  unfold idxw at h
  split at h
  · rename_i ds
    cases rv with
    | list ha la =>
      rename_i vs _
      obtain ⟨h1, h2, j, hj, hno, h3⟩ := h
      have hk := fun y hy => List.all_eq_true.mp h2 y hy
      have hlen := la.length
      have hj' : ∃ d, ds[j]? = some d ∧ vNone d = true := by
        cases e : ds[j]? with
        | none => rw [e] at hj; cases hj
        | some d => rw [e] at hj; exact ⟨d, rfl, by simpa using hj⟩
      obtain ⟨d, hd, hvn⟩ := hj'
      have hjl : j < ds.length := (List.getElem?_eq_some_iff.mp hd).1
      have hjs : j < vs.toArray.size := by rw [List.size_toArray, hlen]; exact hjl
      have val : ∀ i (hi : i < vs.toArray.size), ∃ d, ds[i]? = some d ∧ isNone vs.toArray[i] = vNone d := fun i hi => by
        obtain ⟨d, h1, h2⟩ := la.getV i vs.toArray[i] (by simp)
        exact ⟨d, h1, (none_eq (A := A) f (by have := R.u; omega) h2 (hk d (List.mem_of_getElem? h1))).2⟩
      refine call_meets PySem.F.slot_list_index ⟨_, (f.at' _ _ ha).1, rfl⟩ PySem.F.entry_list_index (PySem.F.args_list_index_2 _ _) (list_indexAt _ vs.toArray _ .none isNone j hjs (by have := h1; omega) ?_ ?_) ⟨(f.at' _ _ ha).1, fun y hy => ?_, pst_int I f h3⟩
      · obtain ⟨d', h4, h5⟩ := val j hjs
        rw [h5]; rw [hd] at h4; cases h4; exact hvn
      · intro m hm hmj
        obtain ⟨d', h4, h5⟩ := val m hm
        have := hno m hmj
        rw [h4] at this
        rw [h5]; simpa using this
      · obtain ⟨i, hi⟩ := List.mem_iff_getElem?.mp (by simpa using hy)
        obtain ⟨d, hd, ry⟩ := la.getV i y hi
        exact (none_eq f (by have := R.u; show A.units + 1 < _; omega) ry (hk d (List.mem_of_getElem? hd))).1
  · exact h.elim

/-! # sorted -/
theorem intsAre : ∀ {vs : List Value} {ns : List Int}, RepL F vs (ns.map V.int) → IntsAre vs ns
  | _, [], h => by cases h; exact .nil
  | _, n :: ns, h => by
    cases h with
    | cons hd r => cases hd with
      | int _ t => exact .cons n t (intsAre r)
theorem ofInts : ∀ {vs : List Value} {ns : List Int}, IntsAre vs ns → RepL F vs (ns.map V.int)
  | _, _, .nil => .nil
  | _, _, .cons n t r => .cons (.int n t) (ofInts r)
def srtw (d : V) (Q : V → Prop) : Prop :=
  match d with
  | .list ds => ∃ ns : List Int, ds = ns.map V.int ∧ ds.length < 64 ∧ ∀ ns' : List Int, ns'.Perm ns → ns'.Pairwise (· ≤ ·) → Q (.list (ns'.map V.int))
  | _ => False
theorem srt_sound {v : Value} {d : V} {Q : V → Prop} (I : Inv C s) (f : FzOk C F s.heap) (rv : Rep F v d) (h : srtw d Q) : TrV C A (call (.builtin "sorted") [v]) s F Q := by
  refine tr_of I ?_
  unfold srtw at h
  split at h
  · cases rv with
    | list ha la =>
      rename_i vs _
      obtain ⟨ns, rfl, h1, h2⟩ := h
      refine sorted_ints (f.isList ha) (intsAre la) (by rw [la.length]; exact h1) fun out ns' a1 a2 a3 hn => ?_
      obtain ⟨e, he⟩ := sortedAll_at s.heap vs out
      have old : ∀ b o, s.heap.get? b = some o → (sortedAll s.heap vs out).get? b = some o := fun b o hb => sortedAll_old hb
      have hnew : s.heap.get? (s.heap.objs.size + 1) = none := by
        cases hq : s.heap.get? (s.heap.objs.size + 1) with
        | none => rfl
        | some o => exact absurd (Heap.lt_size hq) (Nat.not_lt.mpr (Nat.le_succ _))
      have B : Bk C s F { s with heap := sortedAll s.heap vs out } F := (Bk.start I f).upd (S := fun _ => False) (fun _ h => h.elim) (fun _ _ h => h.elim) (fun b o _ e => old b o e) rfl rfl hn
      have he' : (sortedAll s.heap vs out).get? (s.heap.objs.size + 1) = some (lstObj out.toList e) := he
      exact (B.freeze hnew he').toPst ⟨_, .list (.inr ⟨rfl, rfl⟩) (ofInts a1), h2 ns' a2 a3⟩
  · exact h.elim
end

/-! # sorted, count(None), index(None) -/
section
variable {C : Cx} {vn : Nm} {r : Nat} {kd : Kd} {A : Around} {s s₁ s' : Shared} {F F' : Fz} {env : Env} {ρ : Ρ}
def w_srt (a : Wp) (ρ : Ρ) (Q : V → Prop) : Prop := a false ρ fun x => srtw x Q
def w_cnt (a : Wp) (ρ : Ρ) (Q : V → Prop) : Prop := a false ρ fun x => cntw x Q
def w_idx (a : Wp) (ρ : Ρ) (Q : V → Prop) : Prop := a false ρ fun x => idxw x Q
theorem boot_sorted : bootBuiltins "sorted" = some (.builtin "sorted") := by decide +kernel
theorem s_sorted (O : Ok C vn) {n : Nat} {y : Expr} {p pos : Pos} {a : Wp} (hn : vn.vn n = "sorted") (hx : kd.lookup n = some .globalImplicit) (h : SX C vn r kd y a) : SX C vn r kd (.Call (.Name (vn.vn n) p) [y] [] pos) (pw (w_srt a)) :=
  s_bi O (id := "sorted") hn (by decide +kernel) boot_sorted (by decide +kernel) hx h fun _ I f rv hd => srt_sound I f rv hd
/-- a method of a list, None its argument -/
theorem s_meth {nm : Str} {id : String} {w : V → (V → Prop) → Prop} {y : Expr} {n : Nat} {p pos q : Pos} {a : Wp} (slot : Slot "list" nm id) (hty : typeOf (.builtin id) = pure (.type "method_descriptor")) (hL : ∀ {d Q}, w d Q → ∃ ds, d = .list ds)
    (hs : ∀ {A s F v d Q}, Room r A → Inv C s → FzOk C F s.heap → Rep F v d → w d Q → TrV C A (call (.builtin id) [v, .none]) s F Q) (h : SX C vn r kd y a) (hb : baseOk y = true) (hline : (p.endLine == pos.line) = true) :
    SX C vn r kd (.Call (.Attribute y nm p) [.Constant .none n q] [] pos) (pw fun ρ Q => a false ρ fun x => w x Q) := .plain rfl (fun {A s F env ρ Q} ev hw => by
  refine wpAny_Call_method (T := "list") (id := id) (base_eq hb) (by rfl) hline PySem.F.plainAttrs_list slot hty ((h.e ev hw).after fun v s₁ F₁ I₁ k₁ fx ⟨d, rv, hd⟩ => ?_)
  obtain ⟨ds, rfl⟩ := hL hd
  obtain ⟨l, vs, k, rfl, hl, _⟩ := rv.list_inv
  refine ⟨(fx.ok.isList hl).typeIs, fun b e => by cases e; exact ⟨_, (fx.ok.at' _ _ hl).1, rfl⟩, ?_⟩
  show wpAny _ A (callWith pos (.builtin id) [.ref l] [(false, eval (.Constant .none n q) env)] []) _ _ s₁
  exact Calls.callWith_builtin rfl (Calls.evalArgs_plain (Calls.spliced_cons (wpAny_Constant_none (Calls.spliced_nil (up k₁ fx (hs ev.R I₁ fx.ok rv hd))))))) fun _ => rfl
theorem s_cnt {y : Expr} {n : Nat} {p pos q : Pos} {a : Wp} (h : SX C vn r kd y a) (hb : baseOk y = true) (hline : (p.endLine == pos.line) = true) : SX C vn r kd (.Call (.Attribute y "count" p) [.Constant .none n q] [] pos) (pw (w_cnt a)) :=
  s_meth PySem.F.slot_list_count PySem.F.type_list_count (fun {d Q} h => by cases d <;> first | exact ⟨_, rfl⟩ | exact h.elim) (fun R I f rv hd => cnt_sound R I f rv hd) h hb hline
theorem s_idx {y : Expr} {n : Nat} {p pos q : Pos} {a : Wp} (h : SX C vn r kd y a) (hb : baseOk y = true) (hline : (p.endLine == pos.line) = true) : SX C vn r kd (.Call (.Attribute y "index" p) [.Constant .none n q] [] pos) (pw (w_idx a)) :=
  s_meth PySem.F.slot_list_index PySem.F.type_list_index (fun {d Q} h => by cases d <;> first | exact ⟨_, rfl⟩ | exact h.elim) (fun R I f rv hd => idx_sound R I f rv hd) h hb hline
end
abbrev PW := PySem.Challenge.pw_mq0282_03
def noEc (_ : Env) : Prop := True
def l_S_IMODE : List String := ["mode"]
theorem f_S_IMODE {C : Cx} {a : Addr} (O : Ok C (Nn l_S_IMODE noEc)) (D : FnD C a ([0].map (nth l_S_IMODE)) (fnSc PW 2) (fnB PW 2)) : Fn C a 1 (fun ds Q => ∃ i, ds = [.int i] ∧ Q (.int (Builtin.bitAnd i 4095))) :=
  Fn.of_body (vn := Nn l_S_IMODE noEc) (kd := [(0, .local)]) (r := 0) (ps := [0]) D
    (.cons (s_ret (s_bin (s_x O 0) s_int))
    .nil)
    (by decide +kernel) (by decide +kernel) rfl (by decide) (fun _ _ _ _ _ => trivial) fun ds Q ⟨i, e, h⟩ => by subst e; exact ⟨rfl, h⟩
def l_S_IFMT : List String := ["mode"]
theorem f_S_IFMT {C : Cx} {a : Addr} (O : Ok C (Nn l_S_IFMT noEc)) (D : FnD C a ([0].map (nth l_S_IFMT)) (fnSc PW 3) (fnB PW 3)) : Fn C a 1 (fun ds Q => ∃ i, ds = [.int i] ∧ Q (.int (Builtin.bitAnd i 61440))) :=
  Fn.of_body (vn := Nn l_S_IFMT noEc) (kd := [(0, .local)]) (r := 0) (ps := [0]) D
    (.cons (s_ret (s_bin (s_x O 0) s_int))
    .nil)
    (by decide +kernel) (by decide +kernel) rfl (by decide) (fun _ _ _ _ _ => trivial) fun ds Q ⟨i, e, h⟩ => by subst e; exact ⟨rfl, h⟩

/-! # filemode -/
def sg (c : Nat) : V := .str [c]
def fmTab : List (List (Int × Nat)) := [[(40960, 108), (49152, 115), (32768, 45), (24576, 98), (16384, 100), (8192, 99), (4096, 112)], [(256, 114)], [(128, 119)], [(2112, 115), (2048, 83), (64, 120)], [(32, 114)], [(16, 119)], [(1032, 115), (1024, 83), (8, 120)], [(4, 114)], [(2, 119)], [(513, 116), (512, 84), (1, 120)]]
def tabV (t : List (Int × Nat)) : V := .tuple (t.map fun p => .tuple [.int p.1, .str [p.2]])
/-- the test of a place -/
def fmT (m : Int) (i : Nat) (b : Int) : Bool := match i with | 0 => decide (Builtin.bitAnd m 61440 = b) | _ => decide (Builtin.bitAnd m b = b)
def fmD (i : Nat) : Nat := match i with | 0 => 63 | _ => 45
def fmP (m : Int) (i : Nat) (t : List (Int × Nat)) : Nat := match t.find? (fun p => fmT m i p.1) with | some p => p.2 | none => fmD i
def fmGo (m : Int) : Nat → List (List (Int × Nat)) → List Nat
  | _, [] => []
  | i, t :: ts => fmP m i t :: fmGo m (i + 1) ts
def fmode (m : Int) : List Nat := fmGo m 0 fmTab
theorem strsOf_map : ∀ ls : List (List Nat), strsOf (ls.map .str) = some ls
  | [] => rfl
  | l :: ls => by show (strsOf (ls.map .str)).map (l :: ·) = _; rw [strsOf_map ls]; rfl
theorem joinL_nil : ∀ ls : List (List Nat), joinL [] ls = ls.flatten
  | [] => rfl
  | [x] => by simp [joinL]
  | x :: y :: r => by rw [joinL, joinL_nil (y :: r)]; simp
theorem joinL_one (l : List Nat) : joinL [] (l.map fun c => [c]) = l := by
  rw [joinL_nil]
  induction l with
  | nil => rfl
  | cons c l ih => simpa using ih
theorem fmGo_len (m : Int) : ∀ (i : Nat) (ts : List (List (Int × Nat))), (fmGo m i ts).length = ts.length
  | _, [] => rfl
  | i, t :: ts => congrArg Nat.succ (fmGo_len m (i + 1) ts)
theorem fmGo_get (m : Int) : ∀ (i j : Nat) (ts : List (List (Int × Nat))) (t : List (Int × Nat)), ts[j]? = some t → (fmGo m i ts)[j]? = some (fmP m (i + j) t)
  | i, 0, t' :: ts, t, h => by cases h; rfl
  | i, j + 1, t' :: ts, t, h => by rw [show i + (j + 1) = (i + 1) + j by omega]; exact fmGo_get m (i + 1) j ts t h
theorem find_at {α : Type} {p : α → Bool} : ∀ {l : List α} {j : Nat} {a : α}, l[j]? = some a → p a = true → (∀ q ∈ l.take j, p q = false) → l.find? p = some a
  | x :: l, 0, a, h, hp, _ => by cases h; rw [List.find?_cons, hp]
  | x :: l, j + 1, a, h, hp, hn => by rw [List.find?_cons, hn x (.head _)]; exact find_at (l := l) (j := j) h hp fun q hq => hn q (.tail _ hq)
theorem find_no {α : Type} {p : α → Bool} : ∀ {l : List α}, (∀ q ∈ l, p q = false) → l.find? p = none
  | [], _ => rfl
  | x :: l, hn => by rw [List.find?_cons, hn x (.head _)]; exact find_no fun q hq => hn q (.tail _ hq)
theorem take_snoc {α : Type} {l : List α} {j : Nat} {a : α} (h : l[j]? = some a) : l.take (j + 1) = l.take j ++ [a] := by rw [List.take_add_one, h]; rfl
def l_filemode : List String := ["mode", "perm", "index", "table", "enumerate", "_filemode_table", "bit", "char", "S_IFMT"]
theorem f_filemode {C : Cx} {a : Addr} {qf : Nat} (hf_S_IFMT : FnAt C "S_IFMT" 1 (fun ds Q => ∃ i, ds = [.int i] ∧ Q (.int (Builtin.bitAnd i 61440)))) (hg__filemode_table : Gl C "_filemode_table" (.tuple (fmTab.map tabV))) (O : Ok C (Nn l_filemode noEc)) (D : FnD C a ([0].map (nth l_filemode)) (fnSc PW 24) (fnB PW 24)) : Fn C a 2 (fun ds Q => ∃ m, ds = [.int m] ∧ Q (.str (fmode m))) :=
  Fn.of_body (vn := Nn l_filemode noEc) (kd := [(0, .local), (1, .local), (2, .local), (3, .local), (4, .globalImplicit), (5, .globalImplicit), (6, .local), (7, .local), (8, .globalImplicit)]) (r := 1) (ps := [0]) D
    (.cons (s_asgL 1 .nil rfl rfl)
    (.cons (s_forE O 2 3 (e := 4) rfl rfl (.two rfl rfl (by decide +kernel)) (s_g O 5 hg__filemode_table rfl) (.cons (s_for [6, 7] (s_v (s_x O 3)) (.two rfl rfl (by decide +kernel)) (.cons (s_ifs (s_cmp (s_x O 2) s_int) (.cons (s_ifs (s_cmp (s_call O 8 hf_S_IFMT rfl (.cons (s_x O 0) .nil)) (s_x O 6)) (.cons (s_app O 1 (s_x O 7) rfl)
    (.cons s_brk
    .nil)) .nil)
    .nil) (.cons (s_ifs (s_cmp (s_bin (s_x O 0) (s_x O 6)) (s_x O 6)) (.cons (s_app O 1 (s_x O 7) rfl)
    (.cons s_brk
    .nil)) .nil)
    .nil))
    (.keep [0, 1, 2, 3] .nil)) (.cons (s_ifs (s_cmp (s_x O 2) s_int) (.cons (s_app O 1 (s_str [63] (by decide +kernel)) rfl)
    .nil) (.cons (s_app O 1 (s_str [45] (by decide +kernel)) rfl)
    .nil))
    .nil))
    (.keep [0, 1] .nil)))
    (.frz 1 (.cons (s_ret (s_join [] (by decide +kernel) (s_x O 1) rfl))
    .nil))))
    (by decide +kernel) (by decide +kernel) rfl (by decide) (fun _ _ _ _ _ => trivial) fun ds Q ⟨m, e, hQ⟩ => by
      subst e
      refine ⟨rfl, rfl, fun i σ => σ = [(0, .val (.int m)), (1, .own (((fmode m).take i).map sg))], rfl, ?_, ?_⟩
      · intro i d σ hd hσ
        subst hσ
        rw [List.getElem?_map] at hd
        obtain ⟨t, ht, rfl⟩ := Option.map_eq_some_iff.mp hd
        have hi : i < 10 := (List.getElem?_eq_some_iff.mp ht).1
        have hg : (fmode m)[i]? = some (fmP m i t) := by have := fmGo_get m 0 i fmTab t ht; rwa [Nat.zero_add] at this
        have hln : (((fmode m).take i).map sg).length ≤ 1000000 := by rw [List.length_map, List.length_take]; omega
        have hln2 : (t.map fun p => V.tuple [.int p.1, .str [p.2]]).length ≤ 1000000 := by
          have : ∀ t ∈ fmTab, t.length ≤ 7 := by decide
          rw [List.length_map]; exact Nat.le_trans (this t (List.mem_of_getElem? ht)) (by decide)
        have fin : ∀ c, fmP m i t = c → [(0, LV.val (.int m)), (1, .own (((fmode m).take i).map sg ++ [.str [c]]))] = [(0, .val (.int m)), (1, .own (((fmode m).take (i + 1)).map sg))] := by
          rintro c rfl
          rw [take_snoc hg, List.map_append]; rfl
        refine ⟨hln2, fun j σ => σ = [(0, .val (.int m)), (1, .own (((fmode m).take i).map sg)), (2, .val (.int i)), (3, .val (tabV t))] ∧ ∀ p ∈ t.take j, fmT m i p.1 = false, ⟨rfl, fun p h => nomatch h⟩, ?_, ?_⟩
        · rintro j d σ hd ⟨rfl, hno⟩
          rw [List.getElem?_map] at hd
          obtain ⟨p, hp, rfl⟩ := Option.map_eq_some_iff.mp hd
          have hyes : fmT m i p.1 = true → fmP m i t = p.2 := fun h => by
            unfold fmP; rw [find_at hp h hno]
          have hstep : fmT m i p.1 = false → ∀ q ∈ t.take (j + 1), fmT m i q.1 = false := fun h q hq => by
            rw [take_snoc hp] at hq
            rcases List.mem_append.mp hq with hq | hq
            · exact hno q hq
            · rw [List.mem_singleton.mp hq]; exact h
          conv => whnf
          refine ⟨fun h0 => ?_, fun h0 => ?_⟩
          · obtain rfl : i = 0 := by have : (i : Int) = 0 := of_decide_eq_true h0; omega
            conv => whnf
            refine ⟨_, rfl, ?_⟩
            conv => whnf
            refine ⟨fun h => ⟨hln, fin _ (hyes h)⟩, fun h => ⟨rfl, hstep h⟩⟩
          · have hi0 : i ≠ 0 := fun e => absurd (show (i : Int) = 0 by omega) (of_decide_eq_false h0)
            have hT : ∀ b, fmT m i b = decide (Builtin.bitAnd m b = b) := fun b => by cases i with | zero => exact absurd rfl hi0 | succ _ => rfl
            rw [hT] at hyes hstep
            conv => whnf
            exact ⟨fun h => ⟨hln, fin _ (hyes h)⟩, fun h => ⟨rfl, hstep h⟩⟩
        · rintro σ ⟨rfl, hno⟩
          rw [List.length_map, List.take_length] at hno
          have hP : fmP m i t = fmD i := by unfold fmP; rw [find_no hno]
          conv => whnf
          refine ⟨fun h0 => ?_, fun h0 => ?_⟩
          · obtain rfl : i = 0 := by have : (i : Int) = 0 := of_decide_eq_true h0; omega
            exact ⟨hln, fin _ hP⟩
          · have hD : fmD i = 45 := by cases i with | zero => exact absurd (show (((0 : Nat) : Int) = 0) from rfl) (of_decide_eq_false h0) | succ _ => rfl
            exact ⟨hln, fin _ (hP.trans hD)⟩
      · rintro σ rfl
        have hl : (fmode m).length = 10 := fmGo_len m 0 fmTab
        have ht : (fmode m).take (fmTab.map tabV).length = fmode m := List.take_of_length_le (by rw [hl]; exact Nat.le_refl _)
        rw [ht]
        refine ⟨by decide, (fmode m).map fun c => [c], ?_, ?_, ?_⟩
        · have := strsOf_map ((fmode m).map fun c => [c])
          rwa [List.map_map] at this
        · rw [List.map_map, List.length_map, hl]
          have : ∀ l : List Nat, (l.map ((fun x => List.length x) ∘ fun c => [c])).sum = l.length := fun l => by induction l with | nil => rfl | cons c l ih => rw [List.map_cons, List.sum_cons, ih, List.length_cons]; exact Nat.add_comm _ _
          rw [this, hl]; decide
        · rw [joinL_one]; exact hQ

/-! # _law_figure, _law_pattern -/
theorem rangeSize1 (a b : Int) : (Builtin.Range.rangeSize a b 1).toNat = (b - a).toNat := by
  unfold Builtin.Range.rangeSize
  rw [if_pos (by decide)]
  split
  · rw [Int.ediv_one]; omega
  · omega
theorem rng_len (a b : Int) : ((rangeL a b 1).map V.int).length = (b - a).toNat := by rw [List.length_map]; unfold rangeL; rw [List.length_map, List.length_range, rangeSize1]
theorem rng_get {a : Nat} {b : Int} {i : Nat} {d : V} (h : ((rangeL a b 1).map V.int)[i]? = some d) : d = .int ((a + i : Nat) : Int) ∧ ((a + i : Nat) : Int) < b := by
  have hl := (List.getElem?_eq_some_iff.mp h).1
  rw [rng_len] at hl
  unfold rangeL at h
  rw [List.getElem?_map, List.getElem?_map, rangeSize1, List.getElem?_range hl] at h
  cases h
  exact ⟨congrArg V.int (by show (a : Int) + (i : Int) * 1 = _; omega), by omega⟩
def fig (p : Nat) (r : Int) : Int :=
  let f := (r.fdiv (2 ^ ((9 : Int) - p).toNat)).fmod 2
  if (p : Int).fmod 3 = 0 then f + (r.fdiv (2 ^ ((12 : Int) - (p : Int).fdiv 3).toNat)).fmod 2 * 2 else f
theorem pow_small {n : Nat} (h : n ≤ 12) : ((2 : Int) ^ n ≠ 0) ∧ ((2 : Int) ^ n).natAbs < 2 ^ 29 := by
  refine ⟨Int.ne_of_gt (Int.pow_pos (by decide)), ?_⟩
  rw [Int.natAbs_pow]
  exact Nat.lt_of_le_of_lt (Nat.pow_le_pow_right (by decide) h) (by decide)
abbrev FIG : List V → (V → Prop) → Prop := fun ds Q => ∃ (p : Nat) (r : Int), ds = [.int p, .int r] ∧ 1 ≤ p ∧ p ≤ 9 ∧ Q (.int (fig p r))
def l_figure : List String := ["place", "rights", "figure"]
theorem f_figure {C : Cx} {a : Addr} (O : Ok C (Nn l_figure noEc)) (D : FnD C a ([0, 1].map (nth l_figure)) (fnSc PW 36) (fnB PW 36)) : Fn C a 1 (FIG) :=
  Fn.of_body (vn := Nn l_figure noEc) (kd := [(0, .local), (1, .local), (2, .local)]) (r := 0) (ps := [0, 1]) D
    (.cons (s_asg 2 (s_bin (s_bin (s_x O 1) (s_bin s_int (s_bin s_int (s_x O 0)))) s_int) rfl rfl)
    (.cons (s_ifs (s_cmp (s_bin (s_x O 0) s_int) s_int) (.cons (s_aug 2 (s_bin (s_bin (s_bin (s_x O 1) (s_bin s_int (s_bin s_int (s_bin (s_x O 0) s_int)))) s_int) s_int))
    .nil) .nil)
    (.cons (s_ret (s_x O 2))
    .nil)))
    (by decide +kernel) (by decide +kernel) rfl (by decide) (fun _ _ _ _ _ => trivial) fun ds Q ⟨p, r, e, h1, h9, hQ⟩ => by
      subst e
      have p1 := pow_small (n := ((9 : Int) - p).toNat) (by omega)
      refine ⟨rfl, ?_⟩
      conv => whnf
      refine ⟨by omega, by omega, by decide, ?_⟩
      conv => whnf
      refine ⟨p1.1, p1.2, ?_⟩
      conv => whnf
      refine ⟨by decide, ?_⟩
      conv => whnf
      refine ⟨by decide, ?_⟩
      conv => whnf
      refine ⟨fun h => ?_, fun h => ?_⟩
      · have h : (p : Int).fmod 3 = 0 := of_decide_eq_true h
        have hb : 0 ≤ (p : Int).fdiv 3 := Int.fdiv_nonneg (by omega) (by decide)
        have p2 := pow_small (n := ((12 : Int) - (p : Int).fdiv 3).toNat) (by omega)
        conv => whnf
        refine ⟨rfl, ?_⟩
        conv => whnf
        refine ⟨by decide, by decide, ?_⟩
        conv => whnf
        refine ⟨?_, by omega, by decide, ?_⟩
        · rw [Int.fdiv_eq_ediv_of_nonneg _ (by decide)]; omega
        conv => whnf
        refine ⟨p2.1, p2.2, ?_⟩
        conv => whnf
        refine ⟨by decide, ?_⟩
        conv => whnf
        refine ⟨.inr (by decide), rfl, ?_⟩
        conv => whnf
        unfold fig at hQ
        rw [if_pos h] at hQ
        exact hQ
      · have h : ¬ (p : Int).fmod 3 = 0 := of_decide_eq_false h
        unfold fig at hQ
        rw [if_neg h] at hQ
        exact hQ

theorem ixL_nat (a n : Nat) : ixL (a : Int) n = min a n := by unfold ixL; rw [if_neg (by omega)]; omega
theorem sl_to {α : Type} (l : List α) (a : Nat) : sliceL l none (some (a : Int)) = l.take a := by
  unfold sliceL; dsimp only; rw [ixL_nat, List.drop_zero, Nat.sub_zero, List.take_eq_take_iff]; omega
theorem sl_from {α : Type} (l : List α) (a : Nat) : sliceL l (some (a : Int)) none = l.drop a := by
  unfold sliceL; dsimp only; rw [ixL_nat]
  by_cases h : a ≤ l.length
  · rw [Nat.min_eq_left h, List.take_of_length_le (by rw [List.length_drop]; exact Nat.le_refl _)]
  · rw [Nat.min_eq_right (by omega), List.drop_of_length_le (Nat.le_refl _), List.drop_of_length_le (by omega), List.take_nil]
def sgn (p : Nat) : List Nat := if p = 9 then [45, 120, 84, 116] else if p % 3 = 0 then [45, 120, 83, 115] else if p % 3 = 1 then [45, 114] else [45, 119]
def wnt (p : Nat) (own shared : Int) : List Nat := (List.range (sgn p).length).filterMap fun (f : Nat) => if Builtin.bitAnd (Builtin.bitXor (f : Int) own) shared = 0 then some ((sgn p).getD f 0) else none
def wn (p : Nat) (low size : Int) : List Nat := let w := wnt p (fig p low) (fig p (4096 - size)); if (low.fdiv size).fmod 2 = 1 then w.reverse else w
def itw (n : Nat) (w : List Nat) : List Nat := if w.length = n then [63] else if w.length = 1 then w else [91] ++ w ++ [93]
def itm (low size : Int) (p : Nat) : List Nat := itw (sgn p).length (wn p low size)
def rowT (low size : Int) : List (List Nat) := [63] :: (List.range' 1 9).map (itm low size)
def stP (low size : Int) : Nat := ((low + size).fmod 11).toNat
def patL (low size : Int) (e : Nat) : List Nat := ((rowT low size).take (stP low size)).flatten ++ [42] ++ ((rowT low size).drop e).flatten
abbrev PAT : List V → (V → Prop) → Prop := fun ds Q => ∃ low size, ds = [.int low, .int size] ∧ 0 < size ∧ size ≤ 4096 ∧ ∀ e, stP low size ≤ e → e ≤ 10 → (∀ k, stP low size ≤ k → k < e → (rowT low size)[k]? = some [63]) → Q (.str (patL low size e))
theorem sgn_len (p : Nat) : (sgn p).length ≤ 4 ∧ 2 ≤ (sgn p).length := by unfold sgn; split <;> (try split) <;> (try split) <;> exact ⟨by decide, by decide⟩
theorem wn_len (p : Nat) (low size : Int) : (wn p low size).length ≤ 4 := by
  have : ∀ o s, (wnt p o s).length ≤ 4 := fun o s => Nat.le_trans (List.length_filterMap_le _ _) (by rw [List.length_range]; exact (sgn_len p).1)
  unfold wn
  dsimp only
  split
  · rw [List.length_reverse]; exact this _ _
  · exact this _ _
theorem itm_len (low size : Int) (p : Nat) : (itm low size p).length ≤ 6 := by
  have := wn_len p low size
  unfold itm itw
  split
  · decide
  · split
    · omega
    · simp only [List.length_append, List.length_cons, List.length_nil]; omega
theorem rowT_len (low size : Int) : (rowT low size).length = 10 := by unfold rowT; rw [List.length_cons, List.length_map, List.length_range']
theorem rowT_get (low size : Int) {i : Nat} (h : i < 9) : (rowT low size)[i + 1]? = some (itm low size (i + 1)) := by
  unfold rowT
  rw [List.getElem?_cons_succ, List.getElem?_map, List.getElem?_range' (by omega)]
  rw [Nat.add_comm i 1, Nat.one_mul]; rfl
theorem rowT_all (low size : Int) : ∀ l ∈ rowT low size, l.length ≤ 6 := fun l h => by
  rcases List.mem_cons.mp h with rfl | h
  · decide
  · obtain ⟨p, _, rfl⟩ := List.mem_map.mp h; exact itm_len low size p
theorem sum_le6 : ∀ ls : List (List Nat), (∀ l ∈ ls, l.length ≤ 6) → (ls.map (·.length)).sum ≤ 6 * ls.length
  | [], _ => Nat.le_refl _
  | l :: ls, h => by
    have h1 := h l (.head _)
    have h2 := sum_le6 ls fun l hl => h l (.tail _ hl)
    rw [List.map_cons, List.sum_cons, List.length_cons]; omega
theorem sok_le {l : List Nat} (h : ∀ c ∈ l, c < 0x110000) : sok l = true := List.all_eq_true.mpr fun c hc => decide_eq_true (h c hc)
theorem sgn_sok (p : Nat) : ∀ c ∈ sgn p, c < 128 := by unfold sgn; split <;> (try split) <;> (try split) <;> decide
theorem wn_sok (p : Nat) (low size : Int) : ∀ c ∈ wn p low size, c < 128 := by
  have : ∀ o s, ∀ c ∈ wnt p o s, c < 128 := fun o s c hc => by
    obtain ⟨f, hf, e⟩ := List.mem_filterMap.mp hc
    split at e
    · cases e
      have := List.mem_range.mp hf
      rw [List.getD_eq_getElem?_getD, List.getElem?_eq_getElem this]
      exact sgn_sok p _ (List.getElem_mem this)
    · cases e
  unfold wn
  dsimp only
  split
  · exact fun c hc => this _ _ c (List.mem_reverse.mp hc)
  · exact this _ _
theorem itm_sok (low size : Int) (p : Nat) : sok (itm low size p) = true := by
  have := wn_sok p low size
  refine sok_le fun c hc => ?_
  unfold itm itw at hc
  split at hc
  · rw [List.mem_singleton.mp hc]; decide
  · split at hc
    · exact Nat.lt_trans (this c hc) (by decide)
    · rcases List.mem_append.mp hc with hc | hc
      · rcases List.mem_append.mp hc with hc | hc
        · rw [List.mem_singleton.mp hc]; decide
        · exact Nat.lt_trans (this c hc) (by decide)
      · rw [List.mem_singleton.mp hc]; decide
theorem rowT_sok (low size : Int) : ∀ l ∈ rowT low size, sok l = true := fun l h => by
  rcases List.mem_cons.mp h with rfl | h
  · decide
  · obtain ⟨p, _, rfl⟩ := List.mem_map.mp h; exact itm_sok low size p
theorem rangeL0 (n : Nat) : (rangeL 0 n 1).map V.int = (List.range n).map fun f => V.int (f : Nat) := by
  unfold rangeL
  rw [rangeSize1, List.map_map, show ((n : Int) - 0).toNat = n by omega]
  exact List.map_congr_left fun i _ => congrArg V.int (by show (0 : Int) + (i : Int) * 1 = _; omega)
theorem ixOf_nat {i n : Nat} (h : i < n) : ixOf (i : Int) n = some i := by unfold ixOf; rw [if_pos (by omega), if_pos (by omega)]; rfl

def wntF (p : Nat) (own shared : Int) (d : V) : Option V := match d with
  | .int i => if Builtin.bitAnd (Builtin.bitXor i own) shared = 0 then some (.str [(sgn p).getD i.toNat 0]) else none
  | _ => none
theorem wnt_map (p : Nat) (own shared : Int) : ((rangeL 0 (sgn p).length 1).map V.int).filterMap (wntF p own shared) = (wnt p own shared).map sg := by
  rw [rangeL0, List.filterMap_map]
  unfold wnt
  rw [List.map_filterMap]
  congr 1
  funext f
  show (if Builtin.bitAnd (Builtin.bitXor (f : Int) own) shared = 0 then some (V.str [(sgn p).getD (f : Int).toNat 0]) else none) = _
  split
  · rfl
  · rfl
def l_pattern : List String := ["low", "size", "row", "range", "place", "signs", "own", "shared", "_law_figure", "wanted", "len", "f", "start", "end"]
theorem f_pattern {C : Cx} {a : Addr} (hf__law_figure : FnAt C "_law_figure" 1 FIG) (O : Ok C (Nn l_pattern noEc)) (D : FnD C a ([0, 1].map (nth l_pattern)) (fnSc PW 37) (fnB PW 37)) : Fn C a 2 (PAT) :=
  Fn.of_body (vn := Nn l_pattern noEc) (kd := [(0, .local), (1, .local), (2, .local), (3, .globalImplicit), (4, .local), (5, .cell), (6, .cell), (7, .cell), (8, .globalImplicit), (9, .local), (10, .globalImplicit), (12, .local), (13, .local)]) (r := 1) (ps := [0, 1]) D
    (.cons (s_asgL 2 (.cons (s_str [63] (by decide +kernel)) .nil) rfl rfl)
    (.cons (s_for [4] (s_r2 O (n := 3) rfl rfl s_int s_int) (.one rfl) (.mid (s_asg 5 (s_item (s_tup (.cons (s_if (s_cmp (s_x O 4) s_int) (s_str [45, 120, 84, 116] (by decide +kernel)) (s_str [45, 120, 83, 115] (by decide +kernel))) (.cons (s_str [45, 114] (by decide +kernel)) (.cons (s_str [45, 119] (by decide +kernel)) .nil))) rfl) (s_bin (s_x O 4) s_int)) rfl rfl)
    (.cons (s_twoC 6 7 (s_call O 8 hf__law_figure rfl (.cons (s_x O 4) (.cons (s_x O 0) .nil))) (s_call O 8 hf__law_figure rfl (.cons (s_x O 4) (.cons (s_bin s_int (s_x O 1)) .nil))) (.two rfl rfl (by decide +kernel)) (.inl rfl))
    (.cons (s_asgC O 9 [11] [6, 7, 5] [(5, .free), (6, .free), (7, .free), (11, .local)] (s_r1 O (n := 3) rfl rfl (s_len O (n := 10) rfl rfl (s_x O 5))) (.one rfl) (by decide +kernel) (.some (s_cmp (s_bin (s_bin (s_x O 11) (s_x O 6)) (s_x O 7)) s_int)) (s_item (s_x O 5) (s_x O 11)) rfl rfl (by decide +kernel))
    (.mid (s_ifs (s_cmp (s_bin (s_bin (s_x O 0) (s_x O 1)) s_int) s_int) (.cons (s_rev O 9 rfl)
    .nil) .nil)
    (.frz 9 (.cons (s_ifs (s_cmp (s_len O (n := 10) rfl rfl (s_x O 9)) (s_len O (n := 10) rfl rfl (s_x O 5))) (.cons (s_app O 2 (s_str [63] (by decide +kernel)) rfl)
    .nil) (.cons (s_ifs (s_cmp (s_len O (n := 10) rfl rfl (s_x O 9)) s_int) (.cons (s_app O 2 (s_item (s_x O 9) s_int) rfl)
    .nil) (.cons (s_app O 2 (s_bin (s_bin (s_str [91] (by decide +kernel)) (s_join [] (by decide +kernel) (s_x O 9) rfl)) (s_str [93] (by decide +kernel))) rfl)
    .nil))
    .nil))
    (.keep [0, 1, 2] .nil))))))) .nil)
    (.cons (s_asg 12 (s_bin (s_bin (s_x O 0) (s_x O 1)) s_int) rfl rfl)
    (.cons (s_asg 13 (s_x O 12) rfl rfl)
    (.cons (s_while (s_and (.cons (s_cmp (s_x O 13) s_int) (.cons (s_cmp (s_item (s_x O 2) (s_x O 13)) (s_str [63] (by decide +kernel))) .nil))) (.cons (s_aug 13 s_int)
    .nil))
    (.frz 2 (.cons (s_ret (s_bin (s_bin (s_join [] (by decide +kernel) (s_sl (s_x O 2) s_no (s_at (s_x O 12))) rfl) (s_str [42] (by decide +kernel))) (s_join [] (by decide +kernel) (s_sl (s_x O 2) (s_at (s_x O 13)) s_no) rfl)))
    .nil)))))))
    (by decide +kernel) (by decide +kernel) rfl (by decide) (fun _ _ _ _ _ => trivial) fun ds Q ⟨low, size, e, hs0, hs1, hQ⟩ => by
      subst e
      have hl := rowT_len low size
      have tk : ∀ k, (((rowT low size).take k).map V.str).length ≤ 1000000 := fun k => by rw [List.length_map, List.length_take]; omega
      refine ⟨rfl, rfl, by decide, by decide, by decide, by decide, by decide, fun i σ => σ = [(0, .val (.int low)), (1, .val (.int size)), (2, .own (((rowT low size).take (i + 1)).map .str))], rfl, ?_, ?_⟩
      · rintro i d σ hd rfl
        obtain ⟨rfl, hi⟩ := rng_get (a := 1) hd
        have hg := fun h => rowT_get low size (i := i) h
        generalize hp : 1 + i = p at hi
        have hi9 : i < 9 := by omega
        rw [show i + 1 = p by omega] at hg
        have hg := hg hi9
        have fin : ∀ x, itm low size p = x → [(0, LV.val (.int low)), (1, .val (.int size)), (2, .own (((rowT low size).take (i + 1)).map .str ++ [.str x]))] = [(0, .val (.int low)), (1, .val (.int size)), (2, .own (((rowT low size).take (i + 1 + 1)).map .str))] := by
          rintro x rfl
          rw [take_snoc (j := i + 1) (rowT_get low size hi9), List.map_append, show i + 1 = p by omega]; rfl
        refine ⟨fun σ => σ = [(0, .val (.int low)), (1, .val (.int size)), (2, .own (((rowT low size).take (i + 1)).map .str)), (4, .val (.int p)), (5, .val (.str (sgn p)))], ?_, ?_⟩
        · have e3 : (p : Int).fmod 3 = ((p % 3 : Nat) : Int) := by rw [Int.fmod_eq_emod_of_nonneg _ (by decide)]; omega
          have h3 : p % 3 < 3 := Nat.mod_lt _ (by decide)
          conv => whnf
          refine ⟨fun h9 => ?_, fun h9 => ?_⟩
          · obtain rfl : p = 9 := by have : (p : Int) = 9 := of_decide_eq_true h9; omega
            exact ⟨by decide, by decide, 0, _, rfl, rfl, rfl⟩
          · have h9 : p ≠ 9 := fun h => absurd (show (p : Int) = 9 by omega) (of_decide_eq_false h9)
            refine ⟨by decide, by decide, p % 3, .str (sgn p), by rw [e3]; exact ixOf_nat h3, ?_, rfl⟩
            unfold sgn
            rw [if_neg h9]
            generalize p % 3 = q at h3
            match q, h3 with
            | 0, _ => rfl
            | 1, _ => rfl
            | 2, _ => rfl
        · rintro σ rfl
          have hsl := sgn_len p
          have hwl := wn_len p low size
          conv => whnf
          refine ⟨p, low, rfl, by omega, by omega, ?_⟩
          conv => whnf
          refine ⟨p, 4096 - size, rfl, by omega, by omega, ?_⟩
          conv => whnf
          refine ⟨_, _, rfl, rfl, rfl, by omega, by decide, by decide, by omega, by decide, by rw [show (rangeL 0 (sgn p).length 1).length = _ from (List.length_map ..).symm.trans (rng_len 0 _)]; omega, wntF p (fig p low) (fig p (4096 - size)), ?_, ?_⟩
          · intro d hd
            rw [rangeL0] at hd
            obtain ⟨f, hf, rfl⟩ := List.mem_map.mp hd
            have hf := List.mem_range.mp hf
            conv => whnf
            refine ⟨fun h => ?_, fun h => ?_⟩
            · have h : Builtin.bitAnd (Builtin.bitXor (f : Int) (fig p low)) (fig p (4096 - size)) = 0 := of_decide_eq_true h
              refine ⟨by omega, f, (sgn p)[f], ixOf_nat hf, List.getElem?_eq_getElem hf, ?_⟩
              show wntF _ _ _ _ = _
              unfold wntF
              dsimp only
              rw [if_pos h, List.getD_eq_getElem?_getD, Int.toNat_natCast, List.getElem?_eq_getElem hf]; rfl
            · have h : ¬ Builtin.bitAnd (Builtin.bitXor (f : Int) (fig p low)) (fig p (4096 - size)) = 0 := of_decide_eq_false h
              unfold wntF
              dsimp only
              rw [if_neg h]
          · rw [wnt_map]
            conv => whnf
            refine ⟨fun σ => σ = [(0, .val (.int low)), (1, .val (.int size)), (2, .own (((rowT low size).take (i + 1)).map .str)), (4, .val (.int p)), (5, .val (.str (sgn p))), (6, .val (.int (fig p low))), (7, .val (.int (fig p (4096 - size)))), (9, .own ((wn p low size).map sg))], ?_, ?_⟩
            · have hwn : (wnt p (fig p low) (fig p (4096 - size))).length ≤ 4 := Nat.le_trans (List.length_filterMap_le _ _) (by rw [List.length_range]; exact hsl.1)
              conv => whnf
              refine ⟨by omega, by omega, by decide, ?_⟩
              conv => whnf
              refine ⟨fun h => ?_, fun h => ?_⟩
              · have h : (low.fdiv size).fmod 2 = 1 := of_decide_eq_true h
                refine ⟨by rw [List.length_map]; omega, ?_⟩
                show _ = _
                unfold wn
                dsimp only
                rw [if_pos h, List.map_reverse]
                rfl
              · have h : ¬ (low.fdiv size).fmod 2 = 1 := of_decide_eq_false h
                show _ = _
                unfold wn
                dsimp only
                rw [if_neg h]
                rfl
            · rintro σ rfl
              conv => whnf
              refine ⟨by rw [List.length_map]; omega, by omega, ?_⟩
              conv => whnf
              refine ⟨fun h => ?_, fun h => ?_⟩
              · have h : (((wn p low size).map sg).length : Int) = ((sgn p).length : Int) := of_decide_eq_true h
                rw [List.length_map] at h
                exact ⟨tk _, fin [63] (by unfold itm itw; rw [if_pos (by omega)])⟩
              · have h : ¬ (((wn p low size).map sg).length : Int) = ((sgn p).length : Int) := of_decide_eq_false h
                rw [List.length_map] at h
                conv => whnf
                refine ⟨by rw [List.length_map]; omega, ?_⟩
                conv => whnf
                refine ⟨fun h1 => ?_, fun h1 => ?_⟩
                · have h1 : (((wn p low size).map sg).length : Int) = 1 := of_decide_eq_true h1
                  rw [List.length_map] at h1
                  have hf := fin (wn p low size) (by unfold itm itw; rw [if_neg (by omega), if_pos (by omega)])
                  generalize wn p low size = w at h1 hf
                  match w, h1 with
                  | [c], _ => exact ⟨tk _, by show 1 ≤ 1000000; decide, 0, _, rfl, rfl, hf⟩
                · have h1 : ¬ (((wn p low size).map sg).length : Int) = 1 := of_decide_eq_false h1
                  rw [List.length_map] at h1
                  have hf := fin ([91] ++ wn p low size ++ [93]) (by unfold itm itw; rw [if_neg (by omega), if_neg (by omega)])
                  refine ⟨tk _, by decide, (wn p low size).map fun c => [c], ?_, ?_, ?_⟩
                  · have := strsOf_map ((wn p low size).map fun c => [c])
                    rwa [List.map_map] at this
                  · rw [List.map_map, List.length_map]
                    have : ∀ l : List Nat, (l.map ((fun x => List.length x) ∘ fun c => [c])).sum = l.length := fun l => by induction l with | nil => rfl | cons c l ih => rw [List.map_cons, List.sum_cons, ih, List.length_cons]; exact Nat.add_comm _ _
                    rw [this]; omega
                  · rw [joinL_one]
                    conv => whnf
                    refine ⟨by simp only [List.length_cons, List.length_nil]; omega, ?_⟩
                    conv => whnf
                    exact ⟨by simp only [List.length_append, List.length_cons, List.length_nil]; omega, hf⟩
      · rintro σ rfl
        have ht10 : (rowT low size).take ((((rangeL 1 10 1).map V.int).length) + 1) = rowT low size := List.take_of_length_le (by rw [rng_len, hl]; decide)
        rw [ht10]
        have hst : ((stP low size : Nat) : Int) = (low + size).fmod 11 := by unfold stP; rw [Int.fmod_eq_emod_of_nonneg _ (by decide)]; omega
        have hst10 : stP low size ≤ 10 := by rw [Int.fmod_eq_emod_of_nonneg _ (by decide)] at hst; omega
        have hz : ((rowT low size).map V.str).length ≤ 1000000 := by rw [List.length_map]; omega
        conv => whnf
        refine ⟨by decide, ?_⟩
        rw [← hst]
        conv => whnf
        refine ⟨fun n σ => ∃ e : Nat, σ = [(0, .val (.int low)), (1, .val (.int size)), (2, .own ((rowT low size).map .str)), (12, .val (.int (stP low size : Nat))), (13, .val (.int e))] ∧ stP low size ≤ e ∧ e ≤ 10 ∧ n = 10 - e ∧ ∀ k, stP low size ≤ k → k < e → (rowT low size)[k]? = some [63],
          ⟨_, stP low size, rfl, Nat.le_refl _, hst10, rfl, fun k h1 h2 => absurd h2 (Nat.not_lt.mpr h1)⟩, ?_⟩
        rintro n σ ⟨e, rfl, he1, he2, rfl, hk⟩
        have slen : ∀ l : List (List Nat), (∀ x ∈ l, x ∈ rowT low size) → l.length ≤ 10 → (l.map (·.length)).sum + l.length ≤ 70 := fun l h1 h2 => by
          have := sum_le6 l fun x hx => rowT_all low size x (h1 x hx)
          omega
        have fl : ∀ l : List (List Nat), (joinL [] l).length = (l.map (·.length)).sum := fun l => by rw [joinL_nil, List.length_flatten]
        have s1 := slen ((rowT low size).take (stP low size)) (fun x => List.mem_of_mem_take) (by rw [List.length_take]; omega)
        have s2 := slen ((rowT low size).drop e) (fun x => List.mem_of_mem_drop) (by rw [List.length_drop]; omega)
        have stop : x_frz 2 (x_sq (x_ret (pw (w_bin .Add (pw (w_bin .Add (pw (w_join [] (pw (w_sl (pw (w_x 2)) w_no (pw (w_x 12) false))))) (pw (w_c (.str [42])))) ) (pw (w_join [] (pw (w_sl (pw (w_x 2)) (pw (w_x 13) false) w_no))))))) x_nil)
            [(0, .val (.int low)), (1, .val (.int size)), (2, .own ((rowT low size).map .str)), (12, .val (.int (stP low size : Nat))), (13, .val (.int e))] (retK Q) := by
          conv => whnf
          refine ⟨by omega, hz, ?_⟩
          conv => whnf
          refine ⟨by decide, (rowT low size).take (stP low size), by rw [sl_to, ← List.map_take]; exact strsOf_map _, by omega, ?_⟩
          conv => whnf
          refine ⟨by rw [fl, List.length_singleton]; omega, ?_⟩
          conv => whnf
          refine ⟨by omega, hz, ?_⟩
          conv => whnf
          refine ⟨by decide, (rowT low size).drop e, by rw [sl_from, ← List.map_drop]; exact strsOf_map _, by omega, ?_⟩
          conv => whnf
          refine ⟨by rw [List.length_append, fl, fl, List.length_singleton]; omega, ?_⟩
          have := hQ e he1 he2 hk
          unfold patL at this
          rw [← joinL_nil, ← joinL_nil] at this
          exact this
        conv => whnf
        refine ⟨fun h => ?_, fun hn => ⟨fun h => absurd h hn, fun _ => stop⟩⟩
        have h : (e : Int) < 10 := of_decide_eq_true h
        have he : e < (rowT low size).length := by omega
        conv => whnf
        refine ⟨hz, e, .str (rowT low size)[e], by rw [List.length_map]; exact ixOf_nat he, by rw [List.getElem?_map, List.getElem?_eq_getElem he]; rfl, ?_⟩
        conv => whnf
        refine ⟨rowT_sok low size _ (List.getElem_mem he), by decide, ?_⟩
        conv => whnf
        refine ⟨fun h => ?_, fun _ => stop⟩
        have h : (rowT low size)[e] = [63] := of_decide_eq_true h
        refine ⟨rfl, rfl, 10 - (e + 1), by omega, e + 1, rfl, by omega, by omega, rfl, fun k h1 h2 => ?_⟩
        by_cases hke : k = e
        · subst hke; rw [List.getElem?_eq_getElem he, h]
        · exact hk k h1 (by omega)

/-! # pieces of a pattern -/
inductive Pc where
  | q
  | c (x : Nat)
  | b (l : List Nat)
  | st
/-- a sign in a regular expression -/
def es (x : Nat) : List Nat := if x = 45 then [92, 45] else [x]
def esL (l : List Nat) : List Nat := (l.map es).flatten
def Pc.out : Pc → List Nat
  | .q => [46]
  | .c x => es x
  | .b l => [91] ++ esL l ++ [93]
  | .st => [46, 42]
def Pc.it : Pc → V
  | .q => .tuple [.bool true, .list []]
  | .c x => .tuple [.bool false, .list [sg x]]
  | .b l => .tuple [.bool false, .list (l.map sg)]
  | .st => .none
def sgs : List Nat := [45, 120, 84, 116, 83, 115, 114, 119]
def Pc.ok : Pc → Prop
  | .q => True
  | .c x => x ∈ sgs
  | .b l => (∀ x ∈ l, x ∈ sgs) ∧ l.length ≤ 10
  | .st => True
def outs (ps : List Pc) : List Nat := (ps.map Pc.out).flatten
def ftext (ps : List Pc) : List Nat := [40, 63, 115, 58] ++ outs ps ++ [41, 92, 90]
abbrev SIGN : List V → (V → Prop) → Prop := fun ds Q => ∃ (t : List Nat) (k c : Nat), ds = [.str t, .int k] ∧ t.length ≤ 1000000 ∧ (∀ x ∈ t, x < 128) ∧ t[k]? = some c ∧
  (c ≠ 92 → Q (.tuple [.str [c], .int ((k + 1 : Nat) : Int)])) ∧ (c = 92 → ∃ d, t[k + 1]? = some d ∧ Q (.tuple [.str (if d ∈ [45, 63] then [d] else []), .int ((k + 2 : Nat) : Int)]))
theorem sok1 {t : List Nat} (h : ∀ x ∈ t, x < 128) {k c : Nat} (hk : t[k]? = some c) : sok [c] = true := sok_le fun x hx => by rw [List.mem_singleton.mp hx]; exact Nat.lt_trans (h c (List.mem_of_getElem? hk)) (by decide)
theorem ixOf_get {α : Type} {l : List α} {k : Nat} {c : α} (h : l[k]? = some c) : ixOf (k : Int) l.length = some k := ixOf_nat (List.getElem?_eq_some_iff.mp h).1
def l_sign : List String := ["text", "at"]
theorem f_sign {C : Cx} {a : Addr} (O : Ok C (Nn l_sign noEc)) (D : FnD C a ([0, 1].map (nth l_sign)) (fnSc PW 38) (fnB PW 38)) : Fn C a 1 (SIGN) :=
  Fn.of_body (vn := Nn l_sign noEc) (kd := [(0, .local), (1, .local)]) (r := 0) (ps := [0, 1]) D
    (.cons (s_ifs (s_cmp (s_item (s_x O 0) (s_x O 1)) (s_str [92] (by decide +kernel))) (.cons (s_ret (s_tup (.cons (s_item (s_x O 0) (s_x O 1)) (.cons (s_bin (s_x O 1) s_int) .nil)) rfl))
    .nil) .nil)
    (.cons (s_ret (s_tup (.cons (s_if (s_cmp (s_item (s_x O 0) (s_bin (s_x O 1) s_int)) (s_str [45, 63] (by decide +kernel))) (s_item (s_x O 0) (s_bin (s_x O 1) s_int)) (s_str [] (by decide +kernel))) (.cons (s_bin (s_x O 1) s_int) .nil)) rfl))
    .nil))
    (by decide +kernel) (by decide +kernel) rfl (by decide) (fun _ _ _ _ _ => trivial) fun ds Q ⟨t, k, c, e, hz, h128, hk, h1, h2⟩ => by
      subst e
      refine ⟨rfl, ?_⟩
      conv => whnf
      refine ⟨hz, k, c, ixOf_get hk, hk, ?_⟩
      conv => whnf
      refine ⟨sok1 h128 hk, by decide, ?_⟩
      conv => whnf
      refine ⟨fun h => ?_, fun h => ?_⟩
      · have hc : c ≠ 92 := fun e => by subst e; cases h
        exact ⟨hz, k, c, ixOf_get hk, hk, h1 hc⟩
      · obtain rfl : c = 92 := by
          have : decide ([c] = [92]) = true := by revert h; cases decide ([c] = [92]) <;> intro h <;> first | rfl | cases h
          cases of_decide_eq_true this; rfl
        obtain ⟨d, hd, hQ⟩ := h2 rfl
        conv => whnf
        refine ⟨hz, k + 1, d, ixOf_get hd, hd, ?_⟩
        conv => whnf
        refine ⟨fun h => ?_, fun h => ?_⟩
        · have h : d ∈ [45, 63] := of_decide_eq_true h
          rw [if_pos h] at hQ
          exact ⟨hz, k + 1, d, ixOf_get hd, hd, hQ⟩
        · have h : ¬ d ∈ [45, 63] := of_decide_eq_false h
          rw [if_neg h] at hQ
          exact hQ

def post (ps : List Pc) : List Nat := outs ps ++ [41, 92, 90]
theorem getA {α : Type} (p : List α) (x : α) (r : List α) : (p ++ x :: r)[p.length]? = some x := by rw [List.getElem?_append_right (Nat.le_refl _), Nat.sub_self]; rfl
theorem sl2 {α : Type} (p : List α) (x y : α) (r : List α) : sliceL (p ++ x :: y :: r) (some (p.length : Int)) (some ((p.length : Int) + 2)) = [x, y] := by
  show List.take (ixL (((p.length + 2 : Nat)) : Int) _ - ixL (p.length : Int) _) (List.drop (ixL (p.length : Int) _) _) = _
  have e1 : min p.length (p ++ x :: y :: r).length = p.length := Nat.min_eq_left (by rw [List.length_append]; exact Nat.le_add_right _ _)
  have e2 : min (p.length + 2) (p ++ x :: y :: r).length = p.length + 2 := Nat.min_eq_left (by rw [List.length_append]; exact Nat.add_le_add_left (Nat.le_add_left 2 _) _)
  rw [ixL_nat, ixL_nat, e1, e2, List.drop_left, Nat.add_sub_cancel_left]; rfl
theorem es_hd {x : Nat} (h : x ∈ sgs) : ∃ y r, es x = y :: r ∧ y ∉ [42, 43, 63, 40, 41, 123, 124, 125, 94, 36] ∧ y ∉ [45, 94] ∧ y ≠ 46 ∧ y ≠ 91 ∧ y ≠ 93 := by
  unfold es
  split
  · exact ⟨92, [45], rfl, by decide, by decide, by decide, by decide, by decide⟩
  · rename_i hne
    refine ⟨x, [], rfl, ?_⟩
    revert hne; revert x; decide
theorem sgs_128 : ∀ x ∈ sgs, x < 128 := by decide
theorem post_hd : ∀ {ps : List Pc}, (∀ p ∈ ps, p.ok) → ∃ y r, post ps = y :: r ∧ y ≠ 42
  | [], _ => ⟨41, _, rfl, by decide⟩
  | .q :: _, _ => ⟨46, _, rfl, by decide⟩
  | .st :: _, _ => ⟨46, _, rfl, by decide⟩
  | .b l :: _, _ => ⟨91, _, rfl, by decide⟩
  | .c x :: ps, h => by
    obtain ⟨y, r, e, h1, _⟩ := es_hd (h _ (.head _) : x ∈ sgs)
    refine ⟨y, r ++ post ps, ?_, fun e => h1 (e ▸ .head _)⟩
    show (es x ++ outs ps) ++ _ = _
    rw [e, List.append_assoc]; rfl
theorem out_ne {p : Pc} (h : p.ok) : 0 < p.out.length := by
  cases p with
  | q => decide
  | st => decide
  | b l => exact Nat.succ_pos _
  | c x => obtain ⟨y, r, e, _⟩ := es_hd h; show 0 < (es x).length; rw [e]; exact Nat.succ_pos _
theorem es_128 {x : Nat} (h : x ∈ sgs) : ∀ c ∈ es x, c < 128 := by revert h; revert x; decide
theorem outs_128 {ps : List Pc} (h : ∀ p ∈ ps, p.ok) : ∀ c ∈ ftext ps, c < 128 := fun c hc => by
  rcases List.mem_append.mp hc with hc | hc
  · rcases List.mem_append.mp hc with hc | hc
    · exact (by decide : ∀ c ∈ [40, 63, 115, 58], c < 128) c hc
    · obtain ⟨l, hl, hc⟩ := List.mem_flatten.mp hc
      obtain ⟨p, hp, rfl⟩ := List.mem_map.mp hl
      have ho := h p hp
      cases p with
      | q => exact (by decide : ∀ c ∈ [46], c < 128) c hc
      | st => exact (by decide : ∀ c ∈ [46, 42], c < 128) c hc
      | c x => exact es_128 ho c hc
      | b l =>
        rcases List.mem_append.mp hc with hc | hc
        · rcases List.mem_append.mp hc with hc | hc
          · rw [List.mem_singleton.mp hc]; decide
          · obtain ⟨m, hm, hc⟩ := List.mem_flatten.mp hc
            obtain ⟨x, hx, rfl⟩ := List.mem_map.mp hm
            exact es_128 (ho.1 x hx) c hc
        · rw [List.mem_singleton.mp hc]; decide
  · exact (by decide : ∀ c ∈ [41, 92, 90], c < 128) c hc
theorem sign_es {x : Nat} {T pre r : List Nat} {Q : V → Prop} (hx : x ∈ sgs) (hT : T = pre ++ (es x ++ r)) (hz : T.length ≤ 1000000) (h128 : ∀ c ∈ T, c < 128) (hQ : Q (.tuple [.str [x], .int ((pre ++ es x).length : Int)])) : SIGN [.str T, .int (pre.length : Int)] Q := by
  unfold es at hT hQ
  split at hT
  · rename_i h; subst h
    rw [if_pos rfl] at hQ
    refine ⟨T, pre.length, 92, rfl, hz, h128, hT ▸ getA pre 92 _, fun h => absurd rfl h, fun _ => ⟨45, ?_, ?_⟩⟩
    · have := getA (pre ++ [92]) 45 r
      rw [List.append_assoc, List.length_append] at this
      exact hT ▸ this
    · rw [if_pos (by decide)]
      rwa [List.length_append] at hQ
  · rename_i h
    rw [if_neg h] at hQ
    refine ⟨T, pre.length, x, rfl, hz, h128, hT ▸ getA pre x _, fun _ => by rwa [List.length_append] at hQ, fun e => ?_⟩
    subst e; exact absurd hx (by decide)
abbrev TEN : List V → (V → Prop) → Prop := fun ds Q => ∃ a b : List Pc, ds = [.str (ftext (a ++ Pc.st :: b))] ∧ (∀ p ∈ a ++ b, p.ok ∧ vNone p.it = false) ∧ a.length + b.length ≤ 10 ∧ (ftext (a ++ Pc.st :: b)).length ≤ 1000000 ∧
  Q (.list (a.map Pc.it ++ List.replicate (10 - (a.length + b.length)) Pc.q.it ++ b.map Pc.it))

theorem sl_m3 (p : List Nat) (x y z : Nat) : sliceL (p ++ [x, y, z]) (some (-3)) none = [x, y, z] := by
  unfold sliceL
  dsimp only
  have e : ixL (-3) (p ++ [x, y, z]).length = p.length := by unfold ixL; rw [if_pos (by decide), List.length_append]; show (max 0 (min (-3 + ((p.length + 3 : Nat) : Int)) ((p.length + 3 : Nat) : Int))).toNat = _; omega
  rw [e, List.drop_left, List.length_append, Nat.add_sub_cancel_left]; rfl
/-- the loop's state -/
def tenσ (T : List Nat) (done : List Pc) (k : Nat) : St := [(0, .val (.str T)), (1, .own (done.map Pc.it)), (2, .val (.bool true)), (3, .val (.int k))]
def tenI (T : List Nat) (ps : List Pc) (n : Nat) (σ : St) : Prop := ∃ done rest pre, ps = done ++ rest ∧ T = pre ++ post rest ∧ σ = tenσ T done pre.length ∧ n = rest.length
theorem tenI_step {T : List Nat} {ps done : List Pc} {p : Pc} {rest : List Pc} {pre : List Nat} (h1 : ps = done ++ p :: rest) (h2 : T = pre ++ post (p :: rest)) : ∃ m, m < (p :: rest).length ∧ tenI T ps m (tenσ T (done ++ [p]) (pre ++ p.out).length) :=
  ⟨rest.length, Nat.lt_succ_self _, done ++ [p], rest, pre ++ p.out, by rw [h1, List.append_assoc]; rfl, by rw [h2, List.append_assoc]; show _ = pre ++ (p.out ++ (outs rest ++ _)); rw [← List.append_assoc p.out]; rfl, rfl, rfl⟩

theorem it_none (p : Pc) : okNone p.it = true := by cases p <;> rfl
theorem outs_nil : ∀ {ps : List Pc}, (∀ p ∈ ps, p.ok) → (outs ps).length = 0 → ps = []
  | [], _, _ => rfl
  | p :: ps, h, e => by
    have := out_ne (h p (.head _))
    have e : (p.out ++ outs ps).length = 0 := e
    rw [List.length_append] at e; omega
theorem cnt_none : ∀ {l : List Pc}, (∀ p ∈ l, vNone p.it = false) → (l.map Pc.it).countP vNone = 0
  | [], _ => rfl
  | p :: l, h => by rw [List.map_cons, List.countP_cons, h p (.head _), cnt_none fun q hq => h q (.tail _ hq)]; rfl
def l_ten : List String := ["text", "items", "fine", "at", "len", "signs", "sign", "_law_sign", "star"]
def k_ten : Kd := [(0, .local), (1, .local), (2, .local), (3, .local), (4, .globalImplicit), (5, .local), (6, .local), (7, .globalImplicit), (8, .local)]
def X_ten_1 : Xp := (x_sq (x_asg 2 (w_bool true [(pw (w_x 2)), (w_cmp .NotIn (pw (w_item (pw (w_x 0)) (pw (w_x 3)))) (pw (w_c (.str [45, 94]))))])) (x_sq (x_unp [6, 3] (pw (w_call SIGN [(pw (w_x 0)), (pw (w_x 3))]))) (x_sq (x_asg 2 (w_bool true [(pw (w_x 2)), (w_cmp .NotEq (pw (w_x 6)) (pw (w_c (.str []))))])) (x_sq (x_app 5 (pw (w_x 6))) (x_keep [0, 1, 2, 3, 5] x_nil)))))
def X_ten_2 : Xp := (x_sq (x_asgL 5 []) (x_sq (x_aug 3 .Add (pw (w_c (.int 1)))) (x_sq (x_while (w_cmp .NotEq (pw (w_item (pw (w_x 0)) (pw (w_x 3)))) (pw (w_c (.str [93])))) X_ten_1) (x_frz 5 (x_sq (x_app 1 (pw (w_tup [(pw (w_c (.bool false))), (pw (w_x 5))]))) (x_sq (x_aug 3 .Add (pw (w_c (.int 1)))) x_nil))))))
def X_ten_3 : Xp := (x_sq (x_asg 2 (w_cmp .NotIn (pw (w_item (pw (w_x 0)) (pw (w_x 3)))) (pw (w_c (.str [42, 43, 63, 40, 41, 123, 124, 125, 94, 36]))))) (x_sq (x_unp [6, 3] (pw (w_call SIGN [(pw (w_x 0)), (pw (w_x 3))]))) (x_sq (x_asg 2 (w_bool true [(pw (w_x 2)), (w_cmp .NotEq (pw (w_x 6)) (pw (w_c (.str []))))])) (x_sq (x_app 1 (pw (w_tup [(pw (w_c (.bool false))), (pw (w_lst [(pw (w_x 6))]))]))) x_nil))))
def X_ten_4 : Xp := (x_sq (x_if (w_cmp .Eq (pw (w_sl (pw (w_x 0)) ((pw (w_x 3)) false) ((pw (w_bin .Add (pw (w_x 3)) (pw (w_c (.int 2))))) false))) (pw (w_c (.str [46, 42])))) (x_sq (x_app 1 (pw (w_c .none))) (x_sq (x_aug 3 .Add (pw (w_c (.int 2)))) x_nil)) (x_sq (x_if (w_cmp .Eq (pw (w_item (pw (w_x 0)) (pw (w_x 3)))) (pw (w_c (.str [46])))) (x_sq (x_app 1 (pw (w_tup [(pw (w_c (.bool true))), (pw (w_lst []))]))) (x_sq (x_aug 3 .Add (pw (w_c (.int 1)))) x_nil)) (x_sq (x_if (w_cmp .Eq (pw (w_item (pw (w_x 0)) (pw (w_x 3)))) (pw (w_c (.str [91])))) X_ten_2 X_ten_3) x_nil)) x_nil)) (x_keep [0, 1, 2, 3] x_nil))
def X_ten_e : Xp := (x_frz 1 (x_sq (x_if (w_bool false [(w_not (pw (w_x 2))), (w_cmp .NotEq (pw (w_cnt (pw (w_x 1)))) (pw (w_c (.int 1))))]) (x_sq (x_ret (pw (w_lst []))) x_nil) x_nil) (x_sq (x_asg 8 (pw (w_idx (pw (w_x 1))))) (x_sq (x_ret (pw (w_bin .Add (pw (w_bin .Add (pw (w_sl (pw (w_x 1)) w_no ((pw (w_x 8)) false))) (pw (w_bin .Mult (pw (w_lst [(pw (w_tup [(pw (w_c (.bool true))), (pw (w_lst []))]))])) (pw (w_bin .Sub (pw (w_c (.int 11))) (pw (w_len (pw (w_x 1)))))))))) (pw (w_sl (pw (w_x 1)) ((pw (w_bin .Add (pw (w_x 8)) (pw (w_c (.int 1))))) false) w_no))))) x_nil))))
def X_ten : Xp := (x_sq (x_asgL 1 []) (x_sq (x_asg 2 (w_bool true [(w_cmp .Eq (pw (w_sl (pw (w_x 0)) w_no ((pw (w_c (.int 4))) false))) (pw (w_c (.str [40, 63, 115, 58])))), (w_cmp .Eq (pw (w_sl (pw (w_x 0)) ((pw (w_un .USub (pw (w_c (.int 3))))) false) w_no)) (pw (w_c (.str [41, 92, 90]))))])) (x_sq (x_asg 3 (pw (w_c (.int 4)))) (x_sq (x_while (w_bool true [(pw (w_x 2)), (w_cmp .Lt (pw (w_x 3)) (pw (w_bin .Sub (pw (w_len (pw (w_x 0)))) (pw (w_c (.int 3))))))]) X_ten_4) X_ten_e))))

section
variable {T pre r : List Nat} {done : List Pc} {x y z : Nat} {K : Kt}
theorem sok_at (h128 : ∀ c ∈ T, c < 128) (hT : T = pre ++ x :: y :: r) : sok [x, y] = true ∧ sok [x] = true := by
  have hx := h128 x (by rw [hT]; exact List.mem_append_right _ (.head _))
  have hy := h128 y (by rw [hT]; exact List.mem_append_right _ (.tail _ (.head _)))
  exact ⟨sok_le fun c hc => (List.mem_cons.mp hc).elim (fun e => e ▸ Nat.lt_trans hx (by decide)) fun hc => List.mem_singleton.mp hc ▸ Nat.lt_trans hy (by decide), sok_le fun c hc => List.mem_singleton.mp hc ▸ Nat.lt_trans hx (by decide)⟩
/-- the first sign is not that of .* -/
theorem ten_fst {b a t : Xp} {v : Bool} (hT : T = pre ++ x :: y :: r) (hz : T.length ≤ 1000000) (h128 : ∀ c ∈ T, c < 128) (hv : decide ([x, y] = [46, 42]) = v) (hK : cond v a b (tenσ T done pre.length) (sq t K)) :
    x_sq (x_if (w_cmp .Eq (pw (w_sl (pw (w_x 0)) ((pw (w_x 3)) false) ((pw (w_bin .Add (pw (w_x 3)) (pw (w_c (.int 2))))) false))) (pw (w_c (.str [46, 42])))) a b) t (tenσ T done pre.length) K := by
  have s1 : sliceL T (some (pre.length : Int)) (some ((pre.length : Int) + 2)) = [x, y] := hT ▸ sl2 pre x y r
  have hp : pre.length ≤ T.length := by rw [hT, List.length_append]; exact Nat.le_add_right _ _
  conv => whnf
  refine ⟨by omega, ?_⟩
  conv => whnf
  refine ⟨by omega, hz, ?_⟩
  rw [s1]
  conv => whnf
  refine ⟨(sok_at h128 hT).1, by decide, ?_⟩
  rw [hv]
  cases v
  · exact ⟨fun h => (nomatch h), fun _ => hK⟩
  · exact ⟨fun _ => hK, fun h => (nomatch h)⟩
/-- one sign asked for -/
theorem ten_sgn {b a t : Xp} {u : Nat} {v : Bool} (hT : T = pre ++ x :: r) (hz : T.length ≤ 1000000) (h128 : ∀ c ∈ T, c < 128) (hu : u < 128) (hv : decide ([x] = [u]) = v) (hK : cond v a b (tenσ T done pre.length) (sq t K)) :
    x_sq (x_if (w_cmp .Eq (pw (w_item (pw (w_x 0)) (pw (w_x 3)))) (pw (w_c (.str [u])))) a b) t (tenσ T done pre.length) K := by
  have g : T[pre.length]? = some x := hT ▸ getA pre x r
  refine ⟨hz, pre.length, x, ixOf_get g, g, sok1 h128 g, sok_le fun c hc => List.mem_singleton.mp hc ▸ Nat.lt_trans hu (by decide), ?_⟩
  conv => whnf
  rw [hv]
  cases v
  · exact ⟨fun h => (nomatch h), fun _ => hK⟩
  · exact ⟨fun _ => hK, fun h => (nomatch h)⟩
theorem ten_st (hT : T = pre ++ 46 :: 42 :: r) (hz : T.length ≤ 1000000) (h128 : ∀ c ∈ T, c < 128) (hl : (done.map Pc.it).length ≤ 1000000) (hK : K .next (tenσ T (done ++ [.st]) (pre.length + 2))) : X_ten_4 (tenσ T done pre.length) K := by
  unfold tenσ at hK
  rw [List.map_append] at hK
  exact ten_fst (v := true) hT hz h128 rfl ⟨hl, rfl, rfl, hK⟩
theorem ten_q (hT : T = pre ++ 46 :: y :: r) (hy : y ≠ 42) (hz : T.length ≤ 1000000) (h128 : ∀ c ∈ T, c < 128) (hl : (done.map Pc.it).length ≤ 1000000) (hK : K .next (tenσ T (done ++ [.q]) (pre.length + 1))) : X_ten_4 (tenσ T done pre.length) K := by
  unfold tenσ at hK
  rw [List.map_append] at hK
  exact ten_fst (v := false) hT hz h128 (decide_eq_false fun e => by cases e; exact hy rfl) (ten_sgn (v := true) hT hz h128 (by decide) rfl ⟨hl, rfl, rfl, hK⟩)
/-- a sign read -/
theorem ten_get (hT : T = pre ++ x :: r) (hz : T.length ≤ 1000000) {P : V → Prop} (h : P (.str [x])) : itemw (.str T) (.int pre.length) P := by
  have g : T[pre.length]? = some x := hT ▸ getA pre x r
  exact ⟨hz, pre.length, x, ixOf_get g, g, h⟩
theorem ten_c (hx : x ∈ sgs) (hT : T = pre ++ (es x ++ y :: r)) (hz : T.length ≤ 1000000) (h128 : ∀ c ∈ T, c < 128) (hl : (done.map Pc.it).length ≤ 1000000) (hK : K .next (tenσ T (done ++ [.c x]) (pre ++ es x).length)) : X_ten_4 (tenσ T done pre.length) K := by
  unfold tenσ at hK
  rw [List.map_append] at hK
  obtain ⟨h, u, he, n1, n2, n3, n4, n5⟩ := es_hd hx
  have hT0 := hT
  obtain ⟨z, w, hzw⟩ : ∃ z w, u ++ y :: r = z :: w := by cases u <;> exact ⟨_, _, rfl⟩
  rw [he, List.cons_append, hzw] at hT
  refine ten_fst (v := false) hT hz h128 (decide_eq_false fun e => by cases e; exact n3 rfl) (ten_sgn (v := false) hT hz h128 (by decide) (decide_eq_false fun e => by cases e; exact n3 rfl) (ten_sgn (v := false) hT hz h128 (by decide) (decide_eq_false fun e => by cases e; exact n4 rfl) ?_))
  refine ten_get hT hz ?_
  conv => whnf
  rw [show (decide (h ∈ [42, 43, 63, 40, 41, 123, 124, 125, 94, 36])) = false from decide_eq_false n1]
  refine sign_es hx hT0 hz h128 ⟨fun _ => ⟨sok_le fun c hc => List.mem_singleton.mp hc ▸ Nat.lt_trans (sgs_128 _ hx) (by decide), rfl, hl, hK⟩, fun h => absurd rfl h⟩
/-- inside the brackets -/
def tenτ (T : List Nat) (done : List Pc) (k : Nat) (d : List Nat) : St := [(0, .val (.str T)), (1, .own (done.map Pc.it)), (2, .val (.bool true)), (3, .val (.int k)), (5, .own (d.map sg))]
theorem ten_in {d : List Nat} (hx : x ∈ sgs) (hT : T = pre ++ (es x ++ r)) (hz : T.length ≤ 1000000) (h128 : ∀ c ∈ T, c < 128) (hl : (d.map sg).length ≤ 1000000) (hK : K .next (tenτ T done (pre ++ es x).length (d ++ [x]))) : X_ten_1 (tenτ T done pre.length d) K := by
  unfold tenτ at hK
  rw [List.map_append] at hK
  obtain ⟨h, u, he, n1, n2, n3, n4, n5⟩ := es_hd hx
  have hT0 := hT
  rw [he, List.cons_append] at hT
  refine ⟨fun _ => ten_get hT hz ?_, fun h => absurd rfl h⟩
  conv => whnf
  rw [show decide (h ∈ [45, 94]) = false from decide_eq_false n2]
  exact sign_es hx hT0 hz h128 ⟨fun _ => ⟨sok_le fun c hc => List.mem_singleton.mp hc ▸ Nat.lt_trans (sgs_128 _ hx) (by decide), rfl, hl, hK⟩, fun h => absurd rfl h⟩
theorem esL_snoc (d : List Nat) (x : Nat) : esL (d ++ [x]) = esL d ++ es x := by unfold esL; rw [List.map_append, List.flatten_append]; exact congrArg _ (List.append_nil _)
theorem ten_b {l : List Nat} (hp : (∀ x ∈ l, x ∈ sgs) ∧ l.length ≤ 10) (hT : T = pre ++ 91 :: (esL l ++ 93 :: y :: r)) (hz : T.length ≤ 1000000) (h128 : ∀ c ∈ T, c < 128) (hl : (done.map Pc.it).length ≤ 1000000) (hK : K .next (tenσ T (done ++ [.b l]) (pre ++ (Pc.b l).out).length)) : X_ten_4 (tenσ T done pre.length) K := by
  obtain ⟨z, w, hzw⟩ : ∃ z w, esL l ++ 93 :: y :: r = z :: w := by cases esL l <;> exact ⟨_, _, rfl⟩
  have hT0 := hT
  rw [hzw] at hT
  refine ten_fst (v := false) hT hz h128 rfl (ten_sgn (v := false) hT hz h128 (by decide) rfl (ten_sgn (v := true) hT hz h128 (by decide) rfl ?_))
  refine ⟨rfl, rfl, rfl, fun n σ => ∃ d r, l = d ++ r ∧ σ = tenτ T done (List.length (pre ++ [91] ++ esL d)) d ∧ n = r.length, ⟨_, [], l, rfl, ?_, rfl⟩, ?_⟩
  · show _ = tenτ T done (List.length (pre ++ [91] ++ [])) []
    rw [List.append_nil, List.length_append]; rfl
  rintro n σ ⟨d, e, hde, rfl, rfl⟩
  have hTd : T = (pre ++ [91] ++ esL d) ++ (esL e ++ 93 :: y :: r) := hT0.trans (by rw [hde]; unfold esL; rw [List.map_append, List.flatten_append]; simp only [List.append_assoc, List.cons_append, List.nil_append])
  cases e with
  | nil =>
    have hTd : T = (pre ++ [91] ++ esL d) ++ 93 :: y :: r := hTd
    rw [List.append_nil] at hde
    subst hde
    refine ten_get hTd hz ⟨rfl, rfl, fun h => (nomatch h), fun _ => ⟨hl, rfl, rfl, ?_⟩⟩
    rw [show List.length (pre ++ (Pc.b l).out) = List.length (pre ++ [91] ++ esL l) + 1 by show List.length (pre ++ ([91] ++ esL l ++ [93])) = _; rw [← List.append_assoc, ← List.append_assoc, List.length_append]; rfl] at hK
    unfold tenσ at hK
    rw [List.map_append] at hK
    exact hK
  | cons x e =>
    have hx : x ∈ sgs := hp.1 x (hde ▸ List.mem_append_right _ (.head _))
    have hTx : T = (pre ++ [91] ++ esL d) ++ (es x ++ (esL e ++ 93 :: y :: r)) := hTd.trans (by rw [show esL (x :: e) = es x ++ esL e from rfl, List.append_assoc (es x)])
    obtain ⟨h, u, he, n1, n2, n3, n4, n5⟩ := es_hd hx
    have hTy := hTx
    rw [he, List.cons_append] at hTy
    refine ten_get hTy hz ⟨sok1 h128 (by rw [hTy]; exact getA _ _ _), rfl, ?_⟩
    conv => whnf
    rw [show decide ([h] = [93]) = false from decide_eq_false fun e => by cases e; exact n5 rfl]
    refine ⟨fun _ => ten_in hx hTx hz h128 ?_ ⟨e.length, Nat.lt_succ_self _, d ++ [x], e, by rw [hde, List.append_assoc]; rfl, by rw [esL_snoc, ← List.append_assoc], rfl⟩, fun h => (nomatch h)⟩
    have := hp.2
    rw [hde, List.length_append] at this
    rw [List.length_map]; omega
end
theorem sl_ten {C : Cx} (hf__law_sign : FnAt C "_law_sign" 1 SIGN) (O : Ok C (Nn l_ten noEc)) : SL C (Nn l_ten noEc) 1 k_ten (fnB PW 39) X_ten :=
    (.cons (s_asgL 1 .nil rfl rfl)
    (.cons (s_asg 2 (s_and (.cons (s_cmp (s_sl (s_x O 0) s_no (s_at s_int)) (s_str [40, 63, 115, 58] (by decide +kernel))) (.cons (s_cmp (s_sl (s_x O 0) (s_at (s_neg s_int)) s_no) (s_str [41, 92, 90] (by decide +kernel))) .nil))) rfl rfl)
    (.cons (s_asg 3 s_int rfl rfl)
    (.cons (s_while (s_and (.cons (s_x O 2) (.cons (s_cmp (s_x O 3) (s_bin (s_len O (n := 4) rfl rfl (s_x O 0)) s_int)) .nil))) (.cons (s_ifs (s_cmp (s_sl (s_x O 0) (s_at (s_x O 3)) (s_at (s_bin (s_x O 3) s_int))) (s_str [46, 42] (by decide +kernel))) (.cons (s_app O 1 s_none rfl)
    (.cons (s_aug 3 s_int)
    .nil)) (.cons (s_ifs (s_cmp (s_item (s_x O 0) (s_x O 3)) (s_str [46] (by decide +kernel))) (.cons (s_app O 1 (s_tup (.cons s_bool (.cons (s_lst .nil rfl) .nil)) rfl) rfl)
    (.cons (s_aug 3 s_int)
    .nil)) (.cons (s_ifs (s_cmp (s_item (s_x O 0) (s_x O 3)) (s_str [91] (by decide +kernel))) (.cons (s_asgL 5 .nil rfl rfl)
    (.cons (s_aug 3 s_int)
    (.cons (s_while (s_cmp (s_item (s_x O 0) (s_x O 3)) (s_str [93] (by decide +kernel))) (.cons (s_asg 2 (s_and (.cons (s_x O 2) (.cons (s_cmp (s_item (s_x O 0) (s_x O 3)) (s_str [45, 94] (by decide +kernel))) .nil))) rfl rfl)
    (.cons (s_unp 6 3 (s_call O 7 hf__law_sign rfl (.cons (s_x O 0) (.cons (s_x O 3) .nil))) (.two rfl rfl (by decide +kernel)) rfl rfl)
    (.cons (s_asg 2 (s_and (.cons (s_x O 2) (.cons (s_cmp (s_x O 6) (s_str [] (by decide +kernel))) .nil))) rfl rfl)
    (.cons (s_app O 5 (s_x O 6) rfl)
    (.keep [0, 1, 2, 3, 5] .nil))))))
    (.frz 5 (.cons (s_app O 1 (s_tup (.cons s_bool (.cons (s_x O 5) .nil)) rfl) rfl)
    (.cons (s_aug 3 s_int)
    .nil)))))) (.cons (s_asg 2 (s_cmp (s_item (s_x O 0) (s_x O 3)) (s_str [42, 43, 63, 40, 41, 123, 124, 125, 94, 36] (by decide +kernel))) rfl rfl)
    (.cons (s_unp 6 3 (s_call O 7 hf__law_sign rfl (.cons (s_x O 0) (.cons (s_x O 3) .nil))) (.two rfl rfl (by decide +kernel)) rfl rfl)
    (.cons (s_asg 2 (s_and (.cons (s_x O 2) (.cons (s_cmp (s_x O 6) (s_str [] (by decide +kernel))) .nil))) rfl rfl)
    (.cons (s_app O 1 (s_tup (.cons s_bool (.cons (s_lst (.cons (s_x O 6) .nil) rfl) .nil)) rfl) rfl)
    .nil)))))
    .nil))
    .nil))
    (.keep [0, 1, 2, 3] .nil)))
    (.frz 1 (.cons (s_ifs (s_or (.cons (s_not (s_x O 2)) (.cons (s_cmp (s_cnt (s_x O 1) rfl rfl) s_int) .nil))) (.cons (s_ret (s_lst .nil rfl))
    .nil) .nil)
    (.cons (s_asg 8 (s_idx (s_x O 1) rfl rfl) rfl rfl)
    (.cons (s_ret (s_bin (s_bin (s_sl (s_x O 1) s_no (s_at (s_x O 8))) (s_bin (s_lst (.cons (s_tup (.cons s_bool (.cons (s_lst .nil rfl) .nil)) rfl) .nil) rfl) (s_bin s_int (s_len O (n := 4) rfl rfl (s_x O 1))))) (s_sl (s_x O 1) (s_at (s_bin (s_x O 8) s_int)) s_no)))
    .nil))))))))

theorem post_cons (p : Pc) (rest : List Pc) : post (p :: rest) = p.out ++ post rest := by unfold post; show (p.out ++ outs rest) ++ _ = _; rw [List.append_assoc]
theorem ten_turn {T : List Nat} {ps done rest : List Pc} {p : Pc} {pre : List Nat} {K : Kt} (hok : ∀ p ∈ ps, p.ok) (hd : ps = done ++ p :: rest) (hT : T = pre ++ post (p :: rest)) (hz : T.length ≤ 1000000) (h128 : ∀ c ∈ T, c < 128) (hl : (done.map Pc.it).length ≤ 1000000)
    (hK : K .next (tenσ T (done ++ [p]) (pre ++ p.out).length)) : X_ten_4 (tenσ T done pre.length) K := by
  have hp := hok p (hd ▸ List.mem_append_right _ (.head _))
  obtain ⟨y, r, e, hy⟩ := post_hd fun p' h => hok p' (hd ▸ List.mem_append_right _ (.tail _ h))
  rw [post_cons, e] at hT
  rw [List.length_append] at hK
  cases p with
  | q => exact ten_q hT hy hz h128 hl hK
  | st => exact ten_st hT hz h128 hl hK
  | c x => exact ten_c hp hT hz h128 hl (by rw [List.length_append]; exact hK)
  | b l => exact ten_b (y := y) (r := r) hp (hT.trans (by show pre ++ (([91] ++ esL l ++ [93]) ++ _) = _; simp only [List.append_assoc, List.cons_append, List.nil_append])) hz h128 hl (by rw [List.length_append]; exact hK)
theorem flat1 {α : Type} (l : List α) : (l.map fun x => [x]).flatten = l := by induction l with | nil => rfl | cons x l ih => rw [List.map_cons, List.flatten_cons, ih]; rfl
theorem ten_end {a b ps : List Pc} {T : List Nat} {k : Nat} {Q : V → Prop} (hps : a ++ Pc.st :: b = ps) (hok : ∀ p ∈ a ++ b, p.ok ∧ vNone p.it = false) (hab : a.length + b.length ≤ 10)
    (hQ : Q (.list (a.map Pc.it ++ List.replicate (10 - (a.length + b.length)) Pc.q.it ++ b.map Pc.it))) : X_ten_e (tenσ T ps k) (retK Q) := by
  have hln : (ps.map Pc.it).length = a.length + b.length + 1 := by rw [← hps, List.length_map, List.length_append, List.length_cons]; rfl
  have hlz : (ps.map Pc.it).length ≤ 1000000 := by omega
  have e5 : (11 - ((ps.map Pc.it).length : Int)).toNat = 10 - (a.length + b.length) := by omega
  have e7 : (0 : Int) ≤ 11 - ((ps.map Pc.it).length : Int) ∧ 11 - ((ps.map Pc.it).length : Int) ≤ 1000 := by omega
  have hall : (ps.map Pc.it).all okNone = true := List.all_eq_true.mpr fun d hd => by obtain ⟨p, _, rfl⟩ := List.mem_map.mp hd; exact it_none p
  have hn := fun l (h : ∀ p ∈ l, p ∈ a ++ b) => cnt_none (l := l) fun p hp => (hok p (h p hp)).2
  have hcn : (ps.map Pc.it).countP vNone = 1 := by
    rw [← hps, List.map_append, List.map_cons, List.countP_append, List.countP_cons, hn a fun p => List.mem_append_left _, hn b fun p => List.mem_append_right _]; rfl
  have e3 : ((ps.map Pc.it).take a.length) = a.map Pc.it := by rw [← hps, List.map_append]; exact List.take_left' (List.length_map ..)
  have e4 : sliceL (ps.map Pc.it) (some ((a.length : Int) + 1)) none = b.map Pc.it := (sl_from _ (a.length + 1)).trans (by rw [← hps, List.map_append, ← List.drop_drop, List.drop_left' (List.length_map ..)]; rfl)
  refine ⟨fun _ => ⟨hlz, hall, ?_⟩, fun h => absurd rfl h⟩
  rw [hcn]
  refine ⟨fun h => (nomatch h), fun _ => ⟨hlz, hall, a.length, ?_, fun i hi => ?_, by omega, hlz, ?_⟩⟩
  · rw [← hps, List.map_append, List.map_cons]
    have := getA (a.map Pc.it) V.none (b.map Pc.it)
    rw [List.length_map] at this
    exact congrArg (Option.map vNone) this
  · rw [← hps, List.map_append, List.getElem?_append_left (by rw [List.length_map]; exact hi), List.getElem?_map, List.getElem?_eq_getElem hi]
    exact congrArg some (hok _ (List.mem_append_left _ (List.getElem_mem hi))).2
  rw [sl_to, e3]
  refine ⟨hlz, e7.1, e7.2, by decide, ?_⟩
  rw [e5]
  conv => whnf
  rw [show (List.replicate (10 - (a.length + b.length)) [V.tuple [V.bool true, V.list []]]).flatten = List.replicate (10 - (a.length + b.length)) Pc.q.it by rw [show List.replicate (10 - (a.length + b.length)) [V.tuple [V.bool true, V.list []]] = (List.replicate (10 - (a.length + b.length)) Pc.q.it).map fun x => [x] by rw [List.map_replicate]; rfl]; exact flat1 _]
  refine ⟨by rw [List.length_map, List.length_replicate]; omega, by omega, hlz, ?_⟩
  rw [e4]
  exact ⟨by rw [List.length_append, List.length_map, List.length_map, List.length_replicate]; omega, hQ⟩
theorem outs_le : ∀ ps : List Pc, (∀ p ∈ ps, p.ok) → ps.length ≤ (outs ps).length
  | [], _ => Nat.zero_le _
  | p :: ps, h => by
    have h1 := out_ne (h p (.head _))
    have h2 := outs_le ps fun p' hq => h p' (.tail _ hq)
    show _ + 1 ≤ (p.out ++ outs ps).length
    rw [List.length_append]; omega
theorem f_ten {C : Cx} {a : Addr} (hf__law_sign : FnAt C "_law_sign" 1 SIGN) (O : Ok C (Nn l_ten noEc)) (D : FnD C a ([0].map (nth l_ten)) (fnSc PW 39) (fnB PW 39)) : Fn C a 2 TEN :=
  Fn.of_body (vn := Nn l_ten noEc) (ps := [0]) D (sl_ten hf__law_sign O) (by decide +kernel) (by decide +kernel) rfl (by decide) (fun _ _ _ _ _ => trivial) fun ds Q ⟨a, b, e, hok, hab, hz, hQ⟩ => by
    subst e
    generalize hps : a ++ Pc.st :: b = ps at hz
    have hpk : ∀ p ∈ ps, p.ok := fun p hp => by
      rw [← hps] at hp
      rcases List.mem_append.mp hp with hp | hp
      · exact (hok p (List.mem_append_left _ hp)).1
      · rcases List.mem_cons.mp hp with rfl | hp
        · trivial
        · exact (hok p (List.mem_append_right _ hp)).1
    have h128 := outs_128 hpk
    have hT0 : ftext ps = [40, 63, 115, 58] ++ post ps := List.append_assoc _ _ _
    have hpl := outs_le ps hpk
    generalize hTe : ftext ps = T at hz h128 hT0
    have e1 : sliceL T none (some (4 : Int)) = [40, 63, 115, 58] := by rw [hT0]; exact sl_to _ 4
    have e2 : sliceL T (some (-3)) none = [41, 92, 90] := by rw [hT0]; unfold post; rw [← List.append_assoc]; exact sl_m3 _ _ _ _
    refine ⟨rfl, rfl, by decide, hz, ?_⟩
    rw [e1]
    refine ⟨rfl, rfl, fun _ => ⟨by decide, hz, ?_⟩, fun h => absurd rfl h⟩
    rw [show -(3 : Int) = -3 from rfl, e2]
    refine ⟨rfl, rfl, tenI T ps, ⟨_, [], ps, [40, 63, 115, 58], rfl, hT0, rfl, rfl⟩, ?_⟩
    rintro n σ ⟨done, rest, pre, hd, hTp, rfl, rfl⟩
    have hL : T.length = pre.length + (outs rest).length + 3 := by rw [hTp]; unfold post; rw [List.length_append, List.length_append, Nat.add_assoc]; rfl
    refine ⟨fun _ => ⟨hz, ?_⟩, fun h => absurd rfl h⟩
    conv => whnf
    refine ⟨fun hlt => ?_, fun hge => ?_⟩
    · have hlt : (pre.length : Int) < (T.length : Int) - 3 := of_decide_eq_true hlt
      cases rest with
      | nil => exfalso; rw [hL] at hlt; simp only [outs, List.map_nil, List.flatten_nil, List.length_nil] at hlt; omega
      | cons p rest =>
        refine ten_turn hpk hd hTp hz h128 ?_ (tenI_step hd hTp)
        have h1 : T.length = (outs ps).length + 7 := by rw [hT0]; unfold post; rw [List.length_append, List.length_append]; show 4 + (_ + 3) = _; omega
        have h2 : done.length ≤ ps.length := by rw [hd, List.length_append]; exact Nat.le_add_right _ _
        rw [List.length_map]; omega
    · have hge : ¬ (pre.length : Int) < (T.length : Int) - 3 := of_decide_eq_false hge
      have hps2 : rest = [] := outs_nil (fun p hp => hpk p (hd ▸ List.mem_append_right _ hp)) (by omega)
      subst hps2
      rw [List.append_nil] at hd
      subst hd
      exact ten_end hps hok hab hQ

/-! # _law_takes -/
def tkV (p : Bool × List Nat) : V := .tuple [.bool p.1, .list (p.2.map sg)]
def tkAt (p : Bool × List Nat) (c : Nat) : Bool := p.1 || decide (c ∈ p.2)
def takesB (ts : List (Bool × List Nat)) (t : List Nat) : Bool := decide (ts.length = t.length) && (ts.zip t).all fun q => tkAt q.1 q.2
abbrev TAKES : List V → (V → Prop) → Prop := fun ds Q => ∃ ts t, ds = [.list (ts.map tkV), .str t] ∧ ts.length ≤ 1000 ∧ t.length ≤ 1000 ∧ (∀ c ∈ t, c < 128) ∧ (∀ p ∈ ts, p.2.length ≤ 1000 ∧ ∀ c ∈ p.2, c < 128) ∧ Q (.bool (takesB ts t))
theorem any_sg (l : List Nat) (c : Nat) : ((l.map sg).any fun y => veq y (.str [c])) = decide (c ∈ l) := by
  induction l with
  | nil => rfl
  | cons x l ih =>
    rw [List.map_cons, List.any_cons, ih, show veq (sg x) (.str [c]) = decide ([x] = [c]) from eqv_str]
    by_cases h : x = c
    · subst h; rw [decide_eq_true rfl, Bool.true_or, decide_eq_true (List.mem_cons_self ..)]
    · rw [decide_eq_false (fun e => h (List.cons.inj e).1), Bool.false_or]
      exact decide_eq_decide.mpr ⟨.tail _, fun hm => (List.mem_cons.mp hm).elim (fun e => absurd e.symm h) id⟩
theorem vok_sg {l : List Nat} (h : ∀ c ∈ l, c < 128) : (l.map sg).all (vok 8) = true := List.all_eq_true.mpr fun d hd => by
  obtain ⟨c, hc, rfl⟩ := List.mem_map.mp hd
  exact sok_le fun x hx => List.mem_singleton.mp hx ▸ Nat.lt_trans (h c hc) (by decide)
def l_takes : List String := ["ten", "text", "len", "range", "k", "free", "signs"]
def k_takes : Kd := [(0, .local), (1, .local), (2, .globalImplicit), (3, .globalImplicit), (4, .local), (5, .local), (6, .local)]
def X_takes_1 : Xp := (x_sq (x_unp [5, 6] (pw (w_item (pw (w_x 0)) (pw (w_x 4))))) (x_sq (x_if (w_bool true [(w_not (pw (w_x 5))), (w_cmp .NotIn (pw (w_item (pw (w_x 1)) (pw (w_x 4)))) (pw (w_x 6)))]) (x_sq (x_ret (pw (w_c (.bool false)))) x_nil) x_nil) (x_keep [0, 1] x_nil)))
def X_takes : Xp := (x_sq (x_if (w_cmp .NotEq (pw (w_len (pw (w_x 0)))) (pw (w_len (pw (w_x 1))))) (x_sq (x_ret (pw (w_c (.bool false)))) x_nil) x_nil) (x_sq (x_for [4] true (w_r1 (pw (w_len (pw (w_x 1))))) X_takes_1 x_nil) (x_sq (x_ret (pw (w_c (.bool true)))) x_nil)))
theorem sl_takes {C : Cx} (O : Ok C (Nn l_takes noEc)) : SL C (Nn l_takes noEc) 0 k_takes (fnB PW 40) X_takes :=
    (.cons (s_ifs (s_cmp (s_len O (n := 2) rfl rfl (s_x O 0)) (s_len O (n := 2) rfl rfl (s_x O 1))) (.cons (s_ret s_bool)
    .nil) .nil)
    (.cons (s_for [4] (s_r1 O (n := 3) rfl rfl (s_len O (n := 2) rfl rfl (s_x O 1))) (.one rfl) (.cons (s_unp 5 6 (s_item (s_x O 0) (s_x O 4)) (.two rfl rfl (by decide +kernel)) rfl rfl)
    (.cons (s_ifs (s_and (.cons (s_not (s_x O 5)) (.cons (s_cmp (s_item (s_x O 1) (s_x O 4)) (s_x O 6)) .nil))) (.cons (s_ret s_bool)
    .nil) .nil)
    (.keep [0, 1] .nil))) .nil)
    (.cons (s_ret s_bool)
    .nil)))

def tkσ (ts : List (Bool × List Nat)) (t : List Nat) : St := [(0, .val (.list (ts.map tkV))), (1, .val (.str t))]
theorem takes_turn {ts : List (Bool × List Nat)} {t : List Nat} {k c : Nat} {p : Bool × List Nat} {K : Kt} (h1 : ts.length ≤ 1000) (h2 : t.length ≤ 1000) (hp : ts[k]? = some p) (hc : t[k]? = some c) (hc1 : c < 128) (hpl : p.2.length ≤ 1000 ∧ ∀ c ∈ p.2, c < 128)
    (hy : tkAt p c = true → K .next (tkσ ts t)) (hn : ∀ σ, tkAt p c = false → K (.ret (.bool false)) σ) : X_takes_1 (put (tkσ ts t) 4 (.val (.int k))) K := by
  have hp' : (ts.map tkV)[k]? = some (tkV p) := by rw [List.getElem?_map, hp]; rfl
  have z1 : (ts.map tkV).length ≤ 1000000 := by rw [List.length_map]; omega
  refine ⟨z1, k, tkV p, ixOf_get hp', hp', ?_⟩
  conv => whnf
  refine ⟨fun h => ⟨by omega, k, c, ixOf_get hc, hc, sok_le fun x hx => List.mem_singleton.mp hx ▸ Nat.lt_trans hc1 (by decide), vok_sg hpl.2, ?_⟩, fun h => ?_⟩
  · have h : (!p.1) = true := h
    have hf : p.1 = false := by cases e : p.1 <;> first | rfl | (rw [e] at h; cases h)
    rw [any_sg]
    conv => whnf
    refine ⟨fun h => hn _ ?_, fun h => hy ?_⟩
    · unfold tkAt; rw [hf]; cases e : decide (c ∈ p.2) <;> first | rfl | (rw [e] at h; cases h)
    · unfold tkAt; rw [hf]; cases e : decide (c ∈ p.2) <;> first | rfl | (rw [e] at h; cases h)
  · have hf : p.1 = true := by
      have h : (!p.1) ≠ true := h
      cases e : p.1 <;> first | rfl | (rw [e] at h; exact absurd rfl h)
    refine ⟨fun h => absurd h ‹_›, fun _ => hy ?_⟩
    unfold tkAt; rw [hf]; rfl
theorem f_takes {C : Cx} {a : Addr} (O : Ok C (Nn l_takes noEc)) (D : FnD C a ([0, 1].map (nth l_takes)) (fnSc PW 40) (fnB PW 40)) : Fn C a 1 TAKES :=
  Fn.of_body (vn := Nn l_takes noEc) (ps := [0, 1]) D (sl_takes O) (by decide +kernel) (by decide +kernel) rfl (by decide) (fun _ _ _ _ _ => trivial) fun ds Q ⟨ts, t, e, h1, h2, h3, h4, hQ⟩ => by
    subst e
    have z1 : (ts.map tkV).length ≤ 1000000 := by rw [List.length_map]; omega
    refine ⟨rfl, z1, by omega, ?_⟩
    conv => whnf
    refine ⟨fun h => ?_, fun h => ?_⟩
    · have hne : ¬ ts.length = t.length := fun e => by
        have h : (!decide (((ts.map tkV).length : Int) = (t.length : Int))) = true := h
        rw [List.length_map, e, decide_eq_true rfl] at h; cases h
      unfold takesB at hQ
      rw [decide_eq_false hne] at hQ
      exact hQ
    · have he : ts.length = t.length := by
        have h : (!decide (((ts.map tkV).length : Int) = (t.length : Int))) = false := h
        rw [List.length_map] at h
        cases e : decide ((ts.length : Int) = (t.length : Int)) with
        | false => rw [e] at h; cases h
        | true => have := of_decide_eq_true e; omega
      refine ⟨by omega, by decide, by decide, by omega, by decide, by rw [show (rangeL 0 t.length 1).length = _ from (List.length_map ..).symm.trans (rng_len 0 _)]; omega, fun k σ => σ = tkσ ts t ∧ ∀ j < k, ∀ p c, ts[j]? = some p → t[j]? = some c → tkAt p c = true, ⟨rfl, fun j h => absurd h (Nat.not_lt_zero j)⟩, ?_, ?_⟩
      · rintro k d σ hd ⟨rfl, hall⟩
        obtain ⟨rfl, hk⟩ := rng_get (a := 0) hd
        rw [Nat.zero_add] at hk ⊢
        have hk2 : k < t.length := by omega
        have hk1 : k < ts.length := by omega
        have g1 := List.getElem?_eq_getElem hk1
        have g2 := List.getElem?_eq_getElem hk2
        refine takes_turn h1 h2 g1 g2 (h3 _ (List.getElem_mem hk2)) (h4 _ (List.getElem_mem hk1)) (fun hy => ⟨rfl, fun j hj p c hp hc => ?_⟩) fun σ hn => ?_
        · rcases Nat.lt_succ_iff_lt_or_eq.mp hj with hj | rfl
          · exact hall j hj p c hp hc
          · cases g1.symm.trans hp; cases g2.symm.trans hc; exact hy
        · have : takesB ts t = false := by
            unfold takesB
            rw [decide_eq_true he, Bool.true_and, List.all_eq_false]
            exact ⟨(ts[k], t[k]), List.mem_of_getElem? (i := k) (by rw [List.getElem?_zip_eq_some]; exact ⟨g1, g2⟩), by rw [hn]; decide⟩
          rw [this] at hQ
          exact hQ
      · rintro σ ⟨rfl, hall⟩
        have : takesB ts t = true := by
          unfold takesB
          rw [decide_eq_true he, Bool.true_and, List.all_eq_true]
          intro q hq
          obtain ⟨j, hj⟩ := List.mem_iff_getElem?.mp hq
          obtain ⟨g1, g2⟩ := List.getElem?_zip_eq_some.mp hj
          have : j < t.length := (List.getElem?_eq_some_iff.mp g2).1
          exact hall j (by rw [rng_len]; omega) _ _ g1 g2
        rw [this] at hQ
        exact hQ

/-! # _join_translated_parts, one star -/
def jinp (a b : List (List Nat)) (y : Addr) : List V := a.map .str ++ .raw (.ref y) :: b.map .str
abbrev JOIN : List V → (V → Prop) → Prop := fun ds Q => ∃ (a b : List (List Nat)) (y : Addr), ds = [.list (jinp a b y), .raw (.ref y)] ∧ (a.map (·.length)).sum + a.length ≤ 10000 ∧ (b.map (·.length)).sum + b.length ≤ 10000 ∧
  Q (.str ([40, 63, 115, 58] ++ (a.flatten ++ ([46, 42] ++ b.flatten)) ++ [41, 92, 90]))
def jσ (L : List V) (y : Addr) (res : List V) (i : Nat) : St := [(0, .val (.list L)), (1, .val (.raw (.ref y))), (2, .own res), (3, .app 2), (5, .val (.int L.length)), (4, .val (.int i))]
def l_join : List String := ["inp", "STAR", "res", "add", "i", "n", "len", "fixed"]
def k_join : Kd := [(0, .local), (1, .local), (2, .local), (3, .local), (4, .local), (5, .local), (6, .globalImplicit), (7, .local)]
def X_join_1 : Xp := (x_sq (x_add 3 (pw (w_item (pw (w_x 0)) (pw (w_x 4))))) (x_sq (x_aug 4 .Add (pw (w_c (.int 1)))) x_nil))
def X_join_2 : Xp := (x_sq (x_app 7 (pw (w_item (pw (w_x 0)) (pw (w_x 4))))) (x_sq (x_aug 4 .Add (pw (w_c (.int 1)))) x_nil))
def X_join_3 : Xp := (x_sq (x_asrt (w_cmp .Is (pw (w_item (pw (w_x 0)) (pw (w_x 4)))) (pw (w_x 1)))) (x_sq (x_aug 4 .Add (pw (w_c (.int 1)))) (x_sq (x_if (w_cmp .Eq (pw (w_x 4)) (pw (w_x 5))) (x_sq (x_add 3 (pw (w_c (.str [46, 42])))) (x_sq x_brk x_nil)) x_nil) (x_sq (x_asrt (w_cmp .IsNot (pw (w_item (pw (w_x 0)) (pw (w_x 4)))) (pw (w_x 1)))) (x_sq (x_asgL 7 []) (x_sq (x_while (w_bool true [(w_cmp .Lt (pw (w_x 4)) (pw (w_x 5))), (w_cmp .IsNot (pw (w_item (pw (w_x 0)) (pw (w_x 4)))) (pw (w_x 1)))]) X_join_2) (x_frz 7 (x_sq (x_asg 7 (pw (w_join [] (pw (w_x 7))))) (x_sq (x_if (w_cmp .Eq (pw (w_x 4)) (pw (w_x 5))) (x_sq (x_add 3 (pw (w_c (.str [46, 42])))) (x_sq (x_add 3 (pw (w_x 7))) x_nil)) (x_sq x_any x_nil)) (x_keep [0, 1, 2, 3, 4, 5] x_nil))))))))))
def X_join_4 : Xp := (x_sq (x_asrt (w_cmp .Eq (pw (w_x 4)) (pw (w_x 5)))) (x_frz 2 (x_sq (x_asg 2 (pw (w_join [] (pw (w_x 2))))) (x_sq (x_ret (pw (w_fs [40, 63, 115, 58] [41, 92, 90] (pw (w_x 2))))) x_nil))))
def X_join : Xp := (x_sq (x_asgL 2 []) (x_sq (x_alias 3 2) (x_sq (x_two 4 5 (pw (w_c (.int 0))) (pw (w_len (pw (w_x 0))))) (x_sq (x_while (w_bool true [(w_cmp .Lt (pw (w_x 4)) (pw (w_x 5))), (w_cmp .IsNot (pw (w_item (pw (w_x 0)) (pw (w_x 4)))) (pw (w_x 1)))]) X_join_1) (x_sq (x_while (w_cmp .Lt (pw (w_x 4)) (pw (w_x 5))) X_join_3) X_join_4)))))

section
variable {a b : List (List Nat)} {y : Addr} {K : Kt}
theorem jinp_a {k : Nat} {l : List Nat} (h : a[k]? = some l) : (jinp a b y)[k]? = some (.str l) := by
  have hk := (List.getElem?_eq_some_iff.mp h).1
  unfold jinp
  rw [List.getElem?_append_left (by rw [List.length_map]; exact hk), List.getElem?_map, h]; rfl
theorem jinp_y : (jinp a b y)[a.length]? = some (.raw (.ref y)) := by
  have := getA (a.map V.str) (.raw (.ref y)) (b.map .str)
  rwa [List.length_map] at this
theorem jinp_b {k : Nat} {l : List Nat} (h : b[k]? = some l) : (jinp a b y)[a.length + 1 + k]? = some (.str l) := by
  unfold jinp
  rw [List.getElem?_append_right (by rw [List.length_map]; omega), List.length_map, show a.length + 1 + k - a.length = k + 1 by omega, List.getElem?_cons_succ, List.getElem?_map, h]; rfl
theorem jinp_len : (jinp a b y).length = a.length + 1 + b.length := by unfold jinp; rw [List.length_append, List.length_cons, List.length_map, List.length_map]; omega
theorem sumlen_append (a b : List (List Nat)) : ((a ++ b).map (·.length)).sum = (a.map (·.length)).sum + (b.map (·.length)).sum := by rw [List.map_append, List.sum_append_nat]
theorem join_end {L : List V} {rs : List (List Nat)} {Q : V → Prop} (hs : (rs.map (·.length)).sum + rs.length ≤ 100000) (hQ : Q (.str ([40, 63, 115, 58] ++ rs.flatten ++ [41, 92, 90]))) : X_join_4 (jσ L y (rs.map .str) L.length) (retK Q) := by
  refine ⟨decide_eq_true rfl, by decide, rs, strsOf_map rs, by omega, ?_⟩
  rw [joinL_nil]
  exact ⟨by rw [List.length_flatten]; exact Nat.le_trans (Nat.le_add_right _ _) (Nat.le_trans hs (by decide)), hQ⟩
theorem join_1 {L : List V} {res : List V} {i : Nat} {d : V} (hz : res.length ≤ 1000000) (hL : L.length ≤ 1000000) (hd : L[i]? = some d) (hK : K .next (jσ L y (res ++ [d]) (i + 1))) : X_join_1 (jσ L y res i) K :=
  ⟨hz, hL, i, d, ixOf_get hd, hd, rfl, rfl, hK⟩
def jτ (L : List V) (y : Addr) (res : List V) (i : Nat) (f : List V) : St := [(0, .val (.list L)), (1, .val (.raw (.ref y))), (2, .own res), (3, .app 2), (5, .val (.int L.length)), (4, .val (.int i)), (7, .own f)]
theorem join_2 {L : List V} {res f : List V} {i : Nat} {d : V} (hz : f.length ≤ 1000000) (hL : L.length ≤ 1000000) (hd : L[i]? = some d) (hK : K .next (jτ L y res (i + 1) (f ++ [d]))) : X_join_2 (jτ L y res i f) K :=
  ⟨hz, hL, i, d, ixOf_get hd, hd, rfl, rfl, hK⟩
theorem join_3 (h1 : (a.map (·.length)).sum + a.length ≤ 10000) (h2 : (b.map (·.length)).sum + b.length ≤ 10000) (h0 : b = [] → K .brk (jσ (jinp a b y) y ((a ++ [[46, 42]]).map .str) (jinp a b y).length))
    (hb : K .next (jσ (jinp a b y) y ((a ++ [[46, 42], b.flatten]).map .str) (jinp a b y).length)) : X_join_3 (jσ (jinp a b y) y (a.map .str) a.length) K := by
  have hln : (jinp a b y).length = a.length + 1 + b.length := jinp_len
  have hL : (jinp a b y).length ≤ 1000000 := by omega
  have hz : ∀ l : List V, l.length ≤ a.length + 2 → l.length ≤ 1000000 := fun l h => by omega
  have hz1 : (a.map V.str).length ≤ 1000000 := hz _ (by rw [List.length_map]; omega)
  refine ⟨hL, a.length, _, ixOf_get jinp_y, jinp_y, rfl, rfl, rfl, rfl, ?_⟩
  conv => whnf
  refine ⟨fun h => ?_, fun h => ?_⟩
  · have h : ((a.length : Int) + 1) = ((jinp a b y).length : Int) := of_decide_eq_true h
    have hbn : b = [] := List.length_eq_zero_iff.mp (by omega)
    refine ⟨hz1, ?_⟩
    have := h0 hbn
    rw [List.map_append, show (jinp a b y).length = a.length + 1 by rw [hln, hbn]; rfl] at this
    exact this
  · have h : ¬ ((a.length : Int) + 1) = ((jinp a b y).length : Int) := of_decide_eq_false h
    have hb0 : 0 < b.length := by omega
    have g0 := jinp_b (a := a) (y := y) (List.getElem?_eq_getElem hb0)
    refine ⟨hL, a.length + 1, _, ixOf_get g0, g0, rfl, rfl, fun n σ => ∃ k, σ = jτ (jinp a b y) y (a.map .str) (a.length + 1 + k) ((b.take k).map .str) ∧ k ≤ b.length ∧ n = b.length - k, ⟨_, 0, rfl, Nat.zero_le _, rfl⟩, ?_⟩
    rintro n σ ⟨k, rfl, hk, rfl⟩
    conv => whnf
    refine ⟨fun h => ?_, fun h => ⟨fun h' => absurd h' h, fun _ => ?_⟩⟩
    · have h : ((a.length + 1 + k : Nat) : Int) < ((jinp a b y).length : Int) := of_decide_eq_true h
      have hkb : k < b.length := by omega
      have g := jinp_b (a := a) (y := y) (List.getElem?_eq_getElem hkb)
      refine ⟨hL, a.length + 1 + k, _, ixOf_get g, g, fun _ => join_2 (by rw [List.length_map, List.length_take]; omega) hL g ⟨b.length - (k + 1), by omega, k + 1, ?_, hkb, rfl⟩, fun h => (nomatch h)⟩
      rw [take_snoc (List.getElem?_eq_getElem hkb), List.map_append]; rfl
    · have h : ¬ ((a.length + 1 + k : Nat) : Int) < ((jinp a b y).length : Int) := fun e => h (decide_eq_true e)
      obtain rfl : k = b.length := by omega
      rw [List.take_length]
      refine ⟨by decide, b, strsOf_map b, by omega, ?_⟩
      rw [joinL_nil]
      conv => whnf
      refine ⟨fun _ => ⟨hz1, hz _ (by rw [List.length_append, List.length_map, List.length_singleton]; omega), ?_⟩, fun h' => absurd (of_decide_eq_false h') fun h' => h' (by omega)⟩
      rw [show (a ++ [[46, 42], b.flatten]).map V.str = a.map V.str ++ [.str [46, 42]] ++ [.str b.flatten] by rw [List.map_append, List.append_assoc]; rfl, hln] at hb
      exact hb
theorem join_o {L : List V} {res : List V} {i : Nat} (hL : L.length ≤ 1000000) (hi : i < L.length) {d : V} (hd : L[i]? = some d) {v : Bool} (hv : (match d with | .str _ => v = true | .raw (.ref x) => x = y ∧ v = false | _ => False)) {Q : Bool → Prop} (hQ : Q v) :
    wB true true [w_cmp .Lt (pw (w_x 4)) (pw (w_x 5)), w_cmp .IsNot (pw (w_item (pw (w_x 0)) (pw (w_x 4)))) (pw (w_x 1))] (ρa (jσ L y res i)) fun d => bw d Q := by
  refine ⟨fun _ => ⟨hL, i, d, ixOf_get hd, hd, ?_⟩, fun h => absurd (decide_eq_true (by omega)) h⟩
  cases d with
  | str l => subst hv; exact hQ
  | raw v' => cases v' <;> first | (obtain ⟨rfl, rfl⟩ := hv; exact ⟨rfl, hQ⟩) | exact hv.elim
  | _ => exact hv.elim
theorem sl_join {C : Cx} (O : Ok C (Nn l_join noEc)) : SL C (Nn l_join noEc) 0 k_join (fnB PW 33) X_join :=
    (.cons (s_asgL 2 .nil rfl rfl)
    (.cons (s_alias O 3 2 rfl)
    (.cons (s_two 4 5 s_int (s_len O (n := 6) rfl rfl (s_x O 0)) rfl rfl rfl (by decide +kernel) rfl rfl)
    (.cons (s_while (s_and (.cons (s_cmp (s_x O 4) (s_x O 5)) (.cons (s_cmp (s_item (s_x O 0) (s_x O 4)) (s_x O 1)) .nil))) (.cons (s_add O 3 (s_item (s_x O 0) (s_x O 4)))
    (.cons (s_aug 4 s_int)
    .nil)))
    (.cons (s_while (s_cmp (s_x O 4) (s_x O 5)) (.cons (s_asrt (s_cmp (s_item (s_x O 0) (s_x O 4)) (s_x O 1)))
    (.cons (s_aug 4 s_int)
    (.cons (s_ifs (s_cmp (s_x O 4) (s_x O 5)) (.cons (s_add O 3 (s_str [46, 42] (by decide +kernel)))
    (.cons s_brk
    .nil)) .nil)
    (.cons (s_asrt (s_cmp (s_item (s_x O 0) (s_x O 4)) (s_x O 1)))
    (.cons (s_asgL 7 .nil rfl rfl)
    (.cons (s_while (s_and (.cons (s_cmp (s_x O 4) (s_x O 5)) (.cons (s_cmp (s_item (s_x O 0) (s_x O 4)) (s_x O 1)) .nil))) (.cons (s_app O 7 (s_item (s_x O 0) (s_x O 4)) rfl)
    (.cons (s_aug 4 s_int)
    .nil)))
    (.frz 7 (.cons (s_asg 7 (s_join [] (by decide +kernel) (s_x O 7) rfl) rfl rfl)
    (.cons (s_ifs (s_cmp (s_x O 4) (s_x O 5)) (.cons (s_add O 3 (s_str [46, 42] (by decide +kernel)))
    (.cons (s_add O 3 (s_x O 7))
    .nil)) (.cons s_any
    .nil))
    (.keep [0, 1, 2, 3, 4, 5] .nil)))))))))))
    (.cons (s_asrt (s_cmp (s_x O 4) (s_x O 5)))
    (.frz 2 (.cons (s_asg 2 (s_join [] (by decide +kernel) (s_x O 2) rfl) rfl rfl)
    (.cons (s_ret (s_fs [40, 63, 115, 58] [41, 92, 90] (by decide +kernel) (by decide +kernel) rfl rfl (s_x O 2)))
    .nil)))))))))
theorem f_join {C : Cx} {x : Addr} (O : Ok C (Nn l_join noEc)) (D : FnD C x ([0, 1].map (nth l_join)) (fnSc PW 33) (fnB PW 33)) : Fn C x 1 JOIN :=
  Fn.of_body (vn := Nn l_join noEc) (ps := [0, 1]) D (sl_join O) (by decide +kernel) (by decide +kernel) rfl (by decide) (fun _ _ _ _ _ => trivial) fun ds Q ⟨a, b, y, e, h1, h2, hQ⟩ => by
    subst e
    have hln : (jinp a b y).length = a.length + 1 + b.length := jinp_len
    have hL : (jinp a b y).length ≤ 1000000 := by omega
    have fin : ∀ rs : List (List Nat), (rs.map (·.length)).sum + rs.length ≤ 100000 → rs.flatten = a.flatten ++ ([46, 42] ++ b.flatten) → X_join_4 (jσ (jinp a b y) y (rs.map .str) (jinp a b y).length) (retK Q) := fun rs h e => join_end h (by rw [e]; exact hQ)
    refine ⟨rfl, rfl, hL, _, _, rfl, fun n σ => ∃ k, σ = jσ (jinp a b y) y ((a.take k).map .str) k ∧ k ≤ a.length ∧ n = a.length - k, ⟨_, 0, rfl, Nat.zero_le _, rfl⟩, ?_⟩
    rintro n σ ⟨k, rfl, hk, rfl⟩
    by_cases hka : k < a.length
    · have g := jinp_a (b := b) (y := y) (List.getElem?_eq_getElem hka)
      refine join_o hL (by omega) g rfl ⟨fun _ => join_1 (by rw [List.length_map, List.length_take]; omega) hL g ⟨a.length - (k + 1), by omega, k + 1, ?_, hka, rfl⟩, fun h => (nomatch h)⟩
      rw [take_snoc (List.getElem?_eq_getElem hka), List.map_append]; rfl
    · obtain rfl : k = a.length := by omega
      rw [List.take_length]
      refine join_o hL (by omega) jinp_y ⟨rfl, rfl⟩ ⟨fun h => (nomatch h), fun _ => ?_⟩
      refine ⟨fun n σ => (n = 1 ∧ σ = jσ (jinp a b y) y (a.map .str) a.length) ∨ (n = 0 ∧ σ = jσ (jinp a b y) y ((a ++ [[46, 42], b.flatten]).map .str) (jinp a b y).length), ⟨1, .inl ⟨rfl, rfl⟩⟩, ?_⟩
      have f2 := fin (a ++ [[46, 42], b.flatten]) (by rw [sumlen_append, List.length_append, List.map_cons, List.map_cons, List.map_nil, List.sum_cons, List.sum_cons, show b.flatten.length = (b.map (·.length)).sum from List.length_flatten ..]; simp only [List.length_cons, List.length_nil, List.sum_nil]; omega) (by rw [List.flatten_append]; simp only [List.flatten_cons, List.flatten_nil, List.append_nil])
      rintro n σ (⟨rfl, rfl⟩ | ⟨rfl, rfl⟩)
      · refine ⟨fun _ => join_3 h1 h2 (fun hb => ?_) ⟨0, Nat.zero_lt_one, .inr ⟨rfl, rfl⟩⟩, fun h => absurd (decide_eq_true (show (a.length : Int) < ((jinp a b y).length : Int) by omega)) (by rw [show decide ((a.length : Int) < ((jinp a b y).length : Int)) = false from h]; exact Bool.false_ne_true)⟩
        refine fin (a ++ [[46, 42]]) (by rw [sumlen_append, List.length_append]; simp only [List.map_cons, List.map_nil, List.sum_cons, List.length_cons, List.length_nil, List.sum_nil]; omega) ?_
        subst hb
        rw [List.flatten_append]; rfl
      · exact ⟨fun h => absurd (of_decide_eq_true h) (Int.lt_irrefl _), fun _ => f2⟩
end

def ecC (C : Cx) (env : Env) : Prop := env.code = .ref C.c
/-! # escape, _translate -/
abbrev ESC : List V → (V → Prop) → Prop := fun ds Q => ∃ x, ds = [.str [x]] ∧ x < 128 ∧ Q (.str (escL x))
def l_esc : List String := ["pattern", "isinstance", "str", "_special_chars_map"]
def k_esc : Kd := [(0, .local), (1, .globalImplicit), (2, .globalImplicit), (3, .globalImplicit)]
def X_esc : Xp := (x_sq (x_if (pw (w_isS (pw (w_x 0)))) (x_sq (x_ret (pw (w_tr (pw (w_x 0))))) x_nil) (x_sq x_any (x_sq x_any x_nil))) x_nil)
theorem sl_esc {C : Cx} (hmap : SpMap C "_special_chars_map") (O : Ok C (Nn l_esc noEc)) : SL C (Nn l_esc noEc) 0 k_esc (fnB PW 30) X_esc :=
    (.cons (s_ifs (s_isS O (n := 1) (m := 2) rfl rfl rfl rfl (s_x O 0)) (.cons (s_ret (s_tr O (m := 3) hmap rfl (s_x O 0) rfl rfl))
    .nil) (.cons s_any
    (.cons s_any
    .nil)))
    .nil)
theorem f_esc {C : Cx} {a : Addr} (hmap : SpMap C "_special_chars_map") (O : Ok C (Nn l_esc noEc)) (D : FnD C a ([0].map (nth l_esc)) (fnSc PW 30) (fnB PW 30)) : Fn C a 1 ESC :=
  Fn.of_body (vn := Nn l_esc noEc) (ps := [0]) D (sl_esc hmap O) (by decide +kernel) (by decide +kernel) rfl (by decide) (fun _ _ _ _ _ => trivial) fun ds Q ⟨x, e, h, hQ⟩ => by
    subst e
    exact ⟨rfl, fun _ => ⟨x, rfl, h, hQ⟩, fun h => (nomatch h)⟩
def l_tr : List String := ["pat", "STAR", "QUESTION_MARK", "res", "add", "i", "n", "len", "c", "j", "stuff", "chunks", "k", "chunk", "range", "_twin_re_1", "escape"]
def k_tr : Kd := [(0, .local), (1, .local), (2, .local), (3, .local), (4, .local), (5, .local), (6, .local), (7, .globalImplicit), (8, .local), (9, .local), (10, .local), (11, .local), (12, .local), (13, .local), (14, .globalImplicit), (15, .globalImplicit), (16, .globalImplicit)]
def X_tr_1 : Xp := (x_sq (x_asg 9 (pw (w_bin .Add (pw (w_x 9)) (pw (w_c (.int 1)))))) x_nil)
def X_tr_2 : Xp := (x_sq (x_asg 12 (pw (w_find 45 (pw (w_x 0)) (pw (w_x 12)) (pw (w_x 9))))) (x_sq (x_if (w_cmp .Lt (pw (w_x 12)) (pw (w_c (.int 0)))) (x_sq x_brk x_nil) x_nil) (x_sq (x_app 11 (pw (w_sl (pw (w_x 0)) ((pw (w_x 5)) false) ((pw (w_x 12)) false)))) (x_sq (x_asg 5 (pw (w_bin .Add (pw (w_x 12)) (pw (w_c (.int 1)))))) (x_sq (x_asg 12 (pw (w_bin .Add (pw (w_x 12)) (pw (w_c (.int 3)))))) x_nil)))))
def X_tr_3 : Xp := (x_sq x_any x_nil)
def X_tr_4 : Xp := (x_sq (x_for [12] true (w_r3 (pw (w_bin .Sub (pw (w_len (pw (w_x 11)))) (pw (w_c (.int 1))))) (pw (w_c (.int 0))) (pw (w_un .USub (pw (w_c (.int 1)))))) X_tr_3 x_nil) (x_frz 11 (x_sq (x_asg 10 (pw (w_gj (pw (w_x 11))))) x_nil)))
def X_tr_5 : Xp := (x_sq (x_asg 13 (pw (w_sl (pw (w_x 0)) ((pw (w_x 5)) false) ((pw (w_x 9)) false)))) (x_mid (x_if (pw (w_x 13)) (x_sq (x_app 11 (pw (w_x 13))) x_nil) (x_sq (x_augI 11 (pw (w_un .USub (pw (w_c (.int 1))))) .Add (pw (w_c (.str [45])))) x_nil)) X_tr_4))
def X_tr_6 : Xp := (x_sq (x_asgL 11 []) (x_sq (x_asg 12 (w_if (w_cmp .Eq (pw (w_item (pw (w_x 0)) (pw (w_x 5)))) (pw (w_c (.str [33])))) (pw (w_bin .Add (pw (w_x 5)) (pw (w_c (.int 2))))) (pw (w_bin .Add (pw (w_x 5)) (pw (w_c (.int 1))))))) (x_sq (x_while (pw (w_c (.bool true))) X_tr_2) X_tr_5)))
def X_tr_7 : Xp := (x_sq (x_asg 10 (pw (w_sub (pw (w_x 10))))) (x_sq (x_asg 5 (pw (w_bin .Add (pw (w_x 9)) (pw (w_c (.int 1)))))) (x_sq (x_if (w_not (pw (w_x 10))) (x_sq x_any x_nil) (x_sq (x_if (w_cmp .Eq (pw (w_x 10)) (pw (w_c (.str [33])))) (x_sq x_any x_nil) (x_sq (x_if (w_cmp .Eq (pw (w_item (pw (w_x 10)) (pw (w_c (.int 0))))) (pw (w_c (.str [33])))) (x_sq x_any x_nil) (x_sq (x_if (w_cmp .In (pw (w_item (pw (w_x 10)) (pw (w_c (.int 0))))) (pw (w_tup [(pw (w_c (.str [94]))), (pw (w_c (.str [91])))]))) (x_sq x_any x_nil) x_nil) x_nil)) (x_sq (x_add 4 (pw (w_fs [91] [93] (pw (w_x 10))))) x_nil))) x_nil)) x_nil)))
def X_tr_8 : Xp := (x_sq (x_asg 10 (pw (w_sl (pw (w_x 0)) ((pw (w_x 5)) false) ((pw (w_x 9)) false)))) (x_mid (x_if (w_cmp .NotIn (pw (w_c (.str [45]))) (pw (w_x 10))) (x_sq (x_asg 10 (pw (w_repl 92 (pw (w_x 10))))) x_nil) X_tr_6) (x_keep [0, 1, 2, 3, 4, 6, 9, 10] X_tr_7)))
def X_tr_9 : Xp := (x_sq (x_asg 9 (pw (w_x 5))) (x_sq (x_if (w_bool true [(w_cmp .Lt (pw (w_x 9)) (pw (w_x 6))), (w_cmp .Eq (pw (w_item (pw (w_x 0)) (pw (w_x 9)))) (pw (w_c (.str [33]))))]) (x_sq (x_asg 9 (pw (w_bin .Add (pw (w_x 9)) (pw (w_c (.int 1)))))) x_nil) x_nil) (x_sq (x_if (w_bool true [(w_cmp .Lt (pw (w_x 9)) (pw (w_x 6))), (w_cmp .Eq (pw (w_item (pw (w_x 0)) (pw (w_x 9)))) (pw (w_c (.str [93]))))]) (x_sq (x_asg 9 (pw (w_bin .Add (pw (w_x 9)) (pw (w_c (.int 1)))))) x_nil) x_nil) (x_sq (x_while (w_bool true [(w_cmp .Lt (pw (w_x 9)) (pw (w_x 6))), (w_cmp .NotEq (pw (w_item (pw (w_x 0)) (pw (w_x 9)))) (pw (w_c (.str [93]))))]) X_tr_1) (x_sq (x_if (w_cmp .GtE (pw (w_x 9)) (pw (w_x 6))) (x_sq x_any x_nil) X_tr_8) x_nil)))))
def X_tr_10 : Xp := (x_sq (x_asg 8 (pw (w_item (pw (w_x 0)) (pw (w_x 5))))) (x_sq (x_asg 5 (pw (w_bin .Add (pw (w_x 5)) (pw (w_c (.int 1)))))) (x_sq (x_if (w_cmp .Eq (pw (w_x 8)) (pw (w_c (.str [42])))) (x_sq (x_if (w_bool false [(w_not (pw (w_x 3))), (w_cmp .IsNot (pw (w_item (pw (w_x 3)) (pw (w_un .USub (pw (w_c (.int 1))))))) (pw (w_x 1)))]) (x_sq (x_add 4 (pw (w_x 1))) x_nil) x_nil) x_nil) (x_sq (x_if (w_cmp .Eq (pw (w_x 8)) (pw (w_c (.str [63])))) (x_sq (x_add 4 (pw (w_x 2))) x_nil) (x_sq (x_if (w_cmp .Eq (pw (w_x 8)) (pw (w_c (.str [91])))) X_tr_9 (x_sq (x_add 4 (pw (w_call ESC [(pw (w_x 8))]))) x_nil)) x_nil)) x_nil)) (x_keep [0, 1, 2, 3, 4, 5, 6] x_nil))))
def X_tr : Xp := (x_sq (x_asgL 3 []) (x_sq (x_alias 4 3) (x_sq (x_two 5 6 (pw (w_c (.int 0))) (pw (w_len (pw (w_x 0))))) (x_sq (x_while (w_cmp .Lt (pw (w_x 5)) (pw (w_x 6))) X_tr_10) (x_sq (x_asrt (w_cmp .Eq (pw (w_x 5)) (pw (w_x 6)))) (x_frz 3 (x_sq (x_ret (pw (w_x 3))) x_nil)))))))
theorem sl_tr {C : Cx} (hf_escape : FnAt C "escape" 1 ESC) (hpat : SpPat C "_twin_re_1") (O : Ok C (Nn l_tr (ecC C))) : SL C (Nn l_tr (ecC C)) 1 k_tr (fnB PW 32) X_tr :=
    (.cons (s_asgL 3 .nil rfl rfl)
    (.cons (s_alias O 4 3 rfl)
    (.cons (s_two 5 6 s_int (s_len O (n := 7) rfl rfl (s_x O 0)) rfl rfl rfl (by show nth _ _ ≠ nth _ _; decide +kernel) rfl rfl)
    (.cons (s_while (s_cmp (s_x O 5) (s_x O 6)) (.cons (s_asg 8 (s_item (s_x O 0) (s_x O 5)) rfl rfl)
    (.cons (s_asg 5 (s_bin (s_x O 5) s_int) rfl rfl)
    (.cons (s_ifs (s_cmp (s_x O 8) (s_str [42] (by decide +kernel))) (.cons (s_ifs (s_or (.cons (s_not (s_x O 3)) (.cons (s_cmp (s_item (s_x O 3) (s_neg s_int)) (s_x O 1)) .nil))) (.cons (s_add O 4 (s_x O 1))
    .nil) .nil)
    .nil) (.cons (s_ifs (s_cmp (s_x O 8) (s_str [63] (by decide +kernel))) (.cons (s_add O 4 (s_x O 2))
    .nil) (.cons (s_ifs (s_cmp (s_x O 8) (s_str [91] (by decide +kernel))) (.cons (s_asg 9 (s_x O 5) rfl rfl)
    (.cons (s_ifs (s_and (.cons (s_cmp (s_x O 9) (s_x O 6)) (.cons (s_cmp (s_item (s_x O 0) (s_x O 9)) (s_str [33] (by decide +kernel))) .nil))) (.cons (s_asg 9 (s_bin (s_x O 9) s_int) rfl rfl)
    .nil) .nil)
    (.cons (s_ifs (s_and (.cons (s_cmp (s_x O 9) (s_x O 6)) (.cons (s_cmp (s_item (s_x O 0) (s_x O 9)) (s_str [93] (by decide +kernel))) .nil))) (.cons (s_asg 9 (s_bin (s_x O 9) s_int) rfl rfl)
    .nil) .nil)
    (.cons (s_while (s_and (.cons (s_cmp (s_x O 9) (s_x O 6)) (.cons (s_cmp (s_item (s_x O 0) (s_x O 9)) (s_str [93] (by decide +kernel))) .nil))) (.cons (s_asg 9 (s_bin (s_x O 9) s_int) rfl rfl)
    .nil))
    (.cons (s_ifs (s_cmp (s_x O 9) (s_x O 6)) (.cons s_any
    .nil) (.cons (s_asg 10 (s_sl (s_x O 0) (s_at (s_x O 5)) (s_at (s_x O 9))) rfl rfl)
    (.mid (s_ifs (s_cmp (s_str [45] (by decide +kernel)) (s_x O 10)) (.cons (s_asg 10 (s_repl 92 [92, 92] (by decide +kernel) (by decide +kernel) (s_x O 10) rfl rfl) rfl rfl)
    .nil) (.cons (s_asgL 11 .nil rfl rfl)
    (.cons (s_asg 12 (s_if (s_cmp (s_item (s_x O 0) (s_x O 5)) (s_str [33] (by decide +kernel))) (s_bin (s_x O 5) s_int) (s_bin (s_x O 5) s_int)) rfl rfl)
    (.cons (s_while s_bool (.cons (s_asg 12 (s_find 45 (by decide +kernel) (s_x O 0) (s_x O 12) (s_x O 9) rfl rfl) rfl rfl)
    (.cons (s_ifs (s_cmp (s_x O 12) s_int) (.cons s_brk
    .nil) .nil)
    (.cons (s_app O 11 (s_sl (s_x O 0) (s_at (s_x O 5)) (s_at (s_x O 12))) rfl)
    (.cons (s_asg 5 (s_bin (s_x O 12) s_int) rfl rfl)
    (.cons (s_asg 12 (s_bin (s_x O 12) s_int) rfl rfl)
    .nil))))))
    (.cons (s_asg 13 (s_sl (s_x O 0) (s_at (s_x O 5)) (s_at (s_x O 9))) rfl rfl)
    (.mid (s_ifs (s_x O 13) (.cons (s_app O 11 (s_x O 13) rfl)
    .nil) (.cons (s_augI O 11 (s_neg s_int) (s_str [45] (by decide +kernel)) rfl)
    .nil))
    (.cons (s_for [12] (s_r3 O (n := 14) rfl rfl (s_bin (s_len O (n := 7) rfl rfl (s_x O 11)) s_int) s_int (s_neg s_int)) (.one rfl) (.cons s_any
    .nil) .nil)
    (.frz 11 (.cons (s_asg 10 (s_gj (fun _ h => h) (s_x O 11) (by decide +kernel) (by decide +kernel) (by decide +kernel) (by decide +kernel) (by decide +kernel) rfl rfl (by decide +kernel) (by decide +kernel) rfl fun _ _ => rfl) rfl rfl)
    .nil)))))))))
    (.keep [0, 1, 2, 3, 4, 6, 9, 10] (.cons (s_asg 10 (s_sub O (m := 15) hpat (fun _ h => h) rfl (s_x O 10) rfl (fun _ => rfl) (by decide +kernel)) rfl rfl)
    (.cons (s_asg 5 (s_bin (s_x O 9) s_int) rfl rfl)
    (.cons (s_ifs (s_not (s_x O 10)) (.cons s_any
    .nil) (.cons (s_ifs (s_cmp (s_x O 10) (s_str [33] (by decide +kernel))) (.cons s_any
    .nil) (.cons (s_ifs (s_cmp (s_item (s_x O 10) s_int) (s_str [33] (by decide +kernel))) (.cons s_any
    .nil) (.cons (s_ifs (s_cmp (s_item (s_x O 10) s_int) (s_tup (.cons (s_str [94] (by decide +kernel)) (.cons (s_str [91] (by decide +kernel)) .nil)) rfl)) (.cons s_any
    .nil) .nil)
    .nil))
    (.cons (s_add O 4 (s_fs [91] [93] (by decide +kernel) (by decide +kernel) rfl rfl (s_x O 10)))
    .nil)))
    .nil))
    .nil)))))))
    .nil))))) (.cons (s_add O 4 (s_call O 16 hf_escape rfl (.cons (s_x O 8) .nil)))
    .nil))
    .nil))
    .nil))
    (.keep [0, 1, 2, 3, 4, 5, 6] .nil)))))
    (.cons (s_asrt (s_cmp (s_x O 5) (s_x O 6)))
    (.frz 3 (.cons (s_ret (s_x O 3))
    .nil)))))))

section
variable {P pre r : List Nat} {x y : Nat} {a : Addr} {res : List V} {K : Kt}
def trσ (P : List Nat) (a : Addr) (res : List V) (i : Nat) : St := [(0, .val (.str P)), (1, .val (.raw (.ref a))), (2, .val (.str [46])), (3, .own res), (4, .app 3), (6, .val (.int P.length)), (5, .val (.int i))]
theorem esc_es : ∀ x ∈ sgs, escL x = es x ∧ x ≠ 42 ∧ x ≠ 63 ∧ x ≠ 91 ∧ x ≠ 33 ∧ x ≠ 93 ∧ x ≠ 92 := by decide
theorem sokc (h : x < 128) : sok [x] = true := sok_le fun c hc => List.mem_singleton.mp hc ▸ Nat.lt_trans h (by decide)
theorem nsg {x u : Nat} (h : x ≠ u) {Q : Prop} (e : decide ([x] = [u]) = true) : Q := absurd (of_decide_eq_true e) fun e => h (List.cons.inj e).1
theorem tr_c (hx : x ∈ sgs) (hT : P = pre ++ x :: r) (hz : P.length ≤ 1000000) (hl : res.length ≤ 1000000) (hK : K .next (trσ P a (res ++ [.str (es x)]) (pre.length + 1))) : X_tr_10 (trσ P a res pre.length) K := by
  obtain ⟨e, n1, n2, n3, -⟩ := esc_es x hx
  have h128 := sgs_128 x hx
  rw [← e] at hK
  exact ten_get hT hz ⟨sokc h128, rfl, nsg n1, fun _ => ⟨sokc h128, rfl, nsg n2, fun _ => ⟨sokc h128, rfl, nsg n3, fun _ => ⟨hl, x, rfl, h128, hK⟩⟩⟩⟩
theorem tr_q (hT : P = pre ++ 63 :: r) (hz : P.length ≤ 1000000) (hl : res.length ≤ 1000000) (hK : K .next (trσ P a (res ++ [.str [46]]) (pre.length + 1))) : X_tr_10 (trσ P a res pre.length) K :=
  ten_get hT hz ⟨rfl, rfl, fun h => (nomatch h), fun _ => ⟨rfl, rfl, fun _ => ⟨hl, hK⟩, fun h => (nomatch h)⟩⟩
theorem tr_st (hT : P = pre ++ 42 :: r) (hz : P.length ≤ 1000000) (hl : res.length ≤ 1000000) (hres : ∀ d ∈ res, ∃ l, d = .str l) (hK : K .next (trσ P a (res ++ [.raw (.ref a)]) (pre.length + 1))) : X_tr_10 (trσ P a res pre.length) K := by
  refine ten_get hT hz ⟨rfl, rfl, fun _ => ⟨hl, ?_⟩, fun h => (nomatch h)⟩
  cases hr : res with
  | nil => subst hr; exact ⟨fun h => (nomatch h), fun _ => ⟨fun _ => ⟨hl, hK⟩, fun h => (nomatch h)⟩⟩
  | cons d ds =>
    rw [← hr]
    have hne : 0 < res.length := by rw [hr]; exact Nat.succ_pos _
    obtain ⟨l, hlast⟩ : ∃ l, res[res.length - 1]? = some (.str l) := by
      have h : res.length - 1 < res.length := Nat.sub_lt hne Nat.zero_lt_one
      obtain ⟨l, e⟩ := hres _ (List.getElem_mem h)
      exact ⟨l, (List.getElem?_eq_getElem h).trans (congrArg some e)⟩
    have hix : ixOf (-1) res.length = some (res.length - 1) := by unfold ixOf; rw [if_neg (by decide), if_pos (by omega)]; exact congrArg some (by omega)
    have he : (!res.isEmpty) = true := by rw [hr]; rfl
    refine ⟨fun _ => ⟨hl, res.length - 1, .str l, hix, hlast, fun _ => ⟨hl, hK⟩, fun h => (nomatch h)⟩, fun h => absurd ?_ h⟩
    show (!(!res.isEmpty)) = false
    rw [he]; rfl
end

section
variable {P pre r l s : List Nat} {u v j h : Nat} {a : Addr} {res : List V} {K : Kt}
theorem es_hd2 : ∀ u ∈ sgs, ∃ h t, es u = h :: t ∧ h ≠ 33 ∧ h ≠ 94 ∧ h ≠ 91 := by
  intro u hu
  unfold es
  split
  · exact ⟨92, [45], rfl, by decide, by decide, by decide⟩
  · rename_i hne; exact ⟨u, [], rfl, (by decide : ∀ u ∈ sgs, u ≠ 45 → u ≠ 33 ∧ u ≠ 94 ∧ u ≠ 91) u hu hne⟩
def σ7 (P : List Nat) (a : Addr) (res : List V) (j : Nat) (s : List Nat) : St := [(0, .val (.str P)), (1, .val (.raw (.ref a))), (2, .val (.str [46])), (3, .own res), (4, .app 3), (6, .val (.int P.length)), (9, .val (.int j)), (10, .val (.str s))]
theorem tr_7 {t : List Nat} (hs : s = h :: t) (n1 : h ≠ 33) (n2 : h ≠ 94) (n3 : h ≠ 91) (hz : s.length ≤ 1000) (h128 : ∀ c ∈ s, c < 128) (hamp : s.all noAmp = true) (hl : res.length ≤ 1000000)
    (hK : ∀ σ, keepv σ [0, 1, 2, 3, 4, 5, 6] = trσ P a (res ++ [.str ([91] ++ s ++ [93])]) (j + 1) → K .next σ) : X_tr_7 (σ7 P a res j s) K := by
  have g0 : s[0]? = some h := hs ▸ rfl
  have hz' : s.length ≤ 1000000 := by omega
  have hsk : sok s = true := sok_le fun c hc => Nat.lt_trans (h128 c hc) (by decide)
  have h1 : h < 128 := h128 h (hs ▸ .head _)
  have he : (!s.isEmpty) = true := by rw [hs]; rfl
  have hix : ixOf 0 s.length = some 0 := ixOf_get (k := 0) g0
  have nt : ([V.str [94], .str [91]].any fun y => veq y (.str [h])) = false := by
    rw [List.any_cons, List.any_cons, List.any_nil, eqv_str, eqv_str, decide_eq_false (fun e => n2 (List.cons.inj e).1.symm), decide_eq_false (fun e => n3 (List.cons.inj e).1.symm)]; rfl
  refine ⟨hz', hamp, hz', ?_⟩
  rw [he]
  refine ⟨fun h => (nomatch h), fun _ => ⟨hsk, rfl, fun e => ?_, fun _ => ⟨hz', 0, h, hix, g0, sokc h1, rfl, nsg n1, fun _ => ⟨hz', 0, h, hix, g0, sokc h1, rfl, ?_⟩⟩⟩⟩
  · have e : s = [33] := of_decide_eq_true e
    rw [hs] at e; exact absurd (List.cons.inj e).1 n1
  · rw [nt]
    exact ⟨fun h => (nomatch h), fun _ => ⟨hl, hz', hK _ rfl⟩⟩
/-- the brackets' inside, made ready -/
def σ8 (P : List Nat) (a : Addr) (res : List V) (i j : Nat) : St := [(0, .val (.str P)), (1, .val (.raw (.ref a))), (2, .val (.str [46])), (3, .own res), (4, .app 3), (6, .val (.int P.length)), (5, .val (.int i)), (8, .val (.str [91])), (9, .val (.int j))]
theorem replw_esL : ∀ l : List Nat, replw 45 [92, 45] l = esL l
  | [] => rfl
  | c :: l => by
    show (if c = 45 then [92, 45] else [c]) ++ replw 45 [92, 45] l = es c ++ esL l
    rw [replw_esL l]; rfl
theorem esL_id {l : List Nat} (h : 45 ∉ l) : esL l = l := by
  rw [← replw_esL]; exact replw_free h
theorem sl_nil {α : Type} (l : List α) (i : Int) : sliceL l (some i) (some i) = [] := by unfold sliceL; dsimp only; rw [Nat.sub_self, List.take_zero]
theorem tr_4 {i j : Nat} {st ch : List Nat} (hl2 : l.length ≤ 2) (hu : ∀ x ∈ l, x ∈ sgs) (hK : ∀ σ, keepv σ [0, 1, 2, 3, 4, 6, 9, 10] = σ7 P a res j (esL l) → K .next σ) :
    X_tr_4 (σ8 P a res i j ++ [(10, .val (.str st)), (11, .own [.str l]), (12, .val (.int (-1))), (13, .val (.str ch))]) K := by
  refine ⟨by show 1 ≤ 1000000; decide, by decide, by show Int.natAbs (1 - 1) < 2 ^ 28; decide, by decide, by decide, by show (rangeL ((1 : Int) - 1) 0 (-1)).length ≤ 1000000; decide, fun _ σ => σ = σ8 P a res i j ++ [(10, .val (.str st)), (11, .own [.str l]), (12, .val (.int (-1))), (13, .val (.str ch))], rfl, fun k d σ hd => (nomatch hd), ?_⟩
  rintro σ rfl
  refine ⟨[l], rfl, by show 1 ≤ 100; decide, fun x hx => ?_, hK _ ?_⟩
  · rw [List.mem_singleton.mp hx]
    exact ⟨by omega, fun h => (esc_es 92 (hu 92 h)).2.2.2.2.2.2 rfl⟩
  · show σ7 P a res j (replw 45 [92, 45] l) = _
    rw [replw_esL]
end

section
variable {P p r : List Nat} {u v : Nat} {a : Addr} {res : List V} {K : Kt}
theorem tr_5 {i j : Nat} {st cs ch : List Nat} {ks : List V} (hch : sliceL P (some (i : Int)) (some (j : Int)) = ch) (hz : P.length ≤ 1000000) (hi : i ≤ 1000002) (hj : j ≤ 1000000) (hcl : ch.length ≤ 10) (hcs : cs.length ≤ 2) (hcg : ∀ x ∈ cs, x ∈ sgs)
    (hcase : (ch ≠ [] ∧ ks = [] ∧ ch = cs) ∨ (ch = [] ∧ ∃ x, ks = [.str [x]] ∧ cs = [x, 45])) (hK : ∀ σ, keepv σ [0, 1, 2, 3, 4, 6, 9, 10] = σ7 P a res j (esL cs) → K .next σ) :
    X_tr_5 (σ8 P a res i j ++ [(10, .val (.str st)), (11, .own ks), (12, .val (.int (-1)))]) K := by
  refine ⟨by omega, by omega, hz, ?_⟩
  rw [hch]
  refine ⟨fun σ => σ = σ8 P a res i j ++ [(10, .val (.str st)), (11, .own [.str cs]), (12, .val (.int (-1))), (13, .val (.str ch))], ⟨by omega, ?_⟩, fun σ h => by subst h; exact tr_4 hcs hcg hK⟩
  rcases hcase with ⟨hne, rfl, rfl⟩ | ⟨rfl, x, rfl, rfl⟩
  · rw [show (!ch.isEmpty) = true by cases ch <;> first | rfl | exact absurd rfl hne]
    exact ⟨fun _ => ⟨by decide, rfl⟩, fun h => (nomatch h)⟩
  · exact ⟨fun h => (nomatch h), fun _ => ⟨by show 1 ≤ 1000000; decide, 0, rfl, .str [x], rfl, rfl, rfl, by show 1 + 1 ≤ 1000000; decide, rfl⟩⟩
theorem find_one {i : Nat} {c d : Nat} (h : P[i]? = some d) : findi c P i (i + 1) = if d = c then (i : Int) else -1 := by
  unfold findi findw
  rw [Nat.add_sub_cancel_left, show List.range' i 1 = [i] from rfl, List.find?_cons, h]
  by_cases e : d = c
  · rw [show (some d == some c) = true by rw [e]; exact beq_self_eq_true _, if_pos e]
  · rw [show (some d == some c) = false from by simpa using e, if_neg e]; rfl
theorem find_non {i j c : Nat} (h : j ≤ i) : findi c P i j = -1 := by unfold findi findw; rw [Nat.sub_eq_zero_of_le h]; rfl
theorem tr_6 (hT : P = p ++ u :: v :: r) (hz : P.length ≤ 1000000) (hu : u ∈ sgs) (hv : v ∈ sgs) (hd : 45 ∈ [u, v]) (hK : ∀ σ, keepv σ [0, 1, 2, 3, 4, 6, 9, 10] = σ7 P a res (p.length + 2) (esL [u, v]) → K .next σ) :
    X_tr_6 (σ8 P a res p.length (p.length + 2) ++ [(10, .val (.str [u, v]))]) K := by
  have hpl : p.length + 2 ≤ P.length := by rw [hT, List.length_append]; exact Nat.add_le_add_left (Nat.le_add_left 2 _) _
  have hv1 : P[p.length + 1]? = some v := by
    have := getA (p ++ [u]) v r
    rw [List.append_assoc, List.length_append] at this
    exact hT ▸ this
  have hsg : ∀ x ∈ [u, v], x ∈ sgs := fun x hx => (List.mem_cons.mp hx).elim (fun e => e ▸ hu) fun hx => List.mem_singleton.mp hx ▸ hv
  refine ⟨rfl, ten_get hT hz ⟨sokc (sgs_128 u hu), rfl, nsg (esc_es u hu).2.2.2.2.1, fun _ => ?_⟩⟩
  refine ⟨fun m σ => (m = 1 ∧ σ = σ8 P a res p.length (p.length + 2) ++ [(10, .val (.str [u, v])), (11, .own []), (12, .val (.int ((p.length + 1 : Nat) : Int)))]) ∨
    (m = 0 ∧ v = 45 ∧ σ = σ8 P a res (p.length + 2) (p.length + 2) ++ [(10, .val (.str [u, v])), (11, .own [.str [u]]), (12, .val (.int ((p.length + 4 : Nat) : Int)))]), ⟨1, .inl ⟨rfl, rfl⟩⟩, ?_⟩
  rintro n σ (⟨rfl, rfl⟩ | ⟨rfl, rfl, rfl⟩)
  · refine ⟨fun _ => ⟨Int.natCast_nonneg _, Int.natCast_nonneg _, Int.ofNat_le.mpr hpl, ?_⟩, fun h => (nomatch h)⟩
    rw [Int.toNat_natCast, Int.toNat_natCast, find_one hv1]
    by_cases hv45 : v = 45
    · rw [if_pos hv45]
      refine ⟨fun h => absurd (of_decide_eq_true h) (Int.not_lt.mpr (Int.natCast_nonneg _)), fun _ => ⟨by decide, by omega, by omega, hz, ?_⟩⟩
      have hs : sliceL P (some (p.length : Int)) (some ((p.length + 1 : Nat) : Int)) = [u] := by
        unfold sliceL; dsimp only; rw [ixL_nat, ixL_nat, Nat.min_eq_left (by omega), Nat.min_eq_left (by omega), hT, List.drop_left, Nat.add_sub_cancel_left]; rfl
      rw [hs]
      exact ⟨0, Nat.zero_lt_one, .inr ⟨rfl, hv45, rfl⟩⟩
    · rw [if_neg hv45]
      exact ⟨fun _ => tr_5 (ch := [u, v]) (cs := [u, v]) (hT ▸ sl2 p u v r) hz (by omega) (by omega) (by show 2 ≤ 10; decide) (by show 2 ≤ 2; decide) hsg (.inl ⟨fun h => (nomatch h), rfl, rfl⟩) hK, fun h => (nomatch h)⟩
  · refine ⟨fun _ => ⟨Int.natCast_nonneg _, Int.natCast_nonneg _, Int.ofNat_le.mpr hpl, ?_⟩, fun h => (nomatch h)⟩
    rw [Int.toNat_natCast, Int.toNat_natCast, find_non (by omega)]
    exact ⟨fun _ => tr_5 (ch := []) (cs := [u, 45]) (sl_nil P _) hz (by omega) (by omega) (by decide) (by show 2 ≤ 2; decide) hsg (.inr ⟨rfl, u, rfl, rfl⟩) hK, fun h => (nomatch h)⟩
end

section
variable {P p r : List Nat} {u v : Nat} {a : Addr} {res : List V} {K : Kt}
theorem esL_128 {l : List Nat} (h : ∀ x ∈ l, x ∈ sgs) : ∀ c ∈ esL l, c < 128 ∧ noAmp c = true := fun c hc => by
  obtain ⟨m, hm, hc⟩ := List.mem_flatten.mp hc
  obtain ⟨x, hx, rfl⟩ := List.mem_map.mp hm
  exact (by decide : ∀ x ∈ sgs, ∀ c ∈ es x, c < 128 ∧ noAmp c = true) x (h x hx) c hc
theorem tr_8 (hT : P = p ++ u :: v :: r) (hz : P.length ≤ 1000000) (hu : u ∈ sgs) (hv : v ∈ sgs) (hl : res.length ≤ 1000000) (hK : ∀ σ, keepv σ [0, 1, 2, 3, 4, 5, 6] = trσ P a (res ++ [.str ([91] ++ esL [u, v] ++ [93])]) (p.length + 2 + 1) → K .next σ) :
    X_tr_8 (σ8 P a res p.length (p.length + 2)) K := by
  have hpl : p.length + 2 ≤ P.length := by rw [hT, List.length_append]; exact Nat.add_le_add_left (Nat.le_add_left 2 _) _
  have hsg : ∀ x ∈ [u, v], x ∈ sgs := fun x hx => (List.mem_cons.mp hx).elim (fun e => e ▸ hu) fun hx => List.mem_singleton.mp hx ▸ hv
  have hs : sliceL P (some (p.length : Int)) (some ((p.length + 2 : Nat) : Int)) = [u, v] := hT ▸ sl2 p u v r
  refine ⟨by omega, by omega, hz, ?_⟩
  rw [hs]
  refine ⟨fun σ => keepv σ [0, 1, 2, 3, 4, 6, 9, 10] = σ7 P a res (p.length + 2) (esL [u, v]), ⟨fun h => ?_, fun h => ?_⟩, fun σ h => ?_⟩
  · have h : ¬ 45 ∈ [u, v] := fun e => by
      have h : (!decide (45 ∈ [u, v])) = true := h
      rw [decide_eq_true e] at h; cases h
    refine ⟨fun e => (esc_es 92 (hsg 92 e)).2.2.2.2.2.2 rfl, ?_⟩
    rw [esL_id h]; rfl
  · have h : 45 ∈ [u, v] := by
      have h : (!decide (45 ∈ [u, v])) = false := h
      cases e : decide (45 ∈ [u, v]) with
      | true => exact of_decide_eq_true e
      | false => rw [e] at h; cases h
    exact tr_6 hT hz hu hv h fun σ h => h
  · show X_tr_7 (keepv σ [0, 1, 2, 3, 4, 6, 9, 10]) K
    rw [h]
    obtain ⟨h, t, he, n1, n2, n3⟩ := es_hd2 u hu
    have e : esL [u, v] = h :: (t ++ esL [v]) := by show es u ++ esL [v] = _; rw [he]; rfl
    refine tr_7 e n1 n2 n3 ?_ (fun c hc => (esL_128 hsg c hc).1) (List.all_eq_true.mpr fun c hc => (esL_128 hsg c hc).2) hl hK
    have := replw_len (z := [92, 45]) 45 (by decide) (by decide) [u, v]
    rw [replw_esL] at this
    exact Nat.le_trans this (by show 2 * 2 ≤ 1000; decide)
theorem tr_chk {i k x c : Nat} {b t : Xp} (hx : P[k]? = some x) (hz : P.length ≤ 1000000) (h1 : x < 128) (h2 : c < 128) (hne : x ≠ c) (hK : t (σ8 P a res i k) K) :
    x_sq (x_if (w_bool true [(w_cmp .Lt (pw (w_x 9)) (pw (w_x 6))), (w_cmp .Eq (pw (w_item (pw (w_x 0)) (pw (w_x 9)))) (pw (w_c (.str [c]))))]) b x_nil) t (σ8 P a res i k) K := by
  have hk := (List.getElem?_eq_some_iff.mp hx).1
  exact ⟨fun _ => ⟨hz, k, x, ixOf_get hx, hx, sokc h1, sokc h2, nsg hne, fun _ => hK⟩, fun h => absurd (decide_eq_true (Int.ofNat_lt.mpr hk)) h⟩
theorem tr_9 (hT : P = p ++ u :: v :: 93 :: r) (hz : P.length ≤ 1000000) (hu : u ∈ sgs) (hv : v ∈ sgs) (hl : res.length ≤ 1000000) (hK : ∀ σ, keepv σ [0, 1, 2, 3, 4, 5, 6] = trσ P a (res ++ [.str ([91] ++ esL [u, v] ++ [93])]) (p.length + 2 + 1) → K .next σ) :
    X_tr_9 (trσ P a res p.length ++ [(8, .val (.str [91]))]) K := by
  have g0 : P[p.length]? = some u := hT ▸ getA p u _
  have g1 : P[p.length + 1]? = some v := by
    have := getA (p ++ [u]) v (93 :: r)
    rw [List.append_assoc, List.length_append] at this
    exact hT ▸ this
  have g2 : P[p.length + 2]? = some 93 := by
    have := getA (p ++ [u, v]) 93 r
    rw [List.append_assoc, List.length_append] at this
    exact hT ▸ this
  obtain ⟨-, -, -, -, n33, n93, -⟩ := esc_es u hu
  obtain ⟨-, -, -, -, -, m93, -⟩ := esc_es v hv
  have hpl := (List.getElem?_eq_some_iff.mp g2).1
  refine tr_chk g0 hz (sgs_128 u hu) (by decide) n33 (tr_chk g0 hz (sgs_128 u hu) (by decide) n93 ?_)
  have lt : ∀ {k : Nat}, k ≤ p.length + 2 → ∀ {Q : Prop}, ¬ decide ((k : Int) < (P.length : Int)) = true → Q := fun hk _ h => absurd (decide_eq_true (Int.ofNat_lt.mpr (Nat.lt_of_le_of_lt hk hpl))) h
  have yes : ∀ {x : Nat}, x ≠ 93 → ∀ {Q : Prop}, (!decide ([x] = [93])) = false → Q := fun hx _ h => by
    rw [decide_eq_false (fun e => hx (List.cons.inj e).1)] at h; cases h
  refine ⟨fun m σ => ∃ d, d ≤ 2 ∧ σ = σ8 P a res p.length (p.length + d) ∧ m = 2 - d, ⟨2, 0, Nat.zero_le _, rfl, rfl⟩, ?_⟩
  rintro n σ ⟨d, hd, rfl, rfl⟩
  match d, hd with
  | 0, _ => exact ⟨fun _ => ⟨hz, _, u, ixOf_get g0, g0, sokc (sgs_128 u hu), rfl, fun _ => ⟨1, by decide, 1, by decide, rfl, rfl⟩, fun h => yes n93 h⟩, fun h => lt (Nat.le_add_right _ _) h⟩
  | 1, _ => exact ⟨fun _ => ⟨hz, _, v, ixOf_get g1, g1, sokc (sgs_128 v hv), rfl, fun _ => ⟨0, by decide, 2, by decide, rfl, rfl⟩, fun h => yes m93 h⟩, fun h => lt (Nat.add_le_add_left (by decide) _) h⟩
  | 2, _ =>
    refine ⟨fun _ => ⟨hz, _, 93, ixOf_get g2, g2, rfl, rfl, fun h => (nomatch h), fun _ => ?_⟩, fun h => lt (Nat.le_refl _) h⟩
    exact ⟨fun h => absurd (of_decide_eq_true h) (Int.not_le.mpr (Int.ofNat_lt.mpr hpl)), fun _ => tr_8 hT hz hu hv hl hK⟩
theorem tr_b {pre : List Nat} (hT : P = pre ++ 91 :: u :: v :: 93 :: r) (hz : P.length ≤ 1000000) (hu : u ∈ sgs) (hv : v ∈ sgs) (hl : res.length ≤ 1000000) (hK : K .next (trσ P a (res ++ [.str ([91] ++ esL [u, v] ++ [93])]) (pre.length + 4))) : X_tr_10 (trσ P a res pre.length) K := by
  have hT2 : P = (pre ++ [91]) ++ u :: v :: 93 :: r := hT.trans (by rw [List.append_assoc]; rfl)
  refine ten_get hT hz ⟨rfl, rfl, fun h => (nomatch h), fun _ => ⟨rfl, rfl, fun h => (nomatch h), fun _ => ⟨rfl, rfl, fun _ => ?_, fun h => (nomatch h)⟩⟩⟩
  have := tr_9 (K := sq x_nil (sq x_nil (sq (x_keep [0, 1, 2, 3, 4, 5, 6] x_nil) K))) (a := a) hT2 hz hu hv hl fun σ h => by
    show K .next (keepv σ _)
    rw [h, List.length_append]
    exact hK
  rw [List.length_append] at this
  exact this
end

/-! # _translate whole -/
def Pc.txt : Pc → List Nat
  | .q => [63]
  | .c x => [x]
  | .b l => [91] ++ l ++ [93]
  | .st => [42]
def txts (ps : List Pc) : List Nat := (ps.map Pc.txt).flatten
def Pc.ok2 : Pc → Prop
  | .q => True
  | .c x => x ∈ sgs
  | .b l => ∃ u v, l = [u, v] ∧ u ∈ sgs ∧ v ∈ sgs
  | .st => False
def Pc.tro (y : Addr) : Pc → V
  | .st => .raw (.ref y)
  | p => .str p.out
abbrev TRANS : List V → (V → Prop) → Prop := fun ds Q => ∃ (a b : List Pc) (y : Addr), ds = [.str (txts (a ++ Pc.st :: b)), .raw (.ref y), .str [46]] ∧ (∀ p ∈ a ++ b, p.ok2) ∧ a.length + b.length ≤ 100 ∧ (txts (a ++ Pc.st :: b)).length ≤ 1000000 ∧
  Q (.list (jinp (a.map Pc.out) (b.map Pc.out) y))
theorem tro_out {p : Pc} (h : p.ok2) (y : Addr) : p.tro y = .str p.out := by cases p <;> first | rfl | exact h.elim
theorem txts_append (a b : List Pc) : txts (a ++ b) = txts a ++ txts b := by unfold txts; rw [List.map_append, List.flatten_append]
theorem txt_ne (p : Pc) : 0 < p.txt.length := by cases p <;> exact Nat.succ_pos _
theorem tr_turn {P : List Nat} {pre rest : List Nat} {p : Pc} {y : Addr} {done : List Pc} {K : Kt} (hT : P = pre ++ (p.txt ++ rest)) (hz : P.length ≤ 1000000) (hp : p = .st ∨ p.ok2) (hd : p = .st → ∀ q ∈ done, q.ok2) (hl : done.length ≤ 1000)
    (hK : K .next (trσ P y ((done ++ [p]).map (Pc.tro y)) (pre ++ p.txt).length)) : X_tr_10 (trσ P y (done.map (Pc.tro y)) pre.length) K := by
  have hl : (done.map (Pc.tro y)).length ≤ 1000000 := by rw [List.length_map]; omega
  rw [List.map_append, List.length_append] at hK
  cases p with
  | q => exact tr_q hT hz hl hK
  | c x => exact tr_c (hp.resolve_left fun h => (nomatch h)) hT hz hl hK
  | st =>
    refine tr_st hT hz hl (fun d hd' => ?_) hK
    obtain ⟨p', hp', rfl⟩ := List.mem_map.mp hd'
    exact ⟨_, tro_out (hd rfl p' hp') y⟩
  | b l =>
    obtain ⟨u, v, rfl, hu, hv⟩ := (hp.resolve_left fun h => (nomatch h) : ∃ u v, l = [u, v] ∧ u ∈ sgs ∧ v ∈ sgs)
    exact tr_b hT hz hu hv hl hK
theorem f_tr {C : Cx} {x : Addr} (hf_escape : FnAt C "escape" 1 ESC) (hpat : SpPat C "_twin_re_1") (hec : ∀ o fd L, C.K x o → o.data = .func fd → ecC C (callEnvC fd L x)) (O : Ok C (Nn l_tr (ecC C))) (D : FnD C x ([0, 1, 2].map (nth l_tr)) (fnSc PW 32) (fnB PW 32))
    (h1 : scopeOk (Nn l_tr noEc) k_tr (fnSc PW 32) = true) (h2 : injOk (Nn l_tr noEc) k_tr = true) : Fn C x 2 TRANS :=
  Fn.of_body (vn := Nn l_tr (ecC C)) (ps := [0, 1, 2]) D (sl_tr hf_escape hpat O) h1 h2 rfl (by decide) hec fun ds Q ⟨a, b, y, e, hok, hab, hz, hQ⟩ => by
    subst e
    generalize hps : a ++ Pc.st :: b = ps at hz
    have hpl : ps.length = a.length + 1 + b.length := by rw [← hps, List.length_append, List.length_cons]; omega
    have hgt : ∀ {k p}, ps[k]? = some p → (p = .st ∧ k = a.length) ∨ p.ok2 := fun {k p} h => by
      rw [← hps] at h
      by_cases hk : k < a.length
      · rw [List.getElem?_append_left hk] at h
        exact .inr (hok p (List.mem_append_left _ (List.mem_of_getElem? h)))
      · rw [List.getElem?_append_right (by omega)] at h
        cases hk2 : k - a.length with
        | zero => rw [hk2] at h; cases h; exact .inl ⟨rfl, by omega⟩
        | succ n => rw [hk2, List.getElem?_cons_succ] at h; exact .inr (hok p (List.mem_append_right _ (List.mem_of_getElem? h)))
    have hres : ps.map (Pc.tro y) = jinp (a.map Pc.out) (b.map Pc.out) y := by
      rw [← hps, List.map_append, List.map_cons]
      unfold jinp
      rw [List.map_map, List.map_map]
      rw [List.map_congr_left fun p hp => tro_out (hok p (List.mem_append_left _ hp)) y, List.map_congr_left fun p hp => tro_out (hok p (List.mem_append_right _ hp)) y]
      rfl
    have hsp : ∀ k, txts ps = txts (ps.take k) ++ txts (ps.drop k) := fun k => by rw [← txts_append, List.take_append_drop]
    generalize hP : txts ps = P at hz hsp
    refine ⟨rfl, rfl, hz, _, _, rfl, fun m σ => ∃ k, k ≤ ps.length ∧ σ = trσ P y ((ps.take k).map (Pc.tro y)) (txts (ps.take k)).length ∧ m = ps.length - k, ⟨_, 0, Nat.zero_le _, rfl, rfl⟩, ?_⟩
    rintro m σ ⟨k, hk, rfl, rfl⟩
    refine ⟨fun hlt => ?_, fun hge => ?_⟩
    · have hlt : ((txts (ps.take k)).length : Int) < (P.length : Int) := of_decide_eq_true hlt
      have hkl : k < ps.length := by
        refine Nat.lt_of_not_le fun h => ?_
        have := hsp k
        rw [List.drop_of_length_le h] at this
        rw [this, List.length_append, show (txts []).length = 0 from rfl] at hlt
        omega
      have g := List.getElem?_eq_getElem hkl
      have hd := List.drop_eq_getElem_cons hkl
      have hT := hsp k
      rw [hd, show txts (ps[k] :: ps.drop (k + 1)) = ps[k].txt ++ txts (ps.drop (k + 1)) from rfl] at hT
      refine tr_turn hT hz ((hgt g).imp (fun h => h.1) id) (fun he q hq => ?_) (by rw [List.length_take]; omega) ⟨ps.length - (k + 1), by omega, k + 1, hkl, ?_, rfl⟩
      · rcases hgt g with ⟨_, rfl⟩ | h
        · rw [← hps, List.take_left] at hq
          exact hok q (List.mem_append_left _ hq)
        · rw [he] at h; exact h.elim
      · rw [take_snoc g, txts_append]
        show _ = trσ P y _ (txts (ps.take k) ++ (ps[k].txt ++ [])).length
        rw [List.append_nil]
    · have hge : ¬ ((txts (ps.take k)).length : Int) < (P.length : Int) := of_decide_eq_false hge
      have hke : k = ps.length := by
        refine Nat.le_antisymm hk (Nat.le_of_not_lt fun h => hge ?_)
        have hT := hsp k
        rw [List.drop_eq_getElem_cons h] at hT
        have := txt_ne ps[k]
        rw [hT, List.length_append, show txts (ps[k] :: ps.drop (k + 1)) = ps[k].txt ++ txts (ps.drop (k + 1)) from rfl, List.length_append]
        omega
      subst hke
      rw [List.take_length, hP, hres]
      exact ⟨decide_eq_true rfl, hQ⟩
def l_trl : List String := ["pat", "STAR", "object", "parts", "_translate", "_join_translated_parts"]
def k_trl : Kd := [(0, .local), (1, .local), (2, .globalImplicit), (3, .local), (4, .globalImplicit), (5, .globalImplicit)]
def X_trl : Xp := (x_sq (x_asg 1 (pw w_obj)) (x_sq (x_asg 3 (pw (w_call TRANS [(pw (w_x 0)), (pw (w_x 1)), (pw (w_c (.str [46])))]))) (x_sq (x_ret (pw (w_call JOIN [(pw (w_x 3)), (pw (w_x 1))]))) x_nil)))
theorem sl_trl {C : Cx} (hf__translate : FnAt C "_translate" 2 TRANS) (hf__join_translated_parts : FnAt C "_join_translated_parts" 1 JOIN) (O : Ok C (Nn l_trl noEc)) : SL C (Nn l_trl noEc) 2 k_trl (fnB PW 27) X_trl :=
    (.cons (s_asg 1 (s_obj O (n := 2) rfl rfl) rfl rfl)
    (.cons (s_asg 3 (s_call O 4 hf__translate rfl (.cons (s_x O 0) (.cons (s_x O 1) (.cons (s_str [46] (by decide +kernel)) .nil)))) rfl rfl)
    (.cons (s_ret (s_call O 5 hf__join_translated_parts rfl (.cons (s_x O 3) (.cons (s_x O 1) .nil))))
    .nil)))

/-! # translate -/
abbrev TRL : List V → (V → Prop) → Prop := fun ds Q => ∃ (a b : List Pc), ds = [.str (txts (a ++ Pc.st :: b))] ∧ (∀ p ∈ a ++ b, p.ok2) ∧ a.length + b.length ≤ 100 ∧ (txts (a ++ Pc.st :: b)).length ≤ 1000000 ∧ Q (.str (ftext (a ++ Pc.st :: b)))
theorem es_len (x : Nat) : (es x).length ≤ 2 := by
  unfold es
  split
  · exact Nat.le_refl 2
  · exact Nat.le_succ 1
theorem out_len {p : Pc} (h : p.ok2) : p.out.length ≤ 6 := by
  cases p with
  | q => decide
  | st => exact h.elim
  | c x => exact Nat.le_trans (es_len x) (by decide)
  | b l =>
    obtain ⟨u, v, rfl, -, -⟩ := h
    show ([91] ++ (es u ++ (es v ++ [])) ++ [93]).length ≤ 6
    have h1 := es_len u
    have h2 := es_len v
    simp only [List.length_append, List.length_cons, List.length_nil]; omega
theorem outs_sum {a : List Pc} (h : ∀ p ∈ a, p.ok2) : ((a.map Pc.out).map (·.length)).sum ≤ 6 * a.length := by
  have := sum_le6 (a.map Pc.out) fun l hl => by obtain ⟨p, hp, rfl⟩ := List.mem_map.mp hl; exact out_len (h p hp)
  rwa [List.length_map] at this
theorem outs_app (a b : List Pc) : outs (a ++ b) = outs a ++ outs b := by unfold outs; rw [List.map_append, List.flatten_append]
theorem f_trl {C : Cx} {x : Addr} (hf__translate : FnAt C "_translate" 2 TRANS) (hf__join_translated_parts : FnAt C "_join_translated_parts" 1 JOIN) (O : Ok C (Nn l_trl noEc)) (D : FnD C x ([0].map (nth l_trl)) (fnSc PW 27) (fnB PW 27)) : Fn C x 3 TRL :=
  Fn.of_body (vn := Nn l_trl noEc) (ps := [0]) D (sl_trl hf__translate hf__join_translated_parts O) (by decide +kernel) (by decide +kernel) rfl (by decide) (fun _ _ _ _ _ => trivial) fun ds Q ⟨a, b, e, hok, hab, hz, hQ⟩ => by
    subst e
    have s1 := outs_sum fun p hp => hok p (List.mem_append_left b hp)
    have s2 := outs_sum fun p hp => hok p (List.mem_append_right a hp)
    refine ⟨rfl, fun y => ⟨a, b, y, rfl, hok, hab, hz, a.map Pc.out, b.map Pc.out, y, rfl, by rw [List.length_map]; omega, by rw [List.length_map]; omega, ?_⟩⟩
    have e : ftext (a ++ Pc.st :: b) = [40, 63, 115, 58] ++ ((a.map Pc.out).flatten ++ ([46, 42] ++ (b.map Pc.out).flatten)) ++ [41, 92, 90] := by unfold ftext; rw [outs_app]; rfl
    rw [e] at hQ
    exact hQ

/-! # a row's pieces -/
def pcw (n : Nat) (w : List Nat) : Pc := if w.length = n then .q else match w with | [x] => .c x | w => .b w
def pcp (low size : Int) (p : Nat) : Pc := pcw (sgn p).length (wn p low size)
def pcs (low size : Int) : List Pc := .q :: (List.range' 1 9).map (pcp low size)
def Pc.tk : Pc → Bool × List Nat
  | .q => (true, [])
  | .c x => (false, [x])
  | .b l => (false, l)
  | .st => (true, [])
theorem tk_it {p : Pc} (h : p.ok2) : p.it = tkV p.tk := by cases p <;> first | rfl | exact h.elim
theorem pcw_txt (n : Nat) (w : List Nat) : (pcw n w).txt = itw n w := by
  unfold pcw itw
  split
  · rfl
  · match w with
    | [] => rfl
    | [x] => rfl
    | x :: y :: w => rw [if_neg (by simp only [List.length_cons]; omega)]; rfl
theorem fig_rng (p : Nat) (r : Int) : ∃ o : Nat, fig p r = o ∧ o < (if p % 3 = 0 then 4 else 2) := by
  have h2 : ∀ x : Int, x.fmod 2 = 0 ∨ x.fmod 2 = 1 := fun x => by rw [Int.fmod_eq_emod_of_nonneg _ (by decide)]; omega
  have h3 : (p : Int).fmod 3 = 0 ↔ p % 3 = 0 := by rw [Int.fmod_eq_emod_of_nonneg _ (by decide)]; omega
  unfold fig
  dsimp only
  by_cases h : p % 3 = 0
  · rw [if_pos (h3.mpr h), if_pos h]
    rcases h2 (r.fdiv (2 ^ ((9 : Int) - p).toNat)) with e | e <;> rcases h2 (r.fdiv (2 ^ ((12 : Int) - (p : Int).fdiv 3).toNat)) with e' | e' <;> rw [e, e']
    · exact ⟨0, rfl, by decide⟩
    · exact ⟨2, rfl, by decide⟩
    · exact ⟨1, rfl, by decide⟩
    · exact ⟨3, rfl, by decide⟩
  · rw [if_neg (fun e => h (h3.mp e)), if_neg h]
    rcases h2 (r.fdiv (2 ^ ((9 : Int) - p).toNat)) with e | e <;> rw [e]
    · exact ⟨0, rfl, by decide⟩
    · exact ⟨1, rfl, by decide⟩
theorem wnt_fin : ∀ p ∈ List.range' 1 9, ∀ o ∈ List.range (if p % 3 = 0 then 4 else 2), ∀ s ∈ List.range (if p % 3 = 0 then 4 else 2), ((wnt p o s).length = (sgn p).length ∨ (wnt p o s).length = 1 ∨ (wnt p o s).length = 2) ∧ ∀ c ∈ wnt p o s, c ∈ sgs := by decide +kernel
theorem wn_fin {p : Nat} (hp : p ∈ List.range' 1 9) (low size : Int) : ((wn p low size).length = (sgn p).length ∨ (wn p low size).length = 1 ∨ (wn p low size).length = 2) ∧ ∀ c ∈ wn p low size, c ∈ sgs := by
  obtain ⟨o, ho, ho'⟩ := fig_rng p low
  obtain ⟨s, hs, hs'⟩ := fig_rng p (4096 - size)
  have := wnt_fin p hp o (List.mem_range.mpr ho') s (List.mem_range.mpr hs')
  unfold wn
  dsimp only
  rw [ho, hs]
  split
  · rw [List.length_reverse]; exact ⟨this.1, fun c hc => this.2 c (List.mem_reverse.mp hc)⟩
  · exact this
theorem pcp_ok {p : Nat} (hp : p ∈ List.range' 1 9) (low size : Int) : (pcp low size p).ok2 := by
  obtain ⟨h1, h2⟩ := wn_fin hp low size
  unfold pcp pcw
  split
  · trivial
  · rename_i hn
    have h1 := h1.resolve_left hn
    generalize wn p low size = w at h1 h2
    match w, h1 with
    | [x], _ => exact h2 x (.head _)
    | [x, y], _ => exact ⟨x, y, rfl, h2 x (.head _), h2 y (.tail _ (.head _))⟩
    | [], h => rcases h with h | h <;> cases h
    | _ :: _ :: _ :: _, h => rcases h with h | h <;> cases h
theorem pcs_ok (low size : Int) : ∀ p ∈ pcs low size, p.ok2 := fun p hp => by
  rcases List.mem_cons.mp hp with rfl | hp
  · trivial
  · obtain ⟨i, hi, rfl⟩ := List.mem_map.mp hp; exact pcp_ok hi low size
theorem pcs_txt (low size : Int) : (pcs low size).map Pc.txt = rowT low size := by
  unfold pcs rowT
  rw [List.map_cons, List.map_map]
  exact congrArg _ (List.map_congr_left fun p _ => pcw_txt _ _)
theorem pcs_len (low size : Int) : (pcs low size).length = 10 := by unfold pcs; rw [List.length_cons, List.length_map, List.length_range']
theorem txt_q {p : Pc} (h : p.ok2) (e : p.txt = [63]) : p = .q := by
  cases p with
  | q => rfl
  | c x => cases e; exact absurd (show 63 ∈ sgs from h) (by decide : ¬ 63 ∈ sgs)
  | b l => cases e
  | st => cases e
theorem ok2_ok {p : Pc} (h : p.ok2) : p.ok ∧ vNone p.it = false := by
  cases p with
  | q => exact ⟨trivial, rfl⟩
  | c x => exact ⟨h, rfl⟩
  | st => exact h.elim
  | b l =>
    obtain ⟨u, v, rfl, hu, hv⟩ := h
    exact ⟨⟨fun x hx => (List.mem_cons.mp hx).elim (fun e => e ▸ hu) fun hx => List.mem_singleton.mp hx ▸ hv, by show 2 ≤ 10; decide⟩, rfl⟩
def tkOf (low size : Int) : List (Bool × List Nat) := (pcs low size).map Pc.tk
theorem mid_q {α : Type} {l : List α} {q : α} {s e : Nat} (hse : s ≤ e) (hel : e ≤ l.length) (h : ∀ k, s ≤ k → k < e → l[k]? = some q) : l.take s ++ List.replicate (e - s) q ++ l.drop e = l := by
  induction e with
  | zero => obtain rfl : s = 0 := by omega
            rfl
  | succ e ih =>
    by_cases hs : s = e + 1
    · subst hs; rw [Nat.sub_self]; show l.take (e + 1) ++ [] ++ l.drop (e + 1) = l; rw [List.append_nil, List.take_append_drop]
    · have ih := ih (by omega) (by omega) fun k h1 h2 => h k h1 (by omega)
      have he := h e (by omega) (by omega)
      have hel' : e < l.length := by omega
      rw [List.drop_eq_getElem_cons hel'] at ih
      rw [List.getElem?_eq_getElem hel'] at he
      rw [Option.some.inj he] at ih
      rw [show e + 1 - s = (e - s) + 1 by omega, List.replicate_succ', ← List.append_assoc, List.append_assoc _ [q]]
      exact ih
theorem row_ten {low size : Int} {Q : V → Prop} (h0 : 0 < size) (h1 : size ≤ 4096) (hQ : Q (.list ((tkOf low size).map tkV))) : PAT [.int low, .int size] fun d => TRL [d] fun d => TEN [d] Q := by
  have hl := pcs_len low size
  have hok := pcs_ok low size
  have hst : stP low size ≤ 10 := by unfold stP; rw [Int.fmod_eq_emod_of_nonneg _ (by decide)]; omega
  refine ⟨low, size, rfl, h0, h1, fun e he1 he2 hk => ?_⟩
  have e1 : patL low size e = txts ((pcs low size).take (stP low size) ++ Pc.st :: (pcs low size).drop e) := by
    unfold patL
    rw [← pcs_txt, ← List.map_take, ← List.map_drop, txts_append, List.append_assoc]
    rfl
  have okab : ∀ p ∈ (pcs low size).take (stP low size) ++ (pcs low size).drop e, p.ok2 := fun p hp => (List.mem_append.mp hp).elim (fun h => hok p (List.mem_of_mem_take h)) fun h => hok p (List.mem_of_mem_drop h)
  have la : ((pcs low size).take (stP low size)).length = stP low size := by rw [List.length_take]; omega
  have lb : ((pcs low size).drop e).length = 10 - e := by rw [List.length_drop]; omega
  have tl : ∀ ps : List Pc, (∀ p ∈ ps, p.ok2) → (txts ps).length ≤ 6 * ps.length := fun ps h => by
    induction ps with
    | nil => exact Nat.le_refl _
    | cons p ps ih =>
      have h1 : p.txt.length ≤ 6 := by
        have := h p (.head _)
        cases p with
        | q => decide
        | c x => exact Nat.le_add_left 1 5
        | st => decide
        | b l => obtain ⟨u, v, rfl, -, -⟩ := this; exact Nat.le_add_left 4 2
      have h2 := ih fun p' hp => h p' (.tail _ hp)
      show (p.txt ++ txts ps).length ≤ 6 * (ps.length + 1)
      rw [List.length_append]; omega
  have t1 := tl _ fun p hp => okab p (List.mem_append_left _ hp)
  have t2 := tl _ fun p hp => okab p (List.mem_append_right _ hp)
  rw [la] at t1
  rw [lb] at t2
  refine ⟨_, _, congrArg (fun l => [V.str l]) e1, okab, by omega, ?_, _, _, rfl, fun p hp => ok2_ok (okab p hp), by omega, ?_, ?_⟩
  · rw [txts_append, List.length_append, show txts (Pc.st :: (pcs low size).drop e) = [42] ++ txts ((pcs low size).drop e) from rfl, List.length_append, List.length_singleton]; omega
  · have s1 := outs_sum fun p hp => okab p (List.mem_append_left _ hp)
    have s2 := outs_sum fun p hp => okab p (List.mem_append_right _ hp)
    rw [la] at s1
    rw [lb] at s2
    have ol : ∀ ps : List Pc, (outs ps).length = ((ps.map Pc.out).map (·.length)).sum := fun ps => List.length_flatten ..
    unfold ftext
    rw [outs_app, show outs (Pc.st :: (pcs low size).drop e) = [46, 42] ++ outs ((pcs low size).drop e) from rfl]
    simp only [List.length_append, List.length_cons, List.length_nil, ol]; omega
  · have hq : ∀ k, stP low size ≤ k → k < e → (pcs low size)[k]? = some .q := fun k h1 h2 => by
      have hkl : k < (pcs low size).length := by omega
      have := hk k h1 h2
      rw [← pcs_txt, List.getElem?_map, List.getElem?_eq_getElem hkl] at this
      rw [List.getElem?_eq_getElem hkl]
      exact congrArg some (txt_q (hok _ (List.getElem_mem hkl)) (Option.some.inj this))
    rw [la, lb, show 10 - (stP low size + (10 - e)) = e - stP low size by omega, ← List.map_replicate, ← List.map_append, ← List.map_append, mid_q he1 (by omega) hq, List.map_congr_left fun p hp => tk_it (hok p hp)]
    unfold tkOf at hQ
    rw [List.map_map] at hQ
    exact hQ

/-! # bits -/
def bt (r i : Nat) : Nat := (r.testBit i).toNat
theorem q2 (r e : Nat) : ((r : Int).fdiv (2 ^ e)).fmod 2 = (bt r e : Nat) := by
  rw [Int.fdiv_eq_ediv_of_nonneg _ (Int.le_of_lt (Int.pow_pos (by decide))), Int.fmod_eq_emod_of_nonneg _ (by decide)]
  unfold bt
  rw [Nat.toNat_testBit]
  push_cast
  rfl
def figN (p r : Nat) : Nat := bt r (9 - p) + if p % 3 = 0 then bt r (12 - p / 3) * 2 else 0
theorem fig_bt {p : Nat} (hp : p ≤ 9) (r : Nat) : fig p r = (figN p r : Nat) := by
  have h3 : (p : Int).fmod 3 = 0 ↔ p % 3 = 0 := by rw [Int.fmod_eq_emod_of_nonneg _ (by decide)]; omega
  have e1 : ((9 : Int) - p).toNat = 9 - p := by omega
  have e2 : ((12 : Int) - (p : Int).fdiv 3).toNat = 12 - p / 3 := by rw [Int.fdiv_eq_ediv_of_nonneg _ (by decide)]; omega
  unfold fig figN
  dsimp only
  rw [e1, e2, q2, q2]
  by_cases h : p % 3 = 0
  · rw [if_pos (h3.mpr h), if_pos h]; push_cast; rfl
  · rw [if_neg (fun e => h (h3.mp e)), if_neg h]; rfl
theorem land2 (n i : Nat) : n &&& 2 ^ i = (n.testBit i).toNat * 2 ^ i := by
  refine Nat.eq_of_testBit_eq fun j => ?_
  rw [Nat.testBit_and, Nat.testBit_two_pow]
  cases h : n.testBit i with
  | false =>
    rw [show Bool.toNat false = 0 from rfl, Nat.zero_mul, Nat.zero_testBit]
    by_cases e : i = j
    · subst e; rw [h]; rfl
    · rw [decide_eq_false e, Bool.and_false]
  | true =>
    rw [show Bool.toNat true = 1 from rfl, Nat.one_mul, Nat.testBit_two_pow]
    by_cases e : i = j
    · subst e; rw [h]; rfl
    · rw [decide_eq_false e, Bool.and_false]
theorem and1 (m i : Nat) : Builtin.bitAnd (m : Int) ((2 ^ i : Nat) : Int) = ((m.testBit i).toNat * 2 ^ i : Nat) := by
  rw [bitAnd_pp (Int.natCast_nonneg _) (Int.natCast_nonneg _), Int.toNat_natCast, Int.toNat_natCast, land2]
theorem and2' (m i j : Nat) : Builtin.bitAnd (m : Int) ((2 ^ i ||| 2 ^ j : Nat) : Int) = ((m.testBit i).toNat * 2 ^ i ||| (m.testBit j).toNat * 2 ^ j : Nat) := by
  rw [bitAnd_pp (Int.natCast_nonneg _) (Int.natCast_nonneg _), Int.toNat_natCast, Int.toNat_natCast, Nat.and_or_distrib_left, land2, land2]
theorem fmT1 (m i p : Nat) : fmT m (p + 1) ((2 ^ i : Nat) : Int) = m.testBit i := by
  show decide (Builtin.bitAnd (m : Int) ((2 ^ i : Nat) : Int) = ((2 ^ i : Nat) : Int)) = _
  rw [and1]
  have h0 : ¬ (0 = 2 ^ i) := Nat.ne_of_lt (Nat.two_pow_pos i)
  cases m.testBit i
  · rw [show Bool.toNat false = 0 from rfl, Nat.zero_mul]; exact decide_eq_false fun e => h0 (Int.ofNat.inj e)
  · rw [show Bool.toNat true = 1 from rfl, Nat.one_mul]; exact decide_eq_true rfl
theorem one_bit (m i p c : Nat) : fmP m (p + 1) [(((2 ^ i : Nat) : Int), c)] = [45, c].getD (bt m i) 0 := by
  unfold fmP bt
  rw [List.find?_cons, fmT1]
  cases m.testBit i <;> rfl
theorem two_bits {m i j p x S s : Nat} {b : Int} (hb : b = ((2 ^ i ||| 2 ^ j : Nat) : Int)) (hij : ∀ u v : Bool, ((u.toNat * 2 ^ i ||| v.toNat * 2 ^ j : Nat) = (2 ^ i ||| 2 ^ j : Nat)) ↔ (u = true ∧ v = true)) :
    fmP m (p + 1) [(b, s), (((2 ^ j : Nat) : Int), S), (((2 ^ i : Nat) : Int), x)] = [45, x, S, s].getD (bt m i + bt m j * 2) 0 := by
  subst hb
  have h : fmT m (p + 1) ((2 ^ i ||| 2 ^ j : Nat) : Int) = (m.testBit i && m.testBit j) := by
    show decide (Builtin.bitAnd (m : Int) ((2 ^ i ||| 2 ^ j : Nat) : Int) = ((2 ^ i ||| 2 ^ j : Nat) : Int)) = _
    rw [and2']
    have := hij (m.testBit i) (m.testBit j)
    cases h : (m.testBit i && m.testBit j) with
    | true => exact decide_eq_true (congrArg Int.ofNat (this.mpr (Bool.and_eq_true_iff.mp h)))
    | false => exact decide_eq_false fun e => by rw [Bool.and_eq_true_iff.mpr (this.mp (Int.ofNat.inj e))] at h; cases h
  unfold fmP bt
  rw [List.find?_cons, h, List.find?_cons, fmT1, List.find?_cons, fmT1]
  cases m.testBit i <;> cases m.testBit j <;> rfl
theorem fmode_eq (m : Nat) : fmode m = fmP m 0 (fmTab.headD []) :: (List.range' 1 9).map fun p => (sgn p).getD (figN p m) 0 := by
  have t3 : fmP m 3 [(2112, 115), (2048, 83), (64, 120)] = _ := two_bits (i := 6) (j := 11) (p := 2) rfl (by decide)
  have t6 : fmP m 6 [(1032, 115), (1024, 83), (8, 120)] = _ := two_bits (i := 3) (j := 10) (p := 5) rfl (by decide)
  have t9 : fmP m 9 [(513, 116), (512, 84), (1, 120)] = _ := two_bits (i := 0) (j := 9) (p := 8) rfl (by decide)
  have t1 : fmP m 1 [(256, 114)] = _ := one_bit m 8 0 114
  have t2 : fmP m 2 [(128, 119)] = _ := one_bit m 7 1 119
  have t4 : fmP m 4 [(32, 114)] = _ := one_bit m 5 3 114
  have t5 : fmP m 5 [(16, 119)] = _ := one_bit m 4 4 119
  have t7 : fmP m 7 [(4, 114)] = _ := one_bit m 2 6 114
  have t8 : fmP m 8 [(2, 119)] = _ := one_bit m 1 7 119
  show fmP m 0 _ :: fmP m 1 [(256, 114)] :: fmP m 2 [(128, 119)] :: fmP m 3 [(2112, 115), (2048, 83), (64, 120)] :: fmP m 4 [(32, 114)] :: fmP m 5 [(16, 119)] :: fmP m 6 [(1032, 115), (1024, 83), (8, 120)] :: fmP m 7 [(4, 114)] :: fmP m 8 [(2, 119)] :: fmP m 9 [(513, 116), (512, 84), (1, 120)] :: [] = _
  rw [t1, t2, t3, t4, t5, t6, t7, t8, t9]
  rfl

/-! # a row takes its modes -/
theorem sgn_fin : ∀ p ∈ List.range' 1 9, ∀ o ∈ List.range (if p % 3 = 0 then 4 else 2), ∀ s ∈ List.range (if p % 3 = 0 then 4 else 2), ∀ f ∈ List.range (if p % 3 = 0 then 4 else 2),
    tkAt (pcw (sgn p).length (wnt p o s)).tk ((sgn p).getD f 0) = decide (Builtin.bitAnd (Builtin.bitXor (f : Int) o) s = 0) ∧ tkAt (pcw (sgn p).length (wnt p o s).reverse).tk ((sgn p).getD f 0) = decide (Builtin.bitAnd (Builtin.bitXor (f : Int) o) s = 0) := by decide +kernel
theorem figN_lt (p r : Nat) : figN p r < (if p % 3 = 0 then 4 else 2) := by
  have h : ∀ i, bt r i ≤ 1 := fun i => by unfold bt; cases r.testBit i <;> decide
  have h1 := h (9 - p)
  have h2 := h (12 - p / 3)
  unfold figN
  split <;> omega
def cnd (p m s y : Nat) : Bool := decide (Builtin.bitAnd (Builtin.bitXor (figN p m : Int) (figN p s)) (figN p y) = 0)
theorem tk_cnd {p : Nat} (hp : p ∈ List.range' 1 9) (m s z : Nat) (hz : z ≤ 4096) : tkAt (pcp s z p).tk ((sgn p).getD (figN p m) 0) = cnd p m s (4096 - z) := by
  have hp9 : p ≤ 9 := by have := List.mem_range'_1.mp hp; omega
  have h := sgn_fin p hp _ (List.mem_range.mpr (figN_lt p s)) _ (List.mem_range.mpr (figN_lt p (4096 - z))) _ (List.mem_range.mpr (figN_lt p m))
  unfold pcp wn
  dsimp only
  rw [fig_bt hp9, show (4096 : Int) - (z : Int) = ((4096 - z : Nat) : Int) by omega, fig_bt hp9]
  split
  · exact h.2
  · exact h.1
theorem c1 : ∀ a b c : Bool, (Builtin.bitAnd (Builtin.bitXor ((a.toNat : Nat) : Int) ((b.toNat : Nat) : Int)) ((c.toNat : Nat) : Int) = 0) ↔ (c = true → a = b) := by decide +kernel
theorem c2 : ∀ a a' b b' c c' : Bool, (Builtin.bitAnd (Builtin.bitXor ((a.toNat + a'.toNat * 2 : Nat) : Int) ((b.toNat + b'.toNat * 2 : Nat) : Int)) ((c.toNat + c'.toNat * 2 : Nat) : Int) = 0) ↔ ((c = true → a = b) ∧ (c' = true → a' = b')) := by decide +kernel
theorem cnd_iff (p m s y : Nat) : cnd p m s y = true ↔ (y.testBit (9 - p) = true → m.testBit (9 - p) = s.testBit (9 - p)) ∧ (p % 3 = 0 → y.testBit (12 - p / 3) = true → m.testBit (12 - p / 3) = s.testBit (12 - p / 3)) := by
  unfold cnd figN bt
  rw [decide_eq_true_iff]
  by_cases h : p % 3 = 0
  · rw [if_pos h, if_pos h, if_pos h, c2]
    exact ⟨fun x => ⟨x.1, fun _ => x.2⟩, fun x => ⟨x.1, x.2 h⟩⟩
  · rw [if_neg h, if_neg h, if_neg h, Nat.add_zero, Nat.add_zero, Nat.add_zero, c1]
    exact ⟨fun x => ⟨x, fun h' => absurd h' h⟩, fun x => x.1⟩
theorem msk : ∀ k ∈ List.range 13, ∀ i ∈ List.range 12, (4096 - 2 ^ k).testBit i = decide (k ≤ i) := by decide +kernel
theorem all_cnd {m s k : Nat} (hk : k ≤ 12) : (∀ p ∈ List.range' 1 9, cnd p m s (4096 - 2 ^ k) = true) ↔ ∀ i, k ≤ i → i < 12 → m.testBit i = s.testBit i := by
  have hm : ∀ i, i < 12 → ((4096 - 2 ^ k).testBit i = true ↔ k ≤ i) := fun i hi => by rw [msk k (List.mem_range.mpr (by omega)) i (List.mem_range.mpr hi), decide_eq_true_iff]
  constructor
  · intro h i hki hi
    by_cases h8 : i ≤ 8
    · have := ((cnd_iff _ _ _ _).mp (h (9 - i) (List.mem_range'_1.mpr (by omega)))).1
      rw [show 9 - (9 - i) = i by omega] at this
      exact this ((hm i hi).mpr hki)
    · have := ((cnd_iff _ _ _ _).mp (h (36 - 3 * i) (List.mem_range'_1.mpr (by omega)))).2 (by omega)
      rw [show 12 - (36 - 3 * i) / 3 = i by omega] at this
      exact this ((hm i hi).mpr hki)
  · intro h p hp
    have := List.mem_range'_1.mp hp
    refine (cnd_iff _ _ _ _).mpr ⟨fun e => h _ ((hm _ (by omega)).mp e) (by omega), fun h3 e => h _ ((hm _ (by omega)).mp e) (by omega)⟩
theorem bits_iff {m s k : Nat} (hk : k ≤ 12) (hs : s % 2 ^ k = 0) (hz : s + 2 ^ k ≤ 4096) : (∀ i, k ≤ i → i < 12 → m.testBit i = s.testBit i) ↔ s ≤ m % 4096 ∧ m % 4096 < s + 2 ^ k := by
  have hp : 0 < 2 ^ k := Nat.two_pow_pos k
  have hr : ∀ i, i < 12 → (m % 4096).testBit i = m.testBit i := fun i hi => by
    rw [show (4096 : Nat) = 2 ^ 12 from rfl, Nat.testBit_mod_two_pow, decide_eq_true hi, Bool.true_and]
  have hrl : m % 4096 < 4096 := Nat.mod_lt _ (by decide)
  generalize m % 4096 = r at hr hrl
  have hsq : s = s / 2 ^ k * 2 ^ k := by have := Nat.div_add_mod s (2 ^ k); rw [hs, Nat.add_zero, Nat.mul_comm] at this; exact this.symm
  have key : (∀ i, k ≤ i → i < 12 → m.testBit i = s.testBit i) ↔ r / 2 ^ k = s / 2 ^ k := by
    constructor
    · intro h
      refine Nat.eq_of_testBit_eq fun i => ?_
      rw [Nat.testBit_div_two_pow, Nat.testBit_div_two_pow]
      by_cases hi : i + k < 12
      · rw [hr _ hi]; exact h _ (Nat.le_add_left _ _) hi
      · have big : (4096 : Nat) ≤ 2 ^ (i + k) := by
          have := Nat.pow_le_pow_right (n := 2) (by decide) (Nat.le_of_not_lt hi)
          exact this
        rw [Nat.testBit_lt_two_pow (Nat.lt_of_lt_of_le hrl big), Nat.testBit_lt_two_pow (Nat.lt_of_lt_of_le (by omega) big)]
    · intro h i hki hi
      have := congrArg (fun x => x.testBit (i - k)) h
      rw [Nat.testBit_div_two_pow, Nat.testBit_div_two_pow, Nat.sub_add_cancel hki, hr i hi] at this
      exact this
  rw [key]
  generalize s / 2 ^ k = q at hsq
  subst hsq
  constructor
  · intro h
    subst h
    have h1 := Nat.div_mul_le_self r (2 ^ k)
    have h2 := Nat.lt_div_mul_add hp (a := r)
    exact ⟨h1, h2⟩
  · rintro ⟨h1, h2⟩
    exact Nat.le_antisymm (Nat.lt_succ_iff.mp ((Nat.div_lt_iff_lt_mul hp).mpr (by rw [Nat.succ_mul]; exact h2))) ((Nat.le_div_iff_mul_le hp).mpr h1)
theorem zip_all {f g : Nat → Nat} {F : Nat → Bool × List Nat} : ∀ l : List Nat, (((l.map F).zip (l.map g)).all fun q => tkAt q.1 q.2) = l.all fun p => tkAt (F p) (g p)
  | [] => rfl
  | p :: l => by rw [List.map_cons, List.map_cons, List.zip_cons_cons, List.all_cons, List.all_cons, zip_all (f := f) l]
theorem takes_row {m s k : Nat} (hk : k ≤ 12) (hs : s % 2 ^ k = 0) (hz : s + 2 ^ k ≤ 4096) : takesB (tkOf s ((2 ^ k : Nat) : Int)) (fmode m) = decide (s ≤ m % 4096 ∧ m % 4096 < s + 2 ^ k) := by
  have e1 : tkOf s ((2 ^ k : Nat) : Int) = (true, []) :: (List.range' 1 9).map fun p => (pcp s ((2 ^ k : Nat) : Int) p).tk := by unfold tkOf pcs; rw [List.map_cons, List.map_map]; rfl
  unfold takesB
  rw [e1, fmode_eq, List.zip_cons_cons, List.all_cons, show tkAt (true, []) (fmP m 0 (fmTab.headD [])) = true from rfl, Bool.true_and, zip_all (f := id), decide_eq_true (by rw [List.length_cons, List.length_cons, List.length_map, List.length_map]), Bool.true_and, Bool.eq_iff_iff, decide_eq_true_iff, List.all_eq_true, ← bits_iff hk hs hz, ← all_cnd hk]
  exact ⟨fun h p hp => (tk_cnd hp m s (2 ^ k) (by omega)).symm.trans (h p hp), fun h p hp => (tk_cnd hp m s (2 ^ k) (by omega)).trans (h p hp)⟩
def rowV (r : Int × Int) : V := .tuple [.int r.1, .int r.2]
/-- rows, each as a power of two that divides its start, from a to b -/
def Cov : Int → List (Int × Int) → Int → Prop
  | a, [], b => a = b
  | a, (s, z) :: r, b => s = a ∧ (∃ k : Nat, k ≤ 12 ∧ z = 2 ^ k) ∧ s % z = 0 ∧ Cov (a + z) r b
theorem Cov.snoc : ∀ {rs : List (Int × Int)} {a b z : Int}, Cov a rs b → (∃ k : Nat, k ≤ 12 ∧ z = 2 ^ k) → b % z = 0 → Cov a (rs ++ [(b, z)]) (b + z)
  | [], a, b, z, h, h1, h2 => by cases h; exact ⟨rfl, h1, h2, rfl⟩
  | (s, y) :: r, a, b, z, h, h1, h2 => ⟨h.1, h.2.1, h.2.2.1, Cov.snoc h.2.2.2 h1 h2⟩
theorem Cov.len : ∀ {rs : List (Int × Int)} {a b : Int}, Cov a rs b → a + rs.length ≤ b
  | [], a, b, h => by cases h; simp
  | (s, y) :: r, a, b, h => by
    obtain ⟨_, ⟨k, _, rfl⟩, _, h⟩ := h
    have := Cov.len h
    have : (0 : Int) < 2 ^ k := Int.pow_pos (by decide)
    simp only [List.length_cons]
    omega
abbrev ROWS : List V → (V → Prop) → Prop := fun ds Q => ∃ low above, ds = [.int low, .int above] ∧ 0 ≤ low ∧ low ≤ above ∧ above ≤ 4096 ∧ ∀ rs, Cov low rs above → Q (.list (rs.map rowV))
def l_rows : List String := ["low", "above", "rows", "size"]
theorem f_rows {C : Cx} {a : Addr} (O : Ok C (Nn l_rows noEc)) (D : FnD C a ([0, 1].map (nth l_rows)) (fnSc PW 35) (fnB PW 35)) : Fn C a 1 ROWS :=
  Fn.of_body (vn := Nn l_rows noEc) (kd := [(0, .local), (1, .local), (2, .local), (3, .local)]) (r := 0) (ps := [0, 1]) D
    (.cons (s_asgL 2 .nil rfl rfl)
    (.cons (s_while (s_cmp (s_x O 0) (s_x O 1)) (.cons (s_asg 3 s_int rfl rfl)
    (.cons (s_while (s_and (.cons (s_cmp (s_bin (s_x O 0) (s_bin s_int (s_x O 3))) s_int) (.cons (s_cmp (s_bin (s_x O 0) (s_bin s_int (s_x O 3))) (s_x O 1)) .nil))) (.cons (s_aug 3 s_int)
    .nil))
    (.cons (s_app O 2 (s_tup (.cons (s_x O 0) (.cons (s_x O 3) .nil)) rfl) rfl)
    (.cons (s_aug 0 (s_x O 3))
    (.keep [0, 1, 2] .nil))))))
    (.frz 2 (.cons (s_ret (s_x O 2))
    .nil))))
    (by decide +kernel) (by decide +kernel) rfl (by decide) (fun _ _ _ _ _ => trivial) fun ds Q ⟨low, above, e, h0, h1, h2, hQ⟩ => by
      subst e
      refine ⟨rfl, rfl, fun n σ => ∃ lo rs, σ = [(0, .val (.int lo)), (1, .val (.int above)), (2, .own (rs.map rowV))] ∧ lo ≤ above ∧ 0 ≤ lo ∧ n = (above - lo).toNat ∧ Cov low rs lo, ⟨_, low, [], rfl, h1, h0, rfl, rfl⟩, ?_⟩
      rintro n σ ⟨lo, rs, rfl, hlo, hlo0, rfl, hc⟩
      conv => whnf
      refine ⟨fun hlt => ?_, fun hge => ?_⟩
      · have hlt : lo < above := of_decide_eq_true hlt
        conv => whnf
        refine ⟨fun n σ => ∃ k : Nat, σ = [(0, .val (.int lo)), (1, .val (.int above)), (2, .own (rs.map rowV)), (3, .val (.int (2 ^ k)))] ∧ k ≤ 12 ∧ lo % 2 ^ k = 0 ∧ lo + 2 ^ k ≤ above ∧ n = 12 - k, ⟨12, 0, rfl, by decide, by omega, by omega, rfl⟩, ?_⟩
        rintro n σ ⟨k, rfl, hk, hm, hz, rfl⟩
        have hp : (0 : Int) < 2 ^ k := Int.pow_pos (by decide)
        have fin : (rs.map rowV).length ≤ 1000000 ∧ true = true ∧ true = true ∧ ∃ m, m < (above - lo).toNat ∧ ∃ lo' rs', [(0, LV.val (.int (lo + 2 ^ k))), (1, .val (.int above)), (2, .own (rs.map rowV ++ [.tuple [.int lo, .int (2 ^ k)]]))] = [(0, .val (.int lo')), (1, .val (.int above)), (2, .own (rs'.map rowV))] ∧
            lo' ≤ above ∧ 0 ≤ lo' ∧ m = (above - lo').toNat ∧ Cov low rs' lo' := by
          have := Cov.len hc
          refine ⟨by rw [List.length_map]; omega, rfl, rfl, _, ?_, lo + 2 ^ k, rs ++ [(lo, 2 ^ k)], by rw [List.map_append]; rfl, hz, by omega, rfl, Cov.snoc hc ⟨k, hk, rfl⟩ hm⟩
          omega
        conv => whnf
        refine ⟨.inl (by decide), ?_⟩
        conv => whnf
        refine ⟨by omega, ?_⟩
        rw [Int.fmod_eq_emod_of_nonneg _ (by omega)]
        conv => whnf
        refine ⟨fun hm2 => ?_, fun hn => ⟨fun h => absurd h hn, fun _ => fin⟩⟩
        have hm2 : lo % (2 * 2 ^ k) = 0 := of_decide_eq_true hm2
        conv => whnf
        refine ⟨.inl (by decide), ?_⟩
        conv => whnf
        refine ⟨fun hz2 => ?_, fun _ => fin⟩
        have hz2 : lo + 2 * 2 ^ k ≤ above := of_decide_eq_true hz2
        have hk2 : k < 12 := by
          refine Nat.lt_of_not_le fun h => ?_
          have : (2 : Int) ^ 12 ≤ 2 ^ k := by exact_mod_cast Nat.pow_le_pow_right (by decide) h
          omega
        conv => whnf
        refine ⟨rfl, rfl, .inr (by decide), 12 - (k + 1), by omega, k + 1, ?_, hk2, by rw [Int.pow_succ, Int.mul_comm]; exact hm2, by rw [Int.pow_succ, Int.mul_comm]; exact hz2, rfl⟩
        rw [Int.pow_succ]
        rfl
      · have hge : ¬ lo < above := of_decide_eq_false hge
        obtain rfl : lo = above := by omega
        exact hQ rs hc

/-! # law -/
abbrev IMODE : List V → (V → Prop) → Prop := fun ds Q => ∃ i, ds = [.int i] ∧ Q (.int (Builtin.bitAnd i 4095))
abbrev FMODE : List V → (V → Prop) → Prop := fun ds Q => ∃ m, ds = [.int m] ∧ Q (.str (fmode m))
def l_law : List String := ["script", "drawn", "number", "len", "low", "high", "sorted", "rows", "_law_rows", "tens", "start", "size", "_law_ten", "translate", "_law_pattern", "asked", "range", "k", "mode", "rights", "text", "S_IMODE", "filemode", "told", "_law_takes"]
def k_law : Kd := [(0, .local), (1, .local), (3, .globalImplicit), (4, .local), (5, .local), (6, .globalImplicit), (7, .cell), (8, .globalImplicit), (9, .cell), (10, .local), (11, .local), (15, .local), (16, .globalImplicit), (17, .local), (18, .local), (19, .cell), (20, .cell), (21, .globalImplicit), (22, .globalImplicit), (23, .local)]
def X_law_1 : Xp := (x_sq (x_unp [10, 11] (pw (w_item (pw (w_x 7)) (pw (w_x 17))))) (x_sq (x_app 15 (pw (w_bin .Add (pw (w_bin .Add (pw (w_x 10)) (pw (w_bin .Mod (pw (w_item (pw (w_x 1)) (pw (w_un .USub (pw (w_c (.int 1))))))) (pw (w_x 11)))))) (pw (w_bin .Mult (pw (w_c (.int 4096))) (pw (w_x 17))))))) (x_keep [0, 1, 4, 5, 7, 9, 15] x_nil)))
def X_law_2 : Xp := (x_sq (x_two' 19 20 (pw (w_call IMODE [(pw (w_x 18))])) (pw (w_call FMODE [(pw (w_x 18))]))) (x_sq (x_asgC 23 [17] [9, 20] (w_r1 (pw (w_len (pw (w_x 7))))) (some (pw (w_call TAKES [(pw (w_item (pw (w_x 9)) (pw (w_x 17)))), (pw (w_x 20))]))) (pw (w_x 17))) (x_sq (x_if (w_cmp .NotEq (pw (w_x 23)) (pw (w_comp [17] [7, 19] (w_r1 (pw (w_len (pw (w_x 7))))) (some (w_cmp2 .LtE .Lt (pw (w_item (pw (w_item (pw (w_x 7)) (pw (w_x 17)))) (pw (w_c (.int 0))))) (pw (w_x 19)) (pw (w_bin .Add (pw (w_item (pw (w_item (pw (w_x 7)) (pw (w_x 17)))) (pw (w_c (.int 0))))) (pw (w_item (pw (w_item (pw (w_x 7)) (pw (w_x 17)))) (pw (w_c (.int 1))))))))) (pw (w_x 17))))) (x_sq (x_ret (pw (w_c (.bool false)))) x_nil) x_nil) (x_keep [0, 1, 4, 5, 7, 9, 15] x_nil))))
def X_law_3 : Xp := (x_sq (x_for [18] false (w_v (pw (w_x 15))) X_law_2 x_nil) (x_sq (x_ret (pw (w_c (.bool true)))) x_nil))
def X_law_4 : Xp := (x_sq (x_for [17] true (w_r1 (pw (w_len (pw (w_x 7))))) X_law_1 x_nil) (x_frz 15 X_law_3))
def X_law_5 : Xp := (x_sq (x_unp [4, 5] (pw (w_srt (pw (w_lst [(pw (w_bin .Mod (pw (w_item (pw (w_x 1)) (pw (w_c (.int 0))))) (pw (w_c (.int 4096))))), (pw (w_bin .Mod (pw (w_item (pw (w_x 1)) (pw (w_c (.int 1))))) (pw (w_c (.int 4096)))))]))))) (x_sq (x_asg 7 (pw (w_call ROWS [(pw (w_x 4)), (pw (w_bin .Add (pw (w_x 5)) (pw (w_c (.int 1)))))]))) (x_sq (x_asg 9 (pw (w_comp [10, 11] [] (w_v (pw (w_x 7))) none (pw (w_call TEN [(pw (w_call TRL [(pw (w_call PAT [(pw (w_x 10)), (pw (w_x 11))]))]))]))))) (x_sq (x_asgP 15 (pw (w_x 1)) (pw (w_lst [(pw (w_bin .Add (pw (w_x 4)) (pw (w_c (.int 4095))))), (pw (w_x 4)), (pw (w_x 5)), (pw (w_bin .Add (pw (w_x 5)) (pw (w_c (.int 1)))))]))) X_law_4))))
def X_law : Xp := (x_mid (x_asg 1 (pw (w_bin .Add (pw (w_comp [2] [] (w_v (pw (w_sl (pw (w_x 0)) w_no ((pw (w_c (.int 5))) false)))) none (pw (w_bin .Mod (pw (w_bin .Add (pw (w_x 2)) (pw (w_c (.int 504))))) (pw (w_c (.int 262144))))))) (w_if (w_cmp .Lt (pw (w_len (pw (w_x 0)))) (pw (w_c (.int 3)))) (pw (w_lst [(pw (w_c (.int 33272))), (pw (w_c (.int 16899))), (pw (w_c (.int 1446)))])) (pw (w_lst [])))))) X_law_5)
theorem sl_law {C : Cx} (hf__law_rows : FnAt C "_law_rows" 1 ROWS) (hf__law_ten : FnAt C "_law_ten" 2 TEN) (hf_translate : FnAt C "translate" 3 TRL) (hf__law_pattern : FnAt C "_law_pattern" 2 PAT) (hf_S_IMODE : FnAt C "S_IMODE" 1 IMODE) (hf_filemode : FnAt C "filemode" 2 FMODE) (hf__law_takes : FnAt C "_law_takes" 1 TAKES) (O : Ok C (Nn l_law noEc)) : SL C (Nn l_law noEc) 3 k_law (fnB PW 41) X_law :=
    (.mid (s_asg 1 (s_bin (s_comp O [2] [] [(2, .local)] (s_v (s_sl (s_x O 0) s_no (s_at s_int))) (.one rfl) (by decide +kernel) .none (s_bin (s_bin (s_x O 2) s_int) s_int)) (s_if (s_cmp (s_len O (n := 3) rfl rfl (s_x O 0)) s_int) (s_lst (.cons s_int (.cons s_int (.cons s_int .nil))) rfl) (s_lst .nil rfl))) rfl rfl)
    (.cons (s_unp 4 5 (s_sorted O (n := 6) rfl rfl (s_lst (.cons (s_bin (s_item (s_x O 1) s_int) s_int) (.cons (s_bin (s_item (s_x O 1) s_int) s_int) .nil)) rfl)) (.two rfl rfl (by show nth _ _ ≠ nth _ _; decide +kernel)) rfl rfl)
    (.cons (s_asg 7 (s_call O 8 hf__law_rows rfl (.cons (s_x O 4) (.cons (s_bin (s_x O 5) s_int) .nil))) rfl rfl)
    (.cons (s_asgX 9 (s_comp O [10, 11] [] [(10, .local), (11, .local), (12, .globalImplicit), (13, .globalImplicit), (14, .globalImplicit)] (s_v (s_x O 7)) (.two rfl rfl (by show nth _ _ ≠ nth _ _; decide +kernel)) (by decide +kernel) .none (s_call O 12 hf__law_ten rfl (.cons (s_call O 13 hf_translate rfl (.cons (s_call O 14 hf__law_pattern rfl (.cons (s_x O 10) (.cons (s_x O 11) .nil))) .nil)) .nil))) rfl)
    (.cons (s_asgP 15 (s_x O 1) (s_lst (.cons (s_bin (s_x O 4) s_int) (.cons (s_x O 4) (.cons (s_x O 5) (.cons (s_bin (s_x O 5) s_int) .nil)))) rfl) rfl)
    (.cons (s_for [17] (s_r1 O (n := 16) rfl rfl (s_len O (n := 3) rfl rfl (s_x O 7))) (.one rfl) (.cons (s_unp 10 11 (s_item (s_x O 7) (s_x O 17)) (.two rfl rfl (by show nth _ _ ≠ nth _ _; decide +kernel)) rfl rfl)
    (.cons (s_app O 15 (s_bin (s_bin (s_x O 10) (s_bin (s_item (s_x O 1) (s_neg s_int)) (s_x O 11))) (s_bin s_int (s_x O 17))) rfl)
    (.keep [0, 1, 4, 5, 7, 9, 15] .nil))) .nil)
    (.frz 15 (.cons (s_for [18] (s_v (s_x O 15)) (.one rfl) (.cons (s_twoC 19 20 (s_call O 21 hf_S_IMODE rfl (.cons (s_x O 18) .nil)) (s_call O 22 hf_filemode rfl (.cons (s_x O 18) .nil)) (.two rfl rfl (by show nth _ _ ≠ nth _ _; decide +kernel)) (.inl rfl))
    (.cons (s_asgC O 23 [17] [9, 20] [(9, .free), (17, .local), (20, .free), (24, .globalImplicit)] (s_r1 O (n := 16) rfl rfl (s_len O (n := 3) rfl rfl (s_x O 7))) (.one rfl) (by decide +kernel) (.some (s_call O 24 hf__law_takes rfl (.cons (s_item (s_x O 9) (s_x O 17)) (.cons (s_x O 20) .nil)))) (s_x O 17) rfl rfl (by decide +kernel))
    (.cons (s_ifs (s_cmp (s_x O 23) (s_comp O [17] [7, 19] [(7, .free), (17, .local), (19, .free)] (s_r1 O (n := 16) rfl rfl (s_len O (n := 3) rfl rfl (s_x O 7))) (.one rfl) (by decide +kernel) (.some (s_cmp2 (s_item (s_item (s_x O 7) (s_x O 17)) s_int) (s_x O 19) (s_bin (s_item (s_item (s_x O 7) (s_x O 17)) s_int) (s_item (s_item (s_x O 7) (s_x O 17)) s_int)))) (s_x O 17))) (.cons (s_ret s_bool)
    .nil) .nil)
    (.keep [0, 1, 4, 5, 7, 9, 15] .nil)))) .nil)
    (.cons (s_ret s_bool)
    .nil)))))))))

def tenV (p : Int × Int) : V := .list ((tkOf p.1 p.2).map tkV)
def lσ (sc : V) (dr : List Int) (low high : Int) (rs : List (Int × Int)) (ask : LV) : St := [(0, .val sc), (1, .val (.list (dr.map .int))), (4, .val (.int low)), (5, .val (.int high)), (7, .val (.list (rs.map rowV))), (9, .val (.list (rs.map tenV))), (15, ask)]
def okR (rs : List (Int × Int)) (r : Int) (k : Nat) : Bool := match rs[k]? with | some p => decide (p.1 ≤ r) && decide (r < p.1 + p.2) | none => false
def okF (rs : List (Int × Int)) (r : Int) (d : V) : Option V := match d with | .int i => if okR rs r i.toNat = true then some (.int i) else none | _ => none
theorem Cov.mem : ∀ {rs : List (Int × Int)} {a b : Int}, Cov a rs b → ∀ p ∈ rs, (∃ k : Nat, k ≤ 12 ∧ p.2 = 2 ^ k) ∧ p.1 % p.2 = 0 ∧ a ≤ p.1 ∧ p.1 + p.2 ≤ b
  | (s, z) :: r, a, b, h, p, hp => by
    obtain ⟨rfl, hk, hm, hc⟩ := h
    have hz : 0 < z := by obtain ⟨k, _, rfl⟩ := hk; exact Int.pow_pos (by decide)
    have hl := Cov.len hc
    rcases List.mem_cons.mp hp with rfl | hp
    · exact ⟨hk, hm, Int.le_refl _, by show s + z ≤ b; omega⟩
    · have := Cov.mem hc p hp
      exact ⟨this.1, this.2.1, by omega, this.2.2.2⟩
theorem row_ok {low b : Int} {rs : List (Int × Int)} (hc : Cov low rs b) (h0 : 0 ≤ low) (hb : b ≤ 4096) {k m : Nat} {p : Int × Int} (hp : rs[k]? = some p) : takesB (tkOf p.1 p.2) (fmode m) = okR rs ((m % 4096 : Nat) : Int) k := by
  obtain ⟨⟨j, hj, hz⟩, hm, h1, h2⟩ := Cov.mem hc p (List.mem_of_getElem? hp)
  obtain ⟨s, hs⟩ := Int.eq_ofNat_of_zero_le (show 0 ≤ p.1 by omega)
  have hz' : p.2 = ((2 ^ j : Nat) : Int) := by rw [hz]; push_cast; rfl
  unfold okR
  rw [hp]
  dsimp only
  rw [hs, hz'] at hm h2 ⊢
  rw [takes_row hj (by exact_mod_cast hm) (by exact_mod_cast (show ((s : Int) + ((2 ^ j : Nat) : Int)) ≤ 4096 by omega)), Bool.decide_and]
  congr 1
  · exact decide_eq_decide.mpr Int.ofNat_le.symm
  · exact decide_eq_decide.mpr (by rw [← Int.natCast_add]; exact Int.ofNat_lt.symm)
theorem veq_refl' {d : V} (h : vok 8 d = true) : veq d d = true := SeqAt.eqv_refl _ (lay_of 8 d h).1
theorem vok_okF (rs : List (Int × Int)) (r : Int) (n : Nat) : vok 8 (.list (((rangeL 0 n 1).map V.int).filterMap (okF rs r))) = true := List.all_eq_true.mpr fun d hd => by
  obtain ⟨e, he, h⟩ := List.mem_filterMap.mp hd
  obtain ⟨i, _, rfl⟩ := List.mem_map.mp he
  unfold okF at h
  dsimp only at h
  split at h
  · cases h; rfl
  · cases h
theorem rgw_of {n : Nat} {Q : List V → Prop} (h : n ≤ 100000) (hQ : Q ((rangeL 0 n 1).map V.int)) : rgw 0 n 1 Q :=
  ⟨by decide, by decide, by omega, by decide, by rw [show (rangeL 0 n 1).length = _ from (List.length_map ..).symm.trans (rng_len 0 _)]; omega, hQ⟩

theorem fmode_128 (m : Nat) : ∀ c ∈ fmode (m : Int), c < 128 := fun c hc => by
  rw [fmode_eq] at hc
  rcases List.mem_cons.mp hc with rfl | hc
  · unfold fmP
    cases e : (fmTab.headD []).find? fun p => fmT (m : Int) 0 p.1 with
    | none => decide
    | some p =>
      have := List.mem_of_find?_eq_some e
      exact (by decide : ∀ p ∈ fmTab.headD [], p.2 < 128) p this
  · obtain ⟨p, hp, rfl⟩ := List.mem_map.mp hc
    exact (by decide : ∀ p ∈ List.range' 1 9, ∀ f ∈ List.range (if p % 3 = 0 then 4 else 2), (sgn p).getD f 0 < 128) p hp _ (List.mem_range.mpr (figN_lt p m))
section
variable {sc : V} {dr : List Int} {low high : Int} {rs : List (Int × Int)} {as : V} {m : Nat} {K : Kt}
theorem law_2 (hc : Cov low rs (high + 1)) (h0 : 0 ≤ low) (hb : high + 1 ≤ 4096) (hK : K .next (lσ sc dr low high rs (.val as))) : X_law_2 (put (lσ sc dr low high rs (.val as)) 18 (.val (.int m))) K := by
  have hlen : rs.length ≤ 5000 := by have := Cov.len hc; omega
  have hz : (rs.map rowV).length ≤ 1000000 := by rw [List.length_map]; omega
  have hz9 : (rs.map tenV).length ≤ 1000000 := by rw [List.length_map]; omega
  have hz2 : (rs.map rowV).length ≤ 100000 := by rw [List.length_map]; omega
  have hz28 : (((rs.map rowV).length : Nat) : Int).natAbs < 2 ^ 28 := by omega
  have hrl : (rangeL 0 (rs.map rowV).length 1).length ≤ 1000000 := by rw [show (rangeL 0 (rs.map rowV).length 1).length = _ from (List.length_map ..).symm.trans (rng_len 0 _)]; omega
  have hr : Builtin.bitAnd (m : Int) 4095 = ((m % 4096 : Nat) : Int) := by
    rw [bitAnd_pp (Int.natCast_nonneg _) (by decide), Int.toNat_natCast]
    exact congrArg Int.ofNat (Nat.and_two_pow_sub_one_eq_mod m 12)
  have hrow : ∀ {k : Nat} {p : Int × Int}, rs[k]? = some p → (rs.map rowV)[k]? = some (rowV p) := fun h => by rw [List.getElem?_map, h]; rfl
  have hten : ∀ {k : Nat} {p : Int × Int}, rs[k]? = some p → (rs.map tenV)[k]? = some (tenV p) := fun h => by rw [List.getElem?_map, h]; rfl
  have hd : ∀ {d}, d ∈ (rangeL 0 (rs.map rowV).length 1).map V.int → ∃ (k : Nat) (p : Int × Int), d = .int k ∧ rs[k]? = some p := fun {d} h => by
    rw [rangeL0] at h
    obtain ⟨k, hk, rfl⟩ := List.mem_map.mp h
    have hk := List.mem_range.mp hk
    rw [List.length_map] at hk
    exact ⟨k, rs[k], rfl, List.getElem?_eq_getElem hk⟩
  refine ⟨m, rfl, m, rfl, _, _, rfl, rfl, rfl, hz, by decide, by decide, hz28, by decide, hrl, okF rs (Builtin.bitAnd (m : Int) 4095), fun d hd' => ?_, ?_⟩
  · obtain ⟨k, p, rfl, hp⟩ := hd hd'
    have hl2 : ∀ q ∈ tkOf p.1 p.2, q.2.length ≤ 1000 ∧ ∀ c ∈ q.2, c < 128 := fun q hq => by
      obtain ⟨x, hx, rfl⟩ := List.mem_map.mp hq
      have := pcs_ok p.1 p.2 x hx
      cases x with
      | q => exact ⟨Nat.zero_le _, fun c hc => (nomatch hc)⟩
      | st => exact this.elim
      | c y => exact ⟨by show 1 ≤ 1000; decide, fun c hc => List.mem_singleton.mp hc ▸ sgs_128 y this⟩
      | b l =>
        obtain ⟨u, v, rfl, hu, hv⟩ := this
        exact ⟨by show 2 ≤ 1000; decide, fun c hc => (List.mem_cons.mp hc).elim (fun e => e ▸ sgs_128 u hu) fun hc => List.mem_singleton.mp hc ▸ sgs_128 v hv⟩
    have hfl : (fmode (m : Int)).length = 10 := fmGo_len _ 0 fmTab
    have hf128 := fmode_128 m
    refine ⟨hz9, k, _, ixOf_get (hten hp), hten hp, tkOf p.1 p.2, fmode m, rfl, by unfold tkOf; rw [List.length_map, pcs_len]; decide, by omega, hf128, hl2, ?_⟩
    rw [row_ok hc h0 hb hp, hr]
    refine ⟨fun h => ?_, fun h => ?_⟩
    · show okF rs _ (.int k) = _
      unfold okF; dsimp only; rw [Int.toNat_natCast, if_pos h]
    · show okF rs _ (.int k) = _
      unfold okF; dsimp only; rw [Int.toNat_natCast, if_neg (by rw [h]; exact Bool.false_ne_true)]
  · have vk := vok_okF rs (Builtin.bitAnd (m : Int) 4095) (rs.map rowV).length
    refine ⟨rfl, hz, by decide, by decide, hz28, by decide, hrl, okF rs (Builtin.bitAnd (m : Int) 4095), fun d hd' => ?_, vk, vk, ?_⟩
    · obtain ⟨k, p, rfl, hp⟩ := hd hd'
      have hg := hrow hp
      have hx := ixOf_get hg
      refine ⟨hz, k, _, hx, hg, by show 2 ≤ 1000000; decide, 0, .int p.1, rfl, rfl, fun h1 => ⟨hz, k, _, hx, hg, by show 2 ≤ 1000000; decide, 0, .int p.1, rfl, rfl, hz, k, _, hx, hg, by show 2 ≤ 1000000; decide, 1, .int p.2, rfl, rfl, fun h2 => ?_, fun h2 => ?_⟩, fun h1 => ⟨fun h => (nomatch h), fun _ => ?_⟩⟩
      · have h1 : decide (p.1 ≤ Builtin.bitAnd (m : Int) 4095) = true := h1
        have h2 : decide (Builtin.bitAnd (m : Int) 4095 < p.1 + p.2) = true := h2
        show okF rs _ (.int k) = _
        unfold okF; dsimp only; rw [Int.toNat_natCast, if_pos (by unfold okR; rw [hp]; dsimp only; rw [h1, h2]; rfl)]
      · have h2 : decide (Builtin.bitAnd (m : Int) 4095 < p.1 + p.2) = false := h2
        show okF rs _ (.int k) = _
        unfold okF; dsimp only; rw [Int.toNat_natCast, if_neg (by unfold okR; rw [hp]; dsimp only; rw [h2, Bool.and_false]; exact Bool.false_ne_true)]
      · have h1 : decide (p.1 ≤ Builtin.bitAnd (m : Int) 4095) = false := h1
        show okF rs _ (.int k) = _
        unfold okF; dsimp only; rw [Int.toNat_natCast, if_neg (by unfold okR; rw [hp]; dsimp only; rw [h1]; exact Bool.false_ne_true)]
    · rw [veq_refl' vk]
      exact ⟨fun h => (nomatch h), fun _ => hK⟩
end

def mi (m : Nat) : V := .int m
section
variable {sc : V} {dr : List Int} {low high : Int} {rs : List (Int × Int)} {ms : List Nat} {K : Kt}
theorem law_1 {k : Nat} {p : Int × Int} (hp : rs[k]? = some p) (h1 : 0 ≤ p.1) (h2 : 0 < p.2) (hrs : rs.length ≤ 5000) (hd0 : dr ≠ []) (hdl : dr.length ≤ 100) (hdp : ∀ x ∈ dr, 0 ≤ x) (hm : ms.length ≤ 100000) (hK : ∀ x : Nat, K .next (lσ sc dr low high rs (.own ((ms ++ [x]).map mi)))) :
    X_law_1 (put (lσ sc dr low high rs (.own (ms.map mi))) 17 (.val (.int k))) K := by
  have hz : (rs.map rowV).length ≤ 1000000 := by rw [List.length_map]; omega
  have hg : (rs.map rowV)[k]? = some (rowV p) := by rw [List.getElem?_map, hp]; rfl
  have hl : 0 < dr.length := List.length_pos_iff.mpr hd0
  obtain ⟨d, hd⟩ : ∃ d, dr[dr.length - 1]? = some d := ⟨_, List.getElem?_eq_getElem (Nat.sub_lt hl Nat.zero_lt_one)⟩
  have hdn := hdp d (List.mem_of_getElem? hd)
  have hgd : (dr.map V.int)[dr.length - 1]? = some (.int d) := by rw [List.getElem?_map, hd]; rfl
  have hix : ixOf (-1) (dr.map V.int).length = some (dr.length - 1) := by rw [List.length_map]; unfold ixOf; rw [if_neg (by decide), if_pos (by omega)]; exact congrArg some (by omega)
  have hf : 0 ≤ d.fmod p.2 := by rw [Int.fmod_eq_emod_of_nonneg _ (Int.le_of_lt h2)]; exact Int.emod_nonneg _ (Int.ne_of_gt h2)
  obtain ⟨x, hx⟩ := Int.eq_ofNat_of_zero_le (show 0 ≤ p.1 + d.fmod p.2 + 4096 * (k : Int) by omega)
  have := hK x
  rw [List.map_append, show [x].map mi = [V.int (p.1 + d.fmod p.2 + 4096 * (k : Int))] by rw [hx]; rfl] at this
  exact ⟨hz, k, _, ixOf_get hg, hg, by rw [List.length_map]; omega, by rw [List.length_map]; omega, dr.length - 1, _, hix, hgd, Int.ne_of_gt h2, .inl (by decide), this⟩
theorem law_3 (hc : Cov low rs (high + 1)) (h0 : 0 ≤ low) (hb : high + 1 ≤ 4096) (hm : ms.length ≤ 1000000) {Q : V → Prop} (hQ : Q (.bool true)) : X_law_3 (lσ sc dr low high rs (.val (.list (ms.map mi)))) (retK Q) := by
  refine ⟨by rw [List.length_map]; exact hm, fun _ σ => σ = lσ sc dr low high rs (.val (.list (ms.map mi))), rfl, fun i d σ hd hσ => ?_, fun σ hσ => ?_⟩
  · subst hσ
    rw [List.getElem?_map] at hd
    obtain ⟨m, _, rfl⟩ := Option.map_eq_some_iff.mp hd
    exact law_2 hc h0 hb rfl
  · subst hσ; exact hQ
theorem law_4 (hc : Cov low rs (high + 1)) (h0 : 0 ≤ low) (hb : high + 1 ≤ 4096) (hd0 : dr ≠ []) (hdl : dr.length ≤ 100) (hdp : ∀ x ∈ dr, 0 ≤ x) (hm : ms.length ≤ 200) {Q : V → Prop} (hQ : Q (.bool true)) : X_law_4 (lσ sc dr low high rs (.own (ms.map mi))) (retK Q) := by
  have hlen : rs.length ≤ 5000 := by have := Cov.len hc; omega
  have hz : (rs.map rowV).length ≤ 1000000 := by rw [List.length_map]; omega
  have hz28 : (((rs.map rowV).length : Nat) : Int).natAbs < 2 ^ 28 := by rw [List.length_map]; omega
  have hrl : (rangeL 0 (rs.map rowV).length 1).length ≤ 1000000 := by rw [show (rangeL 0 (rs.map rowV).length 1).length = _ from (List.length_map ..).symm.trans (rng_len 0 _)]; omega
  refine ⟨hz, by decide, by decide, hz28, by decide, hrl, fun i σ => ∃ ms : List Nat, ms.length = 200 + i - 200 + (ms.length - i) ∧ ms.length ≤ 200 + i ∧ σ = lσ sc dr low high rs (.own (ms.map mi)), ⟨ms, by omega, by omega, rfl⟩, ?_, ?_⟩
  · rintro i d σ hd ⟨ms, _, hml, rfl⟩
    obtain ⟨rfl, hk⟩ := rng_get (a := 0) hd
    rw [Nat.zero_add] at hk ⊢
    have hk2 : i < rs.length := by rw [List.length_map] at hk; omega
    have hp := List.getElem?_eq_getElem hk2
    obtain ⟨⟨j, _, hz'⟩, _, h1, _⟩ := Cov.mem hc _ (List.getElem_mem hk2)
    refine law_1 hp (by omega) (by rw [hz']; exact Int.pow_pos (by decide)) hlen hd0 hdl hdp (by omega) fun x => ⟨ms ++ [x], by rw [List.length_append, List.length_singleton]; omega, by rw [List.length_append, List.length_singleton]; omega, rfl⟩
  · rintro σ ⟨ms, _, hml, rfl⟩
    rw [rng_len, List.length_map] at hml
    exact law_3 hc h0 hb (by omega) hQ
end

def tenF (d : V) : Option V := match d with | .tuple [.int s, .int z] => some (tenV (s, z)) | _ => none
theorem tenF_map (rs : List (Int × Int)) : (rs.map rowV).filterMap tenF = rs.map tenV := by
  induction rs with
  | nil => rfl
  | cons p rs ih => rw [List.map_cons, List.filterMap_cons, show tenF (rowV p) = some (tenV p) from rfl, ih]; rfl
def drOk (dr : List Int) : Prop := 2 ≤ dr.length ∧ dr.length ≤ 100 ∧ ∀ x ∈ dr, 0 ≤ x ∧ x < 262144
theorem fmod_rng (x : Int) {n : Int} (h : 0 < n) : 0 ≤ x.fmod n ∧ x.fmod n < n := by rw [Int.fmod_eq_emod_of_nonneg _ (Int.le_of_lt h)]; exact ⟨Int.emod_nonneg _ (Int.ne_of_gt h), Int.emod_lt_of_pos _ h⟩
theorem toNat_mi {l : List Int} (h : ∀ x ∈ l, 0 ≤ x) : (l.map Int.toNat).map mi = l.map V.int := by
  rw [List.map_map]
  exact List.map_congr_left fun x hx => congrArg V.int (Int.toNat_of_nonneg (h x hx))
theorem law_5 {sc : V} {dr : List Int} (hd : drOk dr) {Q : V → Prop} (hQ : Q (.bool true)) : X_law_5 [(0, .val sc), (1, .val (.list (dr.map .int)))] (retK Q) := by
  obtain ⟨hd2, hdl, hdr⟩ := hd
  have hz : (dr.map V.int).length ≤ 1000000 := by rw [List.length_map]; omega
  have g : ∀ {i : Nat} (h : i < dr.length), (dr.map V.int)[i]? = some (.int dr[i]) := fun h => by rw [List.getElem?_map, List.getElem?_eq_getElem h]; rfl
  have g0 := g (i := 0) (by omega)
  have g1 := g (i := 1) (by omega)
  refine ⟨hz, 0, _, ixOf_get (k := 0) g0, g0, by decide, hz, 1, _, ixOf_get (k := 1) g1, g1, by decide, [_, _], rfl, by show 2 < 64; decide, fun ns' hp hs => ?_⟩
  have hlen := hp.length_eq
  have hmem : ∀ x ∈ ns', 0 ≤ x ∧ x < 4096 := fun x hx => by
    rcases List.mem_cons.mp (hp.mem_iff.mp hx) with rfl | hx
    · exact fmod_rng _ (by decide)
    · rw [List.mem_singleton.mp hx]; exact fmod_rng _ (by decide)
  match ns', hlen, hs, hmem with
  | [low, high], _, hs, hmem =>
    obtain ⟨l0, l1⟩ := hmem low (.head _)
    obtain ⟨h0, h1⟩ := hmem high (.tail _ (.head _))
    have hlh : low ≤ high := by
      have := (List.pairwise_cons.mp hs).1 high (.head _)
      exact this
    refine ⟨low, high + 1, rfl, l0, by omega, by omega, fun rs hc => ?_⟩
    have hrl : rs.length ≤ 5000 := by have := Cov.len hc; omega
    refine ⟨rfl, by rw [List.length_map]; omega, tenF, fun d hd' => ?_, ?_⟩
    · obtain ⟨p, hp', rfl⟩ := List.mem_map.mp hd'
      obtain ⟨⟨j, hj, hz'⟩, _, h2, h3⟩ := Cov.mem hc p hp'
      have hz0 : 0 < p.2 := by rw [hz']; exact Int.pow_pos (by decide)
      exact ⟨fun _ => row_ten hz0 (by omega) rfl, fun h => (nomatch h)⟩
    · rw [tenF_map]
      refine ⟨rfl, by rw [List.length_map]; show _ + 4 ≤ _; omega, ?_⟩
      have hn : ∀ x ∈ dr ++ [low + 4095, low, high, high + 1], 0 ≤ x := fun x hx => by
        rcases List.mem_append.mp hx with hx | hx
        · exact (hdr x hx).1
        · simp only [List.mem_cons, List.not_mem_nil, or_false] at hx; omega
      have := law_4 (sc := sc) (dr := dr) (ms := (dr ++ [low + 4095, low, high, high + 1]).map Int.toNat) hc l0 (by omega) (by rintro rfl; exact absurd hd2 (by decide)) hdl (fun x hx => (hdr x hx).1) (by rw [List.length_map, List.length_append]; show _ + 4 ≤ _; omega) hQ
      rw [toNat_mi hn, List.map_append] at this
      exact this

abbrev LAW : List V → (V → Prop) → Prop := fun ds Q => ∃ ns : List Int, ds = [.list (ns.map .int)] ∧ ns.length ≤ 63 ∧ Q (.bool true)
def drF (d : V) : Option V := match d with | .int i => some (.int ((i + 504).fmod 262144)) | _ => none
theorem drF_map (ns : List Int) : (ns.map V.int).filterMap drF = (ns.map fun i => (i + 504).fmod 262144).map V.int := by
  induction ns with
  | nil => rfl
  | cons p rs ih => rw [List.map_cons, List.filterMap_cons, show drF (V.int p) = some (V.int ((p + 504).fmod 262144)) from rfl, ih]; rfl
theorem f_law {C : Cx} {x : Addr} (hf__law_rows : FnAt C "_law_rows" 1 ROWS) (hf__law_ten : FnAt C "_law_ten" 2 TEN) (hf_translate : FnAt C "translate" 3 TRL) (hf__law_pattern : FnAt C "_law_pattern" 2 PAT) (hf_S_IMODE : FnAt C "S_IMODE" 1 IMODE) (hf_filemode : FnAt C "filemode" 2 FMODE) (hf__law_takes : FnAt C "_law_takes" 1 TAKES) (O : Ok C (Nn l_law noEc)) (D : FnD C x ([0].map (nth l_law)) (fnSc PW 41) (fnB PW 41)) : Fn C x 4 LAW :=
  Fn.of_body (vn := Nn l_law noEc) (ps := [0]) D (sl_law hf__law_rows hf__law_ten hf_translate hf__law_pattern hf_S_IMODE hf_filemode hf__law_takes O) (by decide +kernel) (by decide +kernel) rfl (by decide) (fun _ _ _ _ _ => trivial) fun ds Q ⟨ns, e, hn, hQ⟩ => by
    subst e
    have hz : (ns.map V.int).length ≤ 1000000 := by rw [List.length_map]; omega
    have hrng : ∀ l : List Int, ∀ x ∈ l.map (fun i : Int => (i + 504).fmod 262144), 0 ≤ x ∧ x < 262144 := fun l x hx => by obtain ⟨y, _, rfl⟩ := List.mem_map.mp hx; exact fmod_rng _ (by decide)
    have e5 : sliceL (ns.map V.int) none (some (5 : Int)) = (ns.take 5).map V.int := by rw [List.map_take]; exact sl_to _ 5
    refine ⟨rfl, fun σ => ∃ dr, σ = [(0, .val (.list (ns.map .int))), (1, .val (.list (dr.map .int)))] ∧ drOk dr, ⟨rfl, by decide, hz, ?_⟩, ?_⟩
    · rw [e5]
      refine ⟨by rw [List.length_map, List.length_take]; omega, drF, fun d hd => ?_, ?_⟩
      · obtain ⟨i, _, rfl⟩ := List.mem_map.mp hd
        exact ⟨fun _ => ⟨by decide, rfl⟩, fun h => (nomatch h)⟩
      · rw [drF_map]
        refine ⟨hz, fun h => ?_, fun h => ?_⟩
        · refine ⟨by rw [List.length_map, List.length_map, List.length_take]; show _ + 3 ≤ _; omega, (ns.take 5).map (fun i => (i + 504).fmod 262144) ++ [33272, 16899, 1446], by rw [List.map_append]; rfl, by rw [List.length_append]; exact Nat.le_add_left 2 _, by rw [List.length_append, List.length_map, List.length_take]; show _ + 3 ≤ _; omega, fun x hx => ?_⟩
          rcases List.mem_append.mp hx with hx | hx
          · exact hrng _ x hx
          · exact (by decide : ∀ x ∈ [33272, 16899, 1446], (0 : Int) ≤ x ∧ x < 262144) x hx
        · have h : ¬ ((ns.map V.int).length : Int) < 3 := of_decide_eq_false h
          rw [List.length_map] at h
          refine ⟨by rw [List.length_map, List.length_map, List.length_take]; show _ + 0 ≤ _; omega, (ns.take 5).map (fun i => (i + 504).fmod 262144), by rw [List.append_nil]; rfl, by rw [List.length_map, List.length_take]; omega, by rw [List.length_map, List.length_take]; omega, hrng _⟩
    · rintro σ ⟨dr, rfl, hd⟩
      exact law_5 hd hQ

/-! # What is looked at behind the top -/
def refOf : Value → Option Addr
  | .ref a => some a
  | _ => none
def tySome (n : String) : Value → Bool
  | .type m => m == n
  | _ => false
def seqOf : Data → Option (Array Value × Nat)
  | .seq vs n => some (vs, n)
  | _ => none
theorem refOf_inv {v : Value} {a : Addr} (h : refOf v = some a) : v = .ref a := by cases v <;> cases h; rfl
theorem tySome_inv {n : String} {v : Value} (h : tySome n v = true) : v = .type n := by
  cases v <;> first | cases h; done | exact congrArg _ (beq_iff_eq.mp h)
theorem seqOf_inv {d : Data} {p : Array Value × Nat} (h : seqOf d = some p) : d = .seq p.1 p.2 := by cases d <;> cases h; rfl
/-- the places of a plain tuple -/
def tupAt (h : Heap) (v : Value) : Option (List Value) := (refOf v).bind fun a => (h.get? a).bind fun o =>
  if tySome "tuple" o.cls && o.dict.isNone && o.slots.size == 0 then (seqOf o.data).map fun p => p.1.toList else none
theorem tupAt_inv {h : Heap} {v : Value} {vs : List Value} (e : tupAt h v = some vs) : ∃ a n, v = .ref a ∧ h.get? a = some (tupObj vs n) := by
  obtain ⟨a, ea, e⟩ := Option.bind_eq_some_iff.mp e
  obtain ⟨o, eo, e⟩ := Option.bind_eq_some_iff.mp e
  split at e
  · rename_i hc
    obtain ⟨hc, hs⟩ := Bool.and_eq_true_iff.mp hc
    obtain ⟨hc, hd⟩ := Bool.and_eq_true_iff.mp hc
    obtain ⟨p, ep, rfl⟩ := Option.map_eq_some_iff.mp e
    refine ⟨a, p.2, refOf_inv ea, eo.trans ?_⟩
    obtain ⟨c, d, dt, sl⟩ := o
    have h1 : c = .type "tuple" := tySome_inv hc
    have h2 : d = none := Option.isNone_iff_eq_none.mp hd
    have h3 : sl = #[] := Array.eq_empty_of_size_eq_zero (beq_iff_eq.mp hs)
    have h4 : dt = .seq p.1 p.2 := seqOf_inv ep
    subst h1 h2 h3 h4
    show some (Obj.mk _ _ _ _) = some (Obj.mk _ _ _ _)
    rw [Array.toArray_toList]
  · cases e
def all2 {α β : Type} (f : α → β → Bool) : List α → List β → Bool
  | [], [] => true
  | a :: as, b :: bs => f a b && all2 f as bs
  | _, _ => false
theorem all2_rep {α : Type} {F : Fz} {f : α → Value → Bool} {g : α → V} (hf : ∀ a v, f a v = true → Rep F v (g a)) : ∀ {as : List α} {vs : List Value}, all2 f as vs = true → RepL F vs (as.map g)
  | [], [], _ => .nil
  | a :: as, v :: vs, h => let ⟨h1, h2⟩ := Bool.and_eq_true_iff.mp h; .cons (hf a v h1) (all2_rep hf h2)
def rowB {α : Type} (f : α → Value → Bool) (h : Heap) (ds : List α) (v : Value) : Bool := (tupAt h v).any fun vs => all2 f ds vs
theorem rowB_rep {α : Type} {h : Heap} {F : Fz} {f : α → Value → Bool} {g : α → V} (hF : ∀ a vs n, h.get? a = some (tupObj vs n) → F a (tupObj vs n)) (hf : ∀ a v, f a v = true → Rep F v (g a)) {ds : List α} {v : Value} (e : rowB f h ds v = true) :
    Rep F v (.tuple (ds.map g)) := by
  obtain ⟨vs, e1, e2⟩ := (Option.any_eq_true _ _).mp e
  obtain ⟨a, n, rfl, e3⟩ := tupAt_inv e1
  exact .tuple (hF _ _ _ e3) (all2_rep hf e2)
def leafB : V → Value → Bool
  | .int i, v => Value.isInt i v
  | .str l, v => Value.isStrOf (mkS l) v
  | _, _ => false
theorem leafB_rep {F : Fz} (d : V) (v : Value) (h : leafB d v = true) : Rep F v d := by
  cases d with
  | int i => obtain ⟨t, rfl⟩ := Value.isInt_shape (k := i) h; exact .int _ _
  | str l => obtain ⟨t, rfl⟩ := Value.isStrOf_shape (x := mkS l) h; exact .str _ _
  | _ => cases h
def pairB (h : Heap) (p : Int × Nat) (v : Value) : Bool := rowB leafB h [.int p.1, .str [p.2]] v
/-- the table of filemode -/
def fmB (h : Heap) : Bool := (h.nsMap mainGlobals "_filemode_table").any (rowB (rowB (pairB h) h) h fmTab)
theorem fmB_rep {h : Heap} {F : Fz} (hF : ∀ a vs n, h.get? a = some (tupObj vs n) → F a (tupObj vs n)) (e : fmB h = true) : ∃ v, h.nsMap mainGlobals "_filemode_table" = some v ∧ Rep F v (.tuple (fmTab.map tabV)) := by
  obtain ⟨v, e1, e2⟩ := (Option.any_eq_true _ _).mp e
  refine ⟨v, e1, rowB_rep (g := tabV) hF (fun t v h1 => rowB_rep (g := fun p : Int × Nat => V.tuple [.int p.1, .str [p.2]]) hF (fun p v h2 => ?_) h1) e2⟩
  have := rowB_rep (g := fun d => d) hF leafB_rep h2
  rwa [List.map_id'] at this
/-- the table of special signs -/
def spD : List (PyData × PyData) := spcl.map fun c : Nat => (.int (c : Nat), .str (mkS [92, (c : Nat)]))
def spB (h : Heap) : Bool := h.tabIntOk "_special_chars_map" spD
/-- the pattern's code, and the pattern -/
def patVs : List Value := cde.toList.map fun c : Nat => .int (c : Int) 0
def patO : Obj := { cls := .type "re.Pattern", data := .fields #[.str (Str.ofString "([&~|])") 377, .int 32 412, .int 1 0, .none, .none, .ref 89, .int 0 0] }
def seeT (s : Shared) : Bool := fmB s.heap && spB s.heap && (s.heap.nsMap mainGlobals "_twin_re_1").any fun v => refOf v == some 90
def obsT (s : Shared) : Option Obj × Option Obj := (s.heap.get? 90, s.heap.get? 89)
def valT : Option Obj × Option Obj := (some patO, some (tupObj patVs 0))
structure Obs (mg : Str → Option Value) (h : Heap) : Prop where
  fm : ∀ F : Fz, (∀ a vs n, h.get? a = some (tupObj vs n) → F a (tupObj vs n)) → ∃ v, mg "_filemode_table" = some v ∧ Rep F v (.tuple (fmTab.map tabV))
  sp : ∀ prog w, ∃ a, mg "_special_chars_map" = some (.ref a) ∧ IntTab prog w h a spD
  pt : mg "_twin_re_1" = some (.ref 90)
theorem Obs.of {s : Shared} (e : seeT s = true) : Obs (s.heap.nsMap mainGlobals) s.heap := by
  obtain ⟨e, e3⟩ := Bool.and_eq_true_iff.mp e
  obtain ⟨e1, e2⟩ := Bool.and_eq_true_iff.mp e
  obtain ⟨v, e4, e5⟩ := (Option.any_eq_true _ _).mp e3
  exact ⟨fun F hF => fmB_rep hF e1, fun prog w => tabInt_of_ok e2, e4.trans (congrArg some (refOf_inv (beq_iff_eq.mp e5)))⟩
theorem Obs.keeps (mg : Str → Option Value) (h h' : Heap) (x : Obs mg h) (hk : ∀ b o, h.get? b = some o → h'.get? b = some o) : Obs mg h' :=
  ⟨fun F hF => x.fm F fun a vs n e => hF a vs n (hk _ _ e), fun prog w => let ⟨a, b, c, kvs, d, f⟩ := x.sp prog w; ⟨a, b, c, kvs, d.keep hk, f⟩, x.pt⟩
def PatAt (h : Heap) : Prop := h.get? 90 = some patO ∧ h.get? 89 = some (tupObj patVs 0)

def QV : Program := view PW [0, 2, 3, 24, 27, 30, 32, 33, 35, 36, 37, 38, 39, 40, 41]
def looseT : List Str := ["S_IFDIR", "S_IFCHR", "S_IFBLK", "S_IFREG", "S_IFIFO", "S_IFLNK", "S_IFSOCK", "S_ISUID", "S_ISGID", "S_ISVTX", "S_IRUSR", "S_IWUSR", "S_IXUSR", "S_IRGRP", "S_IWGRP", "S_IXGRP", "S_IROTH", "S_IWOTH", "S_IXOTH", "_filemode_table", "_twin_re_1", "_special_chars_map"]
/-- two rows of the world are asked by the top -/
theorem left_of_rows {P : World → Prop} (r1 r2 : String) (h : ∀ (a b : Bool) (w : World), P ((w.withFollow r1 a).withFollow r2 b)) (w : World) : P w := by
  have := h (w.params.followText r1) (w.params.followText r2) w
  rwa [World.withFollow_self, World.withFollow_self] at this
def wRows (w : World) (a b : Bool) : World := (w.withFollow "comprehension-iter-twice" a).withFollow "special-get-raises" b
abbrev Lft (w : World) : Prop := (openEnds treeTable PW w 4428).map (fun s => (openSeen QV looseT (importedModules PW.main.body) seeT true s, obsT s)) = some (openGood QV looseT, valT)
theorem left_ff (w : World) : Lft (wRows w false false) := by kernel_rfl
theorem left_ft (w : World) : Lft (wRows w false true) := by kernel_rfl
theorem left_tf (w : World) : Lft (wRows w true false) := by kernel_rfl
theorem left_tt (w : World) : Lft (wRows w true true) := by kernel_rfl
theorem left : LeftO PW QV looseT seeT obsT (fun _ => valT) 4428 :=
  left_of_rows (P := Lft) "comprehension-iter-twice" "special-get-raises" fun a b w => by
    cases a <;> cases b
    · exact left_ff w
    · exact left_ft w
    · exact left_tf w
    · exact left_tt w
/-! # The functions behind the top -/
def fnP (p : Program) (k : Nat) : Arguments := match p.main.body[k]? with | some s => (match s with | .FunctionDef _ a .. => a | _ => ⟨[], [], none, [], [], none, []⟩) | none => ⟨[], [], none, [], [], none, []⟩
def fnQ (p : Program) (k : Nat) : Pos := match p.main.body[k]? with | some s => (match s with | .FunctionDef _ _ _ _ _ _ _ _ _ q => q | _ => ⟨0, 0, 0, 0⟩) | none => ⟨0, 0, 0, 0⟩
abbrev fd (x : Str) (k : Nat) : DefRec := ⟨x, fnP PW k, fnB PW k, fnSc PW k, fnQ PW k⟩
theorem recsV : recsOf QV = [fd "S_IMODE" 2, fd "S_IFMT" 3, fd "filemode" 24, fd "translate" 27, fd "escape" 30, fd "_translate" 32, fd "_join_translated_parts" 33, fd "_law_rows" 35, fd "_law_figure" 36, fd "_law_pattern" 37, fd "_law_sign" 38, fd "_law_ten" 39, fd "_law_takes" 40, fd "law" 41] := by kernel_rfl
/-- the parameters of a plain def take their places -/
def Binds (x : Str) (k : Nat) (ps : List Str) : Prop := ∀ pm cd doc (vals : List Value), vals.length = ps.length → bindArgs (Calls.docDef x (fnP PW k) (fnB PW k) (fnSc PW k) pm cd doc) ⟨vals, []⟩ = pure (ps.zip vals)
theorem binds1 {x : Str} {k : Nat} {p : Str} (h : ∀ pm cd doc a, bindArgs (Calls.docDef x (fnP PW k) (fnB PW k) (fnSc PW k) pm cd doc) ⟨[a], []⟩ = pure [(p, a)]) : Binds x k [p]
  | pm, cd, doc, [a], _ => h pm cd doc a
theorem binds2 {x : Str} {k : Nat} {p q : Str} (h : ∀ pm cd doc a b, bindArgs (Calls.docDef x (fnP PW k) (fnB PW k) (fnSc PW k) pm cd doc) ⟨[a, b], []⟩ = pure [(p, a), (q, b)]) : Binds x k [p, q]
  | pm, cd, doc, [a, b], _ => h pm cd doc a b
theorem binds3 {x : Str} {k : Nat} {p q r : Str} (h : ∀ pm cd doc a b c, bindArgs (Calls.docDef x (fnP PW k) (fnB PW k) (fnSc PW k) pm cd doc) ⟨[a, b, c], []⟩ = pure [(p, a), (q, b), (r, c)]) : Binds x k [p, q, r]
  | pm, cd, doc, [a, b, c], _ => h pm cd doc a b c

/-- what stands behind the top -/
structure Std (C : Cx) (h : Heap) : Prop where
  T : ∃ mean, Top QV (looseW QV looseT) mean C.mg C.mb h
  K : ∀ a o, C.K a o ↔ h.get? a = some o ∧ a ≠ C.P
  P : ∃ o, h.get? C.P = some o ∧ o.data = .fields #[]
theorem Std.cls {C : Cx} {h : Heap} (S : Std C h) {a : Addr} {o : Obj} (e : h.get? a = some o) (hd : o.data ≠ .fields #[]) : C.K a o := (S.K a o).mpr ⟨e, fun q => by
  obtain ⟨o', e', d'⟩ := S.P
  rw [← q, e] at e'
  cases e'
  exact hd d'⟩
theorem FnAt.of {C : Cx} {h : Heap} (S : Std C h) {x : Str} {k : Nat} {ps : List Str} (hm : fd x k ∈ recsOf QV) (hb : Binds x k ps) {q : Nat} {w : List V → (V → Prop) → Prop}
    (hf : ∀ a, C.mg x = some (.ref a) → FnD C a ps (fnSc PW k) (fnB PW k) → Fn C a q w) : FnAt C x q w := by
  obtain ⟨mean, T⟩ := S.T
  obtain ⟨a, o, pm, cd, doc, h1, h2, h3, c, oc, vs, t, hc, h4, h5, h6⟩ := T.fn _ hm
  have hK : C.K a o := S.cls h2 (by rw [h3]; exact fun h => nomatch h)
  have hKc : C.K c oc := S.cls h4 (by rw [h5]; rintro ⟨⟩; cases h6)
  exact ⟨a, o, _, h1, hK, h3, hf a h1 ⟨o, _, hK, h3, rfl, rfl, rfl, rfl, rfl, hb pm cd doc, c, oc, vs, t, hc, hKc, h5, h6⟩⟩
theorem b_S_IMODE : Binds "S_IMODE" 2 ["mode"] := binds1 fun _ _ _ _ => by kernel_rfl
theorem b_S_IFMT : Binds "S_IFMT" 3 ["mode"] := binds1 fun _ _ _ _ => by kernel_rfl
theorem b_filemode : Binds "filemode" 24 ["mode"] := binds1 fun _ _ _ _ => by kernel_rfl
theorem b_translate : Binds "translate" 27 ["pat"] := binds1 fun _ _ _ _ => by kernel_rfl
theorem b_escape : Binds "escape" 30 ["pattern"] := binds1 fun _ _ _ _ => by kernel_rfl
theorem b_tr : Binds "_translate" 32 ["pat", "STAR", "QUESTION_MARK"] := binds3 fun _ _ _ _ _ _ => by kernel_rfl
theorem b_join : Binds "_join_translated_parts" 33 ["inp", "STAR"] := binds2 fun _ _ _ _ _ => by kernel_rfl
theorem b_rows : Binds "_law_rows" 35 ["low", "above"] := binds2 fun _ _ _ _ _ => by kernel_rfl
theorem b_figure : Binds "_law_figure" 36 ["place", "rights"] := binds2 fun _ _ _ _ _ => by kernel_rfl
theorem b_pattern : Binds "_law_pattern" 37 ["low", "size"] := binds2 fun _ _ _ _ _ => by kernel_rfl
theorem b_sign : Binds "_law_sign" 38 ["text", "at"] := binds2 fun _ _ _ _ _ => by kernel_rfl
theorem b_ten : Binds "_law_ten" 39 ["text"] := binds1 fun _ _ _ _ => by kernel_rfl
theorem b_takes : Binds "_law_takes" 40 ["ten", "text"] := binds2 fun _ _ _ _ _ => by kernel_rfl
theorem b_law : Binds "law" 41 ["script"] := binds1 fun _ _ _ _ => by kernel_rfl
abbrev RW := PySem.Challenge.rw_mq0282_03

/-! # The argument -/
theorem items_int : ∀ {xs : List WData}, WShape.hasItems [] xs .int = true → ∃ ns : List Int, xs = ns.map .int
  | [], _ => ⟨[], rfl⟩
  | x :: xs, h => by
    rw [WShape.hasItems] at h
    obtain ⟨h1, h2⟩ := Bool.and_eq_true_iff.mp h
    obtain ⟨i, rfl⟩ := hasW_int h1
    obtain ⟨ns, rfl⟩ := items_int h2
    exact ⟨i :: ns, rfl⟩
theorem args_of {args : List WData} (h : RW.row.toRowW.claim.pre args = true) : ∃ ns : List Int, args = [.list (ns.map .int)] ∧ ns.length ≤ 63 := by
  obtain ⟨h1, h2⟩ := pre_splitW h
  obtain ⟨d, r, rfl, h6, h3⟩ := hasAllW_cons (R := []) (e := .list .int) (es := []) h1
  obtain rfl := hasAllW_nil h3
  obtain ⟨xs, rfl, h7⟩ := hasW_list h6
  obtain ⟨ns, rfl⟩ := items_int h7
  refine ⟨ns, rfl, ?_⟩
  have h4 := (holds_andW (R := []) (a := .not (.lt (.lit (.int 63)) (.len (.arg 0)))) (b := .lit (.bool true)) h2).1
  have h5 : (!decide ((63 : Int) < ((ns.map WData.int).length : Int))) = true := condW_of h4 (by rfl)
  rw [List.length_map] at h5
  have := of_decide_eq_false (by simpa using h5 : decide ((63 : Int) < (ns.length : Int)) = false)
  omega
theorem post_of (args : List WData) : RW.row.toRowW.claim.post args (.bool true) args = true := by kernel_rfl
theorem well_int {P : Params} {h : Heap} {v : Value} {i : Int} {F : Fz} (x : Well P h v (.int i)) : Rep F v (.int i) := by cases x; exact .int _ _
theorem wellAll_cons {P : Params} {h : Heap} {vs : List Value} {d : WData} {ds : List WData} (x : WellAll P h vs (d :: ds)) : ∃ v r, vs = v :: r ∧ Well P h v d ∧ WellAll P h r ds := by cases x; exact ⟨_, _, rfl, ‹_›, ‹_›⟩
theorem wellAll_nil {P : Params} {h : Heap} {vs : List Value} (x : WellAll P h vs []) : vs = [] := by cases x; rfl
theorem repInts {P : Params} {h : Heap} {F : Fz} (ns : List Int) : ∀ (vs : List Value), WellAll P h vs (ns.map .int) → RepL F vs (ns.map .int) := by
  induction ns with
  | nil => intro vs x; rw [wellAll_nil x]; exact .nil
  | cons n ns ih =>
    intro vs x
    obtain ⟨v, r, rfl, x1, x2⟩ := wellAll_cons x
    exact .cons (well_int x1) (ih r x2)
theorem well_list {P : Params} {h : Heap} {v : Value} {xs : List WData} (x : Well P h v (.list xs)) : ∃ a vs, v = .ref a ∧ h.get? a = some (lstObj vs 0) ∧ WellAll P h vs xs := by cases x; exact ⟨_, _, rfl, ‹_›, ‹_›⟩
theorem memV {d : DefRec} (h : d ∈ [fd "S_IMODE" 2, fd "S_IFMT" 3, fd "filemode" 24, fd "translate" 27, fd "escape" 30, fd "_translate" 32, fd "_join_translated_parts" 33, fd "_law_rows" 35, fd "_law_figure" 36, fd "_law_pattern" 37, fd "_law_sign" 38, fd "_law_ten" 39, fd "_law_takes" 40, fd "law" 41]) : d ∈ recsOf QV := recsV ▸ h
theorem free_ok : (biNames.all fun x => !startupNames.contains x && !(looseW QV looseT).contains x && !((recsOf QV).map (·.name)).contains x && !((litsOf QV).map (·.1)).contains x && !((clssOf QV (looseW QV looseT)).map (·.name)).contains x) = true := by kernel_rfl
theorem not_mem {x : Str} {l : List Str} (h : (!l.contains x) = true) : x ∉ l := fun hm => by rw [List.contains_iff_mem.mpr hm] at h; cases h
theorem bi_none {C : Cx} {h : Heap} (S : Std C h) : ∀ x ∈ biNames, C.mg x = none := fun x hx => by
  obtain ⟨mean, T⟩ := S.T
  have e := List.all_eq_true.mp free_ok x hx
  obtain ⟨e, e5⟩ := Bool.and_eq_true_iff.mp e
  obtain ⟨e, e4⟩ := Bool.and_eq_true_iff.mp e
  obtain ⟨e, e3⟩ := Bool.and_eq_true_iff.mp e
  obtain ⟨e1, e2⟩ := Bool.and_eq_true_iff.mp e
  exact T.free x (not_mem e1) (not_mem e2) (not_mem e3) (not_mem e4) (not_mem e5)
theorem okN {C : Cx} {h : Heap} (S : Std C h) {l : List String} (hd : (l.all fun s => Str.ofString s != "__debug__") = true) : Ok C (Nn l noEc) := Ok.of (bi_none S) (fun _ _ _ _ _ => trivial) hd
theorem okT {C : Cx} {h : Heap} (S : Std C h) {l : List String} (hd : (l.all fun s => Str.ofString s != "__debug__") = true) : Ok C (Nn l (ecC C)) := Ok.of (bi_none S) (fun _ _ _ _ e => e) hd

theorem flat_cons {kvs : List (Int × Value)} {k : Int} {e : PyData} {D : List (PyData × PyData)} (f : PyProof.V.FlatPairs PyData.int kvs ((.int k, e) :: D)) : ∃ v r, kvs = (k, v) :: r ∧ PyProof.V.Flat v e ∧ PyProof.V.FlatPairs PyData.int r D := by
  cases f with
  | cons hv f => exact ⟨_, _, rfl, hv, f⟩
theorem valueAt_sp : ∀ {l : List Nat} {kvs : List (Int × Value)}, PyProof.V.FlatPairs PyData.int kvs (l.map fun c : Nat => (.int (c : Nat), .str (mkS [92, (c : Nat)]))) → ∀ c : Nat, (valueAt kvs (c : Int) = none ∧ c ∉ l) ∨ ∃ t, valueAt kvs (c : Int) = some (.str (mkS [92, c]) t) ∧ c ∈ l
  | [], _, f, c => by cases f; exact .inl ⟨rfl, fun h => nomatch h⟩
  | d :: l, _, f, c => by
    obtain ⟨v, kvs, rfl, hv, f⟩ := flat_cons f
    have ih := valueAt_sp f c
    obtain ⟨t, rfl⟩ : ∃ t, v = .str (mkS [92, d]) t := by cases hv {}; exact ⟨_, rfl⟩
    unfold valueAt at ih ⊢
    by_cases e : d = c
    · subst e
      rw [List.find?_cons_of_pos (by simp)]
      exact .inr ⟨t, rfl, .head _⟩
    · rw [List.find?_cons_of_neg (by simp; omega)]
      rcases ih with ⟨i1, i2⟩ | ⟨t', i1, i2⟩
      · exact .inl ⟨i1, fun h => (List.mem_cons.mp h).elim (fun q => e q.symm) i2⟩
      · exact .inr ⟨t', i1, .tail _ i2⟩
theorem spMap {C : Cx} {h : Heap} (S : Std C h) (X : Obs C.mg h) : SpMap C "_special_chars_map" := by
  obtain ⟨a, h1, h2, kvs, ⟨o, es, ep, h3, hx, hd, r⟩, h4⟩ := X.sp C.prog C.w
  exact ⟨a, o, kvs, h1, h2, S.cls h3 (by rw [hd]; exact fun h => nomatch h), ⟨es, ep, hx, hd, r⟩, valueAt_sp h4⟩
theorem spPat {C : Cx} {h : Heap} (S : Std C h) (X : Obs C.mg h) (Y : PatAt h) : SpPat C "_twin_re_1" :=
  ⟨90, X.pt, patO, 89, tupObj patVs 0, patVs, 412, _, 0, S.cls Y.1 (fun h => nomatch h), rfl, rfl, rfl, S.cls Y.2 (fun h => nomatch h), rfl, by kernel_rfl⟩
theorem fmGl {C : Cx} {h : Heap} (S : Std C h) (X : Obs C.mg h) : Gl C "_filemode_table" (.tuple (fmTab.map tabV)) := X.fm C.K fun a vs n e => S.cls e (fun h => nomatch h)

theorem law_at {C : Cx} {h : Heap} (S : Std C h) (X : Obs C.mg h) (Y : PatAt h) (hc : ∀ x o fd, C.mg "_translate" = some (.ref x) → h.get? x = some o → o.data = .func fd → fd.code = .ref C.c) : FnAt C "law" 4 LAW := by
  have aIMODE : FnAt C "S_IMODE" 1 IMODE := FnAt.of S (memV (.head _)) b_S_IMODE fun a _ D => f_S_IMODE (okN S (by decide +kernel)) D
  have aIFMT := FnAt.of S (memV (.tail _ (.head _))) b_S_IFMT fun a _ D => f_S_IFMT (okN S (by decide +kernel)) D
  have aFM : FnAt C "filemode" 2 FMODE := FnAt.of S (memV (.tail _ (.tail _ (.head _)))) b_filemode fun a _ D => f_filemode (qf := 1) aIFMT (fmGl S X) (okN S (by decide +kernel)) D
  have aESC : FnAt C "escape" 1 ESC := FnAt.of S (memV (.tail _ (.tail _ (.tail _ (.tail _ (.head _)))))) b_escape fun a _ D => f_esc (spMap S X) (okN S (by decide +kernel)) D
  have aTR : FnAt C "_translate" 2 TRANS := FnAt.of S (memV (.tail _ (.tail _ (.tail _ (.tail _ (.tail _ (.head _))))))) b_tr fun a ha D => f_tr aESC (spPat S X Y) (fun o fd L hK hd => hc a o fd ha ((S.K _ _).mp hK).1 hd) (okT S (by decide +kernel)) D (by decide +kernel) (by decide +kernel)
  have aJOIN : FnAt C "_join_translated_parts" 1 JOIN := FnAt.of S (memV (.tail _ (.tail _ (.tail _ (.tail _ (.tail _ (.tail _ (.head _)))))))) b_join fun a _ D => f_join (okN S (by decide +kernel)) D
  have aTRL : FnAt C "translate" 3 TRL := FnAt.of S (memV (.tail _ (.tail _ (.tail _ (.head _))))) b_translate fun a _ D => f_trl aTR aJOIN (okN S (by decide +kernel)) D
  have aROWS : FnAt C "_law_rows" 1 ROWS := FnAt.of S (memV (.tail _ (.tail _ (.tail _ (.tail _ (.tail _ (.tail _ (.tail _ (.head _))))))))) b_rows fun a _ D => f_rows (okN S (by decide +kernel)) D
  have aFIG : FnAt C "_law_figure" 1 FIG := FnAt.of S (memV (.tail _ (.tail _ (.tail _ (.tail _ (.tail _ (.tail _ (.tail _ (.tail _ (.head _)))))))))) b_figure fun a _ D => f_figure (okN S (by decide +kernel)) D
  have aPAT : FnAt C "_law_pattern" 2 PAT := FnAt.of S (memV (.tail _ (.tail _ (.tail _ (.tail _ (.tail _ (.tail _ (.tail _ (.tail _ (.tail _ (.head _))))))))))) b_pattern fun a _ D => f_pattern aFIG (okN S (by decide +kernel)) D
  have aSIGN : FnAt C "_law_sign" 1 SIGN := FnAt.of S (memV (.tail _ (.tail _ (.tail _ (.tail _ (.tail _ (.tail _ (.tail _ (.tail _ (.tail _ (.tail _ (.head _)))))))))))) b_sign fun a _ D => f_sign (okN S (by decide +kernel)) D
  have aTEN : FnAt C "_law_ten" 2 TEN := FnAt.of S (memV (.tail _ (.tail _ (.tail _ (.tail _ (.tail _ (.tail _ (.tail _ (.tail _ (.tail _ (.tail _ (.tail _ (.head _))))))))))))) b_ten fun a _ D => f_ten aSIGN (okN S (by decide +kernel)) D
  have aTAKES : FnAt C "_law_takes" 1 TAKES := FnAt.of S (memV (.tail _ (.tail _ (.tail _ (.tail _ (.tail _ (.tail _ (.tail _ (.tail _ (.tail _ (.tail _ (.tail _ (.tail _ (.head _)))))))))))))) b_takes fun a _ D => f_takes (okN S (by decide +kernel)) D
  exact FnAt.of S (memV (.tail _ (.tail _ (.tail _ (.tail _ (.tail _ (.tail _ (.tail _ (.tail _ (.tail _ (.tail _ (.tail _ (.tail _ (.tail _ (.head _))))))))))))))) b_law fun a _ D => f_law aROWS aTEN aTRL aPAT aIMODE aFM aTAKES (okN S (by decide +kernel)) D

theorem old_of {C : Cx} {s s' : Shared} (t : s.heap.TableAt C.c C.P #[]) (I' : Inv C s') (k : Kp C s s') : OldK s.heap s'.heap := by
  obtain ⟨ps, _, g, _⟩ := I'.tab
  refine ⟨fun b o e => ?_, fun b o e => ?_⟩
  · by_cases hb : b = C.P
    · subst hb
      cases t.2.symm.trans e
      exact .inr (.inl ⟨t.isCodeTable, rfl, #[], ps, rfl, by rw [Array.empty_append]; exact g⟩)
    · exact .inl (k b o hb e)
  · by_cases hb : b = C.P
    · exact ⟨_, hb ▸ g⟩
    · exact ⟨_, k b o hb e⟩
theorem inv_of {C : Cx} {s₀ s : Shared} {R : WRecords} (G : Ground QV looseT R Obs C.w s₀ C.mg C.mb s.heap) (hg : s.gens = #[]) (ho : s.os = C.os) (t5 : s.heap.IsCode C.c C.P #[]) (t6 : s.heap.TableAt C.c C.P #[]) (S : Std C s.heap) : Inv C s := by
  obtain ⟨bm, ob, m1, m2, m3, m4, m5, m6⟩ := G.T.bmain
  refine ⟨G.T.g, G.T.b, G.T.builtins, G.T.nolimit, ⟨#[], t5, t6.2, t6⟩, .of_eq hg, ho, trivial, fun a o e => (S.K a o).mp e, bm, ob, m1, m2, fun q => ?_, m3, m4, m5, m6⟩
  have h := t6.2
  rw [← q, m3] at h
  cases h
  cases m4
theorem walk : WalkO QV looseT Obs (fun _ h => PatAt h) RW.row.toRowW (fd "law" 41) [] (fun f vs => PySem.call f vs) := by
  intro w s₀ s₁ mg mb G Y a o pm cd doc dV kV ho hd hcd hD hmg hg args vals as hpre hlay hrd hwl hlo
  obtain ⟨ns, rfl, hn⟩ := args_of hpre
  obtain ⟨a2, o2, fdd, c, P, t1, t2, t3, t4, t5, t6⟩ := G.T.tab (fd "_translate" 32) (memV (.tail _ (.tail _ (.tail _ (.tail _ (.tail _ (.head _)))))))
  have hP : s₁.heap.get? P = some (tabObj #[]) := t6.2
  have S : Std ⟨PW, w, mg, mb, fun a o => s₁.heap.get? a = some o ∧ a ≠ P, c, P, s₁.os⟩ s₁.heap := ⟨⟨_, G.T⟩, fun _ _ => Iff.rfl, _, hP, rfl⟩
  generalize hC : (⟨PW, w, mg, mb, fun a o => s₁.heap.get? a = some o ∧ a ≠ P, c, P, s₁.os⟩ : Cx) = C at S
  have hat := law_at S (by rw [← hC]; exact G.X) Y (fun x o fd e1 e2 e3 => by
    rw [← hC] at e1 ⊢
    cases t1.symm.trans e1
    cases t2.symm.trans e2
    cases t3.symm.trans e3
    exact t4)
  obtain ⟨a3, o3, fd3, l1, l2, l3, hfn⟩ := hat
  have l1' : mg "law" = some (.ref a3) := by rw [← hC] at l1; exact l1
  cases hmg.symm.trans l1'
  obtain ⟨v, r, rfl, hw, hwn⟩ := wellAll_cons hwl
  obtain rfl := wellAll_nil hwn
  obtain ⟨b, vs, rfl, hb, hvs⟩ := well_list hw
  have I : Inv C s₁ := by
    subst hC
    exact inv_of G hg rfl t5 t6 S
  have hF : FzOk C C.K s₁.heap := by rw [← hC]; exact ⟨fun _ _ e => e, fun _ _ e => e⟩
  have rl := RepL.cons (Rep.list (F := C.K) (n := 0) (S.cls hb (fun h => nomatch h)) (repInts _ _ hvs)) .nil
  have hrun := hfn callerA s₁ C.K _ _ (fun d => d = .bool true) ⟨rfl, by decide, by decide⟩ I hF rl ⟨ns, rfl, hn, rfl⟩
  have hm : model C.prog C.w = model RW.row.toRowW.prog w := by rw [← hC]; rfl
  unfold TrV Tr at hrun
  rw [hm] at hrun
  refine wpAny_mono hrun (fun v s' h => ?_) fun _ _ h => h.elim
  obtain ⟨I', k, F', fx, d, rv, rfl⟩ := h
  cases rv
  subst hC
  exact ⟨.inl ⟨_, _, [], rfl, fun _ => rfl, .bool true, post_of _, fun _ => ⟨List.nodup_nil, fun _ h => nomatch h⟩⟩, old_of t6 I' k, I'.os, I'.gens⟩
theorem holds : RW.Holds :=
  holds_law (by kernel_rfl) fun said => holds_open (r := RW.row) (q := QV) (loose := looseT) (Xt := seeT) (XP := Obs) (Yf := obsT) (Ya := fun _ => valT) (YP := fun _ h => PatAt h) (d := fd "law" 41) (kwd := []) (N := 4428)
    left (fun w s e => ⟨congrArg Prod.fst e, congrArg Prod.snd e⟩) (fun w h h' x hk => ⟨hk _ _ x.1, hk _ _ x.2⟩) (fun s e => Obs.of e) Obs.keeps (by kernel_rfl) (by kernel_rfl) (by kernel_rfl) (fun _ _ => recFacts_nil rfl) rfl said (by kernel_rfl) ⟨rfl, rfl, rfl, rfl, rfl, by decide +kernel⟩ (by w_witness2) walk
end Mine
theorem PySem.Challenge.cw_mq0282_03_holds : PySem.Challenge.rw_mq0282_03.Holds := by
  exact Mine.holds
