import PyProof.Rows.All
import Wide.All
import OpenK.AllK
import Wide.FinOn
import PyProof.StrLawsIn
import PyProof.StrLawsReplace
import PyProof.StrLawsFrom
import PySem.Challenge.RW_mq0282_02
open PySem PySem.W PyProof.Rows
set_option Elab.async false
set_option maxRecDepth 100000
set_option linter.unusedVariables false
namespace Mine

/-! # Pure values and what stands for them in the heap -/
inductive V where
  | none
  | bool (b : Bool)
  | int (i : Int)
  | str (l : List Nat)
  | tuple (vs : List V)
  | list (vs : List V)
  | raw (v : Value)

abbrev Fz := Addr → Obj → Prop
def tupObj (vs : List Value) (n : Nat) : Obj := { cls := .type "tuple", data := .seq vs.toArray n }
def lstObj (vs : List Value) (n : Nat) : Obj := { cls := .type "list", data := .seq vs.toArray n }
def mkS (l : List Nat) : Str := ⟨l.toArray⟩

mutual
inductive Rep (F : Fz) : Value → V → Prop
  | none : Rep F Value.none V.none
  | bool (b : Bool) : Rep F (Value.bool b) (V.bool b)
  | int (i : Int) (t : Tok) : Rep F (Value.int i t) (V.int i)
  | str (l : List Nat) (t : Tok) : Rep F (Value.str (mkS l) t) (V.str l)
  | tuple {a : Addr} {vs : List Value} {n : Nat} {ds : List V} : F a (tupObj vs n) → RepL F vs ds → Rep F (Value.ref a) (V.tuple ds)
  | list {a : Addr} {vs : List Value} {n : Nat} {ds : List V} : F a (lstObj vs n) → RepL F vs ds → Rep F (Value.ref a) (V.list ds)
  | raw (v : Value) : Rep F v (V.raw v)
inductive RepL (F : Fz) : List Value → List V → Prop
  | nil : RepL F [] []
  | cons {v : Value} {vs : List Value} {d : V} {ds : List V} : Rep F v d → RepL F vs ds → RepL F (v :: vs) (d :: ds)
end

theorem Rep.mono {F F' : Fz} (h : ∀ a o, F a o → F' a o) {v : Value} {d : V} (r : Rep F v d) : Rep F' v d :=
  Rep.rec (F := F) (motive_1 := fun v d _ => Rep F' v d) (motive_2 := fun vs ds _ => RepL F' vs ds) .none .bool .int .str (fun x _ ih => .tuple (h _ _ x) ih) (fun x _ ih => .list (h _ _ x) ih) .raw .nil (fun _ _ i1 i2 => .cons i1 i2) r
theorem RepL.ind {F : Fz} {P : List Value → List V → Prop} {vs : List Value} {ds : List V} (r : RepL F vs ds) (h0 : P [] []) (h1 : ∀ {v : Value} {vs : List Value} {d : V} {ds : List V}, Rep F v d → RepL F vs ds → P vs ds → P (v :: vs) (d :: ds)) : P vs ds :=
  RepL.rec (F := F) (motive_1 := fun _ _ _ => True) (motive_2 := fun vs ds _ => P vs ds) trivial (fun _ => trivial) (fun _ _ => trivial) (fun _ _ => trivial) (fun _ _ _ => trivial) (fun _ _ _ => trivial) (fun _ => trivial) h0 (fun x r _ ih => h1 x r ih) r
theorem RepL.mono {F F' : Fz} (h : ∀ a o, F a o → F' a o) {vs : List Value} {ds : List V} (r : RepL F vs ds) : RepL F' vs ds := r.ind (P := RepL F') .nil fun x _ ih => .cons (x.mono h) ih
theorem RepL.length {F : Fz} {vs : List Value} {ds : List V} (r : RepL F vs ds) : vs.length = ds.length := r.ind (P := fun vs ds => vs.length = ds.length) rfl fun _ _ ih => congrArg Nat.succ ih
theorem RepL.append {F : Fz} {vs us : List Value} {ds es : List V} (x : RepL F vs ds) (y : RepL F us es) : RepL F (vs ++ us) (ds ++ es) := x.ind (P := fun vs ds => RepL F (vs ++ us) (ds ++ es)) y fun x _ ih => .cons x ih
theorem RepL.get {F : Fz} {vs : List Value} {ds : List V} (r : RepL F vs ds) : ∀ (i : Nat) (d : V), ds[i]? = some d → ∃ v, vs[i]? = some v ∧ Rep F v d := by
  refine r.ind (P := fun vs ds => ∀ (i : Nat) (d : V), ds[i]? = some d → ∃ v, vs[i]? = some v ∧ Rep F v d) (fun i d h => nomatch h) fun x _ ih i d h => ?_
  cases i with
  | zero => cases h; exact ⟨_, rfl, x⟩
  | succ i => exact ih i d h
theorem RepL.getV {F : Fz} {vs : List Value} {ds : List V} (r : RepL F vs ds) : ∀ (i : Nat) (v : Value), vs[i]? = some v → ∃ d, ds[i]? = some d ∧ Rep F v d := by
  refine r.ind (P := fun vs ds => ∀ (i : Nat) (v : Value), vs[i]? = some v → ∃ d, ds[i]? = some d ∧ Rep F v d) (fun i d h => nomatch h) fun x _ ih i d h => ?_
  cases i with
  | zero => cases h; exact ⟨_, rfl, x⟩
  | succ i => exact ih i d h
theorem RepL.drop {F : Fz} {vs : List Value} {ds : List V} (k : Nat) (r : RepL F vs ds) : RepL F (vs.drop k) (ds.drop k) := by
  refine r.ind (P := fun vs ds => ∀ k, RepL F (vs.drop k) (ds.drop k)) (fun k => by cases k <;> exact .nil) (fun x r ih k => ?_) k
  cases k with
  | zero => exact .cons x r
  | succ k => exact ih k
theorem RepL.take {F : Fz} {vs : List Value} {ds : List V} (k : Nat) (r : RepL F vs ds) : RepL F (vs.take k) (ds.take k) := by
  refine r.ind (P := fun vs ds => ∀ k, RepL F (vs.take k) (ds.take k)) (fun k => by cases k <;> exact .nil) (fun x r ih k => ?_) k
  cases k with
  | zero => exact .nil
  | succ k => exact .cons x (ih k)
theorem RepL.reverse {F : Fz} {vs : List Value} {ds : List V} (r : RepL F vs ds) : RepL F vs.reverse ds.reverse := by
  refine r.ind (P := fun vs ds => RepL F vs.reverse ds.reverse) .nil fun x _ ih => ?_
  rw [List.reverse_cons, List.reverse_cons]
  exact ih.append (.cons x .nil)
theorem RepL.set {F : Fz} {v : Value} {d : V} (h : Rep F v d) {vs : List Value} {ds : List V} (k : Nat) (r : RepL F vs ds) : RepL F (vs.set k v) (ds.set k d) := by
  refine r.ind (P := fun vs ds => ∀ k, RepL F (vs.set k v) (ds.set k d)) (fun _ => .nil) (fun x r ih k => ?_) k
  cases k with
  | zero => exact .cons h r
  | succ k => exact .cons x (ih k)
theorem RepL.eraseIdx {F : Fz} {vs : List Value} {ds : List V} (k : Nat) (r : RepL F vs ds) : RepL F (vs.eraseIdx k) (ds.eraseIdx k) := by
  refine r.ind (P := fun vs ds => ∀ k, RepL F (vs.eraseIdx k) (ds.eraseIdx k)) (fun _ => .nil) (fun x r ih k => ?_) k
  cases k with
  | zero => exact r
  | succ k => exact .cons x (ih k)

/-- a flat value stands without any object -/
def V.flat : V → Bool
  | .tuple _ => false
  | .list _ => false
  | _ => true
theorem Rep.of_flat {F F' : Fz} {v : Value} {d : V} (h : d.flat = true) (r : Rep F v d) : Rep F' v d := by
  cases r <;> first | exact .none | exact .bool _ | exact .int _ _ | exact .str _ _ | exact .raw _ | cases h

/-! # The static part -/
structure Cx where
  prog : Program
  w : World
  mg : Str → Option Value
  mb : Str → Option Value
  K : Addr → Obj → Prop
  c : Addr
  P : Addr
  os : OsState

def TabOk (h : Heap) (c P : Addr) : Prop := ∃ ps, h.IsCode c P ps ∧ h.get? P = some (tabObj ps) ∧ h.TableAt c P ps

/-- of the counter of tokens nothing is asked -/
abbrev Tp (_ : Nat) : Prop := True
structure Inv (C : Cx) (s : Shared) : Prop where
  g : s.heap.Ns mainGlobals C.mg
  b : s.heap.Ns builtinsNs C.mb
  bi : ∀ x : Str, x ≠ "__name__" → C.mb x = bootBuiltins x
  lim : s.heap.NoLimit
  tab : TabOk s.heap C.c C.P
  gens : AllBare s.gens
  os : s.os = C.os
  tk : Tp s.toks
  k : ∀ a o, C.K a o → s.heap.get? a = some o ∧ a ≠ C.P
  bm : ∃ bm ob, C.mg "__builtins__" = some (.ref bm) ∧ bm ≠ builtinsNs ∧ bm ≠ C.P ∧ s.heap.get? bm = some ob ∧ ob.cls = .type "module" ∧ ob.dict = some builtinsNs ∧ ob.data = .plain

/-- all that stood stands, the one table aside -/
def Kp (C : Cx) (s s' : Shared) : Prop := ∀ b o, b ≠ C.P → s.heap.get? b = some o → s'.heap.get? b = some o
theorem Kp.refl (C : Cx) (s : Shared) : Kp C s s := fun _ _ _ e => e
theorem Kp.trans {C : Cx} {s₁ s₂ s₃ : Shared} (x : Kp C s₁ s₂) (y : Kp C s₂ s₃) : Kp C s₁ s₃ := fun b o hb e => y b o hb (x b o hb e)

theorem Kp.none {C : Cx} {s s' : Shared} (k : Kp C s s') {a : Addr} (ha : a ≠ C.P) (e : s'.heap.get? a = none) : s.heap.get? a = none := by
  cases h : s.heap.get? a with
  | none => rfl
  | some o => rw [k a o ha h] at e; cases e
structure FzOk (C : Cx) (F : Fz) (h : Heap) : Prop where
  at' : ∀ a o, F a o → h.get? a = some o ∧ a ≠ C.P
  k : ∀ a o, C.K a o → F a o
theorem FzOk.kp {C : Cx} {F : Fz} {s s' : Shared} (x : FzOk C F s.heap) (k : Kp C s s') : FzOk C F s'.heap := ⟨fun a o e => ⟨k a o (x.at' a o e).2 (x.at' a o e).1, (x.at' a o e).2⟩, x.k⟩

structure Fx (C : Cx) (F F' : Fz) (s s' : Shared) : Prop where
  le : ∀ a o, F a o → F' a o
  new : ∀ a o, F' a o → F a o ∨ s.heap.get? a = none
  ok : FzOk C F' s'.heap
theorem Fx.refl {C : Cx} {F : Fz} {s s' : Shared} (x : FzOk C F s'.heap) : Fx C F F s s' := ⟨fun _ _ e => e, fun _ _ e => .inl e, x⟩
theorem Fx.trans {C : Cx} {F₁ F₂ F₃ : Fz} {s₁ s₂ s₃ : Shared} (x : Fx C F₁ F₂ s₁ s₂) (y : Fx C F₂ F₃ s₂ s₃) (k : Kp C s₁ s₂) : Fx C F₁ F₃ s₁ s₃ :=
  ⟨fun a o e => y.le a o (x.le a o e), fun a o e => (y.new a o e).elim (fun e => x.new a o e) fun e' => .inr (Kp.none k (y.ok.at' a o e).2 e'), y.ok⟩

abbrev Pst {α : Type} (C : Cx) (s : Shared) (F : Fz) (Q : α → Shared → Fz → Prop) : α → Shared → Prop := fun a s' => Inv C s' ∧ Kp C s s' ∧ ∃ F', Fx C F F' s s' ∧ Q a s' F'
/-- a tree that ends well, from s over the frozen F -/
abbrev Tr {α : Type} (C : Cx) (A : Around) (t : Sem α) (s : Shared) (F : Fz) (Q : α → Shared → Fz → Prop) : Prop :=
  wpAny (model C.prog C.w) A t (Pst C s F Q) (fun _ _ => False) s

section
variable {C : Cx} {A : Around} {s : Shared} {F : Fz} {α β : Type}
theorem Tr.pure {a : α} {Q : α → Shared → Fz → Prop} (I : Inv C s) (f : FzOk C F s.heap) (h : Q a s F) : Tr C A (Pure.pure a) s F Q := wpAny_pure ⟨I, Kp.refl _ _, F, Fx.refl f, h⟩
theorem Tr.mono {t : Sem α} {Q Q' : α → Shared → Fz → Prop} (h : Tr C A t s F Q) (hQ : ∀ a s' F', Inv C s' → Kp C s s' → Fx C F F' s s' → Q a s' F' → Q' a s' F') : Tr C A t s F Q' :=
  wpAny_mono h (fun _ _ ⟨i, k, F', f, q⟩ => ⟨i, k, F', f, hQ _ _ _ i k f q⟩) fun _ _ e => e
/-- go on behind a tree -/
theorem Tr.after {t : Sem α} {Q : α → Shared → Fz → Prop} {R : α → Shared → Prop} (h : Tr C A t s F Q) (hR : ∀ a s' F', Inv C s' → Kp C s s' → Fx C F F' s s' → Q a s' F' → R a s') :
    wpAny (model C.prog C.w) A t R (fun _ _ => False) s := wpAny_mono h (fun _ _ ⟨i, k, F', f, q⟩ => hR _ _ _ i k f q) fun _ _ e => e
theorem Tr.bind {t : Sem α} {f : α → Sem β} {Q : β → Shared → Fz → Prop} (h : Tr C A t s F fun a s₁ F₁ => Tr C A (f a) s₁ F₁ Q) : Tr C A (t >>= f) s F Q :=
  wpAny_bind (wpAny_mono h (fun _ _ ⟨_, k, _, x, q⟩ => wpAny_mono q (fun _ _ ⟨i', k', _, x', q'⟩ => ⟨i', k.trans k', _, x.trans x' k, q'⟩) fun _ _ e => e) fun _ _ e => e)
theorem Tr.holding {vs : List Value} {m : Sem α} {Q : α → Shared → Fz → Prop} (h : Tr C A m s F Q) : Tr C A (PySem.holding vs m) s F Q := wpAny_holding h
theorem Tr.standAt {pos : Pos} {k : Unit → Sem β} {Q : β → Shared → Fz → Prop} (h : Tr C A (k ()) s F Q) : Tr C A (PySem.standAt pos >>= k) s F Q := wpAny_bind (wpAny_standAt h)
end

theorem mkS_toList (x : Str) : mkS x.cps.toList = x := by cases x; simp [mkS]
theorem mkS_cps (l : List Nat) : (mkS l).cps = l.toArray := rfl
theorem mkS_inj {l m : List Nat} : mkS l = mkS m ↔ l = m := by simp [mkS]
theorem mkS_length (l : List Nat) : (mkS l).length = l.length := by simp [mkS, Str.length]
theorem mkS_append (l m : List Nat) : mkS l ++ mkS m = mkS (l ++ m) := by
  show Str.append _ _ = _
  simp [mkS, Str.append]
theorem Rep.strOf {F : Fz} (x : Str) (t : Tok) : Rep F (Value.str x t) (V.str x.cps.toList) := by
  have := Rep.str (F := F) x.cps.toList t
  rwa [mkS_toList] at this

structure Room (r : Nat) (A : Around) : Prop where
  handled : A.handled = none
  depth : A.depth + r < recursionLimit
  units : A.units + 100 * r + 500 < cLine
theorem Room.lt {r : Nat} {A : Around} (R : Room r A) : A.depth < recursionLimit := by have := R.depth; lia
theorem Room.deeper {r : Nat} {A : Around} (R : Room (r + 1) A) (env : Env) : Room r (A.deeper env) := ⟨R.handled, by have := R.depth; show A.depth + 1 + r < _; lia, by have := R.units; show A.units + 3 + 100 * r + 500 < _; lia⟩
theorem Room.le {r q : Nat} {A : Around} (R : Room r A) (h : q ≤ r) : Room q A := ⟨R.handled, by have := R.depth; lia, by have := R.units; lia⟩
theorem Room.u {r : Nat} {A : Around} (R : Room r A) : A.units + 500 < cLine := by have := R.units; lia

/-! # Reading names -/
def RdAt (env : Env) (h : Heap) (x : Str) (v : Value) : Prop :=
  (env.kindOf x = some .local ∧ ∃ m, h.Ns env.locals m ∧ m x = some v) ∨
  ((env.kindOf x = some .cell ∨ (env.kindOf x = some .free ∧ (x == ("__classdict__" : Str)) = false)) ∧ ∃ c, env.cells.lookup x = some c ∧ h.IsCell c (some v))

/-- the names' numbers, and what a function's frames bear -/
structure Nm where
  vn : Nat → Str
  ec : Env → Prop := fun _ => True
abbrev Ρ := List (Nat × V)
abbrev Kd := List (Nat × NameKind)
/-- what an environment gives: the names by number -/
structure EnvOk (C : Cx) (vn : Nm) (kd : Kd) (env : Env) (h : Heap) (F : Fz) (ρ : Ρ) : Prop where
  kind : env.scope.kind = .function
  glob : env.globals = mainGlobals
  bi : env.builtins = builtinsNs
  kd : ∀ n k, kd.lookup n = some k → env.kindOf (vn.vn n) = some k ∨ (k = .free ∧ env.kindOf (vn.vn n) = some .cell)
  ec : vn.ec env
  rd : ∀ n d, ρ.lookup n = some d → ∃ v, RdAt env h (vn.vn n) v ∧ Rep F v d

theorem ne_P {C : Cx} {s : Shared} (I : Inv C s) {a : Addr} {o : Obj} (e : s.heap.get? a = some o) (h : ∀ ps, o.data ≠ .fields ps) : a ≠ C.P := by
  rintro rfl
  obtain ⟨ps, _, e2, _⟩ := I.tab
  rw [e] at e2; cases e2
  exact h ps rfl
theorem ns_kp {C : Cx} {s s' : Shared} (I : Inv C s) (k : Kp C s s') {a : Addr} {m : Str → Option Value} (x : s.heap.Ns a m) : s'.heap.Ns a m := by
  obtain ⟨o, es, ep, e, hd, r⟩ := x
  exact ⟨o, es, ep, k a o (ne_P I e (by intro ps q; rw [hd] at q; cases q)) e, hd, r⟩
theorem cell_kp {C : Cx} {s s' : Shared} (I : Inv C s) (k : Kp C s s') {a : Addr} {v : Option Value} (x : s.heap.IsCell a v) : s'.heap.IsCell a v := by
  obtain ⟨o, e, hd⟩ := x
  exact ⟨o, k a o (ne_P I e (by intro ps q; rw [hd] at q; cases q)) e, hd⟩
theorem RdAt.kp {C : Cx} {s s' : Shared} (I : Inv C s) (k : Kp C s s') {env : Env} {x : Str} {v : Value} (h : RdAt env s.heap x v) : RdAt env s'.heap x v := by
  rcases h with ⟨h1, m, h2, h3⟩ | ⟨h1, c, h2, h3⟩
  · exact .inl ⟨h1, m, ns_kp I k h2, h3⟩
  · exact .inr ⟨h1, c, h2, cell_kp I k h3⟩
theorem EnvOk.kp {C : Cx} {s s' : Shared} {F F' : Fz} {env : Env} {ρ : Ρ} {vn : Nm} {kd : Kd} (h : EnvOk C vn kd env s.heap F ρ) (I : Inv C s) (k : Kp C s s') (x : Fx C F F' s s') : EnvOk C vn kd env s'.heap F' ρ :=
  ⟨h.kind, h.glob, h.bi, h.kd, h.ec, fun y d e => let ⟨v, r, p⟩ := h.rd y d e; ⟨v, r.kp I k, p.mono x.le⟩⟩

section
variable {C : Cx} {A : Around} {s : Shared} {F : Fz} {env : Env} {ρ : Ρ}

theorem wp_loadRd {x : Str} {v : Value} {Q : Value → Shared → Prop} {E : Value → Shared → Prop} {M : Model} (hk : env.scope.kind = .function) (r : RdAt env s.heap x v) (h : Q v s) : wpAny M A (loadName env x) Q E s := by
  rcases r with ⟨h1, m, h2, h3⟩ | ⟨h1 | ⟨h1, h1'⟩, c, h2, h3⟩
  · exact wpAny_loadName_local hk h1 h2 h3 h
  · exact wpAny_loadName_cell hk h1 h2 h3 h
  · exact wpAny_loadName_free hk h1 h2 h3 h h1'


abbrev Gb (K : Bool → Prop) : Bool → Shared → Fz → Prop := fun b _ _ => K b
/-- a value that stands for a datum fit for Q -/
abbrev Gv (Q : V → Prop) : Value → Shared → Fz → Prop := fun v _ F' => ∃ d, Rep F' v d ∧ Q d
abbrev TrV (C : Cx) (A : Around) (t : Sem Value) (s : Shared) (F : Fz) (Q : V → Prop) : Prop := Tr C A t s F (Gv Q)

theorem Inv.tok (I : Inv C s) (n : Nat) (hn : Tp n) : Inv C { s with toks := n } := ⟨I.g, I.b, I.bi, I.lim, I.tab, I.gens, I.os, hn, I.k, I.bm⟩
theorem Kp.tok (C : Cx) (s : Shared) (n : Nat) : Kp C s { s with toks := n } := fun _ _ _ e => e
/-- the counter of tokens never falls -/
theorem tr_of {α : Type} {t : Sem α} {Q : α → Shared → Fz → Prop} (I : Inv C s) (h : wpAny (model C.prog C.w) A t (fun a s' => Tp s'.toks → Pst C s F Q a s') (fun _ _ => False) s) : Tr C A t s F Q :=
  wpAny_mono h (fun _ _ x => x trivial) fun _ _ x => x
theorem pst_tok {α : Type} {a : α} {Q : α → Shared → Fz → Prop} {n : Nat} (I : Inv C s) (f : FzOk C F s.heap) (h : Q a { s with toks := n } F) (hn : Tp n) : Pst C s F Q a { s with toks := n } := ⟨I.tok n hn, Kp.tok C s n, F, Fx.refl f, h⟩
theorem pst_here {α : Type} {a : α} {Q : α → Shared → Fz → Prop} (I : Inv C s) (f : FzOk C F s.heap) (h : Q a s F) : Pst C s F Q a s := ⟨I, Kp.refl _ _, F, Fx.refl f, h⟩
theorem pst_here' {α : Type} {a : α} {Q : α → Shared → Fz → Prop} (I : Inv C s) (f : FzOk C F s.heap) (h : Q a s F) (_ : Tp s.toks) : Pst C s F Q a s := pst_here I f h

theorem Inv.keep {s' : Shared} (I : Inv C s) (hk : ∀ b o, s.heap.get? b = some o → s'.heap.get? b = some o) (hg : s'.gens = s.gens) (ho : s'.os = s.os) (ht : Tp s'.toks) : Inv C s' where
  g := I.g.keeps hk
  b := I.b.keeps hk
  bi := I.bi
  lim := I.lim.keeps hk
  tab := let ⟨ps, a, b, c⟩ := I.tab; ⟨ps, a.keeps hk, hk _ _ b, c.keeps hk⟩
  gens := hg ▸ I.gens
  os := ho.trans I.os
  tk := ht
  k := fun a o e => ⟨hk _ _ (I.k a o e).1, (I.k a o e).2⟩
  bm := let ⟨bm, ob, h1, h2, h3, h4, r⟩ := I.bm; ⟨bm, ob, h1, h2, h3, hk _ _ h4, r⟩
theorem Inv.ltP (I : Inv C s) : C.P < s.heap.objs.size := let ⟨_, _, b, _⟩ := I.tab; Heap.lt_size b
theorem get_size (h : Heap) : h.get? h.objs.size = none := by
  cases e : h.get? h.objs.size with
  | none => rfl
  | some o => exact absurd (Heap.lt_size e) (Nat.lt_irrefl _)
def Fz.add (F : Fz) (a : Addr) (o : Obj) : Fz := fun b x => F b x ∨ (b = a ∧ x = o)
/-- a new object: it is frozen at once -/
theorem pst_push {α : Type} {a : α} {Q : α → Shared → Fz → Prop} {n : Nat} {o : Obj} (I : Inv C s) (f : FzOk C F s.heap) (h : Q a { s with heap := s.heap.push o, toks := n } (F.add s.heap.objs.size o)) (hn : Tp n) (hf : o.isFreed = false := by rfl) :
    Pst C s F Q a { s with heap := s.heap.push o, toks := n } :=
  ⟨I.keep (fun _ _ e => Heap.get?_push_of_some _ e) rfl rfl hn, fun _ _ _ e => Heap.get?_push_of_some _ e, _,
    ⟨fun _ _ e => .inl e, fun b x e => e.imp id fun ⟨q, _⟩ => q ▸ get_size _, ⟨fun b x e => e.elim (fun e => ⟨Heap.get?_push_of_some _ (f.at' b x e).1, (f.at' b x e).2⟩) fun ⟨q, r⟩ => by
      subst q; subst r; exact ⟨Heap.get?_push_size _ hf, fun q => by have := I.ltP; rw [← q] at this; exact absurd this (Nat.lt_irrefl _)⟩, fun b x e => .inl (f.k b x e)⟩⟩, h⟩
/-- a new object that nobody keeps -/
theorem pst_push0 {α : Type} {a : α} {Q : α → Shared → Fz → Prop} {n : Nat} {o : Obj} (I : Inv C s) (f : FzOk C F s.heap) (h : Q a { s with heap := s.heap.push o, toks := n } F) (hn : Tp n) :
    Pst C s F Q a { s with heap := s.heap.push o, toks := n } :=
  ⟨I.keep (fun _ _ e => Heap.get?_push_of_some _ e) rfl rfl hn, fun _ _ _ e => Heap.get?_push_of_some _ e, F,
    ⟨fun _ _ e => e, fun b x e => .inl e, ⟨fun b x e => ⟨Heap.get?_push_of_some _ (f.at' b x e).1, (f.at' b x e).2⟩, f.k⟩⟩, h⟩

theorem FzOk.isList (f : FzOk C F s.heap) {a : Addr} {vs : List Value} {n : Nat} (x : F a (lstObj vs n)) : s.heap.IsList a vs.toArray := ⟨_, (f.at' _ _ x).1, rfl, n, rfl⟩
theorem FzOk.isTup (f : FzOk C F s.heap) {a : Addr} {vs : List Value} {n : Nat} (x : F a (tupObj vs n)) : IsTup s.heap a vs.toArray := ⟨_, (f.at' _ _ x).1, rfl, n, rfl⟩

/-! # Data and what the equality rules ask -/
mutual
def toPy : V → PyData
  | .none => .none
  | .bool b => .bool b
  | .int i => .int i
  | .str l => .str (mkS l)
  | .tuple ds => .tuple (toPys ds)
  | .list ds => .list (toPys ds)
  | .raw _ => .none
def toPys : List V → List PyData
  | [] => []
  | d :: ds => toPy d :: toPys ds
end
def vok : Nat → V → Bool
  | _, .none => true
  | _, .bool _ => true
  | _, .int _ => true
  | _, .str l => l.all (· < 0x110000)
  | n + 1, .tuple ds => ds.all (vok n)
  | n + 1, .list ds => ds.all (vok n)
  | _, _ => false
def veq (a b : V) : Bool := PyData.eqv (toPy a) (toPy b)

theorem reads_of (f : FzOk C F s.heap) {v : Value} {d : V} (n : Nat) (r : Rep F v d) (hk : vok n d = true) : ∃ as, Reads s.heap v (toPy d) as := by
  refine Rep.rec (F := F) (motive_1 := fun v d _ => ∀ n, vok n d = true → ∃ as, Reads s.heap v (toPy d) as) (motive_2 := fun vs ds _ => ∀ n, (∀ d ∈ ds, vok n d = true) → ∃ as, ReadsAll s.heap vs (toPys ds) as)
    (fun _ _ => ⟨_, .none⟩) (fun b _ _ => ⟨_, .bool b⟩) (fun i t _ _ => ⟨_, .int i t⟩) (fun x t _ _ => ⟨_, .str _ t⟩) (fun hm _ ih n hk => ?_) (fun hm _ ih n hk => ?_) (fun _ n hk => ?_) (fun _ _ => ⟨_, .nil⟩) (fun _ _ i1 i2 n hk => ?_) r n hk
  · cases n with
    | zero => exact nomatch (show false = true from hk)
    | succ n =>
      obtain ⟨as, q⟩ := ih n (List.all_eq_true.mp hk)
      exact ⟨_, .tuple (f.at' _ _ hm).1 rfl rfl (by simpa using q)⟩
  · cases n with
    | zero => exact nomatch (show false = true from hk)
    | succ n =>
      obtain ⟨as, q⟩ := ih n (List.all_eq_true.mp hk)
      exact ⟨_, .list (f.at' _ _ hm).1 rfl rfl (by simpa using q)⟩
  · cases n <;> exact nomatch (show false = true from hk)
  · obtain ⟨as, q⟩ := i1 n (hk _ (.head _))
    obtain ⟨bs, p⟩ := i2 n fun d hm => hk d (.tail _ hm)
    exact ⟨_, .cons q p⟩
theorem lay_of : ∀ (n : Nat) (d : V), vok n d = true → (toPy d).canLay0 = true ∧ (toPy d).depth ≤ n := by
  have all : ∀ (n : Nat), (∀ d, vok n d = true → (toPy d).canLay0 = true ∧ (toPy d).depth ≤ n) → ∀ ds : List V, (∀ d ∈ ds, vok n d = true) → PyData.canLayAll0 (toPys ds) = true ∧ PyData.depthAll (toPys ds) ≤ n := by
    intro n ih ds
    induction ds with
    | nil => intro _; simp [toPys, PyData.canLayAll0, PyData.depthAll]
    | cons d ds hi =>
      intro h
      have h1 := ih d (h d (.head _))
      have h2 := hi fun e he => h e (.tail _ he)
      simp only [toPys, PyData.canLayAll0, PyData.depthAll, h1.1, h2.1, Bool.and_self, true_and]
      have a1 := h1.2
      have a2 := h2.2
      lia
  have str : ∀ l : List Nat, l.all (· < 0x110000) = true → PyData.strOk (mkS l) = true := fun l h => by simpa [PyData.strOk, mkS] using h
  intro n
  induction n with
  | zero =>
    intro d h
    cases d with
    | str l => exact ⟨str l h, Nat.zero_le _⟩
    | _ => first | exact nomatch (show false = true from h) | exact ⟨rfl, Nat.zero_le _⟩
  | succ n ih =>
    intro d h
    cases d with
    | none => exact ⟨rfl, Nat.zero_le _⟩
    | bool b => exact ⟨rfl, Nat.zero_le _⟩
    | int i => exact ⟨rfl, Nat.zero_le _⟩
    | str l => exact ⟨str l h, Nat.zero_le _⟩
    | tuple ds =>
      have q := all n ih ds (List.all_eq_true.mp h)
      have q2 := q.2
      simp only [toPy, PyData.canLay0, PyData.depth, q.1, true_and]
      lia
    | list ds =>
      have q := all n ih ds (List.all_eq_true.mp h)
      have q2 := q.2
      simp only [toPy, PyData.canLay0, PyData.depth, q.1, true_and]
      lia
    | raw v => exact nomatch (show false = true from h)
theorem toPys_map (ds : List V) : toPys ds = ds.map toPy := by induction ds with
  | nil => rfl
  | cons d ds ih => simp [toPys, ih]
end

/-! # Operators -/
def int1 (a : V) (K : Int → Prop) : Prop := match a with | .int i => K i | _ => False
def str1 (a : V) (K : List Nat → Prop) : Prop := match a with | .str i => K i | _ => False
def lst1 (a : V) (K : List V → Prop) : Prop := match a with | .list i => K i | _ => False
theorem int1_inv {a : V} {K : Int → Prop} (h : int1 a K) : ∃ i, a = .int i ∧ K i := by cases a <;> first | exact ⟨_, rfl, h⟩ | exact h.elim
theorem str1_inv {a : V} {K : List Nat → Prop} (h : str1 a K) : ∃ i, a = .str i ∧ K i := by cases a <;> first | exact ⟨_, rfl, h⟩ | exact h.elim
theorem lst1_inv {a : V} {K : List V → Prop} (h : lst1 a K) : ∃ i, a = .list i ∧ K i := by cases a <;> first | exact ⟨_, rfl, h⟩ | exact h.elim
def int2 (a b : V) (K : Int → Int → Prop) : Prop := int1 a fun i => int1 b fun j => K i j
def addw (a b : V) (Q : V → Prop) : Prop := match a with
  | .int i => int1 b fun j => Q (.int (i + j))
  | .str x => str1 b fun y => x.length + y.length ≤ 1000000 ∧ Q (.str (x ++ y))
  | .list x => lst1 b fun y => x.length + y.length ≤ 1000000 ∧ Q (.list (x ++ y))
  | _ => False
def mulw (a b : V) (Q : V → Prop) : Prop := match a with
  | .int i => int1 b fun j => (i.natAbs < 2 ^ 60 ∨ j.natAbs < 2 ^ 60) ∧ Q (.int (i * j))
  | .list x => int1 b fun k => 0 ≤ k ∧ k ≤ 1000 ∧ x.length ≤ 1000 ∧ Q (.list (List.replicate k.toNat x).flatten)
  | _ => False
def binw (op : Operator) (a b : V) (Q : V → Prop) : Prop :=
  match op with
  | .Add => addw a b Q
  | .Sub => int2 a b fun a b => Q (.int (a - b))
  | .Mult => mulw a b Q
  | .FloorDiv => int2 a b fun a b => b ≠ 0 ∧ b.natAbs < 2 ^ 29 ∧ Q (.int (a.fdiv b))
  | .Mod => int2 a b fun a b => b ≠ 0 ∧ Q (.int (a.fmod b))
  | .Pow => int2 a b fun a b => 0 ≤ b ∧ b ≤ 1000 ∧ a.natAbs < 2 ^ 60 ∧ Q (.int (a ^ b.toNat))
  | .BitAnd => int2 a b fun a b => Q (.int (Builtin.bitAnd a b))
  | .BitOr => int2 a b fun a b => Q (.int (Builtin.bitOr a b))
  | .BitXor => int2 a b fun a b => Q (.int (Builtin.bitXor a b))
  | _ => False

def unw (op : UnaryOp) (a : V) (Q : V → Prop) : Prop :=
  match op with
  | .USub => int1 a fun a => Q (.int (-a))
  | .Invert => int1 a fun a => Q (.int (-a - 1))
  | _ => False

/-- bool(d), where the rules know it -/
def truthw (d : V) (K : Bool → Prop) : Prop :=
  match d with
  | .none => K false
  | .bool b => K b
  | .int i => K (i != 0)
  | .str l => l.length ≤ 1000000 ∧ K (!l.isEmpty)
  | .tuple l => l.length ≤ 1000000 ∧ K (!l.isEmpty)
  | .list l => l.length ≤ 1000000 ∧ K (!l.isEmpty)
  | .raw _ => False

def strIn (x y : List Nat) : Bool := !(Builtin.Str.occurrences (mkS y) (mkS x) 0 y.length 1).isEmpty
def ordw (f : Int → Int → Bool) (g : List Nat → List Nat → Bool) (a b : V) (K : Bool → Prop) : Prop := match a with
  | .int i => int1 b fun j => K (f i j)
  | .str x => str1 b fun y => K (g x y)
  | _ => False
/-- one sign in a text, or a text in a text -/
def inL (x y : List Nat) (K : Bool → Prop) : Prop := match x with
  | [c] => K (decide (c ∈ y))
  | x => K (strIn x y)
/-- a text that the rules of equality know -/
def sok (l : List Nat) : Bool := l.all (· < 0x110000)
def eqw (a b : V) (K : Bool → Prop) : Prop := match a with
  | .int i => int1 b fun j => K (decide (i = j))
  | .str x => str1 b fun y => sok x = true ∧ sok y = true ∧ K (decide (x = y))
  | .bool p => match b with | .bool q => K (decide (p = q)) | _ => False
  | a => vok 8 a = true ∧ vok 8 b = true ∧ K (veq a b)
def inw (a b : V) (K : Bool → Prop) : Prop := match b with
  | .str y => str1 a fun x => inL x y K
  | .list ds => vok 8 a = true ∧ ds.all (vok 8) = true ∧ K (ds.any fun y => veq y a)
  | .tuple ds => vok 8 a = true ∧ ds.all (vok 8) = true ∧ K (ds.any fun y => veq y a)
  | _ => False
def raw1 (b : V) (P : Addr → Prop) : Prop := match b with | .raw v => (match v with | .ref y => P y | _ => False) | _ => False
theorem raw1_inv {b : V} {P : Addr → Prop} (h : raw1 b P) : ∃ y, b = .raw (.ref y) ∧ P y := by
  cases b with
  | raw v => cases v <;> first | exact ⟨_, rfl, h⟩ | exact h.elim
  | _ => exact h.elim
def isw (a b : V) (K : Bool → Prop) : Prop := raw1 b fun y => match a with
  | .str _ => K false
  | a => raw1 a fun x => x = y ∧ K true
def cmpw (op : CmpOp) (a b : V) (K : Bool → Prop) : Prop :=
  match op with
  | .Lt => ordw (fun i j => decide (i < j)) (fun x y => decide (x < y)) a b K
  | .LtE => ordw (fun i j => decide (i ≤ j)) (fun x y => !decide (y < x)) a b K
  | .Gt => ordw (fun i j => decide (j < i)) (fun x y => decide (y < x)) a b K
  | .GtE => int2 a b fun i j => K (decide (j ≤ i))
  | .Eq => eqw a b K
  | .NotEq => eqw a b fun c => K (!c)
  | .In => inw a b K
  | .NotIn => inw a b fun c => K (!c)
  | .Is => isw a b K
  | .IsNot => isw a b fun c => K (!c)

/-- Python's index into n places -/
def ixOf (i : Int) (n : Nat) : Option Nat := if 0 ≤ i then (if i < n then some i.toNat else none) else (if -(n : Int) ≤ i then some (i + n).toNat else none)
def itemL (l : List V) (i : Int) (Q : V → Prop) : Prop := l.length ≤ 1000000 ∧ ∃ k d, ixOf i l.length = some k ∧ l[k]? = some d ∧ Q d
def itemw (o i : V) (Q : V → Prop) : Prop := int1 i fun i => match o with
  | .str l => l.length ≤ 1000000 ∧ ∃ k c, ixOf i l.length = some k ∧ l[k]? = some c ∧ Q (.str [c])
  | .list l => itemL l i Q
  | .tuple l => itemL l i Q
  | _ => False

def ixL (i : Int) (n : Nat) : Nat := (max 0 (min (if i < 0 then i + n else i) n)).toNat
def sliceL {α : Type} (l : List α) (lo hi : Option Int) : List α :=
  let a := match lo with | none => 0 | some i => ixL i l.length
  let b := match hi with | none => l.length | some i => ixL i l.length
  (l.drop a).take (b - a)
def slicew (o : V) (lo hi : Option Int) (Q : V → Prop) : Prop :=
  match o with
  | .str l => l.length ≤ 1000000 ∧ Q (.str (sliceL l lo hi))
  | .list l => l.length ≤ 1000000 ∧ Q (.list (sliceL l lo hi))
  | _ => False

section
variable {C : Cx} {A : Around} {s : Shared} {F : Fz} {r : Nat}

theorem ixL_le (i : Int) (n : Nat) : ixL i n ≤ n := by unfold ixL; split <;> lia
theorem bounds_eq (lo hi : Option Int) (n : Nat) : sliceBounds lo hi none n = (((match lo with | none => 0 | some i => ixL i n : Nat) : Int), ((match hi with | none => n | some i => ixL i n : Nat) : Int), 1) := by
  unfold sliceBounds ixL
  simp only [Option.getD_none, show (1 : Int) > 0 by decide, if_true]
  cases lo <;> cases hi <;> simp
theorem slicePick_eq (items : Array Value) (lo hi : Option Int) : slicePick items lo hi none = (sliceL items.toList lo hi).toArray := by
  unfold slicePick sliceL
  rw [bounds_eq]
  simp only [sliceRange_one, pick_run, Array.length_toList]
theorem RepL.slice {vs : List Value} {ds : List V} (x : RepL F vs ds) (lo hi : Option Int) : RepL F (sliceL vs lo hi) (sliceL ds lo hi) := by
  unfold sliceL
  rw [x.length]
  exact (x.drop _).take _
theorem sliceL_length {α : Type} (l : List α) (lo hi : Option Int) : (sliceL l lo hi).length ≤ l.length := by
  unfold sliceL
  exact Nat.le_trans (by rw [List.length_take]; exact Nat.min_le_right _ _) (by rw [List.length_drop]; exact Nat.sub_le _ _)

theorem mul_ok {a b : Int} (h : a.natAbs < 2 ^ 60 ∨ b.natAbs < 2 ^ 60) : IntMulOk a b := by
  have bits : ∀ c : Int, c.natAbs < 2 ^ 60 → Builtin.Int.intBits c ≤ 64 := by
    intro c hc
    unfold Builtin.Int.intBits
    split
    · lia
    · rename_i h0
      have h0' : c ≠ 0 := by simpa using h0
      have := (Nat.log2_lt (n := c.natAbs) (by lia)).mpr hc
      lia
  exact h.elim (fun h => .of_left (bits _ h)) fun h => .of_right (bits _ h)

theorem pst_int {Q : V → Prop} {i : Int} {t : Tok} {n : Nat} (I : Inv C s) (f : FzOk C F s.heap) (h : Q (.int i)) (hn : Tp n) : Pst C s F (Gv Q) (.int i t) { s with toks := n } := pst_tok I f ⟨_, .int i t, h⟩ hn
theorem pst_gb {K : Bool → Prop} {b : Bool} {n : Nat} (I : Inv C s) (f : FzOk C F s.heap) (h : K b) (hn : Tp n) : Pst C s F (Gb K) b { s with toks := n } := pst_tok I f h hn
theorem pst_gb0 {K : Bool → Prop} {b : Bool} (I : Inv C s) (f : FzOk C F s.heap) (h : K b) (_ : Tp s.toks) : Pst C s F (Gb K) b s := pst_here I f h
theorem pst_bool {Q : V → Prop} {b : Bool} {n : Nat} (I : Inv C s) (f : FzOk C F s.heap) (h : Q (.bool b)) (hn : Tp n) : Pst C s F (Gv Q) (.bool b) { s with toks := n } := pst_tok I f ⟨_, .bool b, h⟩ hn
theorem pst_str {Q : V → Prop} {x : Str} {t : Tok} {n : Nat} {l : List Nat} (I : Inv C s) (f : FzOk C F s.heap) (h : Q (.str l)) (e : x = mkS l) (hn : Tp n) : Pst C s F (Gv Q) (.str x t) { s with toks := n } := by subst e; exact pst_tok I f ⟨_, .str l t, h⟩ hn
theorem sizeLine_big {n : Nat} (h : n ≤ 1000000) : n ≤ sizeLine := by rw [sizeLine_eq]; lia

theorem foldl_append_replicate {α : Type} (xs : Array α) : ∀ (k : Nat) (acc : Array α), (List.foldl (fun x y => x ++ y) acc (List.replicate k xs)).toList = acc.toList ++ (List.replicate k xs.toList).flatten
  | 0, acc => by simp
  | k + 1, acc => by
    rw [List.replicate_succ, List.foldl_cons, foldl_append_replicate xs k]
    simp [List.replicate_succ]
theorem RepL.replicate {vs : List Value} {ds : List V} (x : RepL F vs ds) : ∀ k : Nat, RepL F (List.replicate k vs).flatten (List.replicate k ds).flatten
  | 0 => .nil
  | k + 1 => by simpa [List.replicate_succ] using x.append (RepL.replicate x k)

theorem add_lists' {l b : Addr} {vs us : List Value} {n m : Nat} {a c : List V} {Q : V → Prop} (I : Inv C s) (f : FzOk C F s.heap) (ha : F l (lstObj vs n)) (la : RepL F vs a) (hb : F b (lstObj us m)) (lb : RepL F us c)
    (hz : a.length + c.length ≤ 1000000) (h : Q (.list (a ++ c))) : TrV C A (binaryOp .Add (.ref l) (.ref b)) s F Q := by
  refine tr_of I ?_
  have e1 := la.length
  have e2 := lb.length
  refine P.add_list (f.at' _ _ ha).1 (f.at' _ _ hb).1 (pst_push (n := s.toks) I f ⟨_, ?_, h⟩) (by rw [List.size_toArray, List.size_toArray, e1, e2]; exact sizeLine_big hz)
  exact .list (vs := vs ++ us) (n := 0) (.inr ⟨rfl, by simp [lstObj]⟩) ((la.append lb).mono fun _ _ e => .inl e)
theorem mul_list' {l : Addr} {vs : List Value} {n : Nat} {a : List V} {k : Int} {t : Tok} {Q : V → Prop} (I : Inv C s) (f : FzOk C F s.heap) (ha : F l (lstObj vs n)) (la : RepL F vs a)
    (h0 : 0 ≤ k) (h1 : k ≤ 1000) (h2 : a.length ≤ 1000) (h3 : Q (.list (List.replicate k.toNat a).flatten)) : TrV C A (binaryOp .Mult (.ref l) (.int k t)) s F Q := by
  refine tr_of I ?_
  have e1 := la.length
  have hl := (f.at' _ _ ha).1
  have hz : vs.toArray.size * k.toNat ≤ 2 ^ 24 := by
    rw [List.size_toArray, e1]
    have : a.length * k.toNat ≤ 1000 * 1000 := Nat.mul_le_mul h2 (by lia)
    lia
  refine wpAny_binaryOp_repeat_ref (T := "list") (U := "int") (by decide) ⟨_, hl, rfl⟩ (fun s' => typeIs_int s' k t) noFill_list_mul PySem.F.fills_int_mul PySem.F.slot_int_rmul repeat_list PySem.F.slot_int_index.lookup
    (call_meets PySem.F.slot_int_rmul (typeIs_int s k t) PySem.F.entry_int_rmul (PySem.F.args_int_rmul_2 _ _) (int___rmul___int_list k t _ vs.toArray n)
      ⟨hl, rfl, ⟨_, hl, rfl⟩, call_meets PySem.F.slot_list_mul ⟨_, hl, rfl⟩ PySem.F.entry_list_mul (PySem.F.args_list_mul_2 _ _)
        (AutoListH.list___mul___list_int_3 _ vs.toArray n k t (by simp [Builtin.List.listFitsIndex]; lia) (by lia) (by simp [Builtin.List.listTooLong, sizeLine] at hz ⊢; lia))
        ⟨hl, ?_⟩⟩)
  refine pst_push (n := s.toks) I f ⟨_, ?_, h3⟩
  refine .list (vs := (List.replicate k.toNat vs).flatten) (n := 0) (.inr ⟨rfl, ?_⟩) ((la.replicate _).mono fun _ _ e => .inl e)
  unfold lstObj
  congr 2
  apply Array.ext'
  rw [foldl_append_replicate]
  by_cases hv : vs = []
  · subst hv; simp
  · simp [hv]

theorem Rep.int_inv {v : Value} {i : Int} (r : Rep F v (.int i)) : ∃ t, v = .int i t := by cases r; exact ⟨_, rfl⟩
theorem Rep.str_inv {v : Value} {l : List Nat} (r : Rep F v (.str l)) : ∃ t, v = .str (mkS l) t := by cases r; exact ⟨_, rfl⟩
theorem Rep.bool_inv {v : Value} {b : Bool} (r : Rep F v (.bool b)) : v = .bool b := by cases r; rfl
theorem Rep.none_inv {v : Value} (r : Rep F v .none) : v = .none := by cases r; rfl
theorem Rep.raw_inv {v u : Value} (r : Rep F v (.raw u)) : v = u := by cases r; rfl
theorem Rep.list_inv {v : Value} {ds : List V} (r : Rep F v (.list ds)) : ∃ a vs n, v = .ref a ∧ F a (lstObj vs n) ∧ RepL F vs ds := by cases r; exact ⟨_, _, _, rfl, ‹_›, ‹_›⟩
theorem Rep.tuple_inv {v : Value} {ds : List V} (r : Rep F v (.tuple ds)) : ∃ a vs n, v = .ref a ∧ F a (tupObj vs n) ∧ RepL F vs ds := by cases r; exact ⟨_, _, _, rfl, ‹_›, ‹_›⟩
theorem int2_go {va vb : Value} {a b : V} {K : Int → Int → Prop} {P : Prop} (ra : Rep F va a) (rb : Rep F vb b) (h : int2 a b K) (g : ∀ i j t u, va = .int i t → vb = .int j u → K i j → P) : P := by
  obtain ⟨i, e1, h⟩ := int1_inv (K := fun i => int1 b fun j => K i j) h
  obtain ⟨j, e2, h⟩ := int1_inv h
  subst e1; subst e2
  obtain ⟨t, e⟩ := ra.int_inv
  obtain ⟨u, e'⟩ := rb.int_inv
  exact g i j t u e e' h
theorem addw_sound {va vb : Value} {a b : V} {Q : V → Prop} (I : Inv C s) (f : FzOk C F s.heap) (ra : Rep F va a) (rb : Rep F vb b) (h : addw a b Q) : TrV C A (binaryOp .Add va vb) s F Q := by
  cases a with
  | int i =>
    obtain ⟨j, rfl, h⟩ := int1_inv h
    obtain ⟨t, rfl⟩ := ra.int_inv
    obtain ⟨u, rfl⟩ := rb.int_inv
    exact tr_of I (add_int (pst_int I f h))
  | str x =>
    obtain ⟨y, rfl, h⟩ := str1_inv h
    obtain ⟨t, rfl⟩ := ra.str_inv
    obtain ⟨u, rfl⟩ := rb.str_inv
    exact tr_of I (add_str (fun t' tk => pst_str I f h.2 (mkS_append _ _)) (by rw [mkS_length, mkS_length]; exact sizeLine_big h.1))
  | list x =>
    obtain ⟨y, rfl, h⟩ := lst1_inv h
    obtain ⟨_, _, _, rfl, ha, la⟩ := ra.list_inv
    obtain ⟨_, _, _, rfl, hb, lb⟩ := rb.list_inv
    exact add_lists' I f ha la hb lb h.1 h.2
  | _ => exact h.elim
theorem mulw_sound {va vb : Value} {a b : V} {Q : V → Prop} (I : Inv C s) (f : FzOk C F s.heap) (ra : Rep F va a) (rb : Rep F vb b) (h : mulw a b Q) : TrV C A (binaryOp .Mult va vb) s F Q := by
  cases a with
  | int i =>
    obtain ⟨j, rfl, h⟩ := int1_inv h
    obtain ⟨t, rfl⟩ := ra.int_inv
    obtain ⟨u, rfl⟩ := rb.int_inv
    exact tr_of I (mul_int (pst_int I f h.2) (mul_ok h.1))
  | list x =>
    obtain ⟨y, rfl, h⟩ := int1_inv h
    obtain ⟨_, _, _, rfl, ha, la⟩ := ra.list_inv
    obtain ⟨u, rfl⟩ := rb.int_inv
    exact mul_list' I f ha la h.1 h.2.1 h.2.2.1 h.2.2.2
  | _ => exact h.elim
theorem binw_sound {op : Operator} {va vb : Value} {a b : V} {Q : V → Prop} (I : Inv C s) (f : FzOk C F s.heap) (ra : Rep F va a) (rb : Rep F vb b) (h : binw op a b Q) : TrV C A (binaryOp op va vb) s F Q := by
  cases op with
  | Add => exact addw_sound I f ra rb h
  | Mult => exact mulw_sound I f ra rb h
  | Sub => exact int2_go ra rb h fun _ _ _ _ e e' h => e ▸ e' ▸ tr_of I (sub_int' (pst_int I f h))
  | FloorDiv => exact int2_go ra rb h fun _ _ _ _ e e' h => e ▸ e' ▸ tr_of I (floordiv_int h.1 (pst_int I f h.2.2) (.inl (PyProof.noPylong_small (by lia))))
  | Mod => exact int2_go ra rb h fun _ _ _ _ e e' h => e ▸ e' ▸ tr_of I (mod_int' h.1 (pst_int I f h.2))
  | Pow => exact int2_go ra rb h fun _ _ _ _ e e' h => e ▸ e' ▸ tr_of I (pow_int_small h.1 (by lia) (by lia) (pst_int I f h.2.2.2))
  | BitAnd => exact int2_go ra rb h fun _ _ _ _ e e' h => e ▸ e' ▸ tr_of I (and_int (pst_int I f h))
  | BitOr => exact int2_go ra rb h fun _ _ _ _ e e' h => e ▸ e' ▸ tr_of I (or_int (pst_int I f h))
  | BitXor => exact int2_go ra rb h fun _ _ _ _ e e' h => e ▸ e' ▸ tr_of I (xor_int (pst_int I f h))
  | _ => exact h.elim

theorem unw_sound {op : UnaryOp} {va : Value} {a : V} {Q : V → Prop} (I : Inv C s) (f : FzOk C F s.heap) (ra : Rep F va a) (h : unw op a Q) : TrV C A (unaryOp op va) s F Q := by
  cases op with
  | USub =>
    obtain ⟨i, rfl, h⟩ := int1_inv h
    obtain ⟨t, rfl⟩ := ra.int_inv
    exact tr_of I (neg_int (pst_int I f h))
  | Invert =>
    obtain ⟨i, rfl, h⟩ := int1_inv h
    obtain ⟨t, rfl⟩ := ra.int_inv
    exact tr_of I (invert_int (pst_int I f h))
  | _ => exact h.elim

theorem isEmpty_toArray {α : Type} {l : List α} {m : List β} (e : l.length = m.length) : l.toArray.isEmpty = m.isEmpty := by
  cases l <;> cases m <;> simp_all
theorem isEmpty_len {n : Nat} {l : List Nat} (e : n = l.length) : ((n : Int) != 0) = !l.isEmpty := by
  subst e
  cases l with
  | nil => rfl
  | cons _ _ => rfl
theorem truthw_sound {va : Value} {a : V} {K : Bool → Prop} (I : Inv C s) (f : FzOk C F s.heap) (ra : Rep F va a) (h : truthw a K) : Tr C A (truthy va) s F (Gb K) := by
  refine tr_of I ?_
  cases a with
  | none => obtain rfl := ra.none_inv; exact wpAny_pure (pst_gb0 I f h)
  | bool b => obtain rfl := ra.bool_inv; exact wpAny_truthy_bool (pst_gb0 I f h)
  | int i => obtain ⟨t, rfl⟩ := ra.int_inv; exact truthy_int (pst_gb0 I f h)
  | str l =>
    obtain ⟨t, rfl⟩ := ra.str_inv
    refine SBL.truthy (by rw [mkS_length]; have := h.1; lia) (pst_gb I f ?_)
    rw [isEmpty_len (mkS_length l)]; exact h.2
  | tuple l =>
    obtain ⟨_, _, _, rfl, ha, la⟩ := ra.tuple_inv
    refine truthy_tuple (f.isTup ha) (by rw [List.size_toArray, la.length]; have := h.1; lia) (pst_gb I f ?_)
    rw [isEmpty_toArray la.length]; exact h.2
  | list l =>
    obtain ⟨_, _, _, rfl, ha, la⟩ := ra.list_inv
    refine wpAny_truthy_list (f.isList ha) (by rw [List.size_toArray, la.length]; have := h.1; lia) (pst_gb I f ?_)
    rw [isEmpty_toArray la.length]; exact h.2
  | raw _ => exact h.elim

theorem veq_comm_any (ds : List V) (x : V) : (toPys ds).any (fun y => PyData.eqv y (toPy x)) = ds.any fun y => veq y x := by
  rw [toPys_map, List.any_map]; rfl
theorem depth_all {ds : List V} (h : ds.all (vok 8) = true) : PyData.canLayAll0 (toPys ds) = true ∧ PyData.depthAll (toPys ds) ≤ 9 := by
  have q := lay_of 9 (.list ds) h
  rw [toPy] at q
  simp only [PyData.canLay0, PyData.depth] at q
  exact ⟨q.1, by have := q.2; lia⟩
theorem eq_sound {va vb : Value} {a b : V} (R : Room r A) (f : FzOk C F s.heap) (ra : Rep F va a) (rb : Rep F vb b) (h1 : vok 8 a = true) (h2 : vok 8 b = true) {Q : Value → Shared → Prop} {E : Value → Shared → Prop} (h : Q (.bool (veq a b)) s) :
    wpAny (model C.prog C.w) A (compareOp .Eq va vb) Q E s := by
  obtain ⟨_, qa⟩ := reads_of f 8 ra h1
  obtain ⟨_, qb⟩ := reads_of f 8 rb h2
  have la := lay_of 8 a h1
  have lb := lay_of 8 b h2
  exact SeqAt.compareEq_reads qa qb la.1 lb.1 (by have := R.u; lia) h
theorem ne_sound {va vb : Value} {a b : V} (R : Room r A) (f : FzOk C F s.heap) (ra : Rep F va a) (rb : Rep F vb b) (h1 : vok 8 a = true) (h2 : vok 8 b = true) {Q : Value → Shared → Prop} {E : Value → Shared → Prop} (h : Q (.bool (!veq a b)) s) :
    wpAny (model C.prog C.w) A (compareOp .NotEq va vb) Q E s := by
  obtain ⟨_, qa⟩ := reads_of f 8 ra h1
  obtain ⟨_, qb⟩ := reads_of f 8 rb h2
  have la := lay_of 8 a h1
  have lb := lay_of 8 b h2
  exact SeqAt.compareNe_reads qa qb la.1 lb.1 (by have := R.u; lia) h

theorem strIn_one (c : Nat) (y : List Nat) : strIn [c] y = decide (c ∈ y) := by
  unfold strIn
  have := StrLaws.found_one (mkS y) c
  rw [mkS_length] at this
  rw [show mkS [c] = ⟨#[c]⟩ from rfl, this]
  exact decide_eq_decide.mpr (by simp [mkS])
theorem inL_out {x y : List Nat} {K : Bool → Prop} (h : inL x y K) : K (strIn x y) := by
  unfold inL at h
  match x, h with
  | [], h => exact h
  | [c], h => rw [strIn_one]; exact h
  | _ :: _ :: _, h => exact h
theorem eqv_int {i j : Int} : veq (.int i) (.int j) = decide (i = j) := by unfold veq toPy; rw [PyData.eqv]; rfl
theorem eqv_str {x y : List Nat} : veq (.str x) (.str y) = decide (x = y) := by
  unfold veq toPy; rw [PyData.eqv]
  by_cases h : x = y
  · simp [h]
  · have : mkS x ≠ mkS y := fun e => h (mkS_inj.mp e)
    simp [h, this]
theorem eqv_bool {p q : Bool} : veq (.bool p) (.bool q) = decide (p = q) := by unfold veq toPy; rw [PyData.eqv]; cases p <;> cases q <;> rfl
theorem eqw_out {a b : V} {K : Bool → Prop} (h : eqw a b K) : vok 8 a = true ∧ vok 8 b = true ∧ K (veq a b) := by
  cases a with
  | int i => obtain ⟨j, rfl, h⟩ := int1_inv h; exact ⟨rfl, rfl, eqv_int ▸ h⟩
  | str x => obtain ⟨y, rfl, h1, h2, h⟩ := str1_inv h; exact ⟨h1, h2, eqv_str ▸ h⟩
  | bool p => cases b with
    | bool q => exact ⟨rfl, rfl, eqv_bool ▸ h⟩
    | _ => exact h.elim
  | _ => exact h

abbrev Cq (K : Bool → Prop) : V → Prop := fun d => ∃ c, d = .bool c ∧ K c
theorem ordw_sound {op : CmpOp} {va vb : Value} {a b : V} {K : Bool → Prop} {fi : Int → Int → Bool} {g : List Nat → List Nat → Bool}
    (h1 : ∀ {i j t u Q} {E : Value → Shared → Prop}, Q (.bool (fi i j)) s → wpAny (model C.prog C.w) A (compareOp op (.int i t) (.int j u)) Q E s) (h2 : ∀ {x y t u Q} {E : Value → Shared → Prop}, Q (.bool (g x y)) s → wpAny (model C.prog C.w) A (compareOp op (.str (mkS x) t) (.str (mkS y) u)) Q E s)
    (I : Inv C s) (f : FzOk C F s.heap) (ra : Rep F va a) (rb : Rep F vb b) (h : ordw fi g a b K) : TrV C A (compareOp op va vb) s F (Cq K) := by
  cases a with
  | int i =>
    obtain ⟨j, rfl, h⟩ := int1_inv h
    obtain ⟨t, rfl⟩ := ra.int_inv
    obtain ⟨u, rfl⟩ := rb.int_inv
    exact h1 (pst_here I f ⟨_, .bool _, _, rfl, h⟩)
  | str x =>
    obtain ⟨y, rfl, h⟩ := str1_inv h
    obtain ⟨t, rfl⟩ := ra.str_inv
    obtain ⟨u, rfl⟩ := rb.str_inv
    exact h2 (pst_here I f ⟨_, .bool _, _, rfl, h⟩)
  | _ => exact h.elim
theorem inw_sound {va vb : Value} {a b : V} {K : Bool → Prop} (R : Room r A) (I : Inv C s) (f : FzOk C F s.heap) (ra : Rep F va a) (rb : Rep F vb b) (neg : Bool) (h : inw a b fun c => K (cond neg (!c) c)) :
    TrV C A (compareOp (if neg then .NotIn else .In) va vb) s F (Cq K) := by
  have fin : ∀ {c n}, K c → Tp n → Pst C s F (Gv (Cq K)) (.bool c) { s with toks := n } := fun h hn => pst_bool I f ⟨_, rfl, h⟩ hn
  have both : ∀ {ds : List V}, vok 8 a = true → ds.all (vok 8) = true → ∃ as, Reads s.heap va (toPy a) as ∧ (toPy a).canLay0 = true ∧ PyData.canLayAll0 (toPys ds) = true ∧ (toPy a).depth + PyData.depthAll (toPys ds) ≤ 17 := fun h1 h2 =>
    let ⟨as, qa⟩ := reads_of f 8 ra h1
    ⟨as, qa, (lay_of 8 _ h1).1, (depth_all h2).1, Nat.add_le_add (lay_of 8 _ h1).2 (depth_all h2).2⟩
  have hu := R.u
  refine tr_of I ?_
  cases b with
  | str y =>
    obtain ⟨x, rfl, h⟩ := str1_inv h
    obtain ⟨t, rfl⟩ := ra.str_inv
    obtain ⟨u, rfl⟩ := rb.str_inv
    have h : K (cond neg (!(strIn x y)) (strIn x y)) := inL_out (K := fun c => K (cond neg (!c) c)) h
    unfold strIn at h
    rw [← mkS_length y] at h
    cases neg
    · exact in_str (fin h)
    · exact notIn_str (fin h)
  | list ds =>
    obtain ⟨h1, h2, h3⟩ := h
    obtain ⟨_, qa, q1, q2, q3⟩ := both h1 h2
    obtain ⟨_, qb⟩ := reads_of f 9 rb h2
    rw [toPy] at qb
    rw [← veq_comm_any] at h3
    cases neg
    · exact SeqAt.in_list_reads qb qa q2 q1 (by lia) (fin h3)
    · exact SeqAt.notIn_list_reads qb qa q2 q1 (by lia) (fin h3)
  | tuple ds =>
    obtain ⟨h1, h2, h3⟩ := h
    obtain ⟨_, qa, q1, q2, q3⟩ := both h1 h2
    obtain ⟨_, qb⟩ := reads_of f 9 rb h2
    rw [toPy] at qb
    rw [← veq_comm_any] at h3
    cases neg
    · exact SeqAt.in_tuple_reads qb qa q2 q1 (by lia) (fin h3)
    · exact SeqAt.notIn_tuple_reads qb qa q2 q1 (by lia) (fin h3)
  | _ => exact h.elim
theorem isw_sound {va vb : Value} {a b : V} {K : Bool → Prop} (I : Inv C s) (f : FzOk C F s.heap) (ra : Rep F va a) (rb : Rep F vb b) (neg : Bool) (h : isw a b fun c => K (cond neg (!c) c)) :
    TrV C A (compareOp (if neg then .IsNot else .Is) va vb) s F (Cq K) := by
  obtain ⟨y, rfl, h2⟩ := raw1_inv h; clear h
  obtain rfl := rb.raw_inv
  refine tr_of I ?_
  have fin : ∀ {c n}, K c → Tp n → Pst C s F (Gv (Cq K)) (.bool c) { s with toks := n } := fun h hn => pst_bool I f ⟨_, rfl, h⟩ hn
  cases a with
  | str x =>
    obtain ⟨t, rfl⟩ := ra.str_inv
    cases neg
    · exact wpAny_is_other rfl (by intro e; cases e) (fin h2)
    · exact wpAny_isNot_other rfl (by intro e; cases e) (fin h2)
  | raw v =>
    obtain ⟨x, e, hxy, h3⟩ := raw1_inv (P := fun x => x = y ∧ K (cond neg (!true) true)) h2; clear h2
    subst hxy
    cases e
    obtain rfl := ra.raw_inv
    cases neg
    · exact wpAny_is_ref_self (fin h3)
    · exact wpAny_isNot_ref_self (fin h3)
  | _ => exact h2.elim
theorem cmpw_sound {op : CmpOp} {va vb : Value} {a b : V} {K : Bool → Prop} (R : Room r A) (I : Inv C s) (f : FzOk C F s.heap) (ra : Rep F va a) (rb : Rep F vb b) (h : cmpw op a b K) :
    TrV C A (compareOp op va vb) s F (Cq K) := by
  cases op with
  | Lt => exact ordw_sound lt_int lt_str I f ra rb h
  | LtE => exact ordw_sound le_int PySem.P.le_str I f ra rb h
  | Gt => exact ordw_sound gt_int PySem.P.gt_str I f ra rb h
  | GtE => exact int2_go ra rb h fun _ _ _ _ e e' h => e ▸ e' ▸ ge_int (pst_here I f ⟨_, .bool _, _, rfl, h⟩)
  | Eq => exact let h := eqw_out (K := K) h; eq_sound R f ra rb h.1 h.2.1 (pst_here I f ⟨_, .bool _, _, rfl, h.2.2⟩)
  | NotEq => exact let h := eqw_out (K := fun c => K (!c)) h; ne_sound R f ra rb h.1 h.2.1 (pst_here I f ⟨_, .bool _, _, rfl, h.2.2⟩)
  | In => exact inw_sound R I f ra rb false h
  | NotIn => exact inw_sound R I f ra rb true h
  | Is => exact isw_sound I f ra rb false h
  | IsNot => exact isw_sound I f ra rb true h

theorem seqIndex_ixOf {i : Int} {n k : Nat} (h : ixOf i n = some k) : seqIndex? i n = some k := by
  unfold ixOf at h
  split at h
  · split at h
    · cases h; exact seqIndex_of (by lia) (by lia)
    · cases h
  · split at h
    · cases h; exact seqIndex_neg (by lia) (by lia)
    · cases h
theorem ixOf_range {i : Int} {n k : Nat} (h : ixOf i n = some k) : -(n : Int) ≤ i ∧ i < n ∧ k < n := by
  unfold ixOf at h
  split at h
  · split at h
    · cases h; lia
    · cases h
  · split at h
    · cases h; lia
    · cases h
theorem itemw_sound {vo vi : Value} {o i : V} {Q : V → Prop} (I : Inv C s) (f : FzOk C F s.heap) (ra : Rep F vo o) (rb : Rep F vi i) (h : itemw o i Q) : TrV C A (getItem vo vi) s F Q := by
  refine tr_of I ?_
  obtain ⟨j, rfl, h⟩ := int1_inv h
  obtain ⟨t, rfl⟩ := rb.int_inv
  cases o with
  | str l =>
    obtain ⟨u, rfl⟩ := ra.str_inv
    obtain ⟨h1, k, c, h2, h3, h4⟩ := h
    have hr := ixOf_range h2
    refine getItem_str (c := c) (by simp only [Bool.or_eq_false_iff, decide_eq_false_iff_not]; lia) ?_ (pst_str I f h4 rfl)
    rw [mkS_length, seqIndex_ixOf h2, Option.bind_some]
    simpa [mkS] using h3
  | list l =>
    obtain ⟨_, vs, _, rfl, ha, la⟩ := ra.list_inv
    obtain ⟨h1, k, d, h2, h3, h4⟩ := h
    have hr := ixOf_range h2
    obtain ⟨v, hv, rv⟩ := la.get k d h3
    have e := la.length
    have fin := pst_here' I f (Q := Gv Q) (a := v) ⟨_, rv, h4⟩
    by_cases hj : 0 ≤ j
    · have : j.toNat = k := by unfold ixOf at h2; rw [if_pos hj, if_pos hr.2.1] at h2; exact Option.some.inj h2
      exact wpAny_getItem_list (f.isList ha) hj (by lia) (by rw [this]; simpa using hv) fin
    · have : (j + vs.toArray.size).toNat = k := by unfold ixOf at h2; rw [if_neg hj, if_pos hr.1] at h2; rw [List.size_toArray, e]; exact Option.some.inj h2
      exact wpAny_getItem_list_neg (f.isList ha) (by lia) (by rw [List.size_toArray, e]; lia) (by lia) (by rw [this]; simpa using hv) fin
  | tuple l =>
    obtain ⟨_, vs, _, rfl, ha, la⟩ := ra.tuple_inv
    obtain ⟨h1, k, d, h2, h3, h4⟩ := h
    have hr := ixOf_range h2
    obtain ⟨v, hv, rv⟩ := la.get k d h3
    exact getItem_tuple (f.isTup ha) (by lia) (by lia) (by rw [List.size_toArray, la.length]; exact seqIndex_ixOf h2) (by simpa using hv) (pst_here' I f ⟨_, rv, h4⟩)
  | _ => exact h.elim
end

def joinL (sep : List Nat) : List (List Nat) → List Nat
  | [] => []
  | [x] => x
  | x :: y :: r => x ++ sep ++ joinL sep (y :: r)
def strsOf : List V → Option (List (List Nat))
  | [] => some []
  | .str x :: r => (strsOf r).map (x :: ·)
  | _ :: _ => none
def joinw (sep : List Nat) (a : V) (Q : V → Prop) : Prop := lst1 a fun ds => sep.length ≤ 16 ∧ ∃ ls, strsOf ds = some ls ∧ (ls.map (·.length)).sum + ls.length ≤ 1000000 ∧ Q (.str (joinL sep ls))
def lenw (a : V) (Q : V → Prop) : Prop :=
  match a with
  | .str l => l.length ≤ 1000000 ∧ Q (.int l.length)
  | .list l => l.length ≤ 1000000 ∧ Q (.int l.length)
  | _ => False
def rangeL (a b c : Int) : List Int := (List.range (Builtin.Range.rangeSize a b c).toNat).map fun (i : Nat) => a + (i : Int) * c
def itemsw (d : V) (Q : List V → Prop) : Prop :=
  match d with
  | .list ds => ds.length ≤ 1000000 ∧ Q ds
  | .tuple ds => ds.length ≤ 1000000 ∧ Q ds
  | _ => False
def partw (d : V) (Q : Option Int → Prop) : Prop :=
  match d with
  | .none => Q none
  | .int i => i.natAbs < 2 ^ 60 ∧ Q (some i)
  | _ => False

def QuietT (T : String) : Bool := !(["enumerate", "zip", "dict_itemiterator", "dict_reverseitemiterator", "odict_iterator", "itertools.zip_longest", "itertools.pairwise"].contains T)
/-- an iterator that walks over ds -/
structure ItOk (C : Cx) (h0 : Heap) (F : Fz) (h : Heap) (I : Addr) (fp : List Addr) (n : Nat) (P : Nat → Value → Prop) (St : Nat → Heap → Prop) (ds : List V) : Prop where
  W : ∀ A' : Around, A'.handled = none → Walks C.prog C.w A' I fp [I] n P St
  st : St 0 h
  sz : n ≤ sizeLine
  lo : h0.get? I = none
  nf : ∀ o, ¬ F I o
  fp : ∀ b ∈ fp, b = I ∨ ∃ o, F b o
  len : ds.length = n
  val : ∀ i v, P i v → ∃ d, ds[i]? = some d ∧ Rep F v d
  quiet : ∀ i h, St i h → ∃ o T, h.get? I = some o ∧ o.cls = .type T ∧ QuietT T = true
abbrev ItPost (C : Cx) (h0 : Heap) (fl : Bool) (Q : List V → Prop) : Value → Shared → Fz → Prop := fun it s' F' => ∃ I fp n P St ds, it = .ref I ∧ ItOk C h0 F' s'.heap I fp n P St ds ∧ (fl = true → fp = [I] ∧ ∀ d ∈ ds, d.flat = true) ∧ Q ds

section
variable {C : Cx} {A : Around} {s : Shared} {F : Fz} {r : Nat}

theorem strsOf_rep {vs : List Value} {ds : List V} {ls : List (List Nat)} (r : RepL F vs ds) (h : strsOf ds = some ls) : ∃ l : List (Str × Tok), strValues l = vs ∧ l.map (·.1) = ls.map mkS := by
  refine r.ind (P := fun vs ds => ∀ ls, strsOf ds = some ls → ∃ l : List (Str × Tok), strValues l = vs ∧ l.map (·.1) = ls.map mkS) (fun ls h => ?_) (fun {v vs d ds} hd r ih ls h => ?_) ls h
  · cases h; exact ⟨[], rfl, rfl⟩
  · cases hd with
    | str x t =>
      have h : (strsOf ds).map (x :: ·) = some ls := h
      obtain ⟨ls, h1, rfl⟩ := Option.map_eq_some_iff.mp h
      obtain ⟨l, h2, h3⟩ := ih ls h1
      exact ⟨(mkS x, t) :: l, by simp [strValues] at h2 ⊢; exact h2, by simp [h3]⟩
    | _ => cases h
theorem join_mk (sep : List Nat) : ∀ ls : List (List Nat), Str.join (mkS sep) (ls.map mkS) = mkS (joinL sep ls)
  | [] => rfl
  | [x] => rfl
  | x :: y :: r => by
    have ih := join_mk sep (y :: r)
    simp only [List.map_cons] at ih ⊢
    rw [Str.join, joinL, ih, mkS_append, mkS_append]
    intro h; cases h
theorem sum_mk (ls : List (List Nat)) : ((ls.map mkS).map (·.length)).sum = (ls.map (·.length)).sum := by
  rw [List.map_map]; rfl
theorem join_sound {vo va : Value} {sep : List Nat} {a : V} {Q : V → Prop} (I : Inv C s) (f : FzOk C F s.heap) (ro : Rep F vo (.str sep)) (ra : Rep F va a) (h : joinw sep a Q) : TrV C A (call (.builtin "str.join") [vo, va]) s F Q := by
  obtain ⟨ds, rfl, h1, ls, h2, h3, h4⟩ := lst1_inv h
  obtain ⟨t, rfl⟩ := ro.str_inv
  obtain ⟨_, vs, _, rfl, ha, la⟩ := ra.list_inv
  obtain ⟨l, h5, h6⟩ := strsOf_rep la h2
  refine tr_of I (SC.join (l := l) (texts := ls.map mkS) (h5 ▸ f.isList ha) h6 (joinOk_of_weight (by rw [sum_mk, List.length_map]; lia) (by rw [mkS_length]; exact h1)) fun t' k => ?_)
  refine pst_str I f h4 ?_
  unfold Txt.join
  rw [StrLaws.glued_eq_join, join_mk]
theorem len_sound {va : Value} {a : V} {Q : V → Prop} (I : Inv C s) (f : FzOk C F s.heap) (ra : Rep F va a) (h : lenw a Q) : TrV C A (call (.builtin "len") [va]) s F Q := by
  refine tr_of I ?_
  cases a with
  | str l =>
    obtain ⟨t, rfl⟩ := ra.str_inv
    exact PySem.P.len_str (by rw [mkS_length]; have := h.1; lia) (pst_int I f (by rw [mkS_length]; exact h.2))
  | list l =>
    obtain ⟨_, vs, _, rfl, ha, la⟩ := ra.list_inv
    exact PySem.Calls.call_len_list (f.isList ha) (by rw [List.size_toArray, la.length]; have := h.1; lia) (pst_int I f (by rw [List.size_toArray, la.length]; exact h.2))
  | _ => exact h.elim

theorem quiet_go {elts : List Expr} {k : Nat} {pos : Pos} {it v : Value} {o : Obj} {T : String} {I : Addr} {Q : Unit → Shared → Prop} {E : Value → Shared → Prop} (hit : it = .ref I) (ho : s.heap.get? I = some o) (hc : o.cls = .type T) (hq : QuietT T = true) (h : Q () s) {M : Model} :
    wpAny M A (letOwnedTupleGo (.Tuple elts k pos) it v) Q E s := by
  subst hit
  unfold letOwnedTupleGo
  cases v with
  | ref a =>
    refine wpAny_bind (wpAny_load ho ?_)
    rw [hc]
    simp only [QuietT, Bool.not_eq_true'] at hq
    cases o.data <;> first | exact wpAny_pure h | skip
    dsimp only
    rw [hq, Bool.false_and]
    exact wpAny_pure h
  | _ => exact wpAny_pure h

/-- the iterator of a list or a tuple -/
theorem iter_sound {v : Value} {d : V} {Q : List V → Prop} (R : Room r A) (I : Inv C s) (f : FzOk C F s.heap) (rv : Rep F v d) (h : itemsw d Q) : Tr C A (pyIter v) s F (ItPost C s.heap false Q) := by
  refine tr_of I ?_
  have nf : ∀ o, ¬ F s.heap.objs.size o := fun o e => Nat.lt_irrefl _ (Heap.lt_size (f.at' _ _ e).1)
  have fpq : ∀ {a o}, F a o → ∀ b ∈ [s.heap.objs.size, a], b = s.heap.objs.size ∨ ∃ o, F b o := fun ha b hb => by
    rcases List.mem_cons.mp hb with q | q
    · exact .inl q
    · exact .inr ⟨_, (List.mem_singleton.mp q) ▸ ha⟩
  cases d with
  | list ds =>
    obtain ⟨_, vs, _, rfl, ha, la⟩ := rv.list_inv
    have e := la.length
    have hlt := Heap.lt_size (f.at' _ _ ha).1
    refine wpAny_pyIter_list (f.isList ha) fun hn => pst_push0 I f ?_ hn
    refine ⟨_, _, _, _, _, _, rfl, ⟨fun _ hh => Walks.list hh _ _ (Nat.ne_of_lt hlt) _, ⟨⟨_, Heap.get?_push_size _ rfl, rfl, rfl⟩, (f.isList ha).at fun _ e => Heap.get?_push_of_some _ e⟩, by rw [List.size_toArray, e]; exact sizeLine_big h.1, get_size _, nf, fpq ha,
      by rw [List.size_toArray, e], fun i u hu => la.getV i u (by simpa using hu), fun i h' ⟨⟨o, q, w, _⟩, _⟩ => ⟨o, _, q, w, by decide⟩⟩, (fun h => by cases h), h.2⟩
  | tuple ds =>
    obtain ⟨_, vs, _, rfl, ha, la⟩ := rv.tuple_inv
    have e := la.length
    have hlt := Heap.lt_size (f.at' _ _ ha).1
    refine wpAny_pyIter_tuple ⟨_, (f.at' _ _ ha).1, rfl, _, rfl⟩ fun hn => pst_push0 I f ?_ hn
    refine ⟨_, _, _, _, _, _, rfl, ⟨fun _ hh => Walks.tuple hh _ _ (Nat.ne_of_lt hlt) _, ⟨⟨_, Heap.get?_push_size _ rfl, rfl, rfl⟩, ⟨_, Heap.get?_push_of_some _ (f.at' _ _ ha).1, rfl, _, rfl⟩⟩, by rw [List.size_toArray, e]; exact sizeLine_big h.1, get_size _, nf, fpq ha,
      by rw [List.size_toArray, e], fun i u hu => la.getV i u (by simpa using hu), fun i h' ⟨⟨o, q, w, _⟩, _⟩ => ⟨o, _, q, w, by decide⟩⟩, (fun h => by cases h), h.2⟩
  | _ => exact h.elim

theorem range_iter {l : Addr} {a b c : Int} {t u w : Tok} {Q : List V → Prop} (R : Room r A) (I : Inv C s) (f : FzOk C F s.heap) (hr : IsRange s.heap l a b c t u w) (hs : Builtin.Range.small a b c = true) (h0 : 0 ≤ Builtin.Range.rangeSize a b c) (hz : Builtin.Range.rangeSize a b c ≤ 1000000)
    (h : Q ((rangeL a b c).map V.int)) : Tr C A (pyIter (.ref l)) s F (ItPost C s.heap true Q) := by
  refine tr_of I ?_
  have nf : ∀ o, ¬ F s.heap.objs.size o := fun o e => Nat.lt_irrefl _ (Heap.lt_size (f.at' _ _ e).1)
  refine wpAny_pyIter_range hr hs fun hn => pst_push0 I f ?_ hn
  obtain ⟨n, hn⟩ := Int.eq_ofNat_of_zero_le h0
  refine ⟨_, _, _, _, _, _, rfl, ⟨fun _ hh => (Walks.range hh _ a c n).bound, ?_, ?_, get_size _, nf, ?_, ?_, ?_, ?_⟩, (fun _ => ⟨rfl, fun d hd => by obtain ⟨i, _, rfl⟩ := List.mem_map.mp hd; rfl⟩), h⟩
  · show IsRangeIter _ _ (a + ((0 : Nat) : Int) * c) ((n : Int) - ((0 : Nat) : Int)) c
    rw [show (a + ((0 : Nat) : Int) * c) = a by simp, show ((n : Int) - ((0 : Nat) : Int)) = Builtin.Range.rangeSize a b c by rw [hn]; simp]
    exact Heap.get?_push_size _ rfl
  · exact sizeLine_big (by lia)
  · intro b hb; exact .inl (List.mem_singleton.mp hb)
  · simp [rangeL, hn]
  · rintro i v ⟨hi, t, rfl⟩
    refine ⟨.int (a + i * c), ?_, .int _ _⟩
    simp [rangeL, hn, hi]
  · intro i h' st; exact ⟨_, _, st, rfl, by decide⟩
end

section
variable {C : Cx} {A : Around} {s s₀ s₁ s₂ s' : Shared} {F F₀ F' : Fz} {r : Nat}

/-- private objects (unknown to the base) changed -/
theorem Inv.upd (I0 : Inv C s₀) (I : Inv C s) {S : Addr → Prop} (ha : ∀ a, S a → s₀.heap.get? a = none) (hk : ∀ b o, ¬ S b → s.heap.get? b = some o → s'.heap.get? b = some o)
    (hg : s'.gens = s.gens) (ho : s'.os = s.os) (ht : Tp s'.toks) : Inv C s' := by
  have ne : ∀ {b : Addr} {o : Obj}, s₀.heap.get? b = some o → ¬ S b := by intro b o e q; rw [ha b q] at e; cases e
  have nsx : ∀ {b : Addr} {m : Str → Option Value}, s₀.heap.Ns b m → ¬ S b := fun ⟨_, _, _, e, _⟩ => ne e
  refine ⟨I.g.at' fun o e => hk _ o (nsx I0.g) e, I.b.at' fun o e => hk _ o (nsx I0.b) e, I.bi, ?_, ?_, hg ▸ I.gens, ho.trans I.os, ht, fun b o e => ⟨hk _ _ (ne (I0.k b o e).1) (I.k b o e).1, (I.k b o e).2⟩, ?_⟩
  · obtain ⟨mc0, hc0, _⟩ := I0.lim
    obtain ⟨mc, hc, h⟩ := I.lim
    exact ⟨mc, hc.at' fun o e => hk _ o (nsx hc0) e, h⟩
  · obtain ⟨ps0, ⟨_, _, _, _, _, _, _, _, _, _, c1, _, _, _, _, _, _, c2, _⟩, _, _⟩ := I0.tab
    obtain ⟨ps, ⟨o, vs, file, tf, flags, tg, inF, text, tt, op, a1, r1, r2, r3, r4, r5, r6, b1, r⟩, h2, ⟨⟨o', vs', a2, r'⟩, t⟩⟩ := I.tab
    exact ⟨ps, ⟨o, vs, file, tf, flags, tg, inF, text, tt, op, hk _ _ (ne c1) a1, r1, r2, r3, r4, r5, r6, hk _ _ (ne c2) b1, r⟩, hk _ _ (ne c2) h2, ⟨⟨o', vs', hk _ _ (ne c1) a2, r'⟩, hk _ _ (ne c2) t⟩⟩
  · obtain ⟨bm0, ob0, e0, _, _, x0, _⟩ := I0.bm
    obtain ⟨bm, ob, e, h1, h2, h3, h4⟩ := I.bm
    rw [e0] at e; cases e
    exact ⟨bm0, ob, e0, h1, h2, hk _ _ (ne x0) h3, h4⟩

/-- where a run stands, seen from its base -/
structure Bk (C : Cx) (s₀ : Shared) (F₀ : Fz) (s : Shared) (F : Fz) : Prop where
  i0 : Inv C s₀
  inv : Inv C s
  kp : Kp C s₀ s
  fx : Fx C F₀ F s₀ s
theorem Bk.f (B : Bk C s₀ F₀ s F) : FzOk C F s.heap := B.fx.ok
theorem Bk.start (I : Inv C s) (f : FzOk C F s.heap) : Bk C s F s F := ⟨I, I, Kp.refl _ _, Fx.refl f⟩
theorem Bk.go (B : Bk C s₀ F₀ s F) (i : Inv C s') (k : Kp C s s') (x : Fx C F F' s s') : Bk C s₀ F₀ s' F' := ⟨B.i0, i, B.kp.trans k, B.fx.trans x B.kp⟩
theorem Bk.pst {α : Type} {Q : α → Shared → Fz → Prop} {a : α} (B : Bk C s₀ F₀ s F) (h : Pst C s F Q a s') : ∃ F', Bk C s₀ F₀ s' F' ∧ Kp C s s' ∧ Fx C F F' s s' ∧ Q a s' F' :=
  let ⟨i, k, F', x, q⟩ := h; ⟨F', B.go i k x, k, x, q⟩
theorem Bk.upd (B : Bk C s₀ F₀ s F) {S : Addr → Prop} (ha : ∀ a, S a → s₀.heap.get? a = none) (hF : ∀ a o, S a → ¬ F a o) (hk : ∀ b o, ¬ S b → s.heap.get? b = some o → s'.heap.get? b = some o)
    (hg : s'.gens = s.gens) (ho : s'.os = s.os) (ht : Tp s'.toks) : Bk C s₀ F₀ s' F :=
  ⟨B.i0, B.i0.upd B.inv ha hk hg ho ht, fun b o hb e => hk b o (fun q => by rw [ha b q] at e; cases e) (B.kp b o hb e),
    ⟨B.fx.le, B.fx.new, ⟨fun b o e => ⟨hk b o (fun q => hF b o q e) (B.f.at' b o e).1, (B.f.at' b o e).2⟩, B.f.k⟩⟩⟩
theorem Bk.toPst {α : Type} {Q : α → Shared → Fz → Prop} {a : α} (B : Bk C s₀ F₀ s F) (h : Q a s F) : Pst C s₀ F₀ Q a s := ⟨B.inv, B.kp, F, B.fx, h⟩
theorem Inv.freshNe (I : Inv C s) {a : Addr} (ha : s.heap.get? a = none) : a ≠ C.P := by
  rintro rfl; obtain ⟨_, _, e, _⟩ := I.tab; rw [ha] at e; cases e
/-- what is private stays private -/
theorem Fx.priv (x : Fx C F F' s s') {a : Addr} {o : Obj} (h : ∀ o, ¬ F a o) (e : s.heap.get? a = some o) : ∀ o, ¬ F' a o := fun o' e' =>
  (x.new a o' e').elim (h o') fun q => by rw [e] at q; cases q
/-- freezing a private object -/
theorem Bk.freeze (B : Bk C s₀ F₀ s F) {a : Addr} {o : Obj} (ha : s₀.heap.get? a = none) (e : s.heap.get? a = some o) : Bk C s₀ F₀ s (F.add a o) :=
  ⟨B.i0, B.inv, B.kp, ⟨fun b x q => .inl (B.fx.le b x q), fun b x q => q.elim (fun q => B.fx.new b x q) fun ⟨q, _⟩ => .inr (q ▸ ha),
    ⟨fun b x q => q.elim (fun q => B.f.at' b x q) fun ⟨q, w⟩ => by subst q; subst w; exact ⟨e, B.i0.freshNe ha⟩, fun b x q => .inl (B.f.k b x q)⟩⟩⟩

/-! # Comprehensions -/
theorem forIn_fold {α β : Type} {f : α → β → Sem (ForInStep β)} (g : α → β → β) : ∀ (l : List α) (b : β), (∀ x ∈ l, ∀ b, f x b = pure (.yield (g x b))) → forIn l b f = pure (l.foldl (fun b x => g x b) b)
  | [], b, _ => rfl
  | x :: l, b, h => by
    rw [List.forIn_cons, h x List.mem_cons_self, pure_bind]
    exact forIn_fold g l _ fun y hy => h y (List.mem_cons_of_mem _ hy)
def clStep (env : Env) (x : Str × NameKind) (cs : List (Str × Addr)) : List (Str × Addr) := if x.2 == .free then (x.1, (env.cells.lookup x.1).getD 0) :: cs else cs
def clOf (env : Env) (names : List (Str × NameKind)) : List (Str × Addr) := names.foldl (fun cs x => clStep env x cs) []
theorem closureFor_cl {scope : Scope} {env : Env} (h : ∀ x ∈ scope.names, x.2 = .free → ∃ c, env.cells.lookup x.1 = some c) : closureFor scope env = pure (clOf env scope.names) := by
  simp only [closureFor]
  rw [forIn_fold (clStep env)]
  · rfl
  · intro x hx cs
    obtain ⟨n, k⟩ := x
    by_cases hk : k = .free
    · subst hk
      obtain ⟨c, hc⟩ := h _ hx rfl
      dsimp only at hc
      simp [clStep, cellOf, hc]
    · have : (k == NameKind.free) = false := by simpa using hk
      simp [clStep, this]
theorem clOf_lookup (env : Env) (names : List (Str × NameKind)) {x : Str} (hm : (x, NameKind.free) ∈ names) {c : Addr} (hc : env.cells.lookup x = some c) : (clOf env names).lookup x = some c := by
  have key : ∀ (l : List (Str × NameKind)) (cs : List (Str × Addr)), (cs.lookup x = some c ∨ (x, NameKind.free) ∈ l) → (l.foldl (fun cs x => clStep env x cs) cs).lookup x = some c := by
    intro l
    induction l with
    | nil => intro cs h; exact h.elim id fun h => by cases h
    | cons y l ih =>
      intro cs h
      refine ih _ ?_
      obtain ⟨n, k⟩ := y
      by_cases hn : n = x ∧ k = .free
      · obtain ⟨rfl, rfl⟩ := hn
        left
        simp [clStep, hc]
      · rcases h with h | h
        · left
          unfold clStep
          dsimp only
          split
          · rename_i hk
            have hk' : k = .free := by simpa using hk
            have hx : (x == n) = false := by simp; rintro rfl; exact hn ⟨rfl, hk'⟩
            rw [List.lookup_cons, hx]; exact h
          · exact h
        · right
          rcases List.mem_cons.mp h with h | h
          · cases h; exact absurd ⟨rfl, rfl⟩ hn
          · exact h
  exact key names [] (.inr hm)

theorem lookup_relabel {env : Env} : ∀ {names : List (Str × NameKind)} {x : Str} {k : NameKind}, names.lookup x = some k →
    (names.map fun (n, k) => if (k == NameKind.free && env.scope.kind == .function && env.kindOf n == some .cell) then (n, NameKind.cell) else (n, k)).lookup x = some k ∨
    (k = .free ∧ (names.map fun (n, k) => if (k == NameKind.free && env.scope.kind == .function && env.kindOf n == some .cell) then (n, NameKind.cell) else (n, k)).lookup x = some .cell)
  | [], _, _, h => by simp at h
  | (n, k') :: r, x, k, h => by
    have ih := @lookup_relabel env r x k
    cases hx : x == n with
    | true =>
      simp only [List.lookup_cons, hx] at h
      cases h
      simp only [List.map_cons]
      by_cases hc : (k' == NameKind.free && env.scope.kind == .function && env.kindOf n == some .cell) = true
      · right
        rw [if_pos hc]
        simp only [Bool.and_eq_true] at hc
        exact ⟨by simpa using hc.1.1, by simp [List.lookup_cons, hx]⟩
      · left; rw [if_neg hc]; simp [List.lookup_cons, hx]
    | false =>
      simp only [List.lookup_cons, hx] at h
      simp only [List.map_cons]
      by_cases hc : (k' == NameKind.free && env.scope.kind == .function && env.kindOf n == some .cell) = true
      · rw [if_pos hc]; simp only [List.lookup_cons, hx]; exact ih h
      · rw [if_neg hc]; simp only [List.lookup_cons, hx]; exact ih h

/-- the loop of a comprehension, any target -/
theorem compLoop_any {elt target iter : Expr} {ifs : List Expr} {scope : Scope} {pos : Pos} {it acc : Value} {env : Env} {R : Result → Shared → Prop} {prog : Program} {w : World} (I : Nat → Shared → Prop)
    (turn : ∀ n s, I n s → wpAny (model prog w) A (pyNext it) (fun q s₁ => match q with
      | none => R (.ok .next) s₁
      | some v => wpAny (model prog w) A (do letOwnedTupleGo target it v; assign target env v) (fun _ s₂ =>
          wpAny (model prog w) A (forIn ifs true fun c r => if r = true then do let ok ← isTrue c env (eval c env); pure (ForInStep.yield ok) else pure (ForInStep.yield r)) (fun ok s₃ =>
            if ok = true then wpAny (model prog w) A (eval elt env) (fun x s₄ =>
              wpAny (model prog w) A (call (.builtin "list.append") [acc, x]) (fun _ s₅ => ∃ m, m < n ∧ I m s₅) (fun _ _ => False) s₄) (fun _ _ => False) s₃
            else ∃ m, m < n ∧ I m s₃) (fun _ _ => False) s₂) (fun _ _ => False) s₁) (fun _ _ => False) s)
    (n : Nat) (h : I n s) : codeAny (model prog w) A (.compLoop (.ListComp elt [⟨target, iter, ifs, 0⟩] scope pos) 0 it acc env) R s := by
  refine codeAny_loop rfl I (fun n s hI => ?_) n h
  show wpAny _ A ((compTurn (.ListComp elt [⟨target, iter, ifs, 0⟩] scope pos) 0 it acc env).onRaise (fun x => do noteFrame x env; theTreesLotGoes x)) _ _ s
  refine wpAny_noted ?_
  rw [compTurn_list]
  refine wpAny_bind (wpAny_standAt (wpAny_bind (wpAny_mono (turn n s hI) (fun q s₁ h₁ => ?_) fun _ _ e => e.elim)))
  cases q with
  | none => exact wpAny_pure h₁
  | some v =>
    have h₁' := wpAny_mono h₁ (fun _ s₂ h₂ => (wpAny_mono h₂ (fun ok s₃ h₃ => h₃) (E' := notedBy (model prog w) A env fun e s' => R (.error e) s') fun _ _ e => e.elim)) (E' := notedBy (model prog w) A env fun e s' => R (.error e) s') fun _ _ e => e.elim
    have key : ∀ {t : Unit → Sem Fin} {Q : Fin → Shared → Prop} {E : Value → Shared → Prop}, wpAny (model prog w) A ((do letOwnedTupleGo target it v; assign target env v) >>= t) Q E s₁ →
        wpAny (model prog w) A (do letOwnedTupleGo target it v; assign target env v; t ()) Q E s₁ := by
      intro t Q E h; rwa [bind_assoc] at h
    refine key (wpAny_bind (wpAny_mono h₁' (fun _ s₂ h₂ => wpAny_bind (wpAny_mono h₂ (fun ok s₃ h₃ => ?_) fun _ _ e => e)) fun _ _ e => e))
    cases ok with
    | false => exact wpAny_pure ⟨rfl, h₃⟩
    | true =>
      exact wpAny_bind (wpAny_bind (wpAny_mono h₃ (fun x s₄ h₄ => wpAny_bind (wpAny_mono h₄ (fun _ s₅ h₅ => wpAny_pure (wpAny_pure ⟨rfl, h₅⟩)) fun _ _ e => e.elim)) fun _ _ e => e.elim))
end
/-! # object() -/
theorem slot_object_init : Slot "object" "__init__" "object.__init__" :=
  .of (owner := "object") (n := "__init__") (by rw [typeLookup_type, builtinLookup_eq_fast]; kernel_rfl) (by decide +kernel) (by decide +kernel) (by decide +kernel)
    (by first | exact .inl (by decide +kernel) | exact .inr (by decide +kernel)) (by rw [isSubtype_type]; kernel_rfl)
theorem called_object : TypeCalled "object" "object.__new__" "object.__init__" where
  notType := by decide
  canCreate := by decide +kernel
  mro := ⟨.type "object", [], by first | rfl | kernel_rfl⟩
  made := by first | rfl | kernel_rfl
  plain := by decide +kernel
  sub := by rw [isSubtype_type]; kernel_rfl
  init := slot_object_init
theorem typeCall_object : checkTypeCall "object" ⟨[], []⟩ = pure () := by kernel_rfl
theorem newCall_object : checkBuiltinCall "object.__new__" ⟨[.type "object"], []⟩ = pure () := by kernel_rfl
theorem initArgs_object (obj : Value) : argsOk "object.__init__" ⟨[obj], []⟩ := by unfold argsOk; kernel_rfl
theorem madeHere_object : Bind.madeHere "object.__new__" (.type "object") = pure () := by first | rfl | kernel_rfl
theorem meets_object_new : Meets (Builtin.«object.__new__» ⟨[.type "object"], []⟩) (fun _ R s => R (.ok (.ret (.ref s.heap.objs.size))) { s with heap := s.heap.push { cls := .type "object", data := .plain } }) :=
  Meets.of_wp fun prog w A R s hs => by
    obtain ⟨hp, g, d, tk, os⟩ := s
    have f1 := madeHere_object
    unfold Builtin.«object.__new__»
    repeat (any_goals (first | assumption | wp_step))
    exact ⟨_, rfl, hs⟩
theorem meets_object_init (self : Value) : Meets (Builtin.«object.__init__» ⟨[self], []⟩) (fun _ R s => R (.ok (.ret .none)) s) :=
  Meets.of_wp fun prog w A R s hs => wpAny_pure ⟨_, rfl, hs⟩
section
variable {prog : Program} {w : World} {A : Around} {E : Value → Shared → Prop} {s : Shared}
theorem call_object {Q : Value → Shared → Prop} (h : Q (.ref s.heap.objs.size) { s with heap := s.heap.push { cls := .type "object", data := .plain } }) : wpAny (model prog w) A (call (.type "object") []) Q E s :=
  callType_meets called_object typeCall_object newCall_object PySem.F.entry_object_new PySem.F.entry_object_init meets_object_new
    (Q₁ := fun v s' => v = .ref s.heap.objs.size ∧ s' = { s with heap := s.heap.push { cls := .type "object", data := .plain } }) ⟨rfl, rfl⟩ fun obj s₁ ⟨e1, e2⟩ => by
      subst e1; subst e2
      exact ⟨⟨_, Heap.get?_push_size _ rfl, rfl⟩, initArgs_object _, _, meets_object_init _, rfl, h⟩
end

/-! # The variables of a frame -/
def updv (vr : Str → Option Value) (x : Str) (v : Value) : Str → Option Value := fun y => if y = x then some v else vr y
def Priv (env : Env) (own : List Str) (a : Addr) : Prop := a = env.locals ∨ ∃ x ∈ own, env.cells.lookup x = some a
structure Apart (env : Env) (own : List Str) (h0 : Heap) : Prop where
  kind : env.scope.kind = .function
  l : h0.get? env.locals = none
  c : ∀ x ∈ own, env.kindOf x = some .cell ∧ ∃ c, env.cells.lookup x = some c ∧ h0.get? c = none ∧ c ≠ env.locals
  d : ∀ x ∈ own, ∀ y ∈ own, x ≠ y → env.cells.lookup x ≠ env.cells.lookup y
theorem Apart.none {env : Env} {own : List Str} {h0 : Heap} (x : Apart env own h0) : ∀ a, Priv env own a → h0.get? a = none := by
  rintro a (rfl | ⟨y, hy, e⟩)
  · exact x.l
  · obtain ⟨_, c, e', h, _⟩ := x.c y hy
    rw [e] at e'; cases e'; exact h
structure Frm (env : Env) (own : List Str) (h : Heap) (vr : Str → Option Value) : Prop where
  loc : ∃ m, h.Ns env.locals m ∧ ∀ x, env.kindOf x = some .local → m x = vr x
  cel : ∀ x ∈ own, ∃ c, env.cells.lookup x = some c ∧ h.IsCell c (vr x)
theorem Frm.at {env : Env} {own : List Str} {h h' : Heap} {vr : Str → Option Value} (x : Frm env own h vr) (hk : ∀ b o, Priv env own b → h.get? b = some o → h'.get? b = some o) : Frm env own h' vr :=
  ⟨let ⟨m, a, b⟩ := x.loc; ⟨m, a.at' fun o e => hk _ o (.inl rfl) e, b⟩, fun y hy => let ⟨c, e, ⟨o, q, w⟩⟩ := x.cel y hy; ⟨c, e, o, hk _ _ (.inr ⟨y, hy, e⟩) q, w⟩⟩
theorem Frm.rd {env : Env} {own : List Str} {h : Heap} {vr : Str → Option Value} (fr : Frm env own h vr) {x : Str} {v : Value} (hc : ∀ x ∈ own, env.kindOf x = some .cell) (hx : env.kindOf x = some .local ∨ x ∈ own) (e : vr x = some v) : RdAt env h x v := by
  rcases hx with hx | hx
  · obtain ⟨m, a, b⟩ := fr.loc
    exact .inl ⟨hx, m, a, (b x hx).trans e⟩
  · obtain ⟨c, q, w⟩ := fr.cel x hx
    exact .inr ⟨.inl (hc x hx), c, q, e ▸ w⟩
theorem Frm.some {env : Env} {own : List Str} {h : Heap} {vr : Str → Option Value} (fr : Frm env own h vr) {a : Addr} (p : Priv env own a) : ∃ o, h.get? a = some o := by
  rcases p with rfl | ⟨x, hx, e⟩
  · obtain ⟨m, ⟨o, _, _, q, _⟩, _⟩ := fr.loc; exact ⟨o, q⟩
  · obtain ⟨c, q, o, w, _⟩ := fr.cel x hx
    rw [e] at q; cases q; exact ⟨o, w⟩

section
variable {C : Cx} {A : Around} {s s₀ s₁ s₂ s' : Shared} {F F₀ F' : Fz} {r : Nat} {env : Env} {own : List Str} {vr : Str → Option Value}

theorem store_sound {x : Str} {v : Value} {M : Model} {E : Value → Shared → Prop} {h0 : Heap} {Q : Unit → Shared → Prop} (Ap : Apart env own h0) (fr : Frm env own s.heap vr) (hx : env.kindOf x = some .local ∨ x ∈ own)
    (h : ∀ h' k, Tp k → Frm env own h' (updv vr x v) → (∀ b o, ¬ Priv env own b → s.heap.get? b = some o → h'.get? b = some o) → Q () { s with heap := h', toks := k }) (ht : Tp s.toks) : wpAny M A (storeName env x v) Q E s := by
  rcases hx with hx | hx
  · obtain ⟨m, hn, hm⟩ := fr.loc
    refine wpAny_storeName_local hx hn (fun h' hn' hs' => h h' _ trivial ⟨⟨_, hn', fun y hy => ?_⟩, fun y hy => ?_⟩ fun b o hb e => hs'.extBut b o (fun q => hb (.inl q)) e) (by rw [Ap.kind]; rfl)
    · unfold updv; by_cases q : y = x
      · simp [q]
      · simp only [q, if_false]; exact hm y hy
    · obtain ⟨c, e, o, q, w⟩ := fr.cel y hy
      obtain ⟨hk, c', e', _, hne⟩ := Ap.c y hy
      rw [e] at e'; cases e'
      refine ⟨c, e, o, hs'.extBut c o hne q, ?_⟩
      have : y ≠ x := by rintro rfl; rw [hx] at hk; cases hk
      simp only [updv, this, if_false]; exact w
  · obtain ⟨hk, c, hc, _, hne⟩ := Ap.c x hx
    obtain ⟨c', e, w⟩ := fr.cel x hx
    rw [hc] at e; cases e
    refine wpAny_storeName_cell Ap.kind hk hc w fun h' hc' hs' => ?_
    refine h h' _ ht ⟨?_, fun y hy => ?_⟩ fun b o hb e => hs'.extBut b o (fun q => hb (.inr ⟨x, hx, q ▸ hc⟩)) e
    · obtain ⟨m, hn, hm⟩ := fr.loc
      refine ⟨m, hn.sameBut hs' (Ne.symm hne), fun y hy => ?_⟩
      have : y ≠ x := by rintro rfl; rw [hk] at hy; cases hy
      simp only [updv, this, if_false]; exact hm y hy
    · by_cases q : y = x
      · subst q; exact ⟨c, hc, by simpa [updv] using hc'⟩
      · obtain ⟨c2, e2, o, q2, w2⟩ := fr.cel y hy
        refine ⟨c2, e2, o, hs'.extBut c2 o ?_ q2, ?_⟩
        · rintro rfl; exact Ap.d x hx y hy (Ne.symm q) (hc.trans e2.symm)
        · simp only [updv, q, if_false]; exact w2

/-! # Targets -/
def bindp : List Nat → V → Option Ρ
  | [x], d => some [(x, d)]
  | [x, y], .tuple [a, b] => some [(x, a), (y, b)]
  | [x, y], .list [a, b] => some [(x, a), (y, b)]
  | _, _ => none
def isVar (kd : Kd) (x : Nat) : Bool := match kd.lookup x with | some .local => true | some .cell => true | _ => false
inductive Tg (vn : Nm) (kd : Kd) : List Nat → Expr → Prop
  | one {x : Nat} {p : Pos} : isVar kd x = true → Tg vn kd [x] (.Name (vn.vn x) p)
  | two {x y : Nat} {p q pos : Pos} {k : Nat} : isVar kd x = true → isVar kd y = true → vn.vn x ≠ vn.vn y → Tg vn kd [x, y] (.Tuple [.Name (vn.vn x) p, .Name (vn.vn y) q] k pos)
theorem bindp2_inv {x y : Nat} {d : V} {β : Ρ} (h : bindp [x, y] d = some β) : ∃ a b, (d = .tuple [a, b] ∨ d = .list [a, b]) ∧ β = [(x, a), (y, b)] := by
  cases d with
  | tuple l => match l, h with | [a, b], h => exact ⟨a, b, .inl rfl, (Option.some.inj h).symm⟩
  | list l => match l, h with | [a, b], h => exact ⟨a, b, .inr rfl, (Option.some.inj h).symm⟩
  | _ => cases h
/-- the frame after a binding -/
def updβ (vn : Nm) (vr vr' : Str → Option Value) (F : Fz) (β : Ρ) : Prop :=
  (∀ n d, β.lookup n = some d → ∃ v, vr' (vn.vn n) = some v ∧ Rep F v d) ∧ (∀ y, (∀ p ∈ β, vn.vn p.1 ≠ y) → vr' y = vr y)

/-- a list of two unpacked -/
theorem unpack_two {l : Addr} {a b : Value} {Q : List Value → Shared → Prop} {E : Value → Shared → Prop} (hh : A.handled = none) (hl : s.heap.IsList l #[a, b]) (hQ : ∀ h', Heap.ExtBut s.heap.objs.size s.heap h' → Q [a, b] { s with heap := h' }) :
    wpAny (model C.prog C.w) A (unpackItems (.ref l) 2 none) Q E s := by
  have hlt : l ≠ s.heap.objs.size := by obtain ⟨o, ho, _⟩ := hl; exact Nat.ne_of_lt (Heap.lt_size ho)
  unfold unpackItems
  refine wpAny_bind ?_
  unfold notIterableAtAll
  refine wpAny_bind (wpAny_specialOf hl.typeIs slot_list_iter.lookup (wpAny_pure ?_))
  simp only [Bool.false_eq_true, if_false]
  refine wpAny_bind (wpAny_holding (wpAny_pyIter_list hl ?_))
  have hl0 : (s.heap.push { cls := .type "list_iterator", data := .fields #[.ref l, .int 0 0] }).IsList l #[a, b] := hl.at fun o e => Heap.get?_push_of_some _ e
  refine wpAny_bind (wpAny_holding ?_)
  show wpAny _ A (pyNext (.ref s.heap.objs.size) >>= _) _ _ _
  refine wpAny_bind (wpAny_pyNext_list_item (i := 0) ⟨_, Heap.get?_push_size _ rfl, rfl, rfl⟩ hl0 (x := a) rfl fun h1 hit1 hs1 => ?_)
  have hl1 : h1.IsList l #[a, b] := hl0.extBut hs1.extBut hlt
  refine wpAny_bind (wpAny_holding ?_)
  show wpAny _ A (pyNext (.ref s.heap.objs.size) >>= _) _ _ _
  refine wpAny_bind (wpAny_pyNext_list_item (i := 1) hit1 hl1 (x := b) rfl fun h2 hit2 hs2 => ?_)
  have hl2 : h2.IsList l #[a, b] := hl1.extBut hs2.extBut hlt
  refine wpAny_bind (wpAny_holding (wpAny_pure (wpAny_pure (wpAny_pure ?_))))
  refine wpAny_bind (wpAny_holding (wpAny_pyNext_list_end hh hit2 hl2 rfl fun h3 he3 => ?_))
  exact wpAny_pure (hQ h3 fun b o hb e => he3 b o hb (hs2.extBut b o hb (hs1.extBut b o hb (Heap.get?_push_of_some _ e))))
theorem RepL.two {vs : List Value} {d1 d2 : V} (h : RepL F vs [d1, d2]) : ∃ v1 v2, vs = [v1, v2] ∧ Rep F v1 d1 ∧ Rep F v2 d2 := by
  cases h with
  | cons r1 h => cases h with
    | cons r2 h => cases h; exact ⟨_, _, rfl, r1, r2⟩
/-- two targets -/
theorem assign2_go {i j : Str} {p q pos : Pos} {k : Nat} {v : Value} {d1 d2 : V} {Q : Unit → Shared → Prop} {E : Value → Shared → Prop} (hh : A.handled = none) (f : FzOk C F s.heap) (rv : ∃ d, Rep F v d ∧ (d = .tuple [d1, d2] ∨ d = .list [d1, d2]))
    (h : ∀ h' v1 v2, (∀ b o, s.heap.get? b = some o → h'.get? b = some o) → Rep F v1 d1 → Rep F v2 d2 → wpAny (model C.prog C.w) A (storeName env i v1) (fun _ s2 => wpAny (model C.prog C.w) A (storeName env j v2) Q E s2) E { s with heap := h' }) :
    wpAny (model C.prog C.w) A (assign (.Tuple [.Name i p, .Name j q] k pos) env v) Q E s := by
  have up : ∀ {h' : Heap}, Heap.ExtBut s.heap.objs.size s.heap h' → ∀ b o, s.heap.get? b = some o → h'.get? b = some o := fun hx b o e => hx b o (by rintro rfl; rw [get_size] at e; cases e) e
  have go : ∀ {h' : Heap} {v1 v2 : Value}, Heap.ExtBut s.heap.objs.size s.heap h' → Rep F v1 d1 → Rep F v2 d2 → wpAny (model C.prog C.w) A (assignInOrder [fun v => assign (.Name i p) env v, fun v => assign (.Name j q) env v] [v1, v2]) Q E { s with heap := h' } := by
    intro h' v1 v2 hx r1 r2
    show wpAny _ A (do holding _ (assign (.Name i p) env v1); assignInOrder [fun v => assign (.Name j q) env v] [v2]) Q E _
    refine wpAny_bind (wpAny_holding (wpAny_assign_Name (wpAny_mono (h h' v1 v2 (up hx) r1 r2) (fun _ s2 h2 => ?_) fun _ _ e => e)))
    show wpAny _ A (do holding _ (assign (.Name j q) env v2); assignInOrder [] []) Q E _
    exact wpAny_bind (wpAny_holding (wpAny_assign_Name (wpAny_mono h2 (fun _ _ h3 => wpAny_pure h3) fun _ _ e => e)))
  obtain ⟨d, rv, rfl | rfl⟩ := rv
  · obtain ⟨_, vs, _, rfl, ha, la⟩ := rv.tuple_inv
    obtain ⟨v1, v2, rfl, r1, r2⟩ := la.two
    exact wpAny_assign_Tuple hh ⟨_, (f.at' _ _ ha).1, rfl, _, rfl⟩ rfl rfl fun h1 hx1 => go hx1 r1 r2
  · obtain ⟨l, vs, _, rfl, ha, la⟩ := rv.list_inv
    obtain ⟨v1, v2, rfl, r1, r2⟩ := la.two
    show wpAny _ A (do standAt pos; unpack (.ref l) (assignEach [.Name i p, .Name j q] env)) _ _ s
    refine wpAny_bind (wpAny_standAt ?_)
    show wpAny _ A (do assignInOrder [fun v => assign (.Name i p) env v, fun v => assign (.Name j q) env v] (← holding [.ref l] (unpackItems (.ref l) 2 none))) _ _ s
    exact wpAny_bind (wpAny_holding (unpack_two hh (f.isList ha) fun h' hx => go hx r1 r2))
theorem assign_sound {vn : Nm} {kd : Kd} {xs : List Nat} {tg : Expr} {v : Value} {d : V} {β : Ρ} {E : Value → Shared → Prop} {h0 : Heap} {Q : Unit → Shared → Prop} (hh : A.handled = none) (f : FzOk C F s.heap)
    (Ap : Apart env own h0) (fr : Frm env own s.heap vr) (ok : Tg vn kd xs tg) (hv : ∀ x, isVar kd x = true → env.kindOf (vn.vn x) = some .local ∨ vn.vn x ∈ own) (rv : Rep F v d) (hb : bindp xs d = some β)
    (h : ∀ h' k vr', Frm env own h' vr' → updβ vn vr vr' F β → (∀ b o, ¬ Priv env own b → s.heap.get? b = some o → h'.get? b = some o) → Q () { s with heap := h', toks := k }) :
    wpAny (model C.prog C.w) A (assign tg env v) Q E s := by
  have l1 : ∀ {n x : Nat} {d d' : V} {r : Ρ}, ((x, d) :: r).lookup n = some d' → (n = x ∧ d' = d) ∨ r.lookup n = some d' := by
    intro n x d d' r e
    rw [List.lookup_cons] at e
    cases hnx : n == x with
    | true => rw [hnx] at e; exact .inl ⟨by simpa using hnx, (Option.some.inj e).symm⟩
    | false => rw [hnx] at e; exact .inr e
  cases ok with
  | one hx =>
    rename_i x p
    obtain rfl : _ = β := Option.some.inj hb
    refine wpAny_assign_Name (store_sound Ap fr (hv _ hx) (fun h' k hk fr' hkeep => h h' k _ fr' ⟨fun n d' e => ?_, fun y hy => ?_⟩ hkeep) trivial)
    · rcases l1 e with ⟨rfl, rfl⟩ | e
      · exact ⟨v, if_pos rfl, rv⟩
      · cases e
    · exact if_neg fun q => hy (x, d) (.head _) q.symm
  | two hx hy hne =>
    rename_i x y p q pos k
    obtain ⟨a, b, hd, rfl⟩ := bindp2_inv hb
    refine assign2_go hh f ⟨d, rv, hd⟩ fun h1 v1 v2 up1 r1 r2 => ?_
    refine store_sound Ap (fr.at fun b o _ e => up1 b o e) (hv _ hx) (fun h2 k2 _ fr2 kp2 => ?_) trivial
    refine store_sound Ap fr2 (hv _ hy) (fun h3 k3 _ fr3 kp3 => h h3 k3 _ fr3 ⟨fun n d' e => ?_, fun z hz => ?_⟩ fun b o hb e => kp3 b o hb (kp2 b o hb (up1 b o e))) trivial
    · rcases l1 e with ⟨rfl, rfl⟩ | e
      · exact ⟨v1, (if_neg hne).trans (if_pos rfl), r1⟩
      · rcases l1 e with ⟨rfl, rfl⟩ | e
        · exact ⟨v2, if_pos rfl, r2⟩
        · cases e
    · exact (if_neg fun q => hz (y, _) (.tail _ (.head _)) q.symm).trans (if_neg fun q => hz (x, _) (.head _) q.symm)
end

def restr (fr : List Nat) (ρ : Ρ) : Ρ := fr.filterMap fun n => (ρ.lookup n).map (n, ·)
theorem restr_lookup {ρ : Ρ} {n : Nat} {d : V} : ∀ {fr : List Nat}, (restr fr ρ).lookup n = some d → n ∈ fr ∧ ρ.lookup n = some d
  | [], h => by simp [restr] at h
  | k :: fr, h => by
    have ih := @restr_lookup ρ n d fr
    unfold restr at h ih
    rw [List.filterMap_cons] at h
    cases hk : ρ.lookup k with
    | none => rw [hk] at h; exact ⟨.tail _ (ih h).1, (ih h).2⟩
    | some e =>
      rw [hk] at h
      simp only [Option.map_some, List.lookup_cons] at h
      split at h
      · rename_i q
        have : n = k := by simpa using q
        subst this; cases h
        exact ⟨.head _, hk⟩
      · exact ⟨.tail _ (ih h).1, (ih h).2⟩

def compOk (vn : Nm) (kd kd' : Kd) (scope : Scope) (fr : List Nat) : Bool :=
  scope.kind == .function && scope.names.all (fun x => x.2 != .cell && (x.2 != .local || scope.names.lookup x.1 == some .local) && (x.2 != .free || fr.any fun n => vn.vn n == x.1)) &&
  fr.all (fun n => scope.names.contains (vn.vn n, .free) && vn.vn n != "__classdict__" && kd'.lookup n == some .free && (kd.lookup n == some .cell || kd.lookup n == some .free)) &&
  kd'.all fun p => scope.names.lookup (vn.vn p.1) == some p.2
theorem and2 {a b : Bool} (h : (a && b) = true) : a = true ∧ b = true := Bool.and_eq_true_iff.mp h
theorem or2 {a b : Bool} (h : (a || b) = true) : a = true ∨ b = true := Bool.or_eq_true_iff.mp h
theorem lookup_memK {n : Nat} {k : NameKind} : ∀ {kd : Kd}, kd.lookup n = some k → (n, k) ∈ kd
  | (m, k') :: r, h => by
    rw [List.lookup_cons] at h
    cases q : n == m with
    | true => rw [q] at h; cases h; rw [beq_iff_eq.mp q]; exact .head _
    | false => rw [q] at h; exact .tail _ (lookup_memK h)
structure CompOk (vn : Nm) (kd kd' : Kd) (scope : Scope) (fr : List Nat) : Prop where
  kind : scope.kind = .function
  cell : ∀ y ∈ scope.names, y.2 ≠ .cell
  loc : ∀ y ∈ scope.names, y.2 = .local → scope.names.lookup y.1 = some .local
  free : ∀ y ∈ scope.names, y.2 = .free → ∃ n ∈ fr, vn.vn n = y.1
  fr : ∀ n ∈ fr, (vn.vn n, NameKind.free) ∈ scope.names ∧ vn.vn n ≠ "__classdict__" ∧ kd'.lookup n = some .free ∧ (kd.lookup n = some .cell ∨ kd.lookup n = some .free)
  kd' : ∀ n k, kd'.lookup n = some k → scope.names.lookup (vn.vn n) = some k
theorem CompOk.of {vn : Nm} {kd kd' : Kd} {scope : Scope} {fr : List Nat} (h : compOk vn kd kd' scope fr = true) : CompOk vn kd kd' scope fr := by
  have ⟨h, h4⟩ := and2 h
  have ⟨h, h3⟩ := and2 h
  have ⟨h1, h2⟩ := and2 h
  have a := fun y hy => and2 (List.all_eq_true.mp h2 y hy)
  have a1 := fun y hy => and2 (a y hy).1
  refine ⟨beq_iff_eq.mp h1, fun y hy => bne_iff_ne.mp (a1 y hy).1, fun y hy e => ?_, fun y hy e => ?_, fun n hn => ?_, fun n k e => beq_iff_eq.mp (List.all_eq_true.mp h4 (n, k) (lookup_memK e))⟩
  · rcases or2 (a1 y hy).2 with q | q
    · exact absurd e (bne_iff_ne.mp q)
    · exact beq_iff_eq.mp q
  · rcases or2 (a y hy).2 with q | q
    · exact absurd e (bne_iff_ne.mp q)
    · obtain ⟨n, hn, q⟩ := List.any_eq_true.mp q
      exact ⟨n, hn, beq_iff_eq.mp q⟩
  · have ⟨f, f4⟩ := and2 (List.all_eq_true.mp h3 n hn)
    have ⟨f, f3⟩ := and2 f
    have ⟨f1, f2⟩ := and2 f
    exact ⟨List.contains_iff_mem.mp f1, bne_iff_ne.mp f2, beq_iff_eq.mp f3, (or2 f4).imp beq_iff_eq.mp beq_iff_eq.mp⟩

section
variable {C : Cx} {A : Around} {s s₀ s₁ s₂ s' : Shared} {F F₀ F' : Fz} {r : Nat} {env : Env} {vn : Nm} {kd kd' : Kd} {ρ : Ρ}

theorem rd_cell (eo : EnvOk C vn kd env s.heap F ρ) {n : Nat} (hn : kd.lookup n = some .cell ∨ kd.lookup n = some .free) (h : (ρ.lookup n).isSome = true) :
    ∃ c v d, env.cells.lookup (vn.vn n) = some c ∧ s.heap.IsCell c (some v) ∧ ρ.lookup n = some d ∧ Rep F v d := by
  obtain ⟨d, hd⟩ := Option.isSome_iff_exists.mp h
  obtain ⟨v, rd, rv⟩ := eo.rd n d hd
  have hk : env.kindOf (vn.vn n) = some .cell ∨ env.kindOf (vn.vn n) = some .free := by
    rcases hn with hn | hn
    · rcases eo.kd _ _ hn with e | ⟨e, _⟩
      · exact .inl e
      · cases e
    · rcases eo.kd _ _ hn with e | ⟨_, e⟩
      · exact .inr e
      · exact .inl e
  rcases rd with ⟨e, _⟩ | ⟨_, c, hc, hi⟩
  · rw [e] at hk; rcases hk with hk | hk <;> cases hk
  · exact ⟨c, v, d, hc, hi, hd, rv⟩

theorem lookup_mem {n : Nat} {e : V} : ∀ {β : Ρ}, β.lookup n = some e → (n, e) ∈ β
  | [], h => by simp at h
  | (k, d) :: β, h => by
    cases q : n == k with
    | true => simp only [List.lookup_cons, q] at h; cases h; rw [beq_iff_eq.mp q]; exact .head _
    | false => simp only [List.lookup_cons, q] at h; exact .tail _ (lookup_mem h)
theorem bindp_keys {xs : List Nat} {d : V} {β : Ρ} {tg : Expr} (ok : Tg vn kd xs tg) (h : bindp xs d = some β) : β.map Prod.fst = xs ∧ ∀ x ∈ xs, isVar kd x = true := by
  cases ok with
  | one hx =>
    obtain rfl : _ = β := Option.some.inj h
    exact ⟨rfl, fun x hm => (List.mem_singleton.mp hm) ▸ hx⟩
  | two hx hy hne =>
    obtain ⟨a, b, _, rfl⟩ := bindp2_inv h
    refine ⟨rfl, fun x hm => ?_⟩
    rcases List.mem_cons.mp hm with rfl | hm
    · exact hx
    · exact (List.mem_singleton.mp hm) ▸ hy
theorem Tg.quiet {xs : List Nat} {tg : Expr} (hT : Tg vn kd xs tg) {o : Obj} {T : String} {I : Addr} {v : Value} {M : Model} {Q : Unit → Shared → Prop} {E : Value → Shared → Prop} (ho : s.heap.get? I = some o) (hc : o.cls = .type T) (hq : QuietT T = true) (h : Q () s) :
    wpAny M A (letOwnedTupleGo tg (.ref I) v) Q E s := by
  cases hT with
  | one _ => exact wpAny_pure h
  | two _ _ _ => exact quiet_go rfl ho hc hq h
theorem filterMap_take {f : V → Option V} {ds : List V} {i : Nat} {d : V} (h : ds[i]? = some d) : (ds.take (i + 1)).filterMap f = (ds.take i).filterMap f ++ (f d).toList := by
  rw [List.take_add_one, h, List.filterMap_append]
  cases hf : f d <;> simp [hf]

/-- the turns of a comprehension: its frame, with cells of its own or without -/
theorem of_hid {P : Prop} (h : ∀ G : Prop, (P → G) → G) : P := h P id
theorem comp_loop {elt iter tg : Expr} {ifs : List Expr} {scope : Scope} {pos : Pos} {xs : List Nat} {f : V → Option V} {h0 h2 : Heap} {I D : Addr} {fp : List Addr} {n : Nat} {P : Nat → Value → Prop} {St : Nat → Heap → Prop} {ds : List V}
    {cenv : Env} {own : List Str} {vr0 : Str → Option Value} {s₃ : Shared} {RR : Result → Shared → Prop}
    (R : Room r A) (B3 : Bk C s₀ F₀ s₃ F) (it : ItOk C h0 F h2 I fp n P St ds) (hst0 : St 0 s₃.heap) (hI : s₀.heap.get? I = none)
    (hApart : Apart cenv own s₀.heap) (hfr0 : Frm cenv own s₃.heap vr0) (hT : Tg vn kd' xs tg) (hvar : ∀ x, isVar kd' x = true → cenv.kindOf (vn.vn x) = some .local ∨ vn.vn x ∈ own)
    (hp : ∀ a, Priv cenv own a → (∀ o, ¬ F a o) ∧ a ≠ I ∧ a ≠ D) (hD0 : s₀.heap.get? D = none) (hDI : D ≠ I) (hD3 : s₃.heap.get? D = some (lstObj [] 0)) (fD : ∀ o, ¬ F D o) (hd : ∀ d ∈ ds, (bindp xs d).isSome = true)
    (body : ∀ s' F' vr β d, d ∈ ds → bindp xs d = some β → Bk C s₀ F₀ s' F' → Frm cenv own s'.heap vr → (∀ n d, β.lookup n = some d → ∃ v, vr (vn.vn n) = some v ∧ Rep F' v d) →
      wpAny (model C.prog C.w) A (forIn ifs true fun c r => if r = true then do let ok ← isTrue c cenv (eval c cenv); pure (ForInStep.yield ok) else pure (ForInStep.yield r))
        (Pst C s' F' fun ok s'' F'' => if ok = true then TrV C A (eval elt cenv) s'' F'' (fun q => f d = some q) else f d = none) (fun _ _ => False) s')
    (hR : ∀ s5 F5 vs k m, Bk C s₀ F₀ s5 F5 → s5.heap.get? D = some (lstObj vs k) → (∀ o, ¬ F5 D o) → (∀ o, ¬ F5 cenv.locals o) → s5.heap.Ns cenv.locals m → RepL F5 vs (ds.filterMap f) → RR (.ok .next) s5) :
    codeAny (model C.prog C.w) A (.compLoop (.ListComp elt [⟨tg, iter, ifs, 0⟩] scope pos) 0 (.ref I) (.ref D) cenv) RR s₃ := by
  have hnP : ∀ {a : Addr}, s₀.heap.get? a = none → a ≠ C.P := fun {a} e => B3.i0.freshNe e
  have pnP : ∀ {a : Addr}, Priv cenv own a → a ≠ C.P := fun p => hnP (hApart.none _ p)
  obtain ⟨J, hJ⟩ : ∃ J : Nat → Shared → Prop, ∀ k s', J k s' ↔ ∃ i F' vs cnt vr, Bk C s₀ F₀ s' F' ∧ i ≤ n ∧ k = n + 1 - i ∧ St i s'.heap ∧ s'.heap.get? D = some (lstObj vs cnt) ∧ (∀ o, ¬ F' D o) ∧ (∀ a, Priv cenv own a → ∀ o, ¬ F' a o) ∧ (∀ o, ¬ F' I o) ∧
    Frm cenv own s'.heap vr ∧ RepL F' vs ((ds.take i).filterMap f) ∧ (∀ a o, F a o → F' a o) := ⟨_, fun _ _ => Iff.rfl⟩
  refine compLoop_any J ?_ (n + 1) ((hJ _ _).mpr ⟨0, F, [], 0, _, B3, Nat.zero_le _, rfl, hst0, hD3, fD, fun a pa => (hp a pa).1, it.nf, hfr0, .nil, fun _ _ e => e⟩)
  intro k s' hall
  refine of_hid fun G hG => ?_
  obtain ⟨i, F', vs, cnt, vr, B, hi, rfl, hst, hD, fD, fL, fI, hfrm, hrep, hFF⟩ := (hJ _ _).mp hall
  refine hG ?_
  have prI : ∀ {b : Addr}, Priv cenv own b → b ∉ [I] := fun pb q => (hp _ pb).2.1 (by simpa using q)
  by_cases hlt : i < n
  · refine wpAny_with_toks (n := 0) (Nat.zero_le _) (wpAny_mono ((it.W A R.handled).item i _ (fun q s₁ => 0 ≤ s₁.toks → _) (fun _ _ => False) hlt hst fun v h' tk hPv hst' hk' => ?_) (fun _ _ e => e) fun _ _ e => e.elim)
    intro _; have htk : True := trivial
    refine of_hid fun G hG => ?_
    obtain ⟨d, hdi, rd⟩ := it.val i v hPv
    have hdm : d ∈ ds := List.mem_of_getElem? hdi
    obtain ⟨β, hβ⟩ := Option.isSome_iff_exists.mp (hd d hdm)
    obtain ⟨oI, TI, hIo, hIc, hIq⟩ := it.quiet _ _ hst'
    refine hG ?_
    have Ba : Bk C s₀ F₀ { s' with heap := h', toks := tk } F' := B.upd (S := fun a => a = I) (by rintro a rfl; exact hI) (by rintro a o rfl; exact fI o) (fun b o hb e => hk' b o (by simpa using hb) e) rfl rfl htk
    have hfrm' : Frm cenv own h' vr := hfrm.at fun b o hb e => hk' b o (prI hb) e
    have hD' : h'.get? D = some (lstObj vs cnt) := hk' D _ (by simpa using hDI) hD
    -- the target
    refine wpAny_bind (hT.quiet hIo hIc hIq (assign_sound R.handled Ba.f hApart hfrm' hT hvar (rd.mono hFF) hβ fun h2 k2 vr2 fr2 up2 kp2 => ?_))
    have Bb : Bk C s₀ F₀ { s' with heap := h2, toks := k2 } F' := Ba.upd (s' := { s' with heap := h2, toks := k2 }) (S := Priv cenv own) (fun a pa => hApart.none a pa) (fun a o pa => fL a pa o) (fun b o hb e => kp2 b o hb e) rfl rfl trivial
    have hst2 : St (i + 1) h2 := (it.W A R.handled).frame _ _ _ hst' fun b hb o e => kp2 b o (fun pb => by
      rcases it.fp b hb with q | ⟨o', q⟩
      · exact (hp b pb).2.1 q
      · exact (hp b pb).1 o' q) e
    have hD2 : h2.get? D = some (lstObj vs cnt) := kp2 D _ (fun pb => (hp D pb).2.2 rfl) hD'
    refine wpAny_mono (body { s' with heap := h2, toks := k2 } F' vr2 β d hdm hβ Bb fr2 up2.1) (fun ok s3 hps => ?_) fun _ _ e => e
    refine of_hid fun G hG => ?_
    obtain ⟨F3, B3', kp3, fx3, hq⟩ := Bb.pst hps
    obtain ⟨oI2, _, hoI, _, _⟩ := it.quiet _ _ hst2
    refine hG ?_
    have hPD := hnP hD0
    have hPI := hnP hI
    have hD3 : s3.heap.get? D = some (lstObj vs cnt) := kp3 D _ hPD hD2
    have hst3 : ∀ {sx sy : Shared}, Kp C sx sy → St (i + 1) sx.heap → St (i + 1) sy.heap := fun {sx sy} kp st => (it.W A R.handled).frame _ _ _ st fun b hb o e => kp b o (by
      rcases it.fp b hb with rfl | ⟨o', q⟩
      · exact hPI
      · exact (B3.f.at' _ _ q).2) e
    have hfr3 : ∀ {sx sy : Shared} {vr}, Kp C sx sy → Frm cenv own sx.heap vr → Frm cenv own sy.heap vr := fun kp f => f.at fun b o hb e => kp b o (pnP hb) e
    have fD3 := fx3.priv fD hD2
    have fL3 : ∀ a, Priv cenv own a → ∀ o, ¬ F3 a o := fun a pa => let ⟨_, ho⟩ := fr2.some pa; fx3.priv (fL a pa) ho
    have fI3 := fx3.priv fI hoI
    have hFF3 : ∀ a o, F a o → F3 a o := fun a o e => fx3.le a o (hFF a o e)
    cases ok with
    | false =>
      simp only [Bool.false_eq_true, if_false] at hq ⊢
      refine ⟨n + 1 - (i + 1), by lia, (hJ _ _).mpr ⟨i + 1, F3, vs, cnt, vr2, B3', hlt, rfl, hst3 kp3 hst2, hD3, fD3, fL3, fI3, hfr3 kp3 fr2, ?_, hFF3⟩⟩
      rw [filterMap_take hdi, hq]
      simpa using hrep.mono fx3.le
    | true =>
      simp only [if_true] at hq ⊢
      refine wpAny_mono hq (fun y s4 hp4 => ?_) fun _ _ e => e
      refine of_hid fun G hG => ?_
      obtain ⟨F4, B4, kp4, fx4, e, re, he⟩ := B3'.pst hp4
      obtain ⟨oI3, _, hoI3, _, _⟩ := it.quiet _ _ (hst3 kp3 hst2)
      refine hG ?_
      have hD4 : s4.heap.get? D = some (lstObj vs cnt) := kp4 D _ hPD hD3
      have hlen := hrep.length
      have hle : ((ds.take i).filterMap f).length ≤ n := Nat.le_trans (List.length_filterMap_le _ _) (by rw [List.length_take]; lia)
      refine wpAny_list_append_plain (items := vs.toArray) (hsz := by rw [List.size_toArray, hlen]; exact Nat.le_trans hle it.sz) ⟨cnt, hD4⟩ fun h5 hl5 hs5 => ?_
      obtain ⟨cnt5, hD5⟩ := hl5
      have hfr4 := hfr3 kp3 fr2
      have fD4 := fx4.priv fD3 hD3
      refine ⟨n + 1 - (i + 1), by lia, (hJ _ _).mpr ⟨i + 1, F4, vs ++ [y], cnt5, vr2, B4.upd (S := fun a => a = D) (by rintro a rfl; exact hD0) (by rintro a o rfl; exact fD4 o) (fun b o hb e => hs5.extBut b o hb e) rfl rfl B4.inv.tk, hlt, rfl, ?_, ?_, fD4, fun a pa => let ⟨_, ho⟩ := hfr4.some pa; fx4.priv (fL3 a pa) ho, fx4.priv fI3 hoI3, ?_, ?_, fun a o e => fx4.le a o (hFF3 a o e)⟩⟩
      · exact (it.W A R.handled).frame _ _ _ (hst3 kp4 (hst3 kp3 hst2)) fun b hb o e => hs5.extBut b o (by
          rintro rfl
          rcases it.fp b hb with q | ⟨o', q⟩
          · exact hDI q
          · exact fD4 o' (fx4.le _ _ (hFF3 _ _ q))) e
      · rw [hD5]; simp [lstObj]
      · exact (hfr3 kp4 hfr4).at fun b o hb e => hs5.extBut b o (hp b hb).2.2 e
      · rw [filterMap_take hdi, he]
        exact ((hrep.mono fx3.le).mono fx4.le).append (.cons re .nil)
  · have hin : i = n := by lia
    subst hin
    refine wpAny_with_toks (n := 0) (Nat.zero_le _) (wpAny_mono ((it.W A R.handled).done _ (fun q s₁ => 0 ≤ s₁.toks → _) (fun _ _ => False) hst fun h' tk hk' => ?_) (fun _ _ e => e) fun _ _ e => e.elim)
    intro _; have htk : True := trivial
    obtain ⟨m, hm, _⟩ := hfrm.loc
    refine hR _ F' vs cnt m (B.upd (s' := { s' with heap := h', toks := tk }) (S := fun a => a = I) (by rintro a rfl; exact hI) (by rintro a o rfl; exact fI o) (fun b o hb e => hk' b o (by simpa using hb) e) rfl rfl htk)
      (hk' D _ (by simpa using hDI) hD) fD (fL _ (.inl rfl)) (hm.at' fun o e => hk' _ o (prI (.inl rfl)) e) ?_
    rwa [List.take_of_length_le (Nat.le_of_eq it.len)] at hrep

/-- what the frame of a comprehension gives -/
theorem comp_env {scope : Scope} {fr xs : List Nat} {tg : Expr} {d : V} {β : Ρ} {cenv : Env} {own : List Str} {vr : Str → Option Value} {cl : List (Str × Addr)} {L : Addr}
    (hce : cenv = { compEnvC scope cl L env with cells := cl }) (hown : ∀ y ∈ own, cenv.kindOf y = some .cell) (hcl : ∀ m ∈ fr, ∀ c, (clOf env scope.names).lookup (vn.vn m) = some c → cl.lookup (vn.vn m) = some c)
    (eo : EnvOk C vn kd env s.heap F ρ) (hkind : scope.kind = .function) (hkd : ∀ n k, kd'.lookup n = some k → scope.names.lookup (vn.vn n) = some k)
    (hf : ∀ n ∈ fr, (vn.vn n, NameKind.free) ∈ scope.names ∧ vn.vn n ≠ "__classdict__" ∧ kd'.lookup n = some .free ∧ (kd.lookup n = some .cell ∨ kd.lookup n = some .free)) (hfr : ∀ n ∈ fr, (ρ.lookup n).isSome = true)
    (hec : ∀ scope cl L env, vn.ec env → vn.ec (compEnvC scope cl L env)) (hT : Tg vn kd' xs tg) (hβ : bindp xs d = some β) (hvar : ∀ x, isVar kd' x = true → cenv.kindOf (vn.vn x) = some .local ∨ vn.vn x ∈ own)
    (hfrm : Frm cenv own s.heap vr) (hu : ∀ n d, β.lookup n = some d → ∃ v, vr (vn.vn n) = some v ∧ Rep F v d) : EnvOk C vn kd' cenv s.heap F (β ++ restr fr ρ) := by
  subst hce
  refine ⟨hkind, eo.glob, eo.bi, fun n k hx => lookup_relabel (hkd n k hx), hec _ cl L _ eo.ec, fun m e he => ?_⟩
  rw [List.lookup_append] at he
  cases hb : β.lookup m with
  | some e' =>
    rw [hb] at he
    simp only [Option.some_or, Option.some.injEq] at he
    subst he
    obtain ⟨u, hu, ru⟩ := hu m e' hb
    exact ⟨u, hfrm.rd hown (hvar _ ((bindp_keys hT hβ).2 _ ((bindp_keys hT hβ).1 ▸ List.mem_map_of_mem (f := Prod.fst) (lookup_mem hb)))) hu, ru⟩
  | none =>
    rw [hb, Option.none_or] at he
    obtain ⟨hm, hl⟩ := restr_lookup he
    obtain ⟨h1, h3, h2', h4⟩ := hf m hm
    obtain ⟨c, u, e', hc, hi', he', ru⟩ := rd_cell eo h4 (hfr m hm)
    rw [hl] at he'; cases he'
    refine ⟨u, .inr ⟨?_, c, hcl m hm c (clOf_lookup env scope.names h1 hc), hi'⟩, ru⟩
    rcases lookup_relabel (env := env) (hkd _ _ h2') with q | ⟨_, q⟩
    · exact .inr ⟨q, by simpa using h3⟩
    · exact .inl q

theorem comp_core {elt iter tg : Expr} {ifs : List Expr} {scope : Scope} {pos : Pos} {xs fr : List Nat} {f : V → Option V} {E : Value → Shared → Prop} {h0 : Heap} {I : Addr} {fp : List Addr} {n : Nat} {P : Nat → Value → Prop} {St : Nat → Heap → Prop} {ds : List V}
    {RR : Value → Addr → Result → Shared → Prop}
    (R : Room r A) (B2 : Bk C s₀ F₀ s₂ F) (eo : EnvOk C vn kd env s₀.heap F₀ ρ) (it : ItOk C h0 F s₂.heap I fp n P St ds) (hI : s₀.heap.get? I = none)
    (ck : CompOk vn kd kd' scope fr) (hT : Tg vn kd' xs tg) (hfr : ∀ n ∈ fr, (ρ.lookup n).isSome = true) (hd : ∀ d ∈ ds, (bindp xs d).isSome = true) (hec : ∀ scope cl L env, vn.ec env → vn.ec (compEnvC scope cl L env))
    (body : ∀ L s' F' β d, d ∈ ds → bindp xs d = some β → Inv C s' → FzOk C F' s'.heap → EnvOk C vn kd' (compEnvC scope (clOf env scope.names) L env) s'.heap F' (β ++ restr fr ρ) →
      wpAny (model C.prog C.w) A (forIn ifs true fun c r => if r = true then do let ok ← isTrue c (compEnvC scope (clOf env scope.names) L env) (eval c (compEnvC scope (clOf env scope.names) L env)); pure (ForInStep.yield ok) else pure (ForInStep.yield r))
        (Pst C s' F' fun ok s'' F'' => if ok = true then TrV C A (eval elt (compEnvC scope (clOf env scope.names) L env)) s'' F'' (fun q => f d = some q) else f d = none) (fun _ _ => False) s')
    (hR : ∀ D L s5 F5 vs k m, Bk C s₀ F₀ s5 F5 → s₀.heap.get? D = none → s₀.heap.get? L = none → D ≠ L → s5.heap.get? D = some (lstObj vs k) → (∀ o, ¬ F5 D o) → (∀ o, ¬ F5 L o) → s5.heap.Ns L m → RepL F5 vs (ds.filterMap f) →
      RR (.ref D) L (.ok .next) s5) :
    wpAny (model C.prog C.w) A (newList []) (fun acc s₃ => wpAny (model C.prog C.w) A (newFunctionEnv scope env.globals (clOf env scope.names) [] env.qual none .none (some env)) (fun cenv s₄ =>
      codeAny (model C.prog C.w) A (.compStart (.ListComp elt [⟨tg, iter, ifs, 0⟩] scope pos) 0 (.ref I) acc { cenv with scope := relabel scope env }) (RR acc cenv.locals) s₄) E s₃) E s₂ := by
  have hcell := ck.cell
  refine wpAny_newObj_type (wpAny_newFunctionEnv hcell (by intro y hy; simp at hy) (fun h₁ hns₁ hsb₁ => ?_) ck.kind)
  dsimp only at hns₁ hsb₁ ⊢
  generalize hH2 : s₂.heap.push { cls := .type "list", dict := none, data := .seq ([] : List Value).toArray } = H2 at hns₁ hsb₁ ⊢
  generalize hL : H2.objs.size = L at hns₁ hsb₁ ⊢
  generalize hDD : s₂.heap.objs.size = D at ⊢
  have hDnone : s₂.heap.get? D = none := hDD ▸ get_size _
  have hLsz : L = D + 1 := by rw [← hL, ← hH2, Heap.size_push, hDD]
  have hDL : D ≠ L := by rw [hLsz]; exact Nat.ne_of_lt (Nat.lt_succ_self _)
  have hLnone : s₂.heap.get? L = none := by
    cases e : s₂.heap.get? L with
    | none => rfl
    | some o => have := Heap.lt_size e; rw [hDD, hLsz] at this; exact absurd this (Nat.not_lt.mpr (Nat.le_succ _))
  have up1 : ∀ b o, s₂.heap.get? b = some o → h₁.get? b = some o := fun b o e => hsb₁.extBut b o (by rintro rfl; rw [hLnone] at e; cases e) (Heap.get?_push_of_some _ (hH2 ▸ Heap.get?_push_of_some _ e))
  have hD1 : h₁.get? D = some (lstObj [] 0) := hsb₁.extBut _ _ hDL (Heap.get?_push_of_some _ (hH2 ▸ hDD ▸ Heap.get?_push_size _ rfl))
  have hs0 : ∀ {a : Addr}, s₂.heap.get? a = none → s₀.heap.get? a = none := fun {a} e => Kp.none B2.kp (B2.inv.freshNe e) e
  have nF2 : ∀ {a : Addr}, s₂.heap.get? a = none → ∀ o, ¬ F a o := fun {a} e o q => by rw [(B2.f.at' _ _ q).1] at e; cases e
  have hApart : Apart (compEnvC scope (clOf env scope.names) L env) [] s₀.heap := ⟨ck.kind, hs0 hLnone, (fun _ h => by cases h), (fun _ h => by cases h)⟩
  have hvar : ∀ x, isVar kd' x = true → (compEnvC scope (clOf env scope.names) L env).kindOf (vn.vn x) = some .local ∨ vn.vn x ∈ ([] : List Str) := fun x hx => by
    unfold isVar at hx
    split at hx
    · exact .inl (lookup_relabel_local (ck.kd' _ _ ‹_›))
    · exact absurd rfl (hcell _ (PySem.mem_of_lookup (ck.kd' _ _ ‹_›)))
    · cases hx
  have nI : ∀ {a : Addr}, s₂.heap.get? a = none → a ≠ I := fun {a} e q => by
    obtain ⟨o, T, q1, _, _⟩ := it.quiet 0 _ it.st
    rw [← q, e] at q1; cases q1
  have hst0 : St 0 h₁ := (it.W A R.handled).frame _ _ _ it.st fun b _ o e => up1 b o e
  have loop : codeAny (model C.prog C.w) A (.compLoop (.ListComp elt [⟨tg, iter, ifs, 0⟩] scope pos) 0 (.ref I) (.ref D) (compEnvC scope (clOf env scope.names) L env)) (RR (.ref D) L) { s₂ with heap := h₁, toks := s₂.toks + ([] : List (Str × Value)).length } := by
    refine comp_loop (own := []) (vr0 := fun _ => none) R (B2.upd (S := fun _ => False) (fun _ h => h.elim) (fun _ _ h => h.elim) (fun b o _ e => up1 b o e) rfl rfl B2.inv.tk) it hst0 hI hApart ⟨⟨_, hns₁, fun _ _ => rfl⟩, (fun _ h => by cases h)⟩ hT hvar
      (fun a pa => ?_) (hs0 hDnone) (nI hDnone) hD1 (nF2 hDnone) hd (fun s' F' vr β d hdm hβ B hfrm hu => ?_) fun s5 F5 vs k m B5 e5 nD nL hn rl => hR D L s5 F5 vs k m B5 (hs0 hDnone) (hs0 hLnone) hDL e5 nD nL hn rl
    · rcases pa with rfl | ⟨_, h, _⟩
      · exact ⟨nF2 hLnone, nI hLnone, Ne.symm hDL⟩
      · cases h
    · exact body L s' F' β d hdm hβ B.inv B.f (comp_env (own := []) (cl := clOf env scope.names) (L := L) rfl (fun _ h => by cases h) (fun _ _ _ e => e) (eo.kp B.i0 B.kp B.fx) ck.kind ck.kd' ck.fr hfr hec hT hβ hvar hfrm hu)
  exact codeAny_compStart_list loop ((it.W A R.handled).self 0 _ _ _ hst0 loop)
end

/-! # find and replace, one sign sought -/
/-- the first place from i on, below j, where c stands -/
def findw (c : Nat) (l : List Nat) (i j : Nat) : Option Nat := (List.range' i (j - i)).find? fun k => l[k]? == some c
def findi (c : Nat) (l : List Nat) (i j : Nat) : Int := match findw c l i j with | some k => (k : Int) | none => -1

theorem occ_find (x : Str) (c i j : Nat) (hj : j ≤ x.length) : (match Builtin.Str.occurrences x ⟨#[c]⟩ i j 1 with | k :: _ => (k : Int) | [] => -1) = findi c x.cps.toList i j := by
  have at' : ∀ k, StrLaws.At x ⟨#[c]⟩ j k ↔ k < j ∧ x.cps.toList[k]? = some c := by
    intro k
    constructor
    · intro h
      have h1 := h.1
      have e1 : (⟨#[c]⟩ : Str).length = 1 := rfl
      exact ⟨by lia, (StrLaws.subAt_one x c k).mp ⟨by lia, h.2⟩⟩
    · intro ⟨h1, h2⟩
      have e1 : (⟨#[c]⟩ : Str).length = 1 := rfl
      exact ⟨by lia, ((StrLaws.subAt_one x c k).mpr h2).2⟩
  rw [StrLaws.occ_eq]
  unfold findi findw
  rcases StrLaws.occ_first x ⟨#[c]⟩ j 1 (Nat.le_refl 1) (List.range' i (j + 1 - i)) i (fun k hk => by have := List.mem_range'_1.mp hk; lia) with ⟨h0, hn⟩ | ⟨pre, a, post, e, h0, ha, hn⟩
  · rw [h0]
    have : (List.range' i (j - i)).find? (fun k => x.cps.toList[k]? == some c) = none := by
      rw [List.find?_eq_none]
      intro k hk he
      have hk' := List.mem_range'_1.mp hk
      exact hn k (List.mem_range'_1.mpr (by lia)) ((at' k).mpr ⟨by lia, by simpa using he⟩)
    rw [this]
  · have hs := StrLaws.range'_split_from e
    have h2 := (at' a).mp ha
    generalize (forIn (List.range' i (j + 1 - i)) ((#[] : Array Nat), i) (StrLaws.occBody x ⟨#[c]⟩ j 1)).run.fst = arr at h0
    have h1 : arr.toList[0]? = some a := by simpa using h0
    have hf : (List.range' i (j - i)).find? (fun k => x.cps.toList[k]? == some c) = some a := by
      have e2 : List.range' i (j - i) = List.range' i (a - i) ++ a :: List.range' (a + 1) (j - a - 1) := by
        have : j - i = (a - i) + (1 + (j - a - 1)) := by lia
        rw [this, ← List.range'_append_1, ← List.range'_append_1]
        have : i + (a - i) = a := by lia
        rw [this]; rfl
      rw [e2, List.find?_append]
      have : (List.range' i (a - i)).find? (fun k => x.cps.toList[k]? == some c) = none := by
        rw [List.find?_eq_none]
        intro k hk he
        have hk' := List.mem_range'_1.mp hk
        exact hn k (hs.2 k (by lia) (by lia)) ((at' k).mpr ⟨by lia, by simpa using he⟩)
      rw [this, List.find?_cons]
      have : (x.cps.toList[a]? == some c) = true := by rw [h2.2]; simp
      simp only [this]; rfl
    rw [hf]
    cases hL : arr.toList with
    | nil => rw [hL] at h1; cases h1
    | cons b t => rw [hL] at h1; simp at h1; rw [h1]

theorem gives_find4 (x y : Str) (i j : Nat) (t u v v' : Tok) (hj : j ≤ x.length) : Gives (Builtin.«str.find» ⟨[.str x t, .str y u, .int i v, .int j v'], []⟩) (.int (match Builtin.Str.occurrences x y i j 1 with | k :: _ => (k : Int) | [] => -1)) := by
  show Gives (match Builtin.Str.occurrences x y (max 0 (if (i : Int) < 0 then (i : Int) + x.length else i)).toNat (min (max 0 (if (j : Int) < 0 then (j : Int) + x.length else j)).toNat x.length) 1 with | k :: _ => retInt k | [] => (do rule "str.find.not-found"; retInt (-1))) _
  have e1 : (max 0 (if (i : Int) < 0 then (i : Int) + x.length else i)).toNat = i := by lia
  have e2 : (min (max 0 (if (j : Int) < 0 then (j : Int) + x.length else j)).toNat x.length) = j := by lia
  rw [e1, e2]
  cases Builtin.Str.occurrences x y i j 1 with
  | nil => exact .rule (.of_eq rfl)
  | cons k _ => exact .of_eq rfl

theorem call_find {prog : Program} {w : World} {A : Around} {E : Value → Shared → Prop} {s : Shared} {l : List Nat} {c i j : Nat} {t u v v' : Tok} {Q : Value → Shared → Prop} (hj : j ≤ l.length)
    (hq : Q (.int (findi c l i j) s.toks) { s with toks := s.toks + 1 }) : wpAny (model prog w) A (call (.builtin "str.find") [.str (mkS l) t, .str (mkS [c]) u, .int i v, .int j v']) Q E s := by
  have hj' : j ≤ (mkS l).length := by rw [mkS_length]; exact hj
  refine call_gives F.slot_str_find (typeIs_str _ _ _) F.entry_str_find (F.args_str_find_4 _ _ _ _) (gives_find4 (mkS l) (mkS [c]) i j t u v v' hj') ?_
  have := occ_find (mkS l) c i j hj'
  rw [show (mkS [c]) = ⟨#[c]⟩ from rfl, this]
  exact hq

def replw (c : Nat) (z l : List Nat) : List Nat := l.flatMap fun d => if d = c then z else [d]
theorem replw_append (c : Nat) (z a b : List Nat) : replw c z (a ++ b) = replw c z a ++ replw c z b := by simp [replw]
theorem replw_free {c : Nat} {z : List Nat} : ∀ {l : List Nat}, c ∉ l → replw c z l = l
  | [], _ => rfl
  | k :: r, h => by
    have h1 : ¬ k = c := fun e => h (e ▸ List.mem_cons_self ..)
    have ih := replw_free (c := c) (z := z) fun m => h (List.mem_cons_of_mem _ m)
    show (if k = c then z else [k]) ++ replw c z r = _
    rw [if_neg h1, ih]; rfl
theorem replw_join (c : Nat) (z : Str) : ∀ parts : List Str, (∀ p ∈ parts, c ∉ p.cps.toList) → replw c z.cps.toList (Str.join ⟨#[c]⟩ parts).cps.toList = (Str.join z parts).cps.toList
  | [], _ => rfl
  | [p], h => replw_free (h p (List.mem_singleton.mpr rfl))
  | p :: q :: r, h => by
    have ih := replw_join c z (q :: r) fun a ha => h a (List.mem_cons_of_mem _ ha)
    show replw c z.cps.toList (p ++ ⟨#[c]⟩ ++ Str.join ⟨#[c]⟩ (q :: r)).cps.toList = (p ++ z ++ Str.join z (q :: r)).cps.toList
    simp only [Str.cps_append, Array.toList_append]
    rw [replw_append, replw_append, ih, replw_free (h p (List.mem_cons_self ..))]
    show p.cps.toList ++ replw c z.cps.toList [c] ++ _ = _
    have : replw c z.cps.toList [c] = z.cps.toList := by simp [replw]
    rw [this]
theorem replace_eq (l z : List Nat) (c : Nat) : Txt.replace (mkS l) (mkS [c]) (mkS z) = mkS (replw c z l) := by
  have h := replw_join c (mkS z) _ (StrLaws.split_free (mkS l) c)
  have e : (⟨#[c]⟩ : Str) = mkS [c] := rfl
  rw [e, ← show (⟨#[c]⟩ : Str) = mkS [c] from rfl, StrLaws.join_split, ← StrLaws.replace_one] at h
  have h' : replw c z l = (Txt.replace (mkS l) (mkS [c]) (mkS z)).cps.toList := h
  rw [h', mkS_toList]
theorem call_repl {prog : Program} {w : World} {A : Around} {E : Value → Shared → Prop} {s : Shared} {l z : List Nat} {c : Nat} {t u v : Tok} {Q : Value → Shared → Prop} (hu : u ≠ 0) (hv : v ≠ 0) (huv : u ≠ v) (hyz : [c] ≠ z) (hl : l.length ≤ 1000000) (hz : z.length ≤ 14)
    (hq : ∀ t' k, Q (.str (mkS (replw c z l)) t') { s with toks := k }) : wpAny (model prog w) A (call (.builtin "str.replace") [.str (mkS l) t, .str (mkS [c]) u, .str (mkS z) v]) Q E s := by
  refine SC.replaceW hu hv huv (by simpa [mkS_inj] using hyz) (by rw [mkS_length]; lia) (by rw [mkS_length]; exact hz) fun t' k => ?_
  rw [replace_eq]; exact hq t' k
theorem occ_none {c : Nat} {l : List Nat} (h : c ∉ l) : (Builtin.Str.occurrences (mkS l) (mkS [c]) 0 (mkS l).length ((mkS l).length + 1)).isEmpty = true := by
  rw [StrLaws.occ_eq]
  rcases StrLaws.occ_first (mkS l) (mkS [c]) (mkS l).length ((mkS l).length + 1) (by lia) (List.range' 0 ((mkS l).length + 1 - 0)) 0 (fun k hk => by have := List.mem_range'_1.mp hk; lia) with ⟨h0, _⟩ | ⟨pre, a, post, e, h0, ha, hn⟩
  · generalize (forIn (List.range' 0 ((mkS l).length + 1 - 0)) ((#[] : Array Nat), 0) (StrLaws.occBody (mkS l) (mkS [c]) (mkS l).length ((mkS l).length + 1))).run.fst = arr at h0
    rw [h0]; rfl
  · exfalso
    have := ha.2
    have e1 : (⟨#[c]⟩ : Str).length = 1 := rfl
    have e2 : (mkS [c]).length = 1 := rfl
    have h2 := (StrLaws.subAt_one (mkS l) c a).mp ⟨by have := ha.1; lia, this⟩
    exact h (List.mem_of_getElem? h2)

section
variable {prog : Program} {w : World} {A : Around} {E : Value → Shared → Prop} {s : Shared}
open PySem.Builtin in
theorem call_repl_no {l z : List Nat} {c : Nat} {t u v : Tok} {Q : Value → Shared → Prop} (h : c ∉ l) (hq : Q (.str (mkS l) t) s) : wpAny (model prog w) A (call (.builtin "str.replace") [.str (mkS l) t, .str (mkS [c]) u, .str (mkS z) v]) Q E s := by
  have he := occ_none h
  refine call_gives PySem.F.slot_str_replace (typeIs_str _ _ _) PySem.F.entry_str_replace (PySem.F.args_str_replace_3 _ _ _) (gives_str_replace (mkS l) (mkS [c]) (mkS z) t u v fun h' => by rw [he] at h'; cases h') ?_
  rw [he]
  exact hq

end

/-! # str.translate of one sign, by a table of signs -/
section
variable {prog : Program} {w : World} {A : Around} {E : Value → Shared → Prop} {s : Shared}
open PySem.Builtin PySem.Builtin.Str

theorem sub_key_look : isSubtype (.type "KeyError") (.type "LookupError") = pure true := by first | rfl | (rw [isSubtype_type]; kernel_rfl)

theorem tlook_hit {D : Addr} {f : Int → Option Value} {c : Nat} {x : Str} {t : Tok} {Q : Mapped → Shared → Prop} (hm : s.heap.MapOf (intKind prog w) D f) (hv : f c = some (.str x t))
    (h : ∀ k, Q (.text x) { s with toks := k }) : wpAny (model prog w) A (tableLookup (.ref D) c) Q E s := by
  unfold tableLookup
  refine wpAny_bind (wpAny_attempt (wpAny_bind (wpAny_mkInt ?_)))
  refine wpAny_getItem_of (intKind_is _ _ _ _) hm hv ?_
  dsimp only
  refine wpAny_bind ?_
  show wpAny _ _ (notAStandIn (.str x t) >>= _) _ _ _
  obtain ⟨hp, g, d, tk, os⟩ := s
  wp_walk
  exact h _
theorem tlook_miss {D : Addr} {f : Int → Option Value} {c : Nat} {Q : Mapped → Shared → Prop} (hh : A.handled = none) (hd : (D == sysModules) = false) (hm : s.heap.MapOf (intKind prog w) D f) (hv : f c = none)
    (h : ∀ h' k, (∀ b o, s.heap.get? b = some o → h'.get? b = some o) → Q .keep { s with heap := h', toks := k }) : wpAny (model prog w) A (tableLookup (.ref D) c) Q E s := by
  unfold tableLookup
  refine wpAny_bind (wpAny_attempt (wpAny_bind (wpAny_mkInt ?_)))
  refine wpAny_getItem_missing_of (intKind_is _ _ _ _) hd hh hm hv fun h' e hx => ?_
  obtain ⟨ob, t, ho, hc, _⟩ := hx.there
  dsimp only
  refine wpAny_bind (wpAny_isInstance (T := "KeyError") ⟨_, ho, hc⟩ sub_key_look ?_)
  rw [if_pos rfl]
  exact wpAny_bind (wpAny_rule (wpAny_pure (h _ _ hx.keeps)))

theorem meets_translate {D : Addr} {f : Int → Option Value} {c : Nat} {t : Tok} {Q : Value → Shared → Prop} (hh : A.handled = none) (hd : (D == sysModules) = false) (hm : s.heap.MapOf (intKind prog w) D f) (hc : c < 128)
    (hv : (f c = none ∧ (∀ h' k u, 0 < k → (∀ b o, s.heap.get? b = some o → h'.get? b = some o) → Q (.str (mkS [c]) u) { s with heap := h', toks := k })) ∨
      ∃ x u, f c = some (.str (mkS x) u) ∧ 1 < x.length ∧ x.length ≤ 100 ∧ ∀ h' k u, 0 < k → (∀ b o, s.heap.get? b = some o → h'.get? b = some o) → Q (.str (mkS x) u) { s with heap := h', toks := k }) :
    wpAny (model prog w) A (Builtin.«str.translate» ⟨[.str (mkS [c]) t, .ref D], []⟩) (fun r s' => ∃ v, r = .done (.ret v) ∧ Q v s') E s := by
  obtain ⟨hp, g, d, tk, os⟩ := s
  unfold Builtin.«str.translate»
  have hfast : ((mkS [c]).cps.all fun x => decide (x < 128)) = true := by simp [mkS, hc]
  repeat ((fail_if_success (with_reducible show wpAny _ _ (tableLookup _ _) _ _ _)); wp_step)
  have key : ∀ i (h : i < (mkS [c]).cps.size), (mkS [c]).cps[i] = c := by
    intro i h
    have : i = 0 := by simp [mkS] at h; lia
    subst this; simp [mkS]
  simp only [key]
  rcases hv with ⟨hv, hq⟩ | ⟨x, u, hv, hx, hx2, hq⟩
  · refine tlook_miss (s := ⟨hp, g, d, tk, os⟩) hh hd hm hv fun h' k hk => ?_
    wp_walk
    refine ⟨_, rfl, ?_⟩
    have := hq h' (k + 1) k (Nat.succ_pos _) hk
    simpa [mkS] using this
  · refine tlook_hit (s := ⟨hp, g, d, tk, os⟩) hm hv fun k => ?_
    repeat ((fail_if_success (with_reducible show wpAny _ _ (tableLookup _ _) _ _ _)); wp_step)
    have hl : (((mkS x).length == 1) && (mkS x).cps.all fun x => decide (x < 128)) = false := by
      rw [mkS_length]
      have : (x.length == 1) = false := by rw [beq_eq_false_iff_ne]; lia
      rw [this]; rfl
    simp only [hl, Bool.false_eq_true, if_false]
    repeat ((fail_if_success (with_reducible show wpAny _ _ (tableLookup _ _) _ _ _)); wp_step)
    refine tlook_hit (s := ⟨hp, g, d, k, os⟩) hm hv fun k2 => ?_
    wp_walk
    have htl : tooLong (0 + (mkS x).length) = false := by
      unfold tooLong
      rw [mkS_length]
      simp only [decide_eq_false_iff_not]
      have := sizeLine_eq
      lia
    dsimp only
    rw [htl]
    have hl2 : ¬ ((⟨List.foldl (fun acc p => acc ++ p.cps) #[] [mkS x].reverse⟩ : Str).length > sizeLine) := by
      have := sizeLine_eq
      simp [mkS, Str.length]
      lia
    wp_walk
    refine ⟨_, rfl, ?_⟩
    have := hq hp (k2 + 1) k2 (Nat.succ_pos _) (fun _ _ e => e)
    simpa [mkS] using this
theorem call_translate {D : Addr} {f : Int → Option Value} {c : Nat} {t : Tok} {Q : Value → Shared → Prop} (hh : A.handled = none) (hd : (D == sysModules) = false) (hm : s.heap.MapOf (intKind prog w) D f) (hc : c < 128)
    (hv : (f c = none ∧ (∀ h' k u, 0 < k → (∀ b o, s.heap.get? b = some o → h'.get? b = some o) → Q (.str (mkS [c]) u) { s with heap := h', toks := k })) ∨
      ∃ x u, f c = some (.str (mkS x) u) ∧ 1 < x.length ∧ x.length ≤ 100 ∧ ∀ h' k u, 0 < k → (∀ b o, s.heap.get? b = some o → h'.get? b = some o) → Q (.str (mkS x) u) { s with heap := h', toks := k }) :
    wpAny (model prog w) A (call (.builtin "str.translate") [.str (mkS [c]) t, .ref D]) Q E s :=
  wpAny_call_entry (T := "str") PySem.F.slot_str_translate (typeIs_str _ _ _) PySem.F.entry_str_translate (meets_translate hh hd hm hc hv) (PySem.F.args_str_translate_2 _ _)
end

/-! # the pattern of & ~ | does not stand in a text -/
def cde : Array Nat := #[14, 14, 4, 1, 1, 9, 0, 64, 0, 1342177280, 0, 0, 0, 0, 0, 17, 0, 13, 11, 9, 0, 64, 0, 1342177280, 0, 0, 0, 0, 0, 17, 1, 1]
def noAmp (c : Nat) : Bool := c < 128 && c != 38 && c != 124 && c != 126
theorem bits_no : ∀ c < 128, noAmp c = true → (cde.getD (5 + (1 + c / 32)) 0).testBit (c % 32) = false := by decide
theorem inSet_no {c : Nat} (h : noAmp c = true) (seen : Sre.Seen) : ∃ seen', Sre.inSet cde c cde.size 5 true seen = .ok (false, seen') := by
  have h1 : c < 128 := by simp [noAmp] at h; lia
  have h2 := bits_no c h1 h
  have e : (decide (c < 256) && (cde.getD (5 + (1 + c / 32)) 0).testBit (c % 32)) = false := by rw [h2, Bool.and_false]
  refine ⟨(seen.add 9).add 0, ?_⟩
  show (if (decide (c < 256) && (cde.getD (5 + (1 + c / 32)) 0).testBit (c % 32)) = true then Except.ok (true, seen.add 9) else Sre.inSet cde c 31 14 true (seen.add 9)) = _
  rw [e]
  rfl
theorem admitted_no {m : Sre.M} (hc : m.code = cde) (ht : ∀ (i c : Nat), m.text[i]? = some c → noAmp c = true) (hl : m.lim = m.text.size) : ∀ (fuel s : Nat) (seen : Sre.Seen), ∃ seen', Sre.M.admitted m fuel s seen = .ok (none, seen')
  | 0, s, seen => ⟨seen, rfl⟩
  | fuel + 1, s, seen => by
    unfold Sre.M.admitted
    by_cases h : s ≥ m.lim
    · rw [if_pos h]; exact ⟨_, rfl⟩
    · rw [if_neg h]
      have hs : s < m.text.size := by lia
      have hg : m.text.getD s 0 = m.text[s] := by simp [Array.getD, hs]
      have hx : noAmp (m.text.getD s 0) = true := by rw [hg]; exact ht s _ (by simp [hs])
      obtain ⟨seen', e⟩ := inSet_no hx seen
      rw [hc, e]
      exact admitted_no hc ht hl fuel (s + 1) seen'
def Gone (m : Sre.M) : Prop := m.answer = some false ∧ m.outcome = none ∧ m.frames = []
theorem attempt_no {m : Sre.M} (hc : m.code = cde) (ht : ∀ (i c : Nat), m.text[i]? = some c → noAmp c = true) (hl : m.lim = m.text.size) (ho : m.outcome = none) (hf : m.frames = []) (s : Nat) (b : Bool) : Gone (m.attemptFrom s b) := by
  unfold Sre.M.attemptFrom
  have h1 : m.hasFirstSet = true := by unfold Sre.M.hasFirstSet; rw [hc]; rfl
  rw [h1]
  simp only [Bool.not_true, Bool.false_eq_true, if_false]
  obtain ⟨seen', e⟩ := admitted_no hc ht hl (m.lim + 1 - s) s m.seen
  rw [e]
  exact ⟨rfl, ho, hf⟩
theorem search_no {l : List Nat} (h : ∀ c ∈ l, noAmp c = true) : Gone (Sre.forSearch cde l.toArray 1 0 l.toArray.size false) := by
  unfold Sre.forSearch
  have hh : Sre.header cde = (1, 15) := rfl
  simp only [hh]
  split
  · exact ⟨rfl, rfl, rfl⟩
  · refine attempt_no rfl (fun i c hc => ?_) rfl rfl rfl _ _
    have hc : l.toArray[i]? = some c := hc
    exact h c (List.mem_of_getElem? (by simpa using hc))

section
variable {prog : Program} {w : World} {A : Around} {E : Value → Shared → Prop} {s : Shared}
open PySem.Builtin PySem.Builtin.Re
theorem rules_any {p : Nat → Bool} {nm : Nat → String} : ∀ (l : List Nat) {Q : PUnit → Shared → Prop}, Q () s → wpAny (model prog w) A (forIn l PUnit.unit fun i _ => if p i = true then (do rule (nm i); pure (ForInStep.yield PUnit.unit)) else pure (ForInStep.yield PUnit.unit) : Sem PUnit) Q E s
  | [], Q, h => wpAny_pure h
  | i :: l, Q, h => by
    rw [List.forIn_cons]
    refine wpAny_bind ?_
    cases p i
    · exact wpAny_pure (rules_any l h)
    · exact wpAny_bind (wpAny_rule (wpAny_pure (rules_any l h)))
theorem drive_gone {m : Sre.M} (h : Gone m) {Q : Option Sre.M → Shared → Prop} (hq : Q none s) : wpAny (model prog w) A (reRunToEnd m) Q E s := by
  unfold reRunToEnd
  have h1 : m.runFor reTurnSteps = { m with outcome := some .failed } := by
    obtain ⟨a, b, c⟩ := h
    have hs : m.step = { m with outcome := some .failed } := by unfold Sre.M.step; rw [b]; simp only [Option.isSome_none, Bool.false_eq_true, if_false, a, c]
    unfold reTurnSteps
    unfold Sre.M.runFor
    rw [b, hs]
    simp only [Option.isSome_none, Bool.false_eq_true, if_false]
    unfold Sre.M.runFor
    simp
  have h2 : reDrive (2 ^ 64) m = pure { m with outcome := some .failed } := by
    show reDrive (18446744073709551615 + 1) m = _
    unfold reDrive
    rw [h1]; rfl
  rw [h2]
  refine wpAny_bind (wpAny_pure ?_)
  refine wpAny_bind ?_
  exact rules_any _ (wpAny_pure hq)

/-- the pattern object -/
structure IsPat (h : Heap) (p : Addr) : Prop where
  ex : ∃ o T vs n, h.get? p = some o ∧ o.cls = .type "re.Pattern" ∧ (∃ t0, o.data = .fields #[t0, .int 32 n, .int 1 0, .none, .none, .ref T, .int 0 0]) ∧ (∃ k, h.get? T = some (tupObj vs k)) ∧ (vs.toArray.map reRawOf).map (·.toNat) = cde
theorem whole_target {p : Addr} {l : List Nat} {t : Tok} (hp : IsPat s.heap p) {Q : ReTarget → Shared → Prop} (hq : Q { pattern := .ref p, string := .str (mkS l) t, code := cde, text := l.toArray, kind := 0, groups := 1, pos := 0, lim := l.toArray.size } s) :
    wpAny (model prog w) A (reWholeTarget (.ref p) (.str (mkS l) t)) Q E s := by
  obtain ⟨o, T, vs, n, ho, hc, ⟨t0, hd⟩, ⟨k, hT⟩, hv⟩ := hp.ex
  unfold reWholeTarget
  refine wpAny_bind (wpAny_fieldsOf ho hd ?_)
  refine wpAny_bind (m := reTextOf _) ?_
  unfold reTextOf
  refine wpAny_bind (wpAny_pure ?_)
  refine wpAny_pure ?_
  have e6 : reRawNat ((#[t0, Value.int 32 n, Value.int 1 0, Value.none, Value.none, Value.ref T, Value.int 0 0] : Array Value).getD 6 .none) = 0 := rfl
  have e5 : ((#[t0, Value.int 32 n, Value.int 1 0, Value.none, Value.none, Value.ref T, Value.int 0 0] : Array Value).getD 5 .none) = .ref T := rfl
  have e2 : reRawNat ((#[t0, Value.int 32 n, Value.int 1 0, Value.none, Value.none, Value.ref T, Value.int 0 0] : Array Value).getD 2 .none) = 1 := rfl
  dsimp only
  rw [e6, e5, e2]
  show wpAny _ _ (reNoCollectionInside (.str (mkS l) t) 0 >>= _) _ _ _
  refine wpAny_bind (wpAny_pure ?_)
  refine wpAny_bind ?_
  unfold reRawItems
  refine wpAny_bind (wpAny_seqItems hT rfl ?_)
  refine wpAny_pure (wpAny_pure ?_)
  simp only [Option.getD_some]
  rw [hv]
  exact hq
theorem next_no {l : List Nat} {p : Addr} {v : Value} (h : ∀ c ∈ l, noAmp c = true) {Q : Option Sre.M → Shared → Prop} (hq : Q none s) :
    wpAny (model prog w) A (reNextFound { pattern := .ref p, string := v, code := cde, text := l.toArray, kind := 0, groups := 1, pos := 0, lim := l.toArray.size } 0 false) Q E s := by
  unfold reNextFound
  exact drive_gone (search_no h) hq

theorem updSeq0 {a : Addr} {vs : List Value} {k : Nat} {f : Array Value → Array Value} {h : Heap} (hg : h.get? a = some (lstObj vs k)) : ∃ k', (h.update a (Obj.mapSeq f)).get? a = some (lstObj (f vs.toArray).toList k') ∧ ∀ b o, b ≠ a → h.get? b = some o → (h.update a (Obj.mapSeq f)).get? b = some o := by
  have e : ∃ k', Obj.mapSeq f (lstObj vs k) = lstObj (f vs.toArray).toList k' := ⟨_, by simp only [Obj.mapSeq, lstObj, Array.toArray_toList]; rfl⟩
  obtain ⟨k', e⟩ := e
  refine ⟨k', ?_, fun b o hb eb => (Heap.SameBut.update ..).extBut b o hb eb⟩
  rw [Heap.get?_update_self _ hg (by rw [e]; rfl), e]
theorem plain_sub_loop : plainId "re.Pattern.sub.loop" = true := by decide +kernel
theorem entry_sub_loop : entryFor table "re.Pattern.sub.loop" = some Builtin.«re.Pattern.sub.loop» := entryFor_of_tree (by kernel_rfl)
theorem meets_sub_loop (p : Addr) (l : List Nat) (t : Tok) (repl : Value) (D : Addr) (h : ∀ c ∈ l, noAmp c = true) (hl : l.length ≤ 1000000) :
    Meets (Builtin.«re.Pattern.sub.loop» ⟨[.ref p, .str (mkS l) t, repl, rawInt 1, rawInt 0, rawInt 0, rawInt 0, rawInt 0, .bool false, .ref D, .bool false], []⟩)
      (fun A R s => IsPat s.heap p ∧ s.heap.get? D = some (lstObj [] 0) ∧ ∀ h' k u, (∀ b o, b ≠ D → s.heap.get? b = some o → h'.get? b = some o) → R (.ok (.ret (.str (mkS l) u))) { s with heap := h', toks := k }) := by
  intro prog w A R s hs
  obtain ⟨hp, g, d, tk, os⟩ := s
  obtain ⟨hpat, hD, hq⟩ := hs
  unfold Builtin.«re.Pattern.sub.loop»
  refine wpAny_bind (whole_target hpat ?_)
  show wpAny _ _ (reNextFound _ 0 false >>= _) _ _ _
  refine wpAny_bind (next_no h ?_)
  dsimp only
  have hex : (⟨l.toArray.extract (Int.toNat 0) l.toArray.size⟩ : Str) = mkS l := by simp [mkS]
  have hex0 : (⟨l.toArray.extract 0 0⟩ : Str) = mkS [] := by simp [mkS]
  have hz : ¬ ((mkS l).length > sizeLine) := by rw [mkS_length]; have := sizeLine_eq; lia
  have hz0 : ¬ ((mkS []).length > sizeLine) := by rw [mkS_length]; simp
  have mk : ∀ {l : List Nat} {s : Shared} {A : Around} {Q : Value → Shared → Prop} {E : Value → Shared → Prop}, ¬ ((mkS l).length > sizeLine) → Q (.str (mkS l) s.toks) { s with toks := s.toks + 1 } → wpAny (model prog w) A (mkStr (mkS l)) Q E s := by
    intro l s A Q E h hq
    obtain ⟨hp, g, d, tk, os⟩ := s
    unfold mkStr
    rw [if_neg h]
    wp_walk
    exact hq
  by_cases hn : l = []
  · subst hn
    rw [if_neg (by simp)]
    show wpAny _ _ (mkStr ⟨([] : List Nat).toArray.extract 0 0⟩ >>= _) _ _ _
    rw [hex0]
    refine wpAny_bind (mk hz0 ?_)
    refine wpAny_bind (wpAny_seqItems hD rfl ?_)
    simp only [Option.getD_some]
    rw [if_pos (by rfl)]
    refine wpAny_bind (wpAny_pure ?_)
    rw [if_neg (by simp)]
    exact wpAny_pure (hq _ _ _ fun _ _ _ e => e)
  · rw [if_pos (by simp; exact List.length_pos_iff.mpr hn)]
    show wpAny _ _ (mkStr ⟨l.toArray.extract (Int.toNat 0) l.toArray.size⟩ >>= _) _ _ _
    rw [hex]
    refine wpAny_bind (mk hz ?_)
    refine wpAny_bind (wpAny_updateSeq hD rfl ?_ (by simp) (by simp))
    show wpAny _ _ (mkStr ⟨l.toArray.extract 0 0⟩ >>= _) _ _ _
    rw [hex0]
    refine wpAny_bind (mk hz0 ?_)
    obtain ⟨k', u1, u2⟩ := updSeq0 (f := fun xs => xs.push (Value.str (mkS l) tk)) hD
    refine wpAny_bind (wpAny_seqItems u1 rfl ?_)
    simp only [Option.getD_some]
    rw [if_neg (by simp)]
    rw [if_pos (by rfl)]
    refine wpAny_bind ?_
    refine SC.join (l := [(mkS l, tk)]) (texts := [mkS l]) ⟨_, u1, rfl, _, rfl⟩ rfl (joinOk_of_weight (by simp [mkS_length]; lia) (by rw [mkS_length]; simp)) fun t' k => ?_
    rw [if_neg (by simp)]
    have hj : Txt.join (mkS []) [mkS l] = mkS l := by
      unfold Txt.join
      rw [StrLaws.glued_eq_join]; rfl
    rw [hj]
    exact wpAny_pure (hq _ _ _ fun b o hb e => u2 b o hb e)

theorem lookup_fn_call : typeLookup (.type "function") "__call__" = pure (some (.builtin "function.__call__")) := by
  rw [typeLookup_type, builtinLookup_eq_fast]; kernel_rfl
theorem sub_str_ba : isSubtype (.type "str") (.type "bytearray") = pure false := by first | rfl | (rw [isSubtype_type]; kernel_rfl)
theorem named_sub (a b : Value) : reNamed "re.Pattern.sub" "sub" ["repl", "string", "count"] 2 [a, b] [] = pure [some a, some b, none] := by rfl
theorem meets_sub (p f : Addr) (l : List Nat) (t : Tok) (h : ∀ c ∈ l, noAmp c = true) (hl : l.length ≤ 1000000) :
    Meets (Builtin.«re.Pattern.sub» ⟨[.ref p, .ref f, .str (mkS l) t], []⟩)
      (fun A R s => IsPat s.heap p ∧ s.TypeIs (.ref f) "function" ∧ ∀ h' k u, (∀ b o, s.heap.get? b = some o → h'.get? b = some o) → R (.ok (.ret (.str (mkS l) u))) { s with heap := h', toks := k }) := by
  intro prog w A R s hs
  obtain ⟨hp, g, d, tk, os⟩ := s
  obtain ⟨hpat, hF, hq⟩ := hs
  unfold Builtin.«re.Pattern.sub» reSubstitute
  dsimp only
  rw [named_sub]
  refine wpAny_bind (wpAny_pure ?_)
  dsimp only
  refine wpAny_bind (wpAny_pure ?_)
  refine wpAny_bind (wpAny_specialOf hF lookup_fn_call ?_)
  dsimp only [Option.isSome_some]
  refine wpAny_bind (wpAny_pure ?_)
  rw [if_pos rfl]
  refine wpAny_bind (wpAny_pure ?_)
  dsimp only
  refine wpAny_bind (wpAny_holding (whole_target hpat ?_))
  rw [if_pos (by rfl)]
  refine wpAny_bind ?_
  unfold reNotHeld
  refine wpAny_bind (wpAny_isInstance (typeIs_str _ _ _) sub_str_ba ?_)
  rw [if_neg (by simp)]
  refine wpAny_pure ?_
  refine wpAny_bind ?_
  unfold newList
  refine wpAny_newObj_type ?_
  refine wpAny_pure ?_
  refine ⟨plainId_quiet plain_sub_loop _, codeAny_builtin entry_sub_loop ?_⟩
  rw [Around.under_plainId plain_sub_loop _]
  have hup : ∀ b o, hp.get? b = some o → (hp.push (lstObj [] 0)).get? b = some o := fun b o e => Heap.get?_push_of_some _ e
  have hpat' : IsPat (hp.push (lstObj [] 0)) p := by
    obtain ⟨o, T, vs, n, ho, hc, hd, ⟨k, hT⟩, hv⟩ := hpat.ex
    exact ⟨o, T, vs, n, hup _ _ ho, hc, hd, ⟨k, hup _ _ hT⟩, hv⟩
  refine meets_sub_loop p l t (.ref f) hp.objs.size h hl prog w A R _ ⟨hpat', Heap.get?_push_size _ rfl, fun h' k u hk => ?_⟩
  exact hq h' k u fun b o e => hk b o (Nat.ne_of_lt (Heap.lt_size e)) (hup b o e)

theorem slot_pat_sub : Slot "re.Pattern" "sub" "re.Pattern.sub" :=
  .of (owner := "re.Pattern") (n := "sub") (by rw [typeLookup_type, builtinLookup_eq_fast]; kernel_rfl) (by decide +kernel) (by decide +kernel) (by decide +kernel)
    (by first | exact .inl (by decide +kernel) | exact .inr (by decide +kernel)) (by rw [isSubtype_type]; kernel_rfl)
theorem type_pat_sub : typeOf (.builtin "re.Pattern.sub") = pure (.type "method_descriptor") := by show builtinType _ = _; rw [builtinType_eq_fast]; kernel_rfl
theorem entry_pat_sub : entryFor table "re.Pattern.sub" = some Builtin.«re.Pattern.sub» := entryFor_of_tree (by kernel_rfl)
theorem args_pat_sub (a b c : Value) : argsOk "re.Pattern.sub" ⟨[a, b, c], []⟩ := by unfold argsOk; kernel_rfl
theorem plainAttrs_pat : PlainAttrs "re.Pattern" :=
  ⟨⟨"object.__getattribute__", by rw [typeLookup_type, builtinLookup_eq_fast]; kernel_rfl, by decide +kernel⟩, by rw [typeLookup_type, builtinLookup_eq_fast]; kernel_rfl⟩
theorem call_sub {p f : Addr} {l : List Nat} {t : Tok} {Q : Value → Shared → Prop} (h : ∀ c ∈ l, noAmp c = true) (hl : l.length ≤ 1000000) (hp : IsPat s.heap p) (hF : s.TypeIs (.ref f) "function")
    (hq : ∀ h' k u, (∀ b o, s.heap.get? b = some o → h'.get? b = some o) → Q (.str (mkS l) u) { s with heap := h', toks := k }) :
    wpAny (model prog w) A (call (.builtin "re.Pattern.sub") [.ref p, .ref f, .str (mkS l) t]) Q E s := by
  have hT : s.TypeIs (.ref p) "re.Pattern" := by
    obtain ⟨o, T, vs, n, ho, hc, _⟩ := hp.ex
    exact ⟨o, ho, hc⟩
  exact call_meets slot_pat_sub hT entry_pat_sub (args_pat_sub _ _ _) (meets_sub p f l t h hl) ⟨hp, hF, hq⟩
end

/-! # Expressions: what is asked ahead of them -/
abbrev Wp := Bool → Ρ → (V → Prop) → Prop
def fin (m : Bool) (Q : V → Prop) (d : V) : Prop := match m with | false => Q d | true => truthw d fun b => Q (.bool b)
def bw (d : V) (K : Bool → Prop) : Prop := match d with | .bool b => K b | _ => False
abbrev pw (W : Ρ → (V → Prop) → Prop) : Wp := fun m ρ Q => W ρ (fin m Q)

/-- what a global function gives -/
def Fn (C : Cx) (a : Addr) (q : Nat) (w : List V → (V → Prop) → Prop) : Prop :=
  ∀ A s F args ds Q, Room q A → Inv C s → FzOk C F s.heap → RepL F args ds → w ds Q → TrV C A (call (.ref a) args) s F Q
def FnAt (C : Cx) (x : Str) (q : Nat) (w : List V → (V → Prop) → Prop) : Prop := ∃ a o fd, C.mg x = some (.ref a) ∧ C.K a o ∧ o.data = .func fd ∧ Fn C a q w
def biNames : List Str := ["len", "range", "sorted", "sum", "object", "enumerate", "isinstance", "str"]
structure Ok (C : Cx) (vn : Nm) : Prop where
  bi : ∀ x ∈ biNames, C.mg x = none
  ec : ∀ scope cl L env, vn.ec env → vn.ec (compEnvC scope cl L env)
  dbg : ∀ n, vn.vn n ≠ "__debug__"

structure Ev (C : Cx) (vn : Nm) (r : Nat) (kd : Kd) (A : Around) (s : Shared) (F : Fz) (env : Env) (ρ : Ρ) : Prop where
  R : Room r A
  I : Inv C s
  f : FzOk C F s.heap
  eo : EnvOk C vn kd env s.heap F ρ
theorem Ev.go {C : Cx} {vn : Nm} {r : Nat} {kd : Kd} {A : Around} {s s₁ : Shared} {F F₁ : Fz} {env : Env} {ρ : Ρ} (h : Ev C vn r kd A s F env ρ) (I₁ : Inv C s₁) (k : Kp C s s₁) (x : Fx C F F₁ s s₁) : Ev C vn r kd A s₁ F₁ env ρ :=
  ⟨h.R, I₁, x.ok, h.eo.kp h.I k x⟩

/-- no star, no set display -/
def plx : Expr → Bool
  | .Starred .. => false
  | .Set .. => false
  | _ => true
theorem plx_set {x : Expr} (h : plx x = true) (env : Env) (v : Value) : foldedSetIterable x env v = pure v := by
  cases x <;> first | rfl | cases h
theorem plx_marks {x : Expr} (h : plx x = true) (op : CmpOp) : behindInMarks op x = false := by
  cases x <;> first | rfl | cases h
theorem plx_star {x : Expr} (h : plx x = true) (rest : List Expr) (env : Env) : starEach (x :: rest) env = (false, eval x env) :: starEach rest env := by
  cases x <;> first | rfl | cases h

/-- an expression is served -/
structure SX (C : Cx) (vn : Nm) (r : Nat) (kd : Kd) (x : Expr) (w : Wp) : Prop where
  p : plx x = true
  e : ∀ {A s F env ρ Q}, Ev C vn r kd A s F env ρ → w false ρ Q → TrV C A (eval x env) s F Q
  t : ∀ {A s F env ρ Q}, Ev C vn r kd A s F env ρ → w true ρ Q → Tr C A (isTrue x env (eval x env)) s F (Gb fun b => Q (.bool b))

abbrev Gvs (Q : List V → Prop) : List Value → Shared → Fz → Prop := fun vs _ F' => ∃ ds, RepL F' vs ds ∧ Q ds
def wsL : List Wp → Ρ → (List V → Prop) → Prop
  | [], _, Q => Q []
  | w :: l, ρ, Q => w false ρ fun d => wsL l ρ fun ds => Q (d :: ds)
inductive SA (C : Cx) (vn : Nm) (r : Nat) (kd : Kd) : List Expr → List Wp → Prop
  | nil : SA C vn r kd [] []
  | cons {x : Expr} {w : Wp} {xs : List Expr} {l : List Wp} : SX C vn r kd x w → SA C vn r kd xs l → SA C vn r kd (x :: xs) (w :: l)

section
variable {C : Cx} {vn : Nm} {r : Nat} {kd : Kd} {A : Around} {s s₁ s' : Shared} {F F' : Fz} {env : Env} {ρ : Ρ}

theorem up {α : Type} {t : Sem α} {Q : α → Shared → Fz → Prop} (k : Kp C s s₁) (fx : Fx C F F' s s₁) (h : Tr C A t s₁ F' Q) : wpAny (model C.prog C.w) A t (Pst C s F Q) (fun _ _ => False) s₁ :=
  wpAny_mono h (fun _ _ ⟨i, k', F'', x, q⟩ => ⟨i, k.trans k', F'', fx.trans x k, q⟩) fun _ _ e => e
theorem isT {x : Expr} {K : Bool → Prop} (h : TrV C A (eval x env) s F fun d => truthw d K) (hx : isTrue x env (eval x env) = (do let v ← eval x env; standAt x.pos; holding [v] (truthy v))) :
    Tr C A (isTrue x env (eval x env)) s F (Gb K) := by
  rw [hx]
  refine Tr.bind (h.mono fun v s₁ F₁ I₁ _ fx ⟨d, rv, hd⟩ => ?_)
  exact Tr.standAt (Tr.holding (truthw_sound I₁ fx.ok rv hd))
/-- bool() of the value -/
theorem SX.plain {x : Expr} {W : Ρ → (V → Prop) → Prop} (p : plx x = true) (h : ∀ {A s F env ρ Q}, Ev C vn r kd A s F env ρ → W ρ Q → TrV C A (eval x env) s F Q)
    (hx : ∀ env, isTrue x env (eval x env) = (do let v ← eval x env; standAt x.pos; holding [v] (truthy v))) : SX C vn r kd x (pw W) :=
  ⟨p, fun ev hw => h ev hw, fun ev hw => isT (h ev hw) (hx _)⟩

theorem SA.star {xs : List Expr} {l : List Wp} (h : SA C vn r kd xs l) : starEach xs env = xs.map fun x => (false, eval x env) := by
  induction h with
  | nil => rfl
  | cons hx _ ih => rw [plx_star hx.p, ih]; rfl
theorem SA.args {pos : Pos} {xs : List Expr} {l : List Wp} (h : SA C vn r kd xs l) : backTo pos (starEach xs env) = xs.map fun x => (false, eval x env) := by
  rw [h.star]; unfold backTo; rw [List.map_map]; rfl
theorem SA.ev {xs : List Expr} {l : List Wp} (h : SA C vn r kd xs l) : ∀ {s F Q}, Ev C vn r kd A s F env ρ → wsL l ρ Q → Tr C A (spliced (xs.map fun x => (false, eval x env))) s F (Gvs fun ds => ds.length = l.length ∧ Q ds) := by
  induction h with
  | nil => exact fun ev hw => Calls.spliced_nil (pst_here ev.I ev.f ⟨[], .nil, rfl, hw⟩)
  | cons hx _ ih =>
    exact fun ev hw => Calls.spliced_cons ((hx.e ev hw).after fun v s₁ F₁ I₁ k₁ fx ⟨d, rv, hd⟩ => (ih (ev.go I₁ k₁ fx) hd).after fun vs s₂ F₂ I₂ k₂ fx₂ ⟨ds, rl, hl, hq⟩ =>
      ⟨I₂, k₁.trans k₂, F₂, fx.trans fx₂ k₁, d :: ds, .cons (rv.mono fx₂.le) rl, congrArg Nat.succ hl, hq⟩)

/-! ## names -/
theorem nameG {n : Nat} {p : Pos} {v : Value} {R : Value → Shared → Prop} {E : Value → Shared → Prop} {M : Model} (O : Ok C vn) (I : Inv C s) (eo : EnvOk C vn kd env s.heap F ρ) (hx : kd.lookup n = some .globalImplicit) (hv : C.mg (vn.vn n) = some v) (h : R v s) :
    wpAny M A (eval (.Name (vn.vn n) p) env) R E s := by
  have hk : env.kindOf (vn.vn n) = some .globalImplicit := (eo.kd _ _ hx).elim id fun e => nomatch e.1
  exact Calls.Name_function_global eo.kind hk (Calls.loadGlobal_global (eo.glob ▸ I.g) hv h) (by simpa using O.dbg n)
theorem nameB {n : Nat} {p : Pos} {v : Value} {R : Value → Shared → Prop} {E : Value → Shared → Prop} {M : Model} (O : Ok C vn) (I : Inv C s) (eo : EnvOk C vn kd env s.heap F ρ) (hx : kd.lookup n = some .globalImplicit) {x : Str} (hn : vn.vn n = x) (hm : x ∈ biNames)
    (hb : bootBuiltins x = some v) (hne : x ≠ "__name__") (h : R v s) : wpAny M A (eval (.Name (vn.vn n) p) env) R E s := by
  subst hn
  have hk : env.kindOf (vn.vn n) = some .globalImplicit := (eo.kd _ _ hx).elim id fun e => nomatch e.1
  exact Calls.Name_function_global eo.kind hk (Calls.loadGlobal_builtin (eo.glob ▸ I.g) (O.bi _ hm) (eo.bi ▸ I.b) ((I.bi _ hne).trans hb) h) (by simpa using O.dbg n)
def w_x (n : Nat) (ρ : Ρ) (Q : V → Prop) : Prop := match ρ.lookup n with | some d => Q d | none => False
theorem s_x (O : Ok C vn) (n : Nat) {p : Pos} : SX C vn r kd (.Name (vn.vn n) p) (pw (w_x n)) := .plain rfl (fun {A s F env ρ Q} ev hw => by
  unfold w_x at hw
  cases hl : ρ.lookup n with
  | none => rw [hl] at hw; exact hw.elim
  | some d =>
    rw [hl] at hw
    obtain ⟨v, rd, rv⟩ := ev.eo.rd n d hl
    exact wpAny_Name (wp_loadRd ev.eo.kind rd (pst_here ev.I ev.f ⟨d, rv, hw⟩)) (by simpa using O.dbg n)) fun _ => rfl
abbrev Gl (C : Cx) (x : Str) (d : V) : Prop := ∃ v, C.mg x = some v ∧ Rep C.K v d
def w_g (d : V) (_ : Ρ) (Q : V → Prop) : Prop := Q d
theorem s_g (O : Ok C vn) (n : Nat) {p : Pos} {d : V} (hg : Gl C (vn.vn n) d) (hx : kd.lookup n = some .globalImplicit) : SX C vn r kd (.Name (vn.vn n) p) (pw (w_g d)) := .plain rfl (fun ev hw =>
  let ⟨_, hv, rv⟩ := hg
  nameG O ev.I ev.eo hx hv (pst_here ev.I ev.f ⟨d, rv.mono ev.f.k, hw⟩)) fun _ => rfl

/-! ## constants, operators -/
def okC : V → Const → Bool
  | .none, .none => true
  | .bool b, .bool c => b == c
  | .int i, .int j => i == j
  | .str l, .str s => mkS l == s
  | _, _ => false
def w_c (d : V) (_ : Ρ) (Q : V → Prop) : Prop := Q d
theorem s_int {i : Int} {n : Nat} {p : Pos} : SX C vn r kd (.Constant (.int i) n p) (pw (w_c (.int i))) := .plain rfl (fun ev hw => wpAny_Constant_int (pst_int ev.I ev.f hw trivial)) fun _ => rfl
theorem s_none {n : Nat} {p : Pos} : SX C vn r kd (.Constant .none n p) (pw (w_c .none)) := .plain rfl (fun ev hw => wpAny_Constant_none (pst_here ev.I ev.f ⟨_, .none, hw⟩)) fun _ => rfl
theorem s_bool {b : Bool} {n : Nat} {p : Pos} : SX C vn r kd (.Constant (.bool b) n p) (pw (w_c (.bool b))) := .plain rfl (fun ev hw => wpAny_Constant_bool (pst_here ev.I ev.f ⟨_, .bool _, hw⟩)) fun _ => rfl
theorem s_str (l : List Nat) {x : Str} {n : Nat} {p : Pos} (h : x = mkS l) : SX C vn r kd (.Constant (.str x) n p) (pw (w_c (.str l))) := .plain rfl (fun ev hw => wpAny_Constant_str (pst_str ev.I ev.f hw h trivial)) fun _ => rfl

theorem pair_sound {x y : Expr} {a b : Wp} {Qq : V → V → Prop} {R : Value → Value → Shared → Prop} (h1 : SX C vn r kd x a) (h2 : SX C vn r kd y b) (ev : Ev C vn r kd A s F env ρ) (hw : a false ρ fun u => b false ρ fun v => Qq u v)
    (k : ∀ u v s₂ F₂ a b, Inv C s₂ → Kp C s s₂ → Fx C F F₂ s s₂ → Rep F₂ u a → Rep F₂ v b → Qq a b → R u v s₂) :
    wpAny (model C.prog C.w) A (eval x env) (fun u s₁ => wpAny (model C.prog C.w) A (eval y env) (fun v s₂ => R u v s₂) (fun _ _ => False) s₁) (fun _ _ => False) s :=
  (h1.e ev hw).after fun u s₁ F₁ I₁ k₁ fx ⟨a, ra, ha⟩ => (h2.e (ev.go I₁ k₁ fx) ha).after fun v s₂ F₂ I₂ k₂ fx₂ ⟨b, rb, hb⟩ =>
    k u v s₂ F₂ a b I₂ (k₁.trans k₂) (fx.trans fx₂ k₁) (ra.mono fx₂.le) rb hb
def w_bin (op : Operator) (a b : Wp) (ρ : Ρ) (Q : V → Prop) : Prop := a false ρ fun x => b false ρ fun y => binw op x y Q
theorem s_bin {op : Operator} {x y : Expr} {p : Pos} {a b : Wp} (hx : SX C vn r kd x a) (hy : SX C vn r kd y b) : SX C vn r kd (.BinOp x op y p) (pw (w_bin op a b)) := .plain rfl (fun ev hw =>
  wpAny_BinOp (pair_sound hx hy ev hw fun _ _ _ _ _ _ I₂ k₂ fx ra rb hq => up k₂ fx (binw_sound I₂ fx.ok ra rb hq))) fun _ => rfl
def w_un (op : UnaryOp) (a : Wp) (ρ : Ρ) (Q : V → Prop) : Prop := a false ρ fun x => unw op x Q
theorem s_neg {x : Expr} {p : Pos} {a : Wp} (hx : SX C vn r kd x a) : SX C vn r kd (.UnaryOp .USub x p) (pw (w_un .USub a)) := .plain rfl (fun ev hw =>
  wpAny_UnaryOp ((hx.e ev hw).after fun _ _ _ I₁ k₁ fx ⟨_, ra, hq⟩ => up k₁ fx (unw_sound I₁ fx.ok ra hq))) fun _ => rfl
theorem s_inv {x : Expr} {p : Pos} {a : Wp} (hx : SX C vn r kd x a) : SX C vn r kd (.UnaryOp .Invert x p) (pw (w_un .Invert a)) := .plain rfl (fun ev hw =>
  wpAny_UnaryOp ((hx.e ev hw).after fun _ _ _ I₁ k₁ fx ⟨_, ra, hq⟩ => up k₁ fx (unw_sound I₁ fx.ok ra hq))) fun _ => rfl
def w_not (a : Wp) : Wp := fun m ρ Q => match m with
  | false => a false ρ fun x => truthw x fun b => Q (.bool !b)
  | true => a true ρ fun x => bw x fun b => Q (.bool !b)
theorem s_not {x : Expr} {p : Pos} {a : Wp} (hx : SX C vn r kd x a) : SX C vn r kd (.UnaryOp .Not x p) (w_not a) where
  p := rfl
  e := fun ev hw => wpAny_UnaryOp ((hx.e ev hw).after fun u s₁ F₁ I₁ k₁ fx ⟨d, ra, hq⟩ => PySem.not_value ((truthw_sound I₁ fx.ok ra hq).after fun b s₂ F₂ I₂ k₂ fx₂ hb =>
    ⟨I₂, k₁.trans k₂, F₂, fx.trans fx₂ k₁, _, .bool _, hb⟩))
  t := fun {A s F env ρ Q} ev hw => by
    show Tr C A (do return !(← isTrue _ env (eval _ env))) s F _
    exact Tr.bind ((hx.t ev hw).mono fun b s₁ F₁ I₁ k₁ fx hq => Tr.pure I₁ fx.ok hq)
def w_if (t a b : Wp) : Wp := fun m ρ Q => t true ρ fun x => bw x fun c => (c = true → a m ρ Q) ∧ (c = false → b m ρ Q)
theorem s_if {x y z : Expr} {p : Pos} {t a b : Wp} (hx : SX C vn r kd x t) (hy : SX C vn r kd y a) (hz : SX C vn r kd z b) : SX C vn r kd (.IfExp x y z p) (w_if t a b) where
  p := rfl
  e := fun ev hw => wpAny_IfExp ((hx.t ev hw).after fun c s₁ F₁ I₁ k₁ fx hq => by
    cases c
    · exact up k₁ fx (hz.e (ev.go I₁ k₁ fx) (hq.2 rfl))
    · exact up k₁ fx (hy.e (ev.go I₁ k₁ fx) (hq.1 rfl)))
  t := fun ev hw => by
    rw [arm_isTrue_IfExp]
    refine Tr.bind ((hx.t ev hw).mono fun c s₁ F₁ I₁ k₁ fx hq => ?_)
    cases c
    · exact hz.t (ev.go I₁ k₁ fx) (hq.2 rfl)
    · exact hy.t (ev.go I₁ k₁ fx) (hq.1 rfl)
def w_cmp (op : CmpOp) (a b : Wp) : Wp := fun _ ρ Q => a false ρ fun x => b false ρ fun y => cmpw op x y fun c => Q (.bool c)
theorem s_cmp {op : CmpOp} {x y : Expr} {p : Pos} {a b : Wp} (hx : SX C vn r kd x a) (hy : SX C vn r kd y b) : SX C vn r kd (.Compare x [op] [y] p) (w_cmp op a b) where
  p := rfl
  e := fun ev hw => wpAny_Compare1 (pair_sound hx hy ev hw fun u v s₂ F₂ a b I₂ k₂ fx ra rb hq => up k₂ fx ((cmpw_sound ev.R I₂ fx.ok ra rb hq).mono fun c s₃ F₃ _ _ _ ⟨d, rd, t, e, ht⟩ => ⟨d, rd, e ▸ ht⟩)) (plx_marks hy.p _)
  t := fun ev hw => wpAny_isTrue_Compare1 (pair_sound hx hy ev hw fun u v s₂ F₂ a b I₂ k₂ fx ra rb hq => (cmpw_sound ev.R I₂ fx.ok ra rb hq).after fun c s₃ F₃ I₃ k₃ fx₃ ⟨d, rd, t, e, ht⟩ => by
    subst e; exact up (k₂.trans k₃) (fx.trans fx₃ k₂) (truthw_sound I₃ fx₃.ok rd ht)) (plx_marks hy.p _)
def w_cmp2 (o q : CmpOp) (a b c : Wp) : Wp := fun _ ρ Q => a false ρ fun x => b false ρ fun y => cmpw o x y fun t => (t = true → c false ρ fun z => cmpw q y z fun u => Q (.bool u)) ∧ (t = false → Q (.bool false))
theorem s_cmp2 {o q : CmpOp} {x y z : Expr} {p : Pos} {a b c : Wp} (hx : SX C vn r kd x a) (hy : SX C vn r kd y b) (hz : SX C vn r kd z c) : SX C vn r kd (.Compare x [o, q] [y, z] p) (w_cmp2 o q a b c) := by
  have hm : lastMarks [o, q] [y, z] = false := plx_marks hz.p q
  have go : ∀ {A s F env ρ Q} {R : Value → Value → Shared → Prop}, Ev C vn r kd A s F env ρ → w_cmp2 o q a b c false ρ Q →
      (∀ u v s₂, wpAny (model C.prog C.w) A (compareOp o u v) (fun x s₃ => wpAny (model C.prog C.w) A (truthy x) (fun t s₄ => ∃ F₄ y', Ev C vn r kd A s₄ F₄ env ρ ∧ Kp C s s₄ ∧ Fx C F F₄ s s₄ ∧ Rep F₄ v y' ∧ (t = false → ∃ d, Rep F₄ x d ∧ Q d) ∧ (t = false → Q (.bool false)) ∧ (t = true → c false ρ fun z => cmpw q y' z fun u => Q (.bool u))) (fun _ _ => False) s₃) (fun _ _ => False) s₂ → R u v s₂) →
      wpAny (model C.prog C.w) A (eval x env) (fun u s₁ => wpAny (model C.prog C.w) A (eval y env) (fun v s₂ => R u v s₂) (fun _ _ => False) s₁) (fun _ _ => False) s := by
    intro A s F env ρ Q R ev hw k
    refine pair_sound hx hy ev hw fun u v s₂ F₂ a b I₂ k₂ fx ra rb hq => k u v s₂ ?_
    refine (cmpw_sound ev.R I₂ fx.ok ra rb hq).after fun x s₃ F₃ I₃ k₃ fx₃ ⟨d, rd, t, e, ht⟩ => ?_
    subst e
    refine (truthw_sound (K := fun b => b = t) I₃ fx₃.ok rd rfl).after fun b' s₄ F₄ I₄ k₄ fx₄ hb => ?_
    subst hb
    have K := (k₂.trans k₃).trans k₄
    have X := (fx.trans fx₃ k₂).trans fx₄ (k₂.trans k₃)
    exact ⟨F₄, b, ev.go I₄ K X, K, X, (rb.mono fx₃.le).mono fx₄.le, fun h => ⟨_, rd.mono fx₄.le, by rw [h]; exact ht.2 h⟩, ht.2, ht.1⟩
  refine ⟨rfl, fun {A s F env ρ Q} ev hw => ?_, fun {A s F env ρ Q} ev hw => ?_⟩
  · refine Compare_chain (wpAny_mono (go (R := fun u v s₂ => _) ev hw fun u v s₂ h => h) (fun u s₁ h => chain_link (wpAny_mono h (fun v s₂ h => wpAny_mono h (fun x s₃ h => wpAny_mono h (fun t s₄ h => ?_) fun _ _ e => e) fun _ _ e => e) fun _ _ e => e)) fun _ _ e => e) hm
    obtain ⟨F₄, y', ev', K, X, rv, h1, _, h2⟩ := h
    cases t
    · exact ⟨ev'.I, K, F₄, X, h1 rfl⟩
    · refine chain_last ((hz.e ev' (h2 rfl)).after fun w s₅ F₅ I₅ k₅ fx₅ ⟨d5, r5, h5⟩ => ?_)
      exact up (K.trans k₅) (X.trans fx₅ K) ((cmpw_sound ev.R I₅ fx₅.ok (rv.mono fx₅.le) r5 h5).mono fun c s₃ F₃ _ _ _ ⟨d, rd, t, e, ht⟩ => ⟨d, rd, e ▸ ht⟩)
  · refine isTrue_chain (wpAny_mono (go (R := fun u v s₂ => _) ev hw fun u v s₂ h => h) (fun u s₁ h => test_link (wpAny_mono h (fun v s₂ h => wpAny_mono h (fun x s₃ h => wpAny_mono h (fun t s₄ h => ?_) fun _ _ e => e) fun _ _ e => e) fun _ _ e => e)) fun _ _ e => e) hm
    obtain ⟨F₄, y', ev', K, X, rv, _, h1, h2⟩ := h
    cases t
    · exact ⟨ev'.I, K, F₄, X, h1 rfl⟩
    · refine test_last ((hz.e ev' (h2 rfl)).after fun w s₅ F₅ I₅ k₅ fx₅ ⟨d5, r5, h5⟩ => ?_)
      refine (cmpw_sound ev.R I₅ fx₅.ok (rv.mono fx₅.le) r5 h5).after fun c s₆ F₆ I₆ k₆ fx₆ ⟨d, rd, t, e, ht⟩ => ?_
      subst e
      exact up ((K.trans k₅).trans k₆) ((X.trans fx₅ K).trans fx₆ (K.trans k₅)) (truthw_sound I₆ fx₆.ok rd ht)

/-! ## and, or -/
def wB : Bool → Bool → List Wp → Ρ → (V → Prop) → Prop
  | _, _, [], _, _ => False
  | m, i, w :: l, ρ, Q => match l with
    | [] => w m ρ Q
    | _ :: _ => match m with
      | false => w false ρ fun d => truthw d fun b => (b = i → wB false i l ρ Q) ∧ (b ≠ i → Q d)
      | true => w true ρ fun d => bw d fun b => (b = i → wB true i l ρ Q) ∧ (b ≠ i → Q (.bool b))
theorem SA.bo {i : Bool} {pos : Pos} {xs : List Expr} {l : List Wp} (h : SA C vn r kd xs l) : ∀ {s F Q}, Ev C vn r kd A s F env ρ → wB false i l ρ Q → TrV C A (boolOp pos (if i then .And else .Or) (evalEach xs env)) s F Q := by
  induction h with
  | nil => exact fun _ hw => hw.elim
  | @cons x w xs l hx hxs ih =>
    intro s F Q ev hw
    cases hxs with
    | nil => exact hx.e ev hw
    | @cons y w' xs l hy hys =>
      show TrV C A (do
        let v ← eval x env
        standAt pos
        let t ← holding [v] (truthy v)
        match (if i then BoolOp.And else BoolOp.Or), t with
        | .And, false | .Or, true => pure v
        | _, _ => boolOp pos (if i then .And else .Or) (evalEach (y :: xs) env)) s F Q
      refine Tr.bind ((hx.e ev hw).mono fun v s₁ F₁ I₁ k₁ fx ⟨d, rv, hd⟩ => Tr.standAt (Tr.bind (Tr.holding ((truthw_sound I₁ fx.ok rv hd).mono fun b s₂ F₂ I₂ k₂ fx₂ hb => ?_))))
      have st : b ≠ i → TrV C A (pure v) s₂ F₂ Q := fun h => Tr.pure I₂ fx₂.ok ⟨d, rv.mono fx₂.le, hb.2 h⟩
      have go := fun h : b = i => ih ((ev.go I₁ k₁ fx).go I₂ k₂ fx₂) (hb.1 h)
      cases i <;> cases b
      · exact go rfl
      · exact st (by decide)
      · exact st (by decide)
      · exact go rfl
theorem SA.bt {i : Bool} {xs : List Expr} {l : List Wp} (h : SA C vn r kd xs l) : ∀ {s F Q}, Ev C vn r kd A s F env ρ → wB true i l ρ Q → Tr C A (allTrue (if i then .And else .Or) xs env) s F (Gb fun b => Q (.bool b)) := by
  induction h with
  | nil => exact fun _ hw => hw.elim
  | @cons x w xs l hx hxs ih =>
    intro s F Q ev hw
    cases hxs with
    | nil =>
      have h1 := hx.t ev hw
      cases i
      · exact wpAny_allTrue_Or_cons (h1.after fun b s₁ F₁ I₁ k₁ fx hb => by cases b <;> first | exact wpAny_allTrue_Or_nil ⟨I₁, k₁, F₁, fx, hb⟩ | exact ⟨I₁, k₁, F₁, fx, hb⟩)
      · exact wpAny_allTrue_And_cons (h1.after fun b s₁ F₁ I₁ k₁ fx hb => by cases b <;> first | exact wpAny_allTrue_And_nil ⟨I₁, k₁, F₁, fx, hb⟩ | exact ⟨I₁, k₁, F₁, fx, hb⟩)
    | @cons y w' xs l hy hys =>
      have h1 := hx.t ev hw
      cases i
      · exact wpAny_allTrue_Or_cons (h1.after fun b s₁ F₁ I₁ k₁ fx hb => by
          cases b
          · exact up k₁ fx (ih (ev.go I₁ k₁ fx) (hb.1 rfl))
          · exact ⟨I₁, k₁, F₁, fx, hb.2 (by decide)⟩)
      · exact wpAny_allTrue_And_cons (h1.after fun b s₁ F₁ I₁ k₁ fx hb => by
          cases b
          · exact ⟨I₁, k₁, F₁, fx, hb.2 (by decide)⟩
          · exact up k₁ fx (ih (ev.go I₁ k₁ fx) (hb.1 rfl)))
def w_bool (i : Bool) (l : List Wp) : Wp := fun m ρ Q => wB m i l ρ Q
theorem s_and {xs : List Expr} {p : Pos} {l : List Wp} (h : SA C vn r kd xs l) : SX C vn r kd (.BoolOp .And xs p) (w_bool true l) :=
  ⟨rfl, fun ev hw => h.bo (i := true) ev hw, fun ev hw => wpAny_isTrue_BoolOp (h.bt (i := true) ev hw)⟩
theorem s_or {xs : List Expr} {p : Pos} {l : List Wp} (h : SA C vn r kd xs l) : SX C vn r kd (.BoolOp .Or xs p) (w_bool false l) :=
  ⟨rfl, fun ev hw => h.bo (i := false) ev hw, fun ev hw => wpAny_isTrue_BoolOp (h.bt (i := false) ev hw)⟩

/-! ## displays, items -/
theorem newTup {vs : List Value} {ds : List V} {Q : V → Prop} (I : Inv C s) (f : FzOk C F s.heap) (rl : RepL F vs ds) (hz : ds.length ≤ 1000000) (h : Q (.tuple ds)) : TrV C A (newTuple vs) s F Q :=
  wpAny_newTuple (pst_push (n := s.toks) I f ⟨_, .tuple (vs := vs) (n := 0) (.inr ⟨rfl, rfl⟩) (rl.mono fun _ _ e => .inl e), h⟩ trivial) (by rw [rl.length]; exact sizeLine_big hz)
theorem newLst {vs : List Value} {ds : List V} {Q : V → Prop} (I : Inv C s) (f : FzOk C F s.heap) (rl : RepL F vs ds) (hz : ds.length ≤ 1000000) (h : Q (.list ds)) : TrV C A (newList vs) s F Q :=
  wpAny_newList (pst_push (n := s.toks) I f ⟨_, .list (vs := vs) (n := 0) (.inr ⟨rfl, rfl⟩) (rl.mono fun _ _ e => .inl e), h⟩ trivial) (by rw [rl.length]; exact sizeLine_big hz)
def w_tup (l : List Wp) (ρ : Ρ) (Q : V → Prop) : Prop := wsL l ρ fun ds => Q (.tuple ds)
theorem s_tup {xs : List Expr} {k : Nat} {p : Pos} {l : List Wp} (h : SA C vn r kd xs l) (hl : Nat.ble l.length 100 = true) : SX C vn r kd (.Tuple xs k p) (pw (w_tup l)) := .plain rfl (fun {A s F env ρ Q} ev hw => by
  show Tr C A (do standAt _; newTuple (← spliced (backTo _ (starEach _ env)))) s F _
  rw [h.args]
  exact Tr.standAt (Tr.bind ((h.ev ev hw).mono fun vs s₁ F₁ I₁ k₁ fx ⟨ds, rl, hn, hq⟩ => newTup I₁ fx.ok rl (Nat.le_trans (hn ▸ Nat.le_of_ble_eq_true hl) (by decide)) hq))) fun _ => rfl
def w_lst (l : List Wp) (ρ : Ρ) (Q : V → Prop) : Prop := wsL l ρ fun ds => Q (.list ds)
theorem s_lst {xs : List Expr} {p : Pos} {l : List Wp} (h : SA C vn r kd xs l) (hl : Nat.ble l.length 100 = true) : SX C vn r kd (.List xs p) (pw (w_lst l)) := .plain rfl (fun {A s F env ρ Q} ev hw => by
  show Tr C A (do standAt _; newList (← spliced (backTo _ (starEach _ env)))) s F _
  rw [h.args]
  exact Tr.standAt (Tr.bind ((h.ev ev hw).mono fun vs s₁ F₁ I₁ k₁ fx ⟨ds, rl, hn, hq⟩ => newLst I₁ fx.ok rl (Nat.le_trans (hn ▸ Nat.le_of_ble_eq_true hl) (by decide)) hq))) fun _ => rfl

theorem subscripted_op (y : Expr) (o i : Value) : ∃ l, subscripted y false o i = operate l (getItem o i) := by
  unfold subscripted
  split
  · exact ⟨_, rfl⟩
  · rename_i h; cases h
  · exact ⟨_, rfl⟩
theorem subs {x y : Expr} {p : Pos} {Q : Value → Shared → Prop} {E : Value → Shared → Prop}
    (h : wpAny (model C.prog C.w) A (eval x env) (fun o s₁ => wpAny (model C.prog C.w) A (eval y env) (fun i s₂ => ∃ T id, s₂.TypeIs o T ∧ typeLookup (.type T) "__getitem__" = pure (some (.builtin id)) ∧ wpAny (model C.prog C.w) A (getItem o i) Q E s₂) E s₁) E s) :
    wpAny (model C.prog C.w) A (eval (.Subscript x y p) env) Q E s := by
  rw [eval_Subscript]
  refine wpAny_bind (wpAny_mono h (fun o s₁ h₁ => wpAny_bind (wpAny_holding (wpAny_mono h₁ (fun i s₂ h₂ => wpAny_bind (wpAny_standAt ?_)) fun _ _ e => e))) fun _ _ e => e)
  obtain ⟨T, id, hT, hl, hg⟩ := h₂
  refine wpAny_bind ?_
  rw [getitemInPython_of_ne hT.not_modules]
  refine wpAny_bind (wpAny_specialOf hT hl ?_)
  obtain ⟨l, hl⟩ := subscripted_op y o i
  have fin : wpAny (model C.prog C.w) A (subscripted y false o i) (fun r s₃ => wpAny (model C.prog C.w) A (letTemporaryGo x o r >>= fun _ => pure r) Q E s₃) E s₂ := by
    rw [hl]
    exact wpAny_operating (wpAny_mono hg (fun r s₃ h₃ => wpAny_bind (wpAny_letTemporaryGo (wpAny_pure h₃))) fun _ _ e => e)
  exact wpAny_pure (wpAny_bind fin)
theorem getL {v : Value} {d i : V} {Q : V → Prop} (f : FzOk C F s.heap) (r : Rep F v d) (h : itemw d i Q) : ∃ T id, s.TypeIs v T ∧ typeLookup (.type T) "__getitem__" = pure (some (.builtin id)) := by
  obtain ⟨j, _, h⟩ := int1_inv h
  cases d with
  | str l => obtain ⟨t, rfl⟩ := r.str_inv; exact ⟨"str", _, typeIs_str _ _ _, PySem.F.slot_str_getitem.lookup⟩
  | list l => obtain ⟨_, _, _, rfl, ha, _⟩ := r.list_inv; exact ⟨"list", _, (f.isList ha).typeIs, list_getitem_lookup⟩
  | tuple l => obtain ⟨_, _, _, rfl, ha, _⟩ := r.tuple_inv; exact ⟨"tuple", _, ⟨_, (f.at' _ _ ha).1, rfl⟩, PySem.F.slot_tuple_getitem.lookup⟩
  | _ => exact h.elim
def w_item (a i : Wp) (ρ : Ρ) (Q : V → Prop) : Prop := a false ρ fun x => i false ρ fun y => itemw x y Q
theorem s_item {x y : Expr} {p : Pos} {a b : Wp} (hx : SX C vn r kd x a) (hy : SX C vn r kd y b) : SX C vn r kd (.Subscript x y p) (pw (w_item a b)) := .plain rfl (fun ev hw => subs (pair_sound hx hy ev hw fun u v s₂ F₂ a b I₂ k₂ fx ra rb hq =>
  let ⟨T, id, hT, hl⟩ := getL fx.ok ra hq
  ⟨T, id, hT, hl, up k₂ fx (itemw_sound I₂ fx.ok ra rb hq)⟩)) fun _ => rfl
end

/-! # Slices -/
section
variable {C : Cx} {vn : Nm} {r : Nat} {kd : Kd} {A : Around} {s s₁ s' : Shared} {F F' : Fz} {env : Env} {ρ : Ρ}

theorem upP {α : Type} {a : α} {Q : α → Shared → Fz → Prop} (k : Kp C s s₁) (fx : Fx C F F' s s₁) (h : Pst C s₁ F' Q a s') : Pst C s F Q a s' :=
  let ⟨i, k', F'', x, q⟩ := h; ⟨i, k.trans k', F'', fx.trans x k, q⟩
theorem strSlice_one (lo hi : Option Int) (n : Nat) : Builtin.Str.strSliceIndices lo hi 1 n = (List.range ((match hi with | none => n | some i => ixL i n) - (match lo with | none => 0 | some i => ixL i n))).map ((match lo with | none => 0 | some i => ixL i n) + ·) := by
  unfold Builtin.Str.strSliceIndices
  rw [← sliceRange_one]
  unfold ixL
  cases lo <;> cases hi <;> simp
theorem slicePicked_eq (l : List Nat) (lo hi : Option (Int × Tok)) : (slicePicked (mkS l) lo hi none).filterMap ((mkS l).cps[·]?) = sliceL l (lo.map (·.1)) (hi.map (·.1)) := by
  unfold slicePicked sliceL
  simp only [Option.map_none, Option.getD_none]
  rw [strSlice_one, mkS_length, mkS_cps, pick_run, List.toList_toArray]
  all_goals (cases lo <;> cases hi <;> rfl)
theorem partw_inv {d : V} {Q : Option Int → Prop} (h : partw d Q) : (d = .none ∧ Q none) ∨ ∃ i, d = .int i ∧ Q (some i) := by
  cases d <;> first | exact .inl ⟨rfl, h⟩ | exact .inr ⟨_, rfl, h.2⟩ | exact h.elim
theorem rep_part {v : Value} {d : V} {Q : Option Int → Prop} (r : Rep F v d) (h : partw d Q) : ∃ p : Option (Int × Tok), v = partValue p ∧ IsPart v (p.map (·.1)) ∧ Q (p.map (·.1)) := by
  rcases partw_inv h with ⟨rfl, h'⟩ | ⟨i, rfl, h'⟩
  · obtain rfl := r.none_inv; exact ⟨none, rfl, .none, h'⟩
  · obtain ⟨t, rfl⟩ := r.int_inv; exact ⟨some (i, t), rfl, .int _ _, h'⟩
theorem sliceL_full {l : List Nat} {lo hi : Option Int} (hc : (match hi with | none => l.length | some i => ixL i l.length) - (match lo with | none => 0 | some i => ixL i l.length) = l.length) : sliceL l lo hi = l := by
  have key : ∀ a b : Nat, a ≤ l.length → b ≤ l.length → b - a = l.length → (l.drop a).take (b - a) = l := fun a b ha hb h => by
    cases l with
    | nil => simp
    | cons x l =>
      obtain rfl : a = 0 := by simp only [List.length_cons] at h hb; lia
      simp [show b = (x :: l).length by lia]
  have hle := fun i => ixL_le i l.length
  exact key _ _ (by cases lo <;> first | exact Nat.zero_le _ | exact hle _) (by cases hi <;> first | exact Nat.le_refl _ | exact hle _) hc
theorem slicew_inv {d : V} {i j : Option Int} {Q : V → Prop} (h : slicew d i j Q) : (∃ l, d = .str l ∧ l.length ≤ 1000000 ∧ Q (.str (sliceL l i j))) ∨ ∃ l, d = .list l ∧ l.length ≤ 1000000 ∧ Q (.list (sliceL l i j)) := by
  cases d <;> first | exact .inl ⟨_, rfl, h⟩ | exact .inr ⟨_, rfl, h⟩ | exact h.elim
theorem slice_sound {x : Expr} {l u : Option Expr} {p q : Pos} {Q : V → Prop}
    (h : wpAny (model C.prog C.w) A (eval x env) (fun o s₁ => wpAny (model C.prog C.w) A (evalPart l env) (fun vl s₂ => wpAny (model C.prog C.w) A (evalPart u env) (fun vu s₃ =>
      ∃ F₃ d dl du, Inv C s₃ ∧ Kp C s s₃ ∧ Fx C F F₃ s s₃ ∧ Rep F₃ o d ∧ Rep F₃ vl dl ∧ Rep F₃ vu du ∧ partw dl fun i => partw du fun j => slicew d i j Q) (fun _ _ => False) s₂) (fun _ _ => False) s₁) (fun _ _ => False) s) :
    TrV C A (eval (.Subscript x (.Slice l u none q) p) env) s F Q := by
  refine subs (wpAny_mono h (fun o s₁ h₁ => wpAny_Slice (wpAny_mono h₁ (fun vl s₂ h₂ => wpAny_mono h₂ (fun vu s₃ h₃ => ?_) fun _ _ e => e) fun _ _ e => e)) fun _ _ e => e)
  obtain ⟨F₃, d, dl, du, I₃, k₃, fx₃, ro, rl, ru, hp⟩ := h₃
  rw [evalPart_none]
  obtain ⟨pl, hvl, ipl, hp⟩ := rep_part rl hp
  obtain ⟨pu, hvu, ipu, hp⟩ := rep_part ru hp
  obtain ⟨I₄, k₄, F₄, fx₄, _⟩ := pst_push0 (n := s₃.toks) (a := ()) (Q := fun _ _ _ => True) (o := { cls := .type "slice", data := .fields #[vl, vu, .none] }) I₃ fx₃.ok trivial I₃.tk
  have K := k₃.trans k₄
  have X := fx₃.trans fx₄ k₃
  rcases slicew_inv hp with ⟨sl, rfl, hz, hq⟩ | ⟨sl, rfl, hz, hq⟩
  · obtain ⟨t, rfl⟩ := ro.str_inv
    refine wpAny_pure ⟨"str", _, typeIs_str _ _ _, PySem.F.slot_str_getitem.lookup, up K X ?_⟩
    refine wpAny_getItem_str_slice (l := pl) (u := pu) (st := none) ⟨_, Heap.get?_push_size _ rfl, rfl, by rw [hvl, hvu]; rfl⟩ rfl ?_
    unfold sliceMade
    rw [slicePicked_eq]
    split
    · rename_i hc
      have hc2 := beq_iff_eq.mp (and2 hc).2
      unfold slicePicked at hc2
      simp only [Option.map_none, Option.getD_none] at hc2
      rw [strSlice_one, mkS_length, List.length_map, List.length_range] at hc2
      rw [sliceL_full hc2] at hq
      exact pst_here I₄ fx₄.ok ⟨_, .str _ _, hq⟩
    · exact ⟨show (mkS _).length ≤ _ by rw [mkS_length]; exact sizeLine_big (Nat.le_trans (sliceL_length _ _ _) hz), pst_str I₄ fx₄.ok hq rfl trivial⟩
  · obtain ⟨_, vs, _, rfl, ha, la⟩ := ro.list_inv
    have hl := fx₃.ok.isList ha
    refine wpAny_pure ⟨"list", _, (hl.push _).typeIs, list_getitem_lookup, up K X ?_⟩
    refine wpAny_getItem_list_slice (hl.push _) (Heap.IsSliceOf.new ..) ipl ipu .none (fun h => nomatch h) (pst_push (n := s₃.toks) I₄ fx₄.ok ⟨_, ?_, hq⟩ trivial) (by rw [List.size_toArray, la.length]; exact sizeLine_big hz)
    exact .list (vs := sliceL vs _ _) (n := 0) (.inr ⟨rfl, by rw [slicePick_eq]; rfl⟩) (((la.mono fx₄.le).slice _ _).mono fun _ _ e => .inl e)

/-- a part of a slice -/
structure SPt (C : Cx) (vn : Nm) (r : Nat) (kd : Kd) (x : Option Expr) (w : Ρ → (V → Prop) → Prop) : Prop where
  go : ∀ {A s F env ρ Q}, Ev C vn r kd A s F env ρ → w ρ Q → TrV C A (evalPart x env) s F Q
def w_no (_ : Ρ) (Q : V → Prop) : Prop := Q .none
theorem s_no : SPt C vn r kd none w_no := .mk fun {A s F env ρ Q} ev hw => by
  rw [evalPart_none]
  exact Tr.pure ev.I ev.f ⟨_, .none, hw⟩
theorem s_at {x : Expr} {w : Wp} (h : SX C vn r kd x w) : SPt C vn r kd (some x) (w false) := .mk fun ev hw => h.e ev hw
def w_sl (a : Wp) (lo hi : Ρ → (V → Prop) → Prop) (ρ : Ρ) (Q : V → Prop) : Prop := a false ρ fun x => lo ρ fun l => hi ρ fun h => partw l fun i => partw h fun j => slicew x i j Q
theorem s_sl {x : Expr} {l u : Option Expr} {p q : Pos} {a : Wp} {lo hi : Ρ → (V → Prop) → Prop} (hx : SX C vn r kd x a) (hl : SPt C vn r kd l lo) (hu : SPt C vn r kd u hi) : SX C vn r kd (.Subscript x (.Slice l u none q) p) (pw (w_sl a lo hi)) :=
  .plain rfl (fun ev hw => slice_sound ((hx.e ev hw).after fun o s₁ F₁ I₁ k₁ f₁ ⟨_, ro, h₁⟩ =>
    let e₁ := ev.go I₁ k₁ f₁
    (hl.go e₁ h₁).after fun vl s₂ F₂ I₂ k₂ f₂ ⟨_, rl, h₂⟩ => (hu.go (e₁.go I₂ k₂ f₂) h₂).after fun vu s₃ F₃ I₃ k₃ f₃ ⟨_, ru, h₃⟩ =>
      ⟨F₃, _, _, _, I₃, (k₁.trans k₂).trans k₃, (f₁.trans f₂ k₁).trans f₃ (k₁.trans k₂), (ro.mono f₂.le).mono f₃.le, rl.mono f₃.le, ru, h₃⟩)) fun _ => rfl

/-! # Calls -/
theorem callB {id : String} {y : Expr} {ys : List Expr} {pos : Pos} {Q : List V → Prop} {R : Value → Shared → Prop} (h : Tr C A (spliced ((y :: ys).map fun x => (false, eval x env))) s F (Gvs Q))
    (k : ∀ vs s₁ F₁ ds, Inv C s₁ → Kp C s s₁ → Fx C F F₁ s s₁ → RepL F₁ vs ds → Q ds → wpAny (model C.prog C.w) A (call (.builtin id) vs) R (fun _ _ => False) s₁) :
    wpAny (model C.prog C.w) A (callWith pos (.builtin id) [] ((y :: ys).map fun x => (false, eval x env)) []) R (fun _ _ => False) s :=
  Calls.callWith_builtin (by simp) (Calls.evalArgs_plain (h.after fun vs s₁ F₁ I k₁ fx ⟨ds, rl, hq⟩ => k vs s₁ F₁ ds I k₁ fx rl hq))
theorem callT {T : String} {y : Expr} {ys : List Expr} {pos : Pos} {Q : List V → Prop} {R : Value → Shared → Prop} (h : Tr C A (spliced ((y :: ys).map fun x => (false, eval x env))) s F (Gvs Q))
    (k : ∀ vs s₁ F₁ ds, Inv C s₁ → Kp C s s₁ → Fx C F F₁ s s₁ → RepL F₁ vs ds → Q ds → wpAny (model C.prog C.w) A (call (.type T) vs) R (fun _ _ => False) s₁) :
    wpAny (model C.prog C.w) A (callWith pos (.type T) [] ((y :: ys).map fun x => (false, eval x env)) []) R (fun _ _ => False) s :=
  PySem.callWith_type (by simp) (Calls.evalArgs_plain (h.after fun vs s₁ F₁ I k₁ fx ⟨ds, rl, hq⟩ => k vs s₁ F₁ ds I k₁ fx rl hq))
def w_call (w : List V → (V → Prop) → Prop) (l : List Wp) (ρ : Ρ) (Q : V → Prop) : Prop := wsL l ρ fun ds => w ds Q
theorem s_call (O : Ok C vn) {q : Nat} {w : List V → (V → Prop) → Prop} (n : Nat) {x : Expr} {xs : List Expr} {p pos : Pos} {l : List Wp} (hf : FnAt C (vn.vn n) q w) (hx : kd.lookup n = some .globalImplicit) (h : SA C vn r kd (x :: xs) l) (hq : Nat.ble q r = true := by rfl) :
    SX C vn r kd (.Call (.Name (vn.vn n) p) (x :: xs) [] pos) (pw (w_call w l)) := .plain rfl (fun {A s F env ρ Q} ev hw => by
  obtain ⟨a, o, fd, hm, hK, hd, fn⟩ := hf
  refine wpAny_Call_NameR (nameG O ev.I ev.eo hx hm ?_)
  rw [h.args]
  refine Calls.callWith_function (o := o) (fd := fd) (Calls.evalArgs_plain ((h.ev ev hw).after fun vs s₁ F₁ I₁ k₁ fx ⟨ds, rl, _, hw'⟩ => ?_))
  exact ⟨⟨(I₁.k a o hK).1, hd⟩, up k₁ fx (fn A s₁ F₁ vs ds Q (ev.R.le (Nat.le_of_ble_eq_true hq)) I₁ fx.ok rl hw')⟩) fun _ => rfl
theorem boot_len : bootBuiltins "len" = some (.builtin "len") := by decide +kernel
def w_len (a : Wp) (ρ : Ρ) (Q : V → Prop) : Prop := a false ρ fun x => lenw x Q
theorem SA.one {x : Expr} {a : Wp} (h : SX C vn r kd x a) : SA C vn r kd [x] [a] := .cons h .nil
theorem rep1 {vs : List Value} {d : V} (rl : RepL F vs [d]) : ∃ v, vs = [v] ∧ Rep F v d := by
  cases rl with | cons r1 rl => cases rl with | nil => exact ⟨_, rfl, r1⟩
/-- a builtin function of one argument -/
theorem s_bi (O : Ok C vn) {n : Nat} {id : String} {y : Expr} {p pos : Pos} {a : Wp} {w : V → (V → Prop) → Prop} (hn : vn.vn n = (id : Str)) (hm : (id : Str) ∈ biNames) (hb : bootBuiltins (id : Str) = some (.builtin id)) (hne : (id : Str) ≠ "__name__") (hx : kd.lookup n = some .globalImplicit) (h : SX C vn r kd y a)
    (go : ∀ {A s F v d Q}, Room r A → Inv C s → FzOk C F s.heap → Rep F v d → w d Q → TrV C A (call (.builtin id) [v]) s F Q) : SX C vn r kd (.Call (.Name (vn.vn n) p) [y] [] pos) (pw fun ρ Q => a false ρ fun x => w x Q) := .plain rfl (fun {A s F env ρ Q} ev hw => by
  refine wpAny_Call_NameR (nameB O ev.I ev.eo hx hn hm hb hne ?_)
  rw [(SA.one h).args]
  show wpAny _ A (callWith pos (.builtin id) [] [(false, eval y env)] []) _ _ s
  exact Calls.callWith_builtin rfl (Calls.evalArgs_plain (Calls.spliced_cons ((h.e ev hw).after fun v s₁ F₁ I₁ k₁ fx ⟨d, rv, hd⟩ => Calls.spliced_nil (up k₁ fx (go ev.R I₁ fx.ok rv hd)))))) fun _ => rfl
theorem s_len (O : Ok C vn) {n : Nat} {y : Expr} {p pos : Pos} {a : Wp} (hn : vn.vn n = "len") (hx : kd.lookup n = some .globalImplicit) (h : SX C vn r kd y a) : SX C vn r kd (.Call (.Name (vn.vn n) p) [y] [] pos) (pw (w_len a)) :=
  s_bi O (id := "len") hn (by decide +kernel) boot_len (by decide +kernel) hx h fun _ I f rv hd => len_sound I f rv hd
theorem boot_object : bootBuiltins "object" = some (.type "object") := by decide +kernel
def w_obj (_ : Ρ) (Q : V → Prop) : Prop := ∀ a : Addr, Q (.raw (.ref a))
theorem s_obj (O : Ok C vn) {n : Nat} {p pos : Pos} (hn : vn.vn n = "object") (hx : kd.lookup n = some .globalImplicit) : SX C vn r kd (.Call (.Name (vn.vn n) p) [] [] pos) (pw w_obj) := .plain rfl (fun {A s F env ρ Q} ev hw => by
  refine wpAny_Call_NameR (nameB O ev.I ev.eo hx hn (by decide +kernel) boot_object (by decide +kernel) ?_)
  exact PySem.callWith_type rfl (PyProof.Rows.evalArgs_none (call_object (pst_push (n := s.toks) ev.I ev.f ⟨_, .raw _, hw _⟩ trivial)))) fun _ => rfl
theorem boot_isinstance : bootBuiltins "isinstance" = some (.builtin "isinstance") := by decide +kernel
theorem boot_str : bootBuiltins "str" = some (.type "str") := by decide +kernel

def w_isS (a : Wp) (ρ : Ρ) (Q : V → Prop) : Prop := a false ρ fun x => str1 x fun _ => Q (.bool true)
theorem s_isS (O : Ok C vn) {n m : Nat} {y : Expr} {p p' pos : Pos} {a : Wp} (hn : vn.vn n = "isinstance") (hx : kd.lookup n = some .globalImplicit) (hm : vn.vn m = "str") (hx' : kd.lookup m = some .globalImplicit) (h : SX C vn r kd y a) :
    SX C vn r kd (.Call (.Name (vn.vn n) p) [y, .Name (vn.vn m) p'] [] pos) (pw (w_isS a)) := .plain rfl (fun {A s F env ρ Q} ev hw => by
  refine wpAny_Call_NameR (nameB O ev.I ev.eo hx hn (by decide +kernel) boot_isinstance (by decide +kernel) ?_)
  rw [plx_star h.p]
  refine Calls.callWith_builtin rfl (Calls.evalArgs_plain (Calls.spliced_cons ((h.e ev hw).after fun v s₁ F₁ I₁ k₁ fx ⟨d, rv, hd⟩ => ?_)))
  refine Calls.spliced_cons (nameB O I₁ (ev.eo.kp ev.I k₁ fx) hx' hm (by decide +kernel) boot_str (by decide +kernel) (Calls.spliced_nil ?_))
  obtain ⟨l, rfl, hq⟩ := str1_inv hd
  obtain ⟨t, rfl⟩ := rv.str_inv
  exact PySem.IsiPair.str_str ⟨I₁, k₁, F₁, fx, _, .bool true, hq⟩) fun _ => rfl

/-! ## methods -/
/-- an object whose method is sought by plain roads -/
def baseOk : Expr → Bool
  | .Call (.Name _ _) [] [] _ => false
  | _ => true
theorem base_eq {x : Expr} {nm : Str} (h : baseOk x = true) : attributeBase x nm env (eval x env) = eval x env := by
  cases x with
  | Call f a k p =>
    cases f <;> first | rfl | (cases a <;> cases k <;> first | rfl | cases h)
  | _ => rfl
def strw (d : V) (P : List Nat → Prop) : Prop := str1 d P
def w_join (sep : List Nat) (a : Wp) (ρ : Ρ) (Q : V → Prop) : Prop := a false ρ fun v => joinw sep v Q
theorem s_join (sep : List Nat) {x : Str} {y : Expr} {n : Nat} {p q pos : Pos} {a : Wp} (hs : x = mkS sep) (h : SX C vn r kd y a) (hline : (p.endLine == pos.line) = true) : SX C vn r kd (.Call (.Attribute (.Constant (.str x) n q) "join" p) [y] [] pos) (pw (w_join sep a)) := .plain rfl (fun {A s F env ρ Q} ev hw => by
  subst hs
  have hs : backTo pos (starEach [y] env) = [(false, eval y env)] := (SA.one h).args
  refine wpAny_Call_method (T := "str") (id := "str.join") rfl (by rw [hs]; rfl) hline PySem.F.plainAttrs_str PySem.F.slot_str_join PySem.F.type_str_join (wpAny_Constant_str ?_)
  have k1 := Kp.tok C s (s.toks + 1)
  refine ⟨typeIs_str _ _ _, (fun a e => by cases e), ?_⟩
  rw [hs]
  exact Calls.callWith_builtin rfl (Calls.evalArgs_plain (Calls.spliced_cons ((h.e (ev.go (ev.I.tok _ trivial) k1 (Fx.refl ev.f)) hw).after fun v s₂ F₂ I₂ k₂ fx₂ ⟨d2, rv, h2⟩ => Calls.spliced_nil
    (up (k1.trans k₂) ((Fx.refl ev.f : Fx C F F s { s with toks := s.toks + 1 }).trans fx₂ k1) (join_sound I₂ fx₂.ok (.str _ _) rv h2)))))) fun _ => rfl
def repw (c : Nat) (d : V) (Q : V → Prop) : Prop := str1 d fun l => c ∉ l ∧ Q (.str l)
def w_repl (c : Nat) (a : Wp) (ρ : Ρ) (Q : V → Prop) : Prop := a false ρ fun v => repw c v Q
theorem s_repl (c : Nat) (z : List Nat) {x x' : Str} {y : Expr} {n n' : Nat} {p q q' pos : Pos} {a : Wp} (hx : x = mkS [c]) (hx' : x' = mkS z) (h : SX C vn r kd y a) (hb : baseOk y = true) (hline : (p.endLine == pos.line) = true) :
    SX C vn r kd (.Call (.Attribute y "replace" p) [.Constant (.str x) n q, .Constant (.str x') n' q'] [] pos) (pw (w_repl c a)) := .plain rfl (fun {A s F env ρ Q} ev hw => by
  subst hx; subst hx'
  refine wpAny_Call_method (T := "str") (id := "str.replace") (base_eq hb) (by rfl) hline PySem.F.plainAttrs_str PySem.F.slot_str_replace PySem.F.type_str_replace ((h.e ev hw).after fun v s₁ F₁ I₁ k₁ fx ⟨d, rv, hd⟩ => ?_)
  obtain ⟨l, rfl, hl, hq⟩ := str1_inv hd
  obtain ⟨t, rfl⟩ := rv.str_inv
  refine ⟨typeIs_str _ _ _, (fun a e => by cases e), ?_⟩
  show wpAny _ A (callWith pos (.builtin "str.replace") [.str (mkS l) t] [(false, eval (.Constant (.str (mkS [c])) n q) env), (false, eval (.Constant (.str (mkS z)) n' q') env)] []) _ _ s₁
  exact Calls.callWith_builtin rfl (Calls.evalArgs_plain (Calls.spliced_cons (wpAny_Constant_str (Calls.spliced_cons (wpAny_Constant_str (Calls.spliced_nil (call_repl_no hl (upP k₁ fx (pst_tok (a := Value.str (mkS l) t) I₁ fx.ok ⟨_, .str _ _, hq⟩ trivial)))))))))) fun _ => rfl
def finw (c : Nat) (l : List Nat) (i j : V) (Q : V → Prop) : Prop := int2 i j fun i j => 0 ≤ i ∧ 0 ≤ j ∧ j ≤ l.length ∧ Q (.int (findi c l i.toNat j.toNat))
def w_find (c : Nat) (a b e : Wp) (ρ : Ρ) (Q : V → Prop) : Prop := a false ρ fun x => str1 x fun l => b false ρ fun u => e false ρ fun v => finw c l u v Q
theorem s_find (c : Nat) {x : Str} {y z1 z2 : Expr} {n : Nat} {p q pos : Pos} {a b e : Wp} (hx : x = mkS [c]) (h : SX C vn r kd y a) (h1 : SX C vn r kd z1 b) (h2 : SX C vn r kd z2 e) (hb : baseOk y = true) (hline : (p.endLine == pos.line) = true) :
    SX C vn r kd (.Call (.Attribute y "find" p) [.Constant (.str x) n q, z1, z2] [] pos) (pw (w_find c a b e)) := .plain rfl (fun {A s F env ρ Q} ev hw => by
  subst hx
  have hs : backTo pos (starEach [.Constant (.str (mkS [c])) n q, z1, z2] env) = [(false, eval (.Constant (.str (mkS [c])) n q) env), (false, eval z1 env), (false, eval z2 env)] := by
    show backTo pos ((false, eval (.Constant (.str (mkS [c])) n q) env) :: starEach [z1, z2] env) = _
    rw [plx_star h1.p, plx_star h2.p]; rfl
  refine wpAny_Call_method (T := "str") (id := "str.find") (base_eq hb) (by rw [hs]; rfl) hline PySem.F.plainAttrs_str PySem.F.slot_str_find PySem.F.type_str_find ((h.e ev hw).after fun v s₁ F₁ I₁ k₁ fx₁ ⟨d, rv, hd⟩ => ?_)
  obtain ⟨l, rfl, hd⟩ := str1_inv hd
  obtain ⟨t, rfl⟩ := rv.str_inv
  refine ⟨typeIs_str _ _ _, (fun a e => by cases e), ?_⟩
  rw [hs]
  have k1 := Kp.tok C s₁ (s₁.toks + 1)
  have fx1 : Fx C F₁ F₁ s₁ { s₁ with toks := s₁.toks + 1 } := Fx.refl fx₁.ok
  have ev1 := (ev.go I₁ k₁ fx₁).go (I₁.tok _ trivial) k1 fx1
  refine Calls.callWith_builtin rfl (Calls.evalArgs_plain (Calls.spliced_cons (wpAny_Constant_str (Calls.spliced_cons ((h1.e ev1 hd).after fun v2 s₂ F₂ I₂ k₂ fx₂ ⟨d2, rv2, hd2⟩ => Calls.spliced_cons
    ((h2.e (ev1.go I₂ k₂ fx₂) hd2).after fun v3 s₃ F₃ I₃ k₃ fx₃ ⟨d3, rv3, hd3⟩ => Calls.spliced_nil ?_))))))
  exact int2_go (rv2.mono fx₃.le) rv3 hd3 fun i j t2 t3 e2 e3 ⟨h1, h2, h3, h4⟩ => by
    subst e2; subst e3
    obtain ⟨i0, rfl⟩ := Int.eq_ofNat_of_zero_le h1
    obtain ⟨j0, rfl⟩ := Int.eq_ofNat_of_zero_le h2
    exact call_find (Int.ofNat_le.mp h3) (upP (((k₁.trans k1).trans k₂).trans k₃) (((fx₁.trans fx1 k₁).trans fx₂ (k₁.trans k1)).trans fx₃ ((k₁.trans k1).trans k₂)) (pst_int I₃ fx₃.ok h4 trivial))) fun _ => rfl
def w_fs (a b : List Nat) (e : Wp) (ρ : Ρ) (Q : V → Prop) : Prop := e false ρ fun x => str1 x fun l => l.length ≤ 1000000 ∧ Q (.str (a ++ l ++ b))
theorem str_e (x : Str) : Str.empty ++ x = x := by show Str.append _ _ = _; cases x; simp [Str.append, Str.empty]
theorem s_fs (a b : List Nat) {x x' : Str} {y : Expr} {n n' : Nat} {p p' q pos : Pos} {w : Wp} (hx : x = mkS a) (hx' : x' = mkS b) (la : Nat.ble a.length 1000 = true) (lb : Nat.ble b.length 1000 = true) (h : SX C vn r kd y w) :
    SX C vn r kd (.JoinedStr [.Constant (.str x) n p, .FormattedValue y (-1) none q, .Constant (.str x') n' p'] pos) (pw (w_fs a b w)) := .plain rfl (fun {A s F env ρ Q} ev hw => by
  subst hx; subst hx'
  have la := Nat.le_of_ble_eq_true la
  have lb := Nat.le_of_ble_eq_true lb
  have sz := sizeLine_eq
  refine JoinedStr_many (joinParts_cons (wpAny_Constant_str ?_))
  dsimp only
  refine ⟨by rw [str_e, mkS_length]; lia, joinParts_cons (FormattedValue_plain ?_)⟩
  have k1 := Kp.tok C s (s.toks + 1)
  have fx1 : Fx C F F s { s with toks := s.toks + 1 } := Fx.refl ev.f
  refine (h.e (ev.go (ev.I.tok _ trivial) k1 fx1) hw).after fun v s₁ F₁ I₁ k₁ fx ⟨d, rv, hd⟩ => ?_
  obtain ⟨l, rfl, hz, hq⟩ := str1_inv hd
  obtain ⟨t, rfl⟩ := rv.str_inv
  refine formatField_str (fun t' tk => ?_) (by rw [mkS_length]; lia)
  dsimp only
  rw [str_e, mkS_append]
  refine ⟨by rw [mkS_length, List.length_append]; lia, joinParts_cons (wpAny_Constant_str ?_)⟩
  dsimp only
  rw [mkS_append]
  have hz : (mkS (a ++ l ++ b)).length ≤ sizeLine := by rw [mkS_length, List.length_append, List.length_append]; lia
  exact ⟨hz, joinParts_nil (upP (Q := Gv Q) (k1.trans k₁) (fx1.trans fx k1) (pst_tok (Q := Gv Q) (a := Value.str (mkS (a ++ l ++ b)) _) I₁ fx.ok ⟨_, .str _ _, hq⟩ trivial)) hz⟩) fun _ => rfl
end

/-! # What a loop runs over -/
/-- what a loop's source leaves -/
abbrev SrcPost (C : Cx) (s : Shared) (F : Fz) (rg : Bool) (Q : List V → Prop) : Value → Shared → Prop := fun it s₂ =>
  ∃ F' h0 I fp n P St ds, it = .ref I ∧ Bk C s F s₂ F' ∧ s.heap.get? I = none ∧ ItOk C h0 F' s₂.heap I fp n P St ds ∧ (rg = true → fp = [I] ∧ ∀ d ∈ ds, d.flat = true) ∧ Q ds
structure SSrc (C : Cx) (vn : Nm) (r : Nat) (kd : Kd) (rg : Bool) (x : Expr) (w : Ρ → (List V → Prop) → Prop) : Prop where
  p : plx x = true
  e : ∀ {A s F env ρ Q}, Ev C vn r kd A s F env ρ → w ρ Q → wpAny (model C.prog C.w) A (eval x env) (fun x s₁ => wpAny (model C.prog C.w) A (pyIter x) (SrcPost C s F rg Q) (fun _ _ => False) s₁) (fun _ _ => False) s

section
variable {C : Cx} {vn : Nm} {r : Nat} {kd kd' : Kd} {A : Around} {s s₁ s' : Shared} {F F' : Fz} {env : Env} {ρ : Ρ}

def w_v (a : Wp) (ρ : Ρ) (Q : List V → Prop) : Prop := a false ρ fun d => itemsw d Q
theorem s_v {x : Expr} {a : Wp} (h : SX C vn r kd x a) : SSrc C vn r kd false x (w_v a) := ⟨h.p, fun ev hw => (h.e ev hw).after fun v s₁ F₁ I₁ k₁ fx ⟨d, rv, hd⟩ =>
  (iter_sound ev.R I₁ fx.ok rv hd).after fun it s₂ F₂ I₂ k₂ fx₂ ⟨J, fp, n, P, St, ds, e, io, hfl, hq⟩ =>
    ⟨F₂, _, J, fp, n, P, St, ds, e, ⟨ev.I, I₂, k₁.trans k₂, fx.trans fx₂ k₁⟩, Kp.none k₁ (I₁.freshNe io.lo) io.lo, io, hfl, hq⟩⟩
theorem rangeSize_bound {a b c : Int} (hc : c ≠ 0) : 0 ≤ Builtin.Range.rangeSize a b c ∧ Builtin.Range.rangeSize a b c ≤ (b - a).natAbs := by
  unfold Builtin.Range.rangeSize
  split
  · rename_i h
    split
    · have h1 : 0 ≤ (b - a - 1) / c := Int.ediv_nonneg (by lia) (by lia)
      have h2 : (b - a - 1) / c ≤ b - a - 1 := Int.ediv_le_self _ (by lia)
      lia
    · lia
  · split
    · have h1 : 0 ≤ (a - b - 1) / (-c) := Int.ediv_nonneg (by lia) (by lia)
      have h2 : (a - b - 1) / (-c) ≤ a - b - 1 := Int.ediv_le_self _ (by lia)
      lia
    · lia
theorem small_any {a b c : Int} (hc : c ≠ 0) (ha : a.natAbs < 2 ^ 28) (hb : b.natAbs < 2 ^ 28) (hc' : c.natAbs < 2 ^ 28) : Builtin.Range.small a b c = true := by
  have := rangeSize_bound (a := a) (b := b) hc
  unfold Builtin.Range.small
  simp only [Builtin.Range.rangeFitsLong, Bool.and_eq_true, Bool.or_eq_true, decide_eq_true_eq, beq_iff_eq]
  refine ⟨⟨⟨⟨by omega, by omega⟩, by omega⟩, by omega⟩, .inr ?_⟩
  split
  · rw [Bool.and_eq_true, decide_eq_true_eq, decide_eq_true_eq]; omega
  · rw [Bool.and_eq_true, decide_eq_true_eq, decide_eq_true_eq]; omega
/-- the numbers of a range -/
def rgw (a b c : Int) (Q : List V → Prop) : Prop := c ≠ 0 ∧ a.natAbs < 2 ^ 28 ∧ b.natAbs < 2 ^ 28 ∧ c.natAbs < 2 ^ 28 ∧ (rangeL a b c).length ≤ 1000000 ∧ Q ((rangeL a b c).map V.int)
theorem range_go {a b c : Int} {t u w : Tok} {k : Nat} {Q : List V → Prop} (ev : Ev C vn r kd A s F env ρ) (I₁ : Inv C s₁) (k₁ : Kp C s s₁) (fx : Fx C F F' s s₁) (h : rgw a b c Q) :
    wpAny (model C.prog C.w) A (pyIter (.ref s₁.heap.objs.size)) (SrcPost C s F true Q) (fun _ _ => False) { s₁ with heap := s₁.heap.push { cls := .type "range", data := .fields #[.int a t, .int b u, .int c w] }, toks := k } := by
  obtain ⟨I₂, k₂, F₂, fx₂, _⟩ := pst_push (n := k) (a := ()) (Q := fun _ _ _ => True) (o := { cls := .type "range", data := .fields #[.int a t, .int b u, .int c w] }) I₁ fx.ok trivial trivial
  obtain ⟨hc, ha, hb, hc', hz, hq⟩ := h
  have h0 := (rangeSize_bound (a := a) (b := b) hc).1
  unfold rangeL at hz
  rw [List.length_map, List.length_range] at hz
  refine (range_iter ev.R I₂ fx₂.ok (IsRange.new ..) (small_any hc ha hb hc') h0 (by lia) hq).after fun it s₃ F₃ I₃ k₃ fx₃ ⟨J, fp, n, P, St, ds, e, io, hfl, hq⟩ => ?_
  exact ⟨F₃, _, J, fp, n, P, St, ds, e, ⟨ev.I, I₃, (k₁.trans k₂).trans k₃, (fx.trans fx₂ k₁).trans fx₃ (k₁.trans k₂)⟩, Kp.none (k₁.trans k₂) (I₂.freshNe io.lo) io.lo, io, hfl, hq⟩
theorem boot_range : bootBuiltins "range" = some (.type "range") := by decide +kernel
theorem rsrc (O : Ok C vn) {n : Nat} {y : Expr} {ys : List Expr} {p pos : Pos} {l : List Wp} {w : List V → (List V → Prop) → Prop} (hn : vn.vn n = "range") (hx : kd.lookup n = some .globalImplicit) (h : SA C vn r kd (y :: ys) l)
    (go : ∀ {A s₁ F₁ vs ds Q} {R : Value → Shared → Prop}, RepL F₁ vs ds → w ds Q → (∀ {a b c t u w k}, rgw a b c Q → R (.ref s₁.heap.objs.size) { s₁ with heap := s₁.heap.push { cls := .type "range", data := .fields #[.int a t, .int b u, .int c w] }, toks := k }) → wpAny (model C.prog C.w) A (call (.type "range") vs) R (fun _ _ => False) s₁) :
    SSrc C vn r kd true (.Call (.Name (vn.vn n) p) (y :: ys) [] pos) (fun ρ Q => wsL l ρ fun ds => w ds Q) := ⟨rfl, fun {A s F env ρ Q} ev hw => by
  refine wpAny_Call_NameR (nameB O ev.I ev.eo hx hn (by decide +kernel) boot_range (by decide +kernel) ?_)
  rw [h.args]
  exact callT (h.ev ev hw) fun vs s₁ F₁ ds I₁ k₁ fx rl hq => go rl hq.2 fun hr => range_go ev I₁ k₁ fx hr⟩
def w_r1 (a : Wp) (ρ : Ρ) (Q : List V → Prop) : Prop := a false ρ fun x => int1 x fun b => rgw 0 b 1 Q
def w_r2 (a b : Wp) (ρ : Ρ) (Q : List V → Prop) : Prop := a false ρ fun x => b false ρ fun y => int2 x y fun i j => rgw i j 1 Q
def w_r3 (a b c : Wp) (ρ : Ρ) (Q : List V → Prop) : Prop := a false ρ fun x => b false ρ fun y => c false ρ fun z => int2 x y fun i j => int1 z fun k => rgw i j k Q
theorem repl_cons {vs : List Value} {d : V} {ds : List V} (rl : RepL F vs (d :: ds)) : ∃ v us, vs = v :: us ∧ Rep F v d ∧ RepL F us ds := by
  cases rl with | cons r1 rl => exact ⟨_, _, rfl, r1, rl⟩
theorem repl_nil {vs : List Value} (rl : RepL F vs []) : vs = [] := by cases rl; rfl
def rw1 : List V → (List V → Prop) → Prop | [x], Q => int1 x fun b => rgw 0 b 1 Q | _, _ => False
def rw2 : List V → (List V → Prop) → Prop | [x, y], Q => int2 x y fun i j => rgw i j 1 Q | _, _ => False
def rw3 : List V → (List V → Prop) → Prop | [x, y, z], Q => int2 x y fun i j => int1 z fun k => rgw i j k Q | _, _ => False
theorem s_r1 (O : Ok C vn) {n : Nat} {x : Expr} {p pos : Pos} {a : Wp} (hn : vn.vn n = "range") (hx : kd.lookup n = some .globalImplicit) (ha : SX C vn r kd x a) : SSrc C vn r kd true (.Call (.Name (vn.vn n) p) [x] [] pos) (w_r1 a) :=
  rsrc O (w := rw1) hn hx (.cons ha .nil) fun {A s₁ F₁ vs ds Q R} rl hw k => by
    match ds, hw with
    | [d], hw =>
      obtain ⟨b, rfl, hr⟩ := int1_inv hw
      obtain ⟨_, _, rfl, r1, rl⟩ := repl_cons rl
      obtain rfl := repl_nil rl
      obtain ⟨t, rfl⟩ := r1.int_inv
      exact call_range_1 (k hr)
theorem s_r2 (O : Ok C vn) {n : Nat} {x y : Expr} {p pos : Pos} {a b : Wp} (hn : vn.vn n = "range") (hx : kd.lookup n = some .globalImplicit) (ha : SX C vn r kd x a) (hb : SX C vn r kd y b) : SSrc C vn r kd true (.Call (.Name (vn.vn n) p) [x, y] [] pos) (w_r2 a b) :=
  rsrc O (w := rw2) hn hx (.cons ha (.cons hb .nil)) fun {A s₁ F₁ vs ds Q R} rl hw k => by
    match ds, hw with
    | [d, e], hw =>
      obtain ⟨_, _, rfl, r1, rl⟩ := repl_cons rl
      obtain ⟨_, _, rfl, r2, rl⟩ := repl_cons rl
      obtain rfl := repl_nil rl
      exact int2_go r1 r2 hw fun _ _ _ _ e e' hr => by subst e; subst e'; exact call_range_2 (k hr)
theorem s_r3 (O : Ok C vn) {n : Nat} {x y z : Expr} {p pos : Pos} {a b c : Wp} (hn : vn.vn n = "range") (hx : kd.lookup n = some .globalImplicit) (ha : SX C vn r kd x a) (hb : SX C vn r kd y b) (hc : SX C vn r kd z c) : SSrc C vn r kd true (.Call (.Name (vn.vn n) p) [x, y, z] [] pos) (w_r3 a b c) :=
  rsrc O (w := rw3) hn hx (.cons ha (.cons hb (.cons hc .nil))) fun {A s₁ F₁ vs ds Q R} rl hw k => by
    match ds, hw with
    | [d, e, f], hw =>
      obtain ⟨_, _, rfl, r1, rl⟩ := repl_cons rl
      obtain ⟨_, _, rfl, r2, rl⟩ := repl_cons rl
      obtain ⟨_, _, rfl, r3, rl⟩ := repl_cons rl
      obtain rfl := repl_nil rl
      refine int2_go r1 r2 hw fun _ _ _ _ e e' hr => ?_
      subst e; subst e'
      obtain ⟨k', rfl, hr⟩ := int1_inv hr
      obtain ⟨t, rfl⟩ := r3.int_inv
      exact call_range_3 hr.1 (k hr) (.inl (PyProof.noPylong_small (by have := hr.2.2.2.1; lia)))

/-! # Comprehensions -/
def obw (o : Option Ρ) (K : Ρ → Prop) : Prop := match o with | some β => K β | none => False
theorem obw_inv {o : Option Ρ} {K : Ρ → Prop} (h : obw o K) : ∃ β, o = some β ∧ K β := by cases o with | none => exact h.elim | some β => exact ⟨β, rfl, h⟩
def tstw (c : Option Wp) (ρ : Ρ) (K : Bool → Prop) : Prop := match c with | none => K true | some w => w true ρ fun d => bw d K
inductive STst (C : Cx) (vn : Nm) (r : Nat) (kd : Kd) : List Expr → Option Wp → Prop
  | none : STst C vn r kd [] none
  | some {x : Expr} {w : Wp} : SX C vn r kd x w → STst C vn r kd [x] (some w)
def w_comp (xs fr : List Nat) (src : Ρ → (List V → Prop) → Prop) (cond : Option Wp) (elt : Wp) (ρ : Ρ) (Q : V → Prop) : Prop :=
  (fr.all fun n => (ρ.lookup n).isSome) = true ∧ src ρ fun ds => ∃ f : V → Option V,
    (∀ d ∈ ds, obw (bindp xs d) fun β => tstw cond (β ++ restr fr ρ) fun b => (b = true → elt false (β ++ restr fr ρ) fun q => f d = some q) ∧ (b = false → f d = none)) ∧ Q (.list (ds.filterMap f))
theorem STst.run {ifs : List Expr} {c : Option Wp} (h : STst C vn r kd ifs c) {K : Bool → Prop} (ev : Ev C vn r kd A s F env ρ) (hw : tstw c ρ K) :
    wpAny (model C.prog C.w) A (forIn ifs true fun c r => if r = true then do let ok ← isTrue c env (eval c env); pure (ForInStep.yield ok) else pure (ForInStep.yield r)) (Pst C s F (Gb K)) (fun _ _ => False) s := by
  cases h with
  | none => exact wpAny_tests_nil (pst_here ev.I ev.f hw)
  | some hx => exact wpAny_tests_one ((hx.t ev hw).mono fun b s₁ F₁ I₁ k₁ fx hq => hq)
theorem comp_sound (O : Ok C vn) {xs fr : List Nat} {rg : Bool} {src : Ρ → (List V → Prop) → Prop} {cond : Option Wp} {elt : Wp} {ex tg iter : Expr} {ifs : List Expr} {scope : Scope} {pos : Pos} {Q : V → Prop} (ev : Ev C vn r kd A s F env ρ)
    (hI : SSrc C vn r kd rg iter src) (hT : Tg vn kd' xs tg) (ck : CompOk vn kd kd' scope fr) (hC : STst C vn r kd' ifs cond) (hE : SX C vn r kd' ex elt) (hw : w_comp xs fr src cond elt ρ Q) {use : Option (Value → Sem Unit)} {P : Value → Shared → Prop}
    (hP : ∀ D L s5 F5 vs k m ds, Bk C s F s5 F5 → s.heap.get? D = none → s.heap.get? L = none → D ≠ L → s5.heap.get? D = some (lstObj vs k) → (∀ o, ¬ F5 D o) → (∀ o, ¬ F5 L o) → s5.heap.Ns L m → RepL F5 vs ds → Q (.list ds) →
      compPost (model C.prog C.w) A (fun _ _ => False) use P (.ref D) L (.ok .next) s5) :
    wpAny (model C.prog C.w) A (comprehension (.ListComp ex [⟨tg, iter, ifs, 0⟩] scope pos) scope env (firstIterPos [⟨tg, iter, ifs, 0⟩] pos) (newList []) false (eval iter env) use) P (fun _ _ => False) s := by
  obtain ⟨hfr, hsrc⟩ := hw
  have hfr' : ∀ n ∈ fr, (ρ.lookup n).isSome = true := List.all_eq_true.mp hfr
  have hclos : closureFor scope env = pure (clOf env scope.names) := closureFor_cl fun x hx hk => by
    obtain ⟨n, hn, e⟩ := ck.free x hx hk
    obtain ⟨c, _, _, hc, _⟩ := rd_cell ev.eo (ck.fr n hn).2.2.2 (hfr' n hn)
    exact ⟨c, e ▸ hc⟩
  refine wpAny_comprehension_free rfl (plx_set hI.p env) hclos ck.kind ck.loc (wpAny_mono (hI.e ev hsrc) (fun x s₁ h₁ => wpAny_mono h₁ (fun v s₂ h₂ => ?_) fun _ _ e => e) fun _ _ e => e)
  obtain ⟨F₂, h0, J, fp, n, P', St, ds, rfl, B, hJ, io, _, g, hg, hq⟩ := h₂
  refine comp_core (f := g) ev.R B ev.eo io hJ ck hT hfr' (fun d hd => ?_) O.ec ?_ fun D L s5 F5 vs k m B5 hD hL hDL e5 nD nL hn rl => hP D L s5 F5 vs k m _ B5 hD hL hDL e5 nD nL hn rl hq
  · obtain ⟨β, e, _⟩ := obw_inv (hg d hd); rw [e]; rfl
  · intro L s' F' β d hd hβ I' f' eo'
    obtain ⟨β', e, hb⟩ := obw_inv (hg d hd)
    obtain rfl : β = β' := Option.some.inj (hβ.symm.trans e)
    have ev' : Ev C vn r kd' A s' F' _ _ := ⟨ev.R, I', f', eo'⟩
    exact Tr.mono (hC.run ev' hb) fun b s'' F'' I'' k'' fx'' hq => by
      cases b
      · exact hq.2 rfl
      · exact hE.e (ev'.go I'' k'' fx'') (hq.1 rfl)
theorem s_comp (O : Ok C vn) (xs fr : List Nat) {rg : Bool} (kd' : Kd) {src : Ρ → (List V → Prop) → Prop} {cond : Option Wp} {elt : Wp} {ex tg iter : Expr} {ifs : List Expr} {scope : Scope} {pos : Pos}
    (hI : SSrc C vn r kd rg iter src) (hT : Tg vn kd' xs tg) (ck : compOk vn kd kd' scope fr = true) (hC : STst C vn r kd' ifs cond) (hE : SX C vn r kd' ex elt) : SX C vn r kd (.ListComp ex [⟨tg, iter, ifs, 0⟩] scope pos) (pw (w_comp xs fr src cond elt)) := .plain rfl (fun {A s F env ρ Q} ev hw => by
  rw [eval_ListComp]
  refine comp_sound O ev hI hT (.of ck) hC hE hw (use := none) fun D L s5 F5 vs k m ds B5 hD hL hDL e5 nD nL hn rl hq => ⟨m, hn, fun h' hs' => ?_⟩
  have B6 : Bk C s F { s5 with heap := h' } F5 := B5.upd (S := fun a => a = L) (by rintro a rfl; exact hL) (by rintro a o rfl; exact nL o) (fun b o hb e => hs'.extBut b o hb e) rfl rfl trivial
  have e6 : h'.get? D = some (lstObj vs k) := hs'.extBut D _ hDL e5
  exact (B6.freeze hD e6).toPst ⟨_, .list (vs := vs) (n := k) (.inr ⟨rfl, rfl⟩) (rl.mono fun _ _ e => .inl e), hq⟩) fun _ => rfl
end
section
variable {C : Cx} {A : Around} {s s₁ s' : Shared} {F F' : Fz} {vn : Nm} {r : Nat} {kd : Kd} {env : Env} {ρ : Ρ}

/-- the one table turns -/
theorem Inv.tabm (I : Inv C s) {h' : Heap} {k : Nat} {ps : Array Value} (hx : ∀ b o, b ≠ C.P → s.heap.get? b = some o → h'.get? b = some o) (hP : h'.get? C.P = some (tabObj ps)) (ht : TriplesOk ps.toList) (hk : Tp k) : Inv C { s with heap := h', toks := k } := by
  have nsx : ∀ {b : Addr} {m : Str → Option Value}, s.heap.Ns b m → b ≠ C.P := fun ⟨o, es, ep, e, hd, _⟩ => ne_P I e (by intro ps q; rw [hd] at q; cases q)
  refine ⟨I.g.at' fun o e => hx _ o (nsx I.g) e, I.b.at' fun o e => hx _ o (nsx I.b) e, I.bi, ?_, ?_, I.gens, I.os, hk, fun a o e => ⟨hx a o (I.k a o e).2 (I.k a o e).1, (I.k a o e).2⟩, ?_⟩
  · obtain ⟨mc, hc, h⟩ := I.lim
    exact ⟨mc, hc.at' fun o e => hx _ o (nsx hc) e, h⟩
  · obtain ⟨ps0, a, _, b⟩ := I.tab
    obtain ⟨o, vs, file, tf, flags, tg, inF, text, tt, e1, e2, e3, e4, r1, r2, r3, r4, r5, hne⟩ := CodeHd.of a b
    have H : CodeHd h' C.c C.P := ⟨o, vs, file, tf, flags, tg, inF, text, tt, hx _ _ hne e1, e2, e3, e4, r1, r2, r3, r4, r5, hne⟩
    exact ⟨ps, H.code hP ht, hP, H.tab hP⟩
  · obtain ⟨bm, ob, h1, h2, h3, h4, r⟩ := I.bm
    exact ⟨bm, ob, h1, h2, h3, hx _ _ h3 h4, r⟩
theorem pst_tabm {α : Type} {a : α} {Q : α → Shared → Fz → Prop} (I : Inv C s) (f : FzOk C F s.heap) {h' : Heap} {k : Nat} {ps : Array Value} (hx : ∀ b o, b ≠ C.P → s.heap.get? b = some o → h'.get? b = some o) (hP : h'.get? C.P = some (tabObj ps)) (ht : TriplesOk ps.toList) (hk : Tp k)
    (h : Q a { s with heap := h', toks := k } F) : Pst C s F Q a { s with heap := h', toks := k } :=
  ⟨I.tabm hx hP ht hk, fun b o hb e => hx b o hb e, F, Fx.refl ⟨fun b o e => ⟨hx b o (f.at' b o e).2 (f.at' b o e).1, (f.at' b o e).2⟩, f.k⟩, h⟩

theorem genexprCode_sound {pos : Pos} {qn : Str} {scope : Scope} (I : Inv C s) (f : FzOk C F s.heap) (hc : env.code = .ref C.c) : Tr C A (genexprCode env pos qn scope) s F (fun _ _ _ => True) := by
  refine tr_of I ?_
  obtain ⟨ps, hok, hP, _⟩ := I.tab
  obtain ⟨o, vs, file, tf, flags, tg, inF, text, tt, op, ho, hd, h11, h2, h7, h9, h10, hop, hpd, htr, hne⟩ := id hok
  rw [hP] at hop; cases hop
  unfold genexprCode codeAt
  rw [hc, if_neg (show ¬ ((Value.ref C.c == Value.none) = true) from Bool.false_ne_true)]
  refine wpAny_bind (wpAny_fieldsOf ho hd ?_)
  rw [h11]
  refine wpAny_bind (wpAny_fieldsOf hP hpd ?_)
  cases hnf : codeAmong pos ps.toList with
  | some cv => exact wpAny_pure (pst_here' I f trivial)
  | none =>
    rw [h2, h7, h9, h10]
    refine wpAny_bind (wpAny_newCode fun c' P' h' tk hk hc' hP' hcode' hrec' => ?_)
    have hop' := hk _ _ hP
    refine wpAny_bind (wpAny_updateFieldsOfTheText hop' hpd ?_)
    have hnew : (Obj.mapFields (fun vs => if (codeAmong pos vs.toList).isSome = true then vs else vs ++ #[rawInt pos.line, rawInt pos.col, .ref c']) (tabObj ps)) =
        tabObj (ps ++ #[rawInt pos.line, rawInt pos.col, .ref c']) := by
      simp [Obj.mapFields, tabObj, hnf]
    have hget := Heap.get?_update_self (h := h') (fun o => Obj.mapFields (fun vs => if (codeAmong pos vs.toList).isSome = true then vs else
      vs ++ #[rawInt pos.line, rawInt pos.col, .ref c']) o) hop' (by rw [hnew]; rfl)
    rw [hnew] at hget
    refine wpAny_bind (wpAny_fieldsOf hget rfl ?_)
    have hl : (ps ++ #[rawInt pos.line, rawInt pos.col, Value.ref c']).toList = ps.toList ++ [rawInt pos.line, rawInt pos.col, .ref c'] := by simp
    rw [hl, codeAmong_snoc _ htr hnf]
    refine wpAny_pure fun hn => ?_
    exact pst_tabm I f (ps := ps ++ #[rawInt pos.line, rawInt pos.col, Value.ref c']) (fun b o' hb e => ((Heap.SameBut.update ..).extBut b o' hb (hk b o' e))) hget (by rw [hl]; exact TriplesOk_snoc _ _ _ _ htr) hn trivial
theorem builtins_sound (I : Inv C s) (hg : env.globals = mainGlobals) {Q : Addr → Shared → Prop} {E : Value → Shared → Prop} {M : Model} (h : Q builtinsNs s) : wpAny M A (builtinsFor env.globals env.builtins) Q E s := by
  obtain ⟨bm, ob, h1, h2, h3, h4, h5, h6, h7⟩ := I.bm
  rw [hg]
  exact wpAny_builtinsFor I.g h1 h2 h4 h5 h6 h7 h

/-- a lambda that captures nothing -/
theorem lambda_sound {params : Arguments} {body : Expr} {scope : Scope} {pos : Pos} (I : Inv C s) (f : FzOk C F s.heap) (hc : env.code = .ref C.c) (hg : env.globals = mainGlobals) (hdef : defaultsOf params env = ([], [])) (hcl : closureFor scope env = pure []) :
    Tr C A (eval (.Lambda params body scope pos) env) s F (fun v s' _ => ∃ a, v = .ref a ∧ s'.TypeIs v "function") := by
  refine tr_of I ?_
  obtain ⟨ps, hok, hP, htab⟩ := I.tab
  have htr : TriplesOk ps.toList := by
    obtain ⟨o, vs, file, tf, flags, tg, inF, text, tt, op, ho, hd, h11, h2, h7, h9, h10, hop, hpd, htr, hne⟩ := hok
    exact htr
  obtain ⟨bm, ob, b1, b2, b3, b4, b5, b6, b7⟩ := I.bm
  have hgP : mainGlobals ≠ C.P := by
    obtain ⟨o, es, ep, e, hd, _⟩ := I.g
    exact ne_P I e (by intro ps q; rw [hd] at q; cases q)
  refine kla_eval hdef ?_
  have hb : s.heap.BuiltinsAt C.mg C.P := by
    refine ⟨bm, ob, b1, b2, ?_, b3, b4, b5, b6, b7⟩
    obtain ⟨o, es, ep, e, hd, _⟩ := I.g
    rintro rfl
    rw [e] at b4; cases b4; rw [hd] at b7; cases b7
  cases hnf : codeAmong pos ps.toList with
  | none =>
    refine kla_makeFunction (mg := C.mg) hcl hg I.g hc (CodeHd.of hok htab) hP htr hnf hgP hb fun c' ctv h' tk hx hge hlt hrec hP' hn => ?_
    have hl : (ps ++ #[rawInt pos.line, rawInt pos.col, Value.ref c']).toList = ps.toList ++ [rawInt pos.line, rawInt pos.col, .ref c'] := by simp
    exact pst_tabm I f (ps := ps ++ #[rawInt pos.line, rawInt pos.col, Value.ref c']) (fun b o hb e => Heap.get?_push_of_some _ (hx b o hb e)) (Heap.get?_push_of_some _ hP') (by rw [hl]; exact TriplesOk_snoc _ _ _ _ htr) hn
      ⟨_, rfl, _, Heap.get?_push_size _ rfl, rfl⟩
  | some cv =>
    refine kla_makeFunctionHit (mg := C.mg) hcl hg I.g hc (CodeHd.of hok htab) hP htr hnf hb fun ctv h' tk hk hsz hn => ?_
    exact pst_tabm I f (fun b o _ e => Heap.get?_push_of_some _ (hk b o e)) (Heap.get?_push_of_some _ (hk _ _ hP)) htr hn ⟨_, rfl, _, Heap.get?_push_size _ rfl, rfl⟩

/-! # '-'.join(s.replace(..).replace(..) for s in xs) -/
theorem rr_eval {cenv : Env} {x : Str} {m : Str → Option Value} {l : List Nat} {t : Tok} {k1 k2 k3 k4 : Str} {p0 p1 q1 q2 r1 p2 q3 q4 r2 : Pos} {n1 n2 n3 n4 : Nat} (c1 : k1 = mkS [92]) (c2 : k2 = mkS [92, 92]) (c3 : k3 = mkS [45]) (c4 : k4 = mkS [92, 45])
    (e1 : (p1.endLine == r1.line) = true) (e2 : (p2.endLine == r2.line) = true) (hd : x ≠ "__debug__") (hk : cenv.scope.kind = .function) (hx : cenv.kindOf x = some .local) (hn : s.heap.Ns cenv.locals m) (hm : m x = some (.str (mkS l) t)) (h92 : 92 ∉ l) (hl : l.length ≤ 1000000) {E : Value → Shared → Prop} {M : Program} {w : World} :
    wpAny (model M w) A (eval (.Call (.Attribute (.Call (.Attribute (.Name x p0) "replace" p1) [.Constant (.str k1) n1 q1, .Constant (.str k2) n2 q2] [] r1) "replace" p2) [.Constant (.str k3) n3 q3, .Constant (.str k4) n4 q4] [] r2) cenv) (fun y s₃ => (∃ u, y = .str (mkS (replw 45 [92, 45] l)) u) ∧ Keeps s s₃) E s := by
  subst c1; subst c2; subst c3; subst c4
  refine wpAny_Call_method (T := "str") (id := "str.replace") rfl (by rfl) e2 PySem.F.plainAttrs_str PySem.F.slot_str_replace PySem.F.type_str_replace ?_
  refine wpAny_Call_method (T := "str") (id := "str.replace") rfl (by rfl) e1 PySem.F.plainAttrs_str PySem.F.slot_str_replace PySem.F.type_str_replace ?_
  refine wpAny_Name (wpAny_loadName_local hk hx hn hm ?_) (by simpa using hd)
  refine ⟨typeIs_str _ _ _, (fun a e => by cases e), ?_⟩
  show wpAny _ A (callWith r1 (.builtin "str.replace") [.str (mkS l) t] [(false, eval (.Constant (.str (mkS [92])) n1 q1) cenv), (false, eval (.Constant (.str (mkS [92, 92])) n2 q2) cenv)] []) _ _ s
  refine Calls.callWith_builtin rfl (Calls.evalArgs_plain (Calls.spliced_cons (wpAny_Constant_str (Calls.spliced_cons (wpAny_Constant_str (Calls.spliced_nil ?_))))))
  refine call_repl_no h92 ?_
  refine ⟨typeIs_str _ _ _, (fun a e => by cases e), ?_⟩
  show wpAny _ A (callWith r2 (.builtin "str.replace") [.str (mkS l) t] [(false, eval (.Constant (.str (mkS [45])) n3 q3) cenv), (false, eval (.Constant (.str (mkS [92, 45])) n4 q4) cenv)] []) _ _ _
  refine Calls.callWith_builtin rfl (Calls.evalArgs_plain (Calls.spliced_cons (wpAny_Constant_str (Calls.spliced_cons (wpAny_Constant_str (Calls.spliced_nil ?_))))))
  refine call_repl (u := s.toks + 1 + 1) (v := s.toks + 1 + 1 + 1) (Nat.succ_ne_zero _) (Nat.succ_ne_zero _) (Nat.ne_of_lt (Nat.lt_succ_self _)) (by simp) hl (by simp) fun t' k => ?_
  exact ⟨⟨t', rfl⟩, _, _, rfl, fun b o e => e⟩
def gjL (ls : List (List Nat)) : List Nat := joinL [45] (ls.map (replw 45 [92, 45]))
def gjw (d : V) (Q : V → Prop) : Prop := lst1 d fun ds => ∃ ls, strsOf ds = some ls ∧ ls.length ≤ 100 ∧ (∀ l ∈ ls, l.length ≤ 1000 ∧ 92 ∉ l) ∧ Q (.str (gjL ls))
theorem replw_len {z : List Nat} (c : Nat) (hz : z.length ≤ 2) (h0 : 0 < z.length) : ∀ l : List Nat, (replw c z l).length ≤ 2 * l.length
  | [] => Nat.le_refl _
  | d :: l => by
    have ih := replw_len c hz h0 l
    unfold replw at ih ⊢
    rw [List.flatMap_cons, List.length_append, List.length_cons]
    split
    · lia
    · rw [List.length_singleton]; lia
theorem strsOf_inv {d : V} {ds : List V} {ls : List (List Nat)} (h : strsOf (d :: ds) = some ls) : ∃ l ls', d = .str l ∧ strsOf ds = some ls' ∧ ls = l :: ls' := by
  cases d with
  | str l =>
    obtain ⟨ls', h1, rfl⟩ := Option.map_eq_some_iff.mp h
    exact ⟨l, ls', rfl, h1, rfl⟩
  | _ => cases h
theorem strsOf_get : ∀ {ds : List V} {ls : List (List Nat)}, strsOf ds = some ls → ds = ls.map .str
  | [], ls, h => by cases h; rfl
  | d :: ds, ls, h => by
    obtain ⟨l, ls', rfl, h', rfl⟩ := strsOf_inv h
    rw [strsOf_get h']; rfl
def gjScope (scope : Scope) (x : Str) : Bool := scope.kind == .function && !scope.isCoroutine && scope.names.all (fun y => y.2 != .cell && y.2 != .free) && scope.names.lookup (Str.ofString ".0") == some .local && scope.names.lookup x == some .local
def w_gj (a : Wp) (ρ : Ρ) (Q : V → Prop) : Prop := a false ρ fun d => gjw d Q
theorem s_gj {x : Str} {k0 k1 k2 k3 k4 : Str} {p0 p1 q1 q2 r1 p2 q3 q4 r2 : Pos} {n1 n2 n3 n4 : Nat} {iter : Expr} {px p pos q q' : Pos} {scope : Scope} {n : Nat} {w : Wp} (hec : ∀ env, vn.ec env → env.code = .ref C.c) (ha : SX C vn r kd iter w) (c0 : k0 = mkS [45]) (c1 : k1 = mkS [92]) (c2 : k2 = mkS [92, 92]) (c3 : k3 = mkS [45]) (c4 : k4 = mkS [92, 45])
    (e1 : (p1.endLine == r1.line) = true) (e2 : (p2.endLine == r2.line) = true) (hdb : x ≠ "__debug__") (hsc : gjScope scope x = true) (hline : (p.endLine == q.line) = true) (hit : ∀ env v, genFold iter env v = pure v) :
    SX C vn r kd (.Call (.Attribute (.Constant (.str k0) n q') "join" p) [.GeneratorExp (.Call (.Attribute (.Call (.Attribute (.Name x p0) "replace" p1) [.Constant (.str k1) n1 q1, .Constant (.str k2) n2 q2] [] r1) "replace" p2) [.Constant (.str k3) n3 q3, .Constant (.str k4) n4 q4] [] r2) [⟨.Name x px, iter, [], 0⟩] scope pos] [] q) (pw (w_gj w)) := .plain rfl (fun {A s F env ρ Q} ev hw => by
  subst c0
  have ⟨hsc, hx⟩ := and2 hsc
  have ⟨hsc, h0⟩ := and2 hsc
  have ⟨hsc, hall⟩ := and2 hsc
  have ⟨hkind, hco⟩ := and2 hsc
  have hkind := beq_iff_eq.mp hkind
  have hx := beq_iff_eq.mp hx
  have h0 := beq_iff_eq.mp h0
  have hco : scope.isCoroutine = false := by cases h : scope.isCoroutine <;> first | rfl | (rw [h] at hco; cases hco)
  have hboth := fun y hy => and2 (List.all_eq_true.mp hall y hy)
  have hcell : ∀ y ∈ scope.names, y.2 ≠ .cell := fun y hy => bne_iff_ne.mp (hboth y hy).1
  have hclos : closureFor scope env = pure (clOf env scope.names) := closureFor_cl fun y hy hk => absurd hk (bne_iff_ne.mp (hboth y hy).2)
  refine wpAny_Call_method (T := "str") (id := "str.join") rfl (by rfl) hline PySem.F.plainAttrs_str PySem.F.slot_str_join PySem.F.type_str_join (wpAny_Constant_str ?_)
  have I1 := ev.I.tok (s.toks + 1) trivial
  have k1 := Kp.tok C s (s.toks + 1)
  refine ⟨typeIs_str _ _ _, (fun a e => by cases e), ?_⟩
  show wpAny _ A (callWith q (.builtin "str.join") [.str (mkS [45]) s.toks] [(false, eval (.GeneratorExp _ [⟨.Name x px, iter, [], 0⟩] scope pos) env)] []) _ _ _
  refine Calls.callWith_builtin rfl (Calls.evalArgs_plain (Calls.spliced_cons ?_))
  refine wpAny_GeneratorExp_walksQD ev.R.handled hco hclos hcell h0 hx hkind ev.R.lt ?_ (hit env)
  refine (ha.e (ev.go I1 k1 (Fx.refl ev.f)) hw).after fun v s₂ F₂ I₂ k₂ fx₂ ⟨d, rv, hd⟩ => ?_
  obtain ⟨ds, rfl, ls, hls, hn, hbd, hq⟩ := lst1_inv hd
  obtain rfl := strsOf_get hls
  refine (iter_sound (Q := fun es => es = ls.map .str) ev.R I₂ fx₂.ok rv ⟨by rw [List.length_map]; lia, rfl⟩).after fun it s₃ F₃ I₃ k₃ fx₃ ⟨J, fp, nn, P, St, es, e, io, _, he⟩ => ?_
  subst he
  refine ⟨I₃.lim, ?_⟩
  refine (genexprCode_sound I₃ fx₃.ok (hec _ ev.eo.ec)).after fun code s₄ F₄ I₄ k₄ fx₄ _ => ?_
  refine builtins_sound I₄ ev.eo.glob ?_
  have hval : ∀ i v, P i v → ∃ l t, ls[i]? = some l ∧ v = .str (mkS l) t := fun i v hp => by
    obtain ⟨d, hd, rd⟩ := io.val i v hp
    rw [List.getElem?_map] at hd
    obtain ⟨l, hl, rfl⟩ := Option.map_eq_some_iff.mp hd
    obtain ⟨t, rfl⟩ := rd.str_inv
    exact ⟨l, t, hl, rfl⟩
  have hJP : J ≠ C.P := I₂.freshNe io.lo
  have W0 := io.W A ev.R.handled
  have hst : St 0 s₄.heap := W0.frame _ _ _ io.st fun b hb o e => k₄ b o (by
    rcases io.fp b hb with rfl | ⟨o', q⟩
    · exact hJP
    · exact (fx₃.ok.at' _ _ q).2) e
  obtain ⟨oJ, TJ, hJ, _, _⟩ := io.quiet 0 _ hst
  have hJ2 := io.lo
  have hsz2 : s₂.heap.get? s₄.heap.objs.size = none := Kp.none (k₃.trans k₄) (I₄.freshNe (get_size _)) (get_size _)
  refine ⟨J, fp, [J], nn, P, St, (fun _ => true), (fun i y => ∃ l u, ls[i]? = some l ∧ y = .str (mkS (replw 45 [92, 45] l)) u), e, io.W, hst, ?_, I₄.lim, ?_, ?_, ?_⟩
  · intro b hb
    rcases io.fp b hb with rfl | ⟨o', q⟩
    · exact Heap.lt_size hJ
    · exact Heap.lt_size (fx₄.ok.at' _ _ (fx₄.le _ _ q)).1
  · intro hm
    obtain rfl : cStatics = J := List.mem_singleton.mp hm
    obtain ⟨mc, ⟨o, _, _, q, _⟩, _⟩ := I₂.lim
    cases hJ2.symm.trans q
  · intro href hk
    refine ⟨fun A' E' i v s₂ m₂ _ _ _ _ _ _ _ => wpAny_pure ⟨rfl, _, _, rfl, fun b o e => e⟩, fun A' E' i v s₂ m₂ _ _ _ hP _ hn hm _ => ?_⟩
    obtain ⟨l, t, hl, rfl⟩ := hval i v hP
    have hb := hbd l (List.mem_of_getElem? hl)
    refine wpAny_mono (rr_eval c1 c2 c3 c4 e1 e2 hdb ?_ ?_ hn hm hb.2 (Nat.le_trans hb.1 (by decide))) (fun y s₃ h => ⟨let ⟨u, hu⟩ := h.1; ⟨l, u, hl, hu⟩, h.2⟩) fun _ _ e => e
    · exact hkind
    · exact hx
  · intro a h₅ tk gs hbare hlt hsz hkeep W hat
    refine Calls.spliced_nil ?_
    have hps : passing (fun _ => true) nn 0 = List.range nn := by simp [passing]
    have hnn : nn = ls.length := by rw [← io.len, List.length_map]
    rw [hps, List.length_range] at W
    show wpAny _ A (call (.builtin "str.join") [.str (mkS [45]) s.toks, .ref a]) _ _ _
    refine SC.joinGen W.in4_2 (fun i s h => h.1.typeIs) hat (fun b hb => ?_) (.head _) (fun j v hv => ?_) (fun s' lt hm hacc => ?_) (by rw [hnn]; exact sizeLine_big (Nat.le_trans hn (by decide)))
    · show b < h₅.objs.size
      rw [hsz]
      rcases List.mem_cons.mp hb with rfl | hb
      · exact Nat.lt_succ_self _
      · rcases List.mem_cons.mp hb with rfl | hb
        · exact Nat.lt_succ_of_lt hlt
        · exact Nat.lt_succ_of_lt (Nat.lt_trans (List.mem_range.mp hb) hlt)
    · obtain ⟨i, _, l, u, _, rfl⟩ := hv
      exact ⟨_, _, rfl⟩
    · have hl : lt.map (·.1) = (ls.map (replw 45 [92, 45])).map mkS := by
        apply List.ext_getElem?
        intro j
        have hszl : lt.length = nn := by simpa [strValues] using hacc.1
        by_cases hj : j < nn
        · have hj' : j < lt.length := by lia
          obtain ⟨i, hi, l, u, hli, hv⟩ := hacc.2 j (.str lt[j].1 lt[j].2) (by simp [strValues, List.getElem?_eq_getElem hj'])
          rw [List.getElem?_range hj] at hi
          cases hi
          injection hv with h1 _
          rw [List.getElem?_map, List.getElem?_map, List.getElem?_map, List.getElem?_eq_getElem hj', hli]
          exact congrArg some h1
        · rw [List.getElem?_eq_none (by rw [List.length_map]; lia), List.getElem?_eq_none (by rw [List.length_map, List.length_map]; lia)]
      rw [hl]
      refine ⟨joinOk_of_weight ?_ (by rw [mkS_length]; simp), fun t' k => ?_⟩
      · rw [sum_mk, List.length_map, List.length_map]
        have : ∀ ls : List (List Nat), (∀ l ∈ ls, l.length ≤ 1000 ∧ 92 ∉ l) → ((ls.map (replw 45 [92, 45])).map (·.length)).sum ≤ 2000 * ls.length := by
          intro ls h
          induction ls with
          | nil => exact Nat.le_refl _
          | cons l ls ih =>
            have h1 := replw_len (z := [92, 45]) 45 (by decide) (by decide) l
            have h2 := (h l (.head _)).1
            have h3 := ih fun l hl => h l (.tail _ hl)
            rw [List.map_cons, List.map_cons, List.sum_cons, List.length_cons]
            lia
        have := this ls hbd
        lia
      · have htx : Txt.join (mkS [45]) ((ls.map (replw 45 [92, 45])).map mkS) = mkS (gjL ls) := by
          unfold Txt.join gjL
          rw [StrLaws.glued_eq_join, join_mk]
        rw [htx]
        have hbs : AllBare s'.gens := AllBare.movedS (AllBare.push I₄.gens hbare) hm
        have I4g : Inv C { s₄ with gens := s'.gens } := ⟨I₄.g, I₄.b, I₄.bi, I₄.lim, I₄.tab, hbs, I₄.os, I₄.tk, I₄.k, I₄.bm⟩
        have hk' : ∀ b o, ¬ (b = s₄.heap.objs.size ∨ b = J) → s₄.heap.get? b = some o → s'.heap.get? b = some o := fun b o hb e => hm.heap b o (by simpa using hb) (hkeep b o e)
        have If : Inv C { s' with toks := k } := I₂.upd (s := { s₄ with gens := s'.gens }) I4g (S := fun b => b = s₄.heap.objs.size ∨ b = J) (by rintro b (rfl | rfl) <;> assumption) hk' rfl hm.os trivial
        have k2f : Kp C s₂ { s' with toks := k } := fun b o hb eb => hk' b o (by
          rintro (q | q)
          · rw [q, hsz2] at eb; cases eb
          · rw [q, hJ2] at eb; cases eb) (k₄ b o hb (k₃ b o hb eb))
        refine ⟨If, (k1.trans k₂).trans k2f, F₂, ⟨fx₂.le, fx₂.new, ⟨fun b o e => ⟨k2f b o (fx₂.ok.at' b o e).2 (fx₂.ok.at' b o e).1, (fx₂.ok.at' b o e).2⟩, fx₂.ok.k⟩⟩, _, .str _ _, hq⟩) fun _ => rfl
end

/-! # str.translate by the table of special signs; re.sub of the sole pattern -/
def spcl : List Nat := [40, 41, 91, 93, 123, 125, 63, 42, 43, 45, 124, 94, 36, 92, 46, 38, 126, 35, 32, 9, 10, 13, 11, 12]
def escL (c : Nat) : List Nat := if c ∈ spcl then [92, c] else [c]
/-- the table -/
def SpMap (C : Cx) (x : Str) : Prop := ∃ D o kvs, C.mg x = some (.ref D) ∧ (D == sysModules) = false ∧ C.K D o ∧ o.IsDictOf (intKind C.prog C.w) kvs ∧
    ∀ c : Nat, (valueAt kvs (c : Int) = none ∧ c ∉ spcl) ∨ ∃ t, valueAt kvs (c : Int) = some (.str (mkS [92, c]) t) ∧ c ∈ spcl
/-- the pattern -/
def SpPat (C : Cx) (x : Str) : Prop := ∃ p, C.mg x = some (.ref p) ∧ ∃ o T oT vs n t0 k, C.K p o ∧ o.cls = .type "re.Pattern" ∧ o.dict = none ∧ o.data = .fields #[t0, .int 32 n, .int 1 0, .none, .none, .ref T, .int 0 0] ∧ C.K T oT ∧ oT = tupObj vs k ∧
    (vs.toArray.map Builtin.Re.reRawOf).map (·.toNat) = cde
section
variable {C : Cx} {vn : Nm} {r : Nat} {kd : Kd} {A : Around} {s s₁ s' : Shared} {F F' : Fz} {env : Env} {ρ : Ρ}

def trw (d : V) (Q : V → Prop) : Prop := str1 d fun l => ∃ c, l = [c] ∧ c < 128 ∧ Q (.str (escL c))
def w_tr (a : Wp) (ρ : Ρ) (Q : V → Prop) : Prop := a false ρ fun d => trw d Q
theorem s_tr (O : Ok C vn) {m : Nat} {y : Expr} {p pg q : Pos} {a : Wp} (X : SpMap C (vn.vn m)) (hg : kd.lookup m = some .globalImplicit) (h : SX C vn r kd y a) (hb : baseOk y = true) (hline : (p.endLine == q.line) = true) :
    SX C vn r kd (.Call (.Attribute y "translate" p) [.Name (vn.vn m) pg] [] q) (pw (w_tr a)) := .plain rfl (fun {A s F env ρ Q} ev hw => by
  obtain ⟨D, o, kvs, hD, hsm, hK, hdict, hv⟩ := X
  refine wpAny_Call_method (T := "str") (id := "str.translate") (base_eq hb) (by rfl) hline PySem.F.plainAttrs_str PySem.F.slot_str_translate PySem.F.type_str_translate ((h.e ev hw).after fun v s₁ F₁ I₁ k₁ fx₁ ⟨d, rv, hd⟩ => ?_)
  obtain ⟨_, rfl, c, rfl, h128, hq⟩ := str1_inv hd
  obtain ⟨t, rfl⟩ := rv.str_inv
  refine ⟨typeIs_str _ _ _, (fun a e => by cases e), ?_⟩
  show wpAny _ A (callWith _ (.builtin "str.translate") [.str (mkS [c]) t] [(false, eval (.Name (vn.vn m) _) env)] []) _ _ s₁
  refine Calls.callWith_builtin rfl (Calls.evalArgs_plain (Calls.spliced_cons (nameG O I₁ (ev.eo.kp ev.I k₁ fx₁) hg hD (Calls.spliced_nil ?_))))
  have hm : s₁.heap.MapOf (intKind C.prog C.w) D (valueAt kvs) := (Heap.dictOf_iff.mpr ⟨o, (I₁.k _ _ hK).1, hdict⟩).mapOf
  have fin : ∀ {l : List Nat} {h' k u}, (∀ b o, s₁.heap.get? b = some o → h'.get? b = some o) → Q (.str l) → Pst C s F (Gv Q) (.str (mkS l) u) { s₁ with heap := h', toks := k } := fun {l h' k u} hup hq =>
    ⟨I₁.keep hup rfl rfl trivial, fun b o hb e => hup b o (k₁ b o hb e), F₁, ⟨fx₁.le, fx₁.new, ⟨fun b o e => ⟨hup b o (fx₁.ok.at' b o e).1, (fx₁.ok.at' b o e).2⟩, fx₁.ok.k⟩⟩, _, .str _ _, hq⟩
  refine call_translate ev.R.handled hsm hm h128 ?_
  unfold escL at hq
  rcases hv c with ⟨h1, h2⟩ | ⟨t', h1, h2⟩
  · rw [if_neg h2] at hq
    exact .inl ⟨h1, fun h' k u hk hup => fin hup hq⟩
  · rw [if_pos h2] at hq
    exact .inr ⟨[92, c], t', h1, by show 1 < 2; decide, by show 2 ≤ 100; decide, fun h' k u hk hup => fin hup hq⟩) fun _ => rfl

def subw (d : V) (Q : V → Prop) : Prop := str1 d fun l => l.length ≤ 1000000 ∧ l.all noAmp = true ∧ Q (.str l)
def w_sub (a : Wp) (ρ : Ρ) (Q : V → Prop) : Prop := a false ρ fun d => subw d Q
theorem s_sub (O : Ok C vn) {m : Nat} {y : Expr} {p pg pl q : Pos} {a : Wp} {params : Arguments} {body : Expr} {scope : Scope} (X : SpPat C (vn.vn m)) (hec : ∀ env, vn.ec env → env.code = .ref C.c) (hg : kd.lookup m = some .globalImplicit) (h : SX C vn r kd y a) (hline : (p.endLine == q.line) = true)
    (hdef : ∀ env, defaultsOf params env = ([], [])) (hfr : scope.names.all (fun x => x.2 != .free) = true) :
    SX C vn r kd (.Call (.Attribute (.Name (vn.vn m) pg) "sub" p) [.Lambda params body scope pl, y] [] q) (pw (w_sub a)) := .plain rfl (fun {A s F env ρ Q} ev hw => by
  have hfree : ∀ y ∈ scope.names, y.2 ≠ .free := fun y hy => bne_iff_ne.mp (List.all_eq_true.mp hfr y hy)
  have hcl : closureFor scope env = pure [] := by
    rw [closureFor_cl fun y hy hk => absurd hk (hfree y hy)]
    congr 1
    unfold clOf
    generalize ([] : List (Str × Addr)) = acc
    revert hfree
    generalize scope.names = l
    induction l generalizing acc with
    | nil => intro _; rfl
    | cons z l ih =>
      intro h
      have hz : (z.2 == NameKind.free) = false := beq_false_of_ne (h z (.head _))
      rw [List.foldl_cons]
      unfold clStep
      rw [hz]
      exact ih acc fun y hy => h y (.tail _ hy)
  obtain ⟨p', hp, o, T, oT, vs, n, t0, k, hK, hcls, hdict, hdata, hKT, hoT, hvs⟩ := X
  have hs : backTo q (starEach [.Lambda params body scope pl, y] env) = [(false, eval (.Lambda params body scope pl) env), (false, eval y env)] := by
    show backTo q ((false, eval (.Lambda params body scope pl) env) :: starEach [y] env) = _
    rw [plx_star h.p]; rfl
  refine wpAny_Call_method (T := "re.Pattern") (id := "re.Pattern.sub") rfl (by rw [hs]; rfl) hline plainAttrs_pat slot_pat_sub type_pat_sub (nameG O ev.I ev.eo hg hp ?_)
  refine ⟨⟨o, (ev.I.k _ _ hK).1, hcls⟩, fun b e => by cases e; exact ⟨o, (ev.I.k _ _ hK).1, hdict⟩, ?_⟩
  rw [hs]
  refine Calls.callWith_builtin rfl (Calls.evalArgs_plain (Calls.spliced_cons ?_))
  refine (lambda_sound ev.I ev.f (hec _ ev.eo.ec) ev.eo.glob (hdef env) hcl).after fun fv s₁ F₁ I₁ k₁ fx₁ ⟨fa, hfa, hft⟩ => Calls.spliced_cons ?_
  subst hfa
  refine (h.e (ev.go I₁ k₁ fx₁) hw).after fun v s₂ F₂ I₂ k₂ fx₂ ⟨d, rv, hd⟩ => Calls.spliced_nil ?_
  obtain ⟨l, rfl, hlen, hall, hq⟩ := str1_inv hd
  obtain ⟨t, rfl⟩ := rv.str_inv
  have hft2 : s₂.TypeIs (.ref fa) "function" := by
    obtain ⟨of, hof, hcf⟩ := hft
    refine ⟨of, k₂ _ _ ?_ hof, hcf⟩
    rintro rfl
    obtain ⟨ps, _, hP, _⟩ := I₁.tab
    cases hof.symm.trans hP
    cases hcf
  have hpat : IsPat s₂.heap p' := ⟨o, T, vs, n, (I₂.k _ _ hK).1, hcls, ⟨t0, hdata⟩, ⟨k, by rw [(I₂.k _ _ hKT).1, hoT]⟩, hvs⟩
  have K := k₁.trans k₂
  have FX := fx₁.trans fx₂ k₁
  exact call_sub (fun c hc => List.all_eq_true.mp hall c hc) hlen hpat hft2 fun h' k u hup =>
    ⟨I₂.keep hup rfl rfl trivial, fun b o hb e => hup b o (K b o hb e), F₂, ⟨FX.le, FX.new, ⟨fun b o e => ⟨hup b o (FX.ok.at' b o e).1, (FX.ok.at' b o e).2⟩, FX.ok.k⟩⟩, _, .str _ _, hq⟩) fun _ => rfl
end

/-! # What a function's variables hold -/
inductive LV where
  | val (d : V)
  | own (ds : List V)
  | own2 (fs : List V) (ls : List V)
  | app (n : Nat)
abbrev St := List (Nat × LV)
def LV.base : LV → Option V
  | .val d => some d
  | _ => none
def LV.all : LV → Option V
  | .val d => some d
  | .own ds => some (.list ds)
  | .own2 fs ls => some (.list (fs ++ [.list ls]))
  | .app _ => none
def ρof (f : LV → Option V) : St → Ρ
  | [] => []
  | (n, lv) :: σ => match f lv with | some d => (n, d) :: ρof f σ | none => ρof f σ
abbrev ρb : St → Ρ := ρof LV.base
abbrev ρa : St → Ρ := ρof LV.all
def LV.uses : LV → Bool → Prop
  | .own _, b => b = false
  | .own2 _ _, _ => True
  | _, _ => False
def Used (σ : St) (n : Nat) (b : Bool) : Prop := ∃ lv, σ.lookup n = some lv ∧ lv.uses b
/-- the bound method xs.append -/
def appObj (a : Addr) : Obj := { cls := .type "builtin_function_or_method", data := .fields #[.builtin "list.append", .ref a] }

def VarOk (h : Heap) (F : Fz) (v : Option Value) (ad : Nat → Bool → Addr) (n : Nat) : LV → Prop
  | .val d => ∃ u, v = some u ∧ Rep F u d
  | .own ds => ∃ vs k, v = some (.ref (ad n false)) ∧ h.get? (ad n false) = some (lstObj vs k) ∧ RepL F vs ds
  | .own2 fs ls => ∃ vs k us j, v = some (.ref (ad n false)) ∧ h.get? (ad n false) = some (lstObj (vs ++ [.ref (ad n true)]) k) ∧ h.get? (ad n true) = some (lstObj us j) ∧ RepL F vs fs ∧ RepL F us ls
  | .app m => ∃ q, v = some (.ref q) ∧ F q (appObj (ad m false))

structure Mut (env : Env) (own : List Str) (h0 : Heap) (F X : Fz) (a : Addr) : Prop where
  new : h0.get? a = none
  np : ¬ Priv env own a
  nf : ∀ o, ¬ F a o
  nx : ∀ o, ¬ X a o

/-- the static part of a frame -/
structure Fs (C : Cx) (vn : Nm) (kd : Kd) (env : Env) (own : List Str) (s₀ : Shared) : Prop where
  ap : Apart env own s₀.heap
  hv : ∀ n, isVar kd n = true → env.kindOf (vn.vn n) = some .local ∨ vn.vn n ∈ own
  glob : env.globals = mainGlobals
  bi : env.builtins = builtinsNs
  kk : ∀ n k, kd.lookup n = some k → env.kindOf (vn.vn n) = some k ∨ (k = .free ∧ env.kindOf (vn.vn n) = some .cell)
  inj : ∀ n m, isVar kd n = true → isVar kd m = true → vn.vn n = vn.vn m → n = m
  ec : vn.ec env
  i0 : Inv C s₀

/-- the variables and what they hold -/
structure Vs (vn : Nm) (kd : Kd) (env : Env) (own : List Str) (h0 : Heap) (X : Fz) (σ : St) (h : Heap) (F : Fz) (vr : Str → Option Value) (ad : Nat → Bool → Addr) : Prop where
  fr : Frm env own h vr
  ok : ∀ n lv, σ.lookup n = some lv → isVar kd n = true ∧ VarOk h F (vr (vn.vn n)) ad n lv
  mu : ∀ n b, Used σ n b → Mut env own h0 F X (ad n b)
  dj : ∀ n b m c, Used σ n b → Used σ m c → ad n b = ad m c → n = m ∧ b = c
structure Rl (C : Cx) (vn : Nm) (kd : Kd) (env : Env) (own : List Str) (s₀ : Shared) (F₀ X : Fz) (σ : St) (s : Shared) (F : Fz) : Prop where
  fs : Fs C vn kd env own s₀
  B : Bk C s₀ F₀ s F
  pf : ∀ a, Priv env own a → ∀ o, ¬ F a o
  nd : (σ.map Prod.fst).Nodup
  x : ∀ b o, X b o → s.heap.get? b = some o ∧ b ≠ C.P ∧ ¬ Priv env own b ∧ ∀ o, ¬ F b o
  ex : ∃ vr ad, Vs vn kd env own s₀.heap X σ s.heap F vr ad

section
variable {C : Cx} {A : Around} {s s₀ s₁ s₂ s' : Shared} {F F₀ F₁ F' X : Fz} {r : Nat} {env : Env} {own : List Str} {vn : Nm} {kd : Kd} {σ : St} {vr vr' : Str → Option Value} {ad ad' : Nat → Bool → Addr}

theorem Fs.ncP (f : Fs C vn kd env own s₀) {a : Addr} (h : s₀.heap.get? a = none) : a ≠ C.P := f.i0.freshNe h
theorem Fs.loc (f : Fs C vn kd env own s₀) {n : Nat} (h : kd.lookup n = some .local) : env.kindOf (vn.vn n) = some .local := (f.kk _ _ h).elim id fun e => nomatch e.1
theorem Fs.cell (f : Fs C vn kd env own s₀) {n : Nat} (h : kd.lookup n = some .cell) : env.kindOf (vn.vn n) = some .cell := (f.kk _ _ h).elim id fun e => nomatch e.1
theorem Mut.mono {a : Addr} (m : Mut env own s₀.heap F X a) (h : ∀ o, ¬ F' a o) : Mut env own s₀.heap F' X a := ⟨m.new, m.np, h, m.nx⟩
theorem VarOk.kp {h h' : Heap} {v : Option Value} {n : Nat} {lv : LV} (x : VarOk h F v ad n lv) (hF : ∀ a o, F a o → F' a o) (hk : ∀ b, lv.uses b → ∀ o, h.get? (ad n b) = some o → h'.get? (ad n b) = some o) (ha : ∀ b, lv.uses b → ad' n b = ad n b) (hp : ∀ m, lv = .app m → ad' m false = ad m false) : VarOk h' F' v ad' n lv := by
  cases lv with
  | val d => obtain ⟨v, e, rv⟩ := x; exact ⟨v, e, rv.mono hF⟩
  | own ds => obtain ⟨vs, k, e, q, rl⟩ := x; have ea := ha false rfl; exact ⟨vs, k, ea ▸ e, ea ▸ hk false rfl _ q, rl.mono hF⟩
  | own2 fs ls =>
    obtain ⟨vs, k, us, j, e, q, q2, r1, r2⟩ := x
    have e1 := ha false trivial
    have e2 := ha true trivial
    exact ⟨vs, k, us, j, e1 ▸ e, e1 ▸ e2 ▸ hk false trivial _ q, e2 ▸ hk true trivial _ q2, r1.mono hF, r2.mono hF⟩
  | app m => obtain ⟨q, e, w⟩ := x; have ea := hp m rfl; exact ⟨q, e, ea ▸ hF _ _ w⟩
theorem VarOk.get {h : Heap} {v : Option Value} {n : Nat} {lv : LV} (x : VarOk h F v ad n lv) {b : Bool} (u : lv.uses b) : ∃ vs k, h.get? (ad n b) = some (lstObj vs k) := by
  cases lv with
  | own ds => obtain ⟨vs, k, e, q, rl⟩ := x; cases u; exact ⟨_, _, q⟩
  | own2 fs ls => obtain ⟨vs, k, us, j, e, q, q2, r1, r2⟩ := x; cases b <;> exact ⟨_, _, by assumption⟩
  | _ => exact u.elim
theorem Vs.get (x : Vs vn kd env own s₀.heap X σ s.heap F vr ad) {n : Nat} {b : Bool} (u : Used σ n b) : ∃ vs k, s.heap.get? (ad n b) = some (lstObj vs k) :=
  let ⟨_, e, ul⟩ := u; (x.ok _ _ e).2.get ul

/-- evaluation keeps all -/
theorem Rl.kpX (R : Rl C vn kd env own s₀ F₀ X σ s F) (k : Kp C s s') (x : Fx C F F' s s') (h : Vs vn kd env own s₀.heap X σ s.heap F vr ad) : Vs vn kd env own s₀.heap X σ s'.heap F' vr ad where
  fr := h.fr.at fun b o hb e => k b o (R.fs.ncP (R.fs.ap.none b hb)) e
  ok := fun n lv e => ⟨(h.ok n lv e).1, (h.ok n lv e).2.kp x.le (fun b u o q => k _ o (R.fs.ncP (h.mu n b ⟨lv, e, u⟩).new) q) (fun _ _ => rfl) fun _ _ => rfl⟩
  mu := fun n b u => let ⟨_, _, q⟩ := h.get u; (h.mu n b u).mono (x.priv (h.mu n b u).nf q)
  dj := h.dj
theorem Rl.kp (R : Rl C vn kd env own s₀ F₀ X σ s F) (i : Inv C s') (k : Kp C s s') (x : Fx C F F' s s') : Rl C vn kd env own s₀ F₀ X σ s' F' :=
  let ⟨vr, ad, h⟩ := R.ex
  ⟨R.fs, R.B.go i k x, fun a pa => let ⟨_, ho⟩ := h.fr.some pa; x.priv (R.pf a pa) ho, R.nd, fun b o e => let ⟨h1, h2, h3, h4⟩ := R.x b o e; ⟨k b o h2 h1, h2, h3, x.priv h4 h1⟩, vr, ad, R.kpX k x h⟩

theorem mem_of_lookup {α : Type} {n : Nat} {lv : α} : ∀ {σ : List (Nat × α)}, σ.lookup n = some lv → (n, lv) ∈ σ
  | (k, d) :: β, h => by
    rw [List.lookup_cons] at h
    cases q : n == k with
    | true => rw [q] at h; cases h; rw [beq_iff_eq.mp q]; exact .head _
    | false => rw [q] at h; exact .tail _ (mem_of_lookup h)
theorem ρof_lookup (f : LV → Option V) : ∀ {σ : St} {n : Nat} {d : V}, (σ.map Prod.fst).Nodup → (ρof f σ).lookup n = some d → ∃ lv, σ.lookup n = some lv ∧ f lv = some d
  | (m, lv) :: σ, n, d, nd, h => by
    have nd := List.nodup_cons.mp nd
    have ih := fun h => @ρof_lookup f σ n d nd.2 h
    unfold ρof at h
    rw [List.lookup_cons]
    cases hb : f lv with
    | some e =>
      rw [hb] at h
      have h : List.lookup n ((m, e) :: ρof f σ) = some d := h
      rw [List.lookup_cons] at h
      cases q : n == m with
      | true => rw [q] at h; cases h; exact ⟨lv, rfl, hb⟩
      | false => rw [q] at h; exact ih h
    | none =>
      rw [hb] at h
      obtain ⟨lv', h1, h2⟩ := ih h
      cases q : n == m with
      | true => exact absurd (List.mem_map_of_mem (f := Prod.fst) (mem_of_lookup h1)) (beq_iff_eq.mp q ▸ nd.1)
      | false => exact ⟨lv', h1, h2⟩

/-- over the frozen and the owned objects -/
def Fz.plus (F : Fz) (σ : St) (ad : Nat → Bool → Addr) (h : Heap) : Fz := fun a o => F a o ∨ ∃ n b, Used σ n b ∧ a = ad n b ∧ h.get? a = some o
theorem Rl.rd (R : Rl C vn kd env own s₀ F₀ X σ s F) (h : Vs vn kd env own s₀.heap X σ s.heap F vr ad) {n : Nat} {lv : LV} (e : σ.lookup n = some lv) {v : Value} (hv : vr (vn.vn n) = some v) : RdAt env s.heap (vn.vn n) v :=
  h.fr.rd (fun x hx => (R.fs.ap.c x hx).1) (R.fs.hv _ (h.ok n lv e).1) hv
theorem Rl.envB (R : Rl C vn kd env own s₀ F₀ X σ s F) : EnvOk C vn kd env s.heap F (ρb σ) :=
  let ⟨vr, ad, h⟩ := R.ex
  ⟨R.fs.ap.kind, R.fs.glob, R.fs.bi, R.fs.kk, R.fs.ec, fun n d e => by
    obtain ⟨lv, e1, e2⟩ := ρof_lookup _ R.nd e
    have ok := (h.ok n lv e1).2
    cases lv with
    | val d' => cases e2; obtain ⟨v, e3, rv⟩ := ok; exact ⟨v, R.rd h e1 e3, rv⟩
    | _ => cases e2⟩
theorem Rl.envA (R : Rl C vn kd env own s₀ F₀ X σ s F) : ∃ G : Fz, (∀ a o, F a o → G a o) ∧ FzOk C G s.heap ∧ EnvOk C vn kd env s.heap G (ρa σ) := by
  obtain ⟨vr, ad, h⟩ := R.ex
  have up : ∀ a o, F a o → (F.plus σ ad s.heap) a o := fun _ _ e => .inl e
  refine ⟨F.plus σ ad s.heap, up, ⟨fun a o e => e.elim (R.B.f.at' a o) fun ⟨n, b, u, ea, e⟩ => ⟨e, by subst ea; exact R.fs.ncP (h.mu n b u).new⟩, fun a o e => .inl (R.B.f.k a o e)⟩, R.fs.ap.kind, R.fs.glob, R.fs.bi, R.fs.kk, R.fs.ec, fun n d e => ?_⟩
  obtain ⟨lv, e1, e2⟩ := ρof_lookup _ R.nd e
  have ok := (h.ok n lv e1).2
  cases lv with
  | val d' => cases e2; obtain ⟨v, e3, rv⟩ := ok; exact ⟨v, R.rd h e1 e3, rv.mono up⟩
  | own ds => cases e2; obtain ⟨vs, k, e3, q, rl⟩ := ok; exact ⟨_, R.rd h e1 e3, .list (.inr ⟨n, false, ⟨_, e1, rfl⟩, rfl, q⟩) (rl.mono up)⟩
  | own2 fs ls =>
    cases e2
    obtain ⟨vs, k, us, j, e3, q, q2, r1, r2⟩ := ok
    exact ⟨_, R.rd h e1 e3, .list (.inr ⟨n, false, ⟨_, e1, trivial⟩, rfl, q⟩) ((r1.mono up).append (.cons (.list (.inr ⟨n, true, ⟨_, e1, trivial⟩, rfl, q2⟩) (r2.mono up)) .nil))⟩
  | app m => cases e2

/-! ## a variable changes -/
def put : St → Nat → LV → St
  | [], n, lv => [(n, lv)]
  | (m, l) :: σ, n, lv => match m == n with | true => (n, lv) :: σ | false => (m, l) :: put σ n lv
def isApp (n : Nat) : LV → Bool
  | .app m => m == n
  | _ => false
def noApp (σ : St) (n : Nat) : Bool := σ.all fun p => !isApp n p.2
def keepv (σ : St) (l : List Nat) : St := σ.filter fun p => l.contains p.1
theorem put_keys : ∀ {σ : St} {n : Nat} {lv : LV} {k : Nat}, k ∈ (put σ n lv).map Prod.fst → k = n ∨ k ∈ σ.map Prod.fst
  | [], n, lv, k, h => .inl (List.mem_singleton.mp h)
  | (m, l) :: σ, n, lv, k, h => by
    unfold put at h
    cases q : m == n with
    | true => rw [q] at h; exact (List.mem_cons.mp h).imp id fun h => .tail _ h
    | false =>
      rw [q] at h
      rcases List.mem_cons.mp h with e | h
      · exact .inr (e ▸ .head _)
      · exact (put_keys h).imp id fun h => .tail _ h
theorem put_nodup : ∀ {σ : St} {n : Nat} {lv : LV}, (σ.map Prod.fst).Nodup → ((put σ n lv).map Prod.fst).Nodup
  | [], n, lv, _ => List.nodup_cons.mpr ⟨List.not_mem_nil, List.nodup_nil⟩
  | (m, l) :: σ, n, lv, h => by
    have h' := List.nodup_cons.mp h
    unfold put
    cases q : m == n with
    | true => obtain rfl := beq_iff_eq.mp q; exact h
    | false => exact List.nodup_cons.mpr ⟨fun hm => (put_keys hm).elim (ne_of_beq_false q) h'.1, put_nodup h'.2⟩
theorem put_self : ∀ {σ : St} {n : Nat} {lv : LV}, (put σ n lv).lookup n = some lv
  | [], n, lv => List.lookup_cons_self
  | (k, l) :: σ, n, lv => by
    unfold put
    cases q : k == n with
    | true => exact List.lookup_cons_self
    | false =>
      have : (n == k) = false := by rw [← q]; exact BEq.comm
      show List.lookup n ((k, l) :: put σ n lv) = _
      rw [List.lookup_cons, this]; exact put_self
theorem put_ne : ∀ {σ : St} {n m : Nat} {lv : LV}, m ≠ n → (put σ n lv).lookup m = σ.lookup m
  | [], n, m, lv, h => by
    show List.lookup m ((n, lv) :: []) = _
    rw [List.lookup_cons, beq_false_of_ne h]
  | (k, l) :: σ, n, m, lv, h => by
    unfold put
    cases q : k == n with
    | true =>
      obtain rfl := beq_iff_eq.mp q
      show List.lookup m ((k, lv) :: σ) = _
      rw [List.lookup_cons, List.lookup_cons, beq_false_of_ne h]
    | false =>
      show List.lookup m ((k, l) :: put σ n lv) = _
      rw [List.lookup_cons, List.lookup_cons, put_ne h]
theorem keepv_lookup {l : List Nat} : ∀ {σ : St} {m : Nat} {lv : LV}, (σ.map Prod.fst).Nodup → (keepv σ l).lookup m = some lv → σ.lookup m = some lv := by
  intro σ m lv nd h
  have hm := (List.mem_filter.mp (mem_of_lookup h)).1
  clear h
  induction σ with
  | nil => cases hm
  | cons p σ ih =>
    have nd' := List.nodup_cons.mp nd
    rw [List.lookup_cons]
    rcases List.mem_cons.mp hm with e | h
    · cases e; rw [beq_self_eq_true]
    · have : (m == p.1) = false := beq_false_of_ne fun e => nd'.1 (e ▸ List.mem_map_of_mem (f := Prod.fst) h)
      rw [this]; exact ih nd'.2 h
theorem used_put {n m : Nat} {b : Bool} {lv : LV} (u : Used (put σ n lv) m b) : (m = n ∧ lv.uses b) ∨ (m ≠ n ∧ Used σ m b) := by
  obtain ⟨l, e, ul⟩ := u
  by_cases h : m = n
  · subst h; rw [put_self] at e; cases e; exact .inl ⟨rfl, ul⟩
  · rw [put_ne h] at e; exact .inr ⟨h, l, e, ul⟩

/-- one variable anew -/
theorem Rl.set {n : Nat} {lv : LV} (R : Rl C vn kd env own s₀ F₀ X σ s F) (h : Vs vn kd env own s₀.heap X σ s.heap F vr ad) (B : Bk C s₀ F₀ s' F') (hF : ∀ a o, F a o → F' a o)
    (hZ : ∀ a o, F' a o → F a o ∨ (¬ Priv env own a ∧ (∀ o, ¬ X a o) ∧ ∀ m b, Used σ m b → m ≠ n → ad m b ≠ a))
    (hS : ∀ b o, s.heap.get? b = some o → (∃ o, X b o) ∨ (∃ m c, Used σ m c ∧ m ≠ n ∧ ad m c = b) → s'.heap.get? b = some o)
    (fr : Frm env own s'.heap vr') (hvr : ∀ y, y ≠ vn.vn n → vr' y = vr y) (had : ∀ m b, m ≠ n → ad' m b = ad m b) (happ : ad' n false = ad n false ∨ noApp σ n = true) (hn : isVar kd n = true)
    (ok : VarOk s'.heap F' (vr' (vn.vn n)) ad' n lv) (mu : ∀ b, lv.uses b → Mut env own s₀.heap F' X (ad' n b) ∧ ∀ m c, Used σ m c → m ≠ n → ad m c ≠ ad' n b) (hd : lv.uses false → lv.uses true → ad' n false ≠ ad' n true) :
    Rl C vn kd env own s₀ F₀ X (put σ n lv) s' F' := by
  have nF : ∀ {a}, (∀ o, ¬ F a o) → (Priv env own a ∨ (∃ o, X a o) ∨ ∃ m b, Used σ m b ∧ m ≠ n ∧ ad m b = a) → ∀ o, ¬ F' a o := fun nf hc o e => (hZ _ o e).elim (nf o) fun ⟨h1, h2, h3⟩ => by
    rcases hc with hc | ⟨o, hc⟩ | ⟨m, b, u, q, e⟩
    · exact h1 hc
    · exact h2 o hc
    · exact h3 m b u q e
  refine ⟨R.fs, B, fun a pa => nF (R.pf a pa) (.inl pa), put_nodup R.nd, fun b o e => ?_, vr', ad', fr, fun m l e => ?_, fun m b u => ?_, fun m b m' c u u' e => ?_⟩
  · obtain ⟨h1, h2, h3, h4⟩ := R.x b o e
    exact ⟨hS b o h1 (.inl ⟨o, e⟩), h2, h3, nF h4 (.inr (.inl ⟨o, e⟩))⟩
  · by_cases q : m = n
    · subst q; rw [put_self] at e; cases e; exact ⟨hn, ok⟩
    · rw [put_ne q] at e
      obtain ⟨hv, ok'⟩ := h.ok m l e
      refine ⟨hv, ?_⟩
      rw [hvr _ fun w => q (R.fs.inj m n hv hn w)]
      refine ok'.kp hF (fun b u o g => hS _ o g (.inr ⟨m, b, ⟨l, e, u⟩, q, rfl⟩)) (fun b _ => had m b q) fun j ej => ?_
      subst ej
      by_cases qj : j = n
      · subst qj
        refine happ.elim id fun na => ?_
        have na := List.all_eq_true.mp na _ (mem_of_lookup e)
        have : isApp j (.app j) = true := beq_self_eq_true j
        rw [this] at na; cases na
      · exact had j _ qj
  · rcases used_put u with ⟨q, w⟩ | ⟨q, w⟩
    · subst q; exact (mu b w).1
    · rw [had m b q]
      exact (h.mu m b w).mono (nF (h.mu m b w).nf (.inr (.inr ⟨m, b, w, q, rfl⟩)))
  · rcases used_put u with ⟨q, w⟩ | ⟨q, w⟩
    · rcases used_put u' with ⟨q', w'⟩ | ⟨q', w'⟩
      · subst q; subst q'
        refine ⟨rfl, ?_⟩
        cases b <;> cases c
        · rfl
        · exact absurd e (hd w w')
        · exact absurd e.symm (hd w' w)
        · rfl
      · subst q; rw [had m' c q'] at e; exact absurd e.symm ((mu b w).2 m' c w' q')
    · rcases used_put u' with ⟨q', w'⟩ | ⟨q', w'⟩
      · subst q'; rw [had m b q] at e; exact absurd e ((mu c w').2 m b w q)
      · rw [had m b q, had m' c q'] at e; exact h.dj m b m' c w w' e

/-- the heap that a store leaves -/
theorem Rl.stored {n : Nat} {lv : LV} {v : Value} (R : Rl C vn kd env own s₀ F₀ X σ s F) (h : Vs vn kd env own s₀.heap X σ s.heap F vr ad) (hn : isVar kd n = true) (had : ∀ m b, m ≠ n → ad' m b = ad m b) (happ : ad' n false = ad n false ∨ noApp σ n = true)
    (ok : ∀ h', (∀ b o, ¬ Priv env own b → s.heap.get? b = some o → h'.get? b = some o) → VarOk h' F (some v) ad' n lv) (mu : ∀ b, lv.uses b → Mut env own s₀.heap F X (ad' n b) ∧ ∀ m c, Used σ m c → m ≠ n → ad m c ≠ ad' n b)
    (hd : lv.uses false → lv.uses true → ad' n false ≠ ad' n true) {M : Model} {E : Value → Shared → Prop} {Q : Unit → Shared → Prop} (k : ∀ s', Rl C vn kd env own s₀ F₀ X (put σ n lv) s' F → (∀ b o, ¬ Priv env own b → s.heap.get? b = some o → s'.heap.get? b = some o) → Q () s') : wpAny M A (storeName env (vn.vn n) v) Q E s := by
  refine store_sound R.fs.ap h.fr (R.fs.hv _ hn) (fun h' k' _ fr' kp => k _ ?_ kp) trivial
  refine R.set (s' := { s with heap := h', toks := k' }) (vr' := updv vr (vn.vn n) v) (ad' := ad') h (R.B.upd (S := Priv env own) R.fs.ap.none (fun a o p => R.pf a p o) kp rfl rfl trivial) (fun _ _ e => e) (fun _ _ e => .inl e) (fun b o e hb => kp b o ?_ e) fr' (fun y hy => if_neg hy) had happ hn
    (by unfold updv; rw [if_pos rfl]; exact ok h' kp) mu hd
  rcases hb with ⟨o, hx⟩ | ⟨m, c, u, _, rfl⟩
  · exact (R.x b o hx).2.2.1
  · exact (h.mu m c u).np
/-- a plain value into a variable -/
theorem Rl.store (R : Rl C vn kd env own s₀ F₀ X σ s F) {n : Nat} {v : Value} {d : V} (hx : isVar kd n = true) (rv : Rep F v d) {M : Model} {E : Value → Shared → Prop} {Q : Unit → Shared → Prop}
    (k : ∀ s', Rl C vn kd env own s₀ F₀ X (put σ n (.val d)) s' F → Q () s') : wpAny M A (storeName env (vn.vn n) v) Q E s :=
  let ⟨_, _, h⟩ := R.ex
  R.stored (lv := .val d) h hx (fun _ _ _ => rfl) (.inl rfl) (fun _ _ => ⟨v, rfl, rv⟩) (fun _ u => u.elim) (fun u => u.elim) fun s' R' _ => k s' R'
def adAt (ad : Nat → Bool → Addr) (n : Nat) (a b : Addr) (m : Nat) (c : Bool) : Addr := if m = n then cond c b a else ad m c
theorem adAt_ne {n m : Nat} {a b : Addr} {c : Bool} (h : m ≠ n) : adAt ad n a b m c = ad m c := if_neg h
theorem adAt_f {n : Nat} {a b : Addr} : adAt ad n a b n false = a := if_pos rfl
theorem adAt_t {n : Nat} {a b : Addr} : adAt ad n a b n true = b := if_pos rfl
/-- an object unknown before is nobody's -/
theorem Rl.fresh (R : Rl C vn kd env own s₀ F₀ X σ s F) (h : Vs vn kd env own s₀.heap X σ s.heap F vr ad) {a : Addr} (ha : s.heap.get? a = none) : Mut env own s₀.heap F X a ∧ ∀ m c, Used σ m c → ad m c ≠ a :=
  ⟨⟨Kp.none R.B.kp (R.B.inv.freshNe ha) ha, fun p => let ⟨_, ho⟩ := h.fr.some p; (nomatch ha.symm.trans ho), fun o e => (nomatch ha.symm.trans (R.B.f.at' a o e).1), fun o e => (nomatch ha.symm.trans (R.x a o e).1)⟩,
    fun m c u e => let ⟨_, _, q⟩ := h.get u; nomatch ((congrArg s.heap.get? e).trans ha).symm.trans q⟩
/-- a list of one's own into a variable -/
theorem Rl.storeOwn (R₀ : Rl C vn kd env own s₀ F₀ X σ s₁ F₁) (I1 : Inv C s) (k1 : Kp C s₁ s) (x1 : Fx C F₁ F s₁ s) {n : Nat} {a : Addr} {vs : List Value} {k : Nat} {ds : List V} (hx : isVar kd n = true) (hs : s₁.heap.get? a = none) (haF : ∀ o, ¬ F a o)
    (hg : s.heap.get? a = some (lstObj vs k)) (rl : RepL F vs ds) (hna : noApp σ n = true) {M : Model} {E : Value → Shared → Prop} {Q : Unit → Shared → Prop}
    (q : ∀ s', Rl C vn kd env own s₀ F₀ X (put σ n (.own ds)) s' F → (∀ b o, ¬ Priv env own b → s.heap.get? b = some o → s'.heap.get? b = some o) → Q () s') : wpAny M A (storeName env (vn.vn n) (.ref a)) Q E s := by
  obtain ⟨vr, ad, h⟩ := R₀.ex
  obtain ⟨m, mj⟩ := R₀.fresh h hs
  refine (R₀.kp I1 k1 x1).stored (lv := .own ds) (ad' := adAt ad n a a) (R₀.kpX k1 x1 h) hx (fun _ _ q => adAt_ne q) (.inr hna) (fun h' kp => ⟨vs, k, by rw [adAt_f], by rw [adAt_f]; exact kp a _ m.np hg, rl⟩) (fun b u => ?_) (fun _ u => nomatch u) q
  cases u
  rw [adAt_f]
  exact ⟨m.mono haF, fun m c u _ => mj m c u⟩
/-- an owned thing changes -/
theorem Rl.muts (R : Rl C vn kd env own s₀ F₀ X σ s F) (h : Vs vn kd env own s₀.heap X σ s.heap F vr ad) {n : Nat} {c : Bool} {l lv : LV} (e : σ.lookup n = some l) (u : l.uses c) (hu : ∀ b, lv.uses b → l.uses b) (hk : ∀ b o, b ≠ ad n c → s.heap.get? b = some o → s'.heap.get? b = some o)
    (hg : s'.gens = s.gens) (ho : s'.os = s.os) (ok : VarOk s'.heap F (vr (vn.vn n)) ad n lv) : Rl C vn kd env own s₀ F₀ X (put σ n lv) s' F := by
  have hU : Used σ n c := ⟨_, e, u⟩
  have mu := h.mu n c hU
  have B : Bk C s₀ F₀ s' F := R.B.upd (S := fun a => a = ad n c) (by rintro a rfl; exact mu.new) (by rintro a o rfl; exact mu.nf o) hk hg ho trivial
  refine R.set h B (fun _ _ e => e) (fun _ _ e => .inl e) (fun b o g hb => hk b o ?_ g) (h.fr.at fun b o hb g => hk b o (fun q => mu.np (q ▸ hb)) g) (fun _ _ => rfl) (fun _ _ _ => rfl) (.inl rfl) (h.ok n l e).1 ok
    (fun b w => ⟨h.mu n b ⟨_, e, hu b w⟩, fun m c' v q z => q (h.dj m c' n b v ⟨_, e, hu b w⟩ z).1⟩) fun w w' z => nomatch (h.dj n false n true ⟨_, e, hu _ w⟩ ⟨_, e, hu _ w'⟩ z).2
  rintro rfl
  rcases hb with ⟨o, hx⟩ | ⟨m, c', v, q, z⟩
  · exact mu.nx o hx
  · exact q (h.dj m c' n c v hU z).1
/-- a list of one's own changes -/
theorem Rl.mutate (R₀ : Rl C vn kd env own s₀ F₀ X σ s₁ F₁) {n : Nat} {ds : List V} (hl : σ.lookup n = some (.own ds)) :
    ∃ a, RdAt env s₁.heap (vn.vn n) (.ref a) ∧ (∃ vs k, s₁.heap.get? a = some (lstObj vs k)) ∧ ∀ s F, Inv C s → Kp C s₁ s → Fx C F₁ F s₁ s → ∃ vs k, s.heap.get? a = some (lstObj vs k) ∧ RepL F vs ds ∧
      ∀ s' vs' k' ds', s'.heap.get? a = some (lstObj vs' k') → RepL F vs' ds' → (∀ b o, b ≠ a → s.heap.get? b = some o → s'.heap.get? b = some o) → s'.gens = s.gens → s'.os = s.os → Rl C vn kd env own s₀ F₀ X (put σ n (.own ds')) s' F := by
  obtain ⟨vr, ad, h⟩ := R₀.ex
  obtain ⟨_, vs, k, e1, e2, rl⟩ := h.ok n _ hl
  refine ⟨ad n false, R₀.rd h hl e1, ⟨vs, k, e2⟩, fun s F I1 k1 x1 => ?_⟩
  have h' := R₀.kpX k1 x1 h
  obtain ⟨_, vs, k, e1, e2, rl⟩ := h'.ok n _ hl
  exact ⟨vs, k, e2, rl, fun s' vs' k' ds' hg rl' hk h1 h2 => (R₀.kp I1 k1 x1).muts (lv := .own ds') h' hl (c := false) rfl (fun _ u => u) hk h1 h2 ⟨vs', k', e1, hg, rl'⟩⟩
/-- calling its append, kept in a variable -/
theorem Rl.mutApp (R₀ : Rl C vn kd env own s₀ F₀ X σ s₁ F₁) {y n : Nat} {ds : List V} (hy : σ.lookup y = some (.app n)) (hl : σ.lookup n = some (.own ds)) :
    ∃ a q, RdAt env s₁.heap (vn.vn y) (.ref q) ∧ s₁.heap.get? q = some (appObj a) ∧ ∀ s F, Inv C s → Kp C s₁ s → Fx C F₁ F s₁ s → ∃ vs k, s.heap.get? q = some (appObj a) ∧ s.heap.get? a = some (lstObj vs k) ∧ RepL F vs ds ∧
      ∀ s' vs' k' ds', s'.heap.get? a = some (lstObj vs' k') → RepL F vs' ds' → (∀ b o, b ≠ a → s.heap.get? b = some o → s'.heap.get? b = some o) → s'.gens = s.gens → s'.os = s.os → Rl C vn kd env own s₀ F₀ X (put σ n (.own ds')) s' F := by
  obtain ⟨vr, ad, h⟩ := R₀.ex
  obtain ⟨_, q, ey, hq⟩ := h.ok y _ hy
  refine ⟨ad n false, q, R₀.rd h hy ey, (R₀.B.f.at' _ _ hq).1, fun s F I1 k1 x1 => ?_⟩
  have h' := R₀.kpX k1 x1 h
  obtain ⟨_, vs, k, e1, e2, rl⟩ := h'.ok n _ hl
  exact ⟨vs, k, (x1.ok.at' _ _ (x1.le _ _ hq)).1, e2, rl, fun s' vs' k' ds' hg rl' hk h1 h2 => (R₀.kp I1 k1 x1).muts (lv := .own ds') h' hl (c := false) rfl (fun _ u => u) hk h1 h2 ⟨vs', k', e1, hg, rl'⟩⟩
/-- an owned list is owned no more -/
theorem Rl.freeze (R : Rl C vn kd env own s₀ F₀ X σ s F) {n : Nat} {ds : List V} (hl : σ.lookup n = some (.own ds)) : ∃ F', (∀ a o, F a o → F' a o) ∧ Rl C vn kd env own s₀ F₀ X (put σ n (.val (.list ds))) s F' := by
  obtain ⟨vr, ad, h⟩ := R.ex
  obtain ⟨hv, vs, k, e1, e2, rl⟩ := h.ok n _ hl
  have hu : Used σ n false := ⟨_, hl, rfl⟩
  have mu := h.mu n false hu
  exact ⟨F.add (ad n false) (lstObj vs k), fun _ _ e => .inl e, R.set (lv := .val (.list ds)) h (R.B.freeze mu.new e2) (fun _ _ e => .inl e) (fun a o e => e.imp id fun ⟨q, _⟩ => by subst q; exact ⟨mu.np, mu.nx, fun m b u q e => q (h.dj m b n false u hu e).1⟩) (fun _ _ g _ => g) h.fr (fun _ _ => rfl) (fun _ _ _ => rfl) (.inl rfl) hv
    ⟨_, e1, .list (.inr ⟨rfl, rfl⟩) (rl.mono fun _ _ e => .inl e)⟩ (fun _ u => u.elim) fun u => u.elim⟩
/-- the bound method of a list of one's own, kept in a variable -/
theorem Rl.alias (R : Rl C vn kd env own s₀ F₀ X σ s F) {x : Nat} {ds : List V} (hl : σ.lookup x = some (.own ds)) : ∃ a, RdAt env s.heap (vn.vn x) (.ref a) ∧ (∃ vs k, s.heap.get? a = some (lstObj vs k)) ∧
    ∀ {y : Nat} (_ : isVar kd y = true) {k : Nat} {M : Model} {A : Around} {E : Value → Shared → Prop} {Q : Unit → Shared → Prop}
      (_ : ∀ s' F', Rl C vn kd env own s₀ F₀ X (put σ y (.app x)) s' F' → (∀ a o, F a o → F' a o) → Q () s'), wpAny M A (storeName env (vn.vn y) (.ref s.heap.objs.size)) Q E { s with heap := s.heap.push (appObj a), toks := k } := by
  obtain ⟨vr, ad, h⟩ := R.ex
  obtain ⟨hv, vs, k0, e1, e2, rl⟩ := h.ok x _ hl
  refine ⟨ad x false, R.rd h hl e1, ⟨vs, k0, e2⟩, ?_⟩
  intro y hy k M A E Q q
  obtain ⟨I1, k1, F1, x1, hF1⟩ := pst_push (n := k) (a := ()) (Q := fun _ _ F' => F' = F.add s.heap.objs.size (appObj (ad x false))) (o := appObj (ad x false)) R.B.inv R.B.f rfl trivial
  exact (R.kp I1 k1 x1).stored (lv := .app x) (R.kpX k1 x1 h) hy (fun _ _ _ => rfl) (.inl rfl) (fun _ _ => ⟨_, rfl, hF1 ▸ .inr ⟨rfl, rfl⟩⟩) (fun _ u => u.elim) (fun u => u.elim) fun s' R' _ => q s' F1 R' x1.le
/-- fewer variables -/
theorem Rl.keep (R : Rl C vn kd env own s₀ F₀ X σ s F) (l : List Nat) : Rl C vn kd env own s₀ F₀ X (keepv σ l) s F :=
  let ⟨vr, ad, h⟩ := R.ex
  have key : ∀ {m b}, Used (keepv σ l) m b → Used σ m b := fun ⟨lv, e, u⟩ => ⟨lv, keepv_lookup R.nd e, u⟩
  ⟨R.fs, R.B, R.pf, R.nd.sublist (List.Sublist.map _ List.filter_sublist), R.x, vr, ad, h.fr, fun n lv e => h.ok n lv (keepv_lookup R.nd e), fun m b u => h.mu m b (key u), fun m b m' c u u' e => h.dj m b m' c (key u) (key u') e⟩
end
end Mine
open PySem PySem.W PyProof.Rows PySem.Calls
namespace Mine
abbrev boundApp (a : Addr) : Obj := appObj a
theorem slot_mdget : Slot "method_descriptor" "__get__" "method_descriptor.__get__" :=
  .of (owner := "method_descriptor") (n := "__get__") (by rw [typeLookup_type, builtinLookup_eq_fast]; kernel_rfl) (by decide +kernel) (by decide +kernel) (by decide +kernel)
    (by first | exact .inl (by decide +kernel) | exact .inr (by decide +kernel)) (by rw [isSubtype_type]; kernel_rfl)
theorem entry_mdget : entryFor table "method_descriptor.__get__" = some Builtin.«method_descriptor.__get__» := entryFor_of_tree (by kernel_rfl)
theorem args_mdget (a b c : Value) : argsOk "method_descriptor.__get__" ⟨[a, b, c], []⟩ := by unfold argsOk; kernel_rfl
theorem nostores : Builtin.ObjectAttr.takesStores (.builtin "list.append") = pure false := by
  first | rfl | kernel_rfl | (unfold Builtin.ObjectAttr.takesStores; rw [show typeOf (.builtin "list.append") = pure (.type "method_descriptor") from PySem.F.type_list_append]; first | rfl | kernel_rfl)
theorem sub_ll : isSubtype (.type "list") (.type "list") = pure true := by first | rfl | (rw [isSubtype_type]; kernel_rfl)
theorem meets_mdget (a : Addr) (vs : List Value) (k : Nat) : Meets (Builtin.«method_descriptor.__get__» ⟨[.builtin "list.append", .ref a, .type "list"], []⟩)
    (fun _ R s => s.heap.get? a = some { cls := .type "list", dict := none, data := .seq vs.toArray k, slots := #[] } ∧ R (.ok (.ret (.ref s.heap.objs.size))) { s with heap := s.heap.push (boundApp a) }) :=
  Meets.of_wp fun prog w A R s hs => by
    obtain ⟨hp, g, d, tk, os⟩ := s
    obtain ⟨hx, hs⟩ := hs
    have hT : (⟨hp, g, d, tk, os⟩ : Shared).TypeIs (.ref a) "list" := ⟨_, hx, rfl⟩
    have f1 := sub_ll
    unfold Builtin.«method_descriptor.__get__»
    repeat (any_goals (first | assumption | wp_step))
    have e : (".".intercalate ("list.append".cutAt '.').dropLast) = "list" := by decide +kernel
    rw [e]
    repeat (any_goals (first | assumption | wp_step))
    exact ⟨_, rfl, hs⟩
theorem meets_ga_append (a : Addr) (vs : List Value) (k : Nat) (u : Tok) : Meets (Builtin.«object.__getattribute__» ⟨[.ref a, .str "append" u], []⟩)
    (fun _ R s => s.heap.get? a = some { cls := .type "list", dict := none, data := .seq vs.toArray k, slots := #[] } ∧ R (.ok (.ret (.ref s.heap.objs.size))) { s with heap := s.heap.push (boundApp a) }) :=
  Meets.of_wp fun prog w A R s hs => by
    obtain ⟨hp, g, d, tk, os⟩ := s
    obtain ⟨hx, hs⟩ := hs
    have hT : (⟨hp, g, d, tk, os⟩ : Shared).TypeIs (.ref a) "list" := ⟨_, hx, rfl⟩
    have f6 := PySem.F.slot_list_append.lookup
    have f7 := PySem.F.type_list_append
    have f8 := slot_mdget.lookup
    have f9 := nostores
    unfold Builtin.«object.__getattribute__»
    repeat (any_goals (first | assumption | ((with_reducible show wpAny _ _ (call (Value.builtin "method_descriptor.__get__") _ _) _ _ _); refine call_meets slot_mdget f7 entry_mdget (args_mdget _ _ _) (meets_mdget a vs k) ⟨hx, ?_⟩) | wp_step))
    exact wpAny_pure ⟨_, rfl, hs⟩
section
variable {prog : Program} {w : World} {A : Around} {E : Value → Shared → Prop} {s : Shared}
theorem get_append {a : Addr} {vs : List Value} {k : Nat} {Q : Value → Shared → Prop} (hx : s.heap.get? a = some (lstObj vs k)) 
    (h : ∀ tk, Q (.ref s.heap.objs.size) { s with heap := s.heap.push (boundApp a), toks := tk }) : wpAny (model prog w) A (getAttr (.ref a) "append" true) Q E s := by
  obtain ⟨hp, g, d, tk, os⟩ := s
  unfold lstObj at hx
  have hT : ∀ tk', (⟨hp, g, d, tk', os⟩ : Shared).TypeIs (.ref a) "list" := fun _ => ⟨_, hx, rfl⟩
  have f3 := PySem.F.slot_list_getattribute.lookup
  have f4 := PySem.F.slot_list_getattribute.bind (.ref a)
  have f5 := am_list_getattr_none
  have f6 := PySem.F.slot_list_append.lookup
  have f7 := PySem.F.type_list_append
  have f8 := slot_mdget.lookup
  have f9 := nostores
  unfold getAttr getAttrBy
  repeat (any_goals (first | assumption | exact hT _ | ((with_reducible show wpAny _ _ (call (Value.builtin "list.__getattribute__") _ _) _ _ _); refine call_meets PySem.F.slot_list_getattribute (hT _) am_entry_list_getattribute (PySem.F.args_list_getattribute_2 _ _) (meets_ga_append a vs k _) ⟨hx, ?_⟩) | wp_step))
  exact wpAny_pure (h _)

theorem bound_sig : ∃ sig, Manifest.signature? "list.append" = some sig ∧ ∀ a v, Bind.checkArgs "list.append" { sig with full := s!"{Bind.lastOf "list"}.{Bind.lastOf "list.append"}" } ⟨[.ref a, v], []⟩ = pure () :=
  ⟨(Manifest.sig_list.lookup (String.ofList ['d', 'n', 'e', 'p', 'p', 'a'].reverse)).get (by decide +kernel), by
    rw [signature?_of (id := "list.append") (n := ['d', 'n', 'e', 'p', 'p', 'a']) (o := ['t', 's', 'i', 'l']) (by kernel_rfl) PySem.F.owner_list]
    exact (Option.some_get _).symm, fun a v => by kernel_rfl⟩
theorem sub_lmod : isSubtype (.type "list") (.type "module") = pure false := by first | rfl | (rw [isSubtype_type]; kernel_rfl)
theorem sub_ltype : isSubtype (.type "list") (.type "type") = pure false := by first | rfl | (rw [isSubtype_type]; kernel_rfl)
theorem callWith_app {pos : Pos} {u a : Addr} {args : List (Bool × Sem Value)} {Q : Value → Shared → Prop} {M : Model} (hplain : args.any (·.1) = false)
    (h : wpAny M A (evalArgs (.ref u) true args []) (fun x s₁ => s₁.heap.get? u = some (boundApp a) ∧ wpAny M A (call (.ref u) x.pos x.kw) Q E s₁) E s) : wpAny M A (callWith pos (.ref u) [] args []) Q E s := by
  unfold callWith
  refine wpAny_bind (wpAny_holding (wpAny_mono h (fun x s₁ h₁ => wpAny_bind (wpAny_standAt ?_)) fun _ _ x => x))
  obtain ⟨ho, hcall⟩ := h₁
  simp only [hplain, List.any_nil, Bool.or_false]
  refine wpAny_bind (m := keeperOf (.ref u)) ?_
  unfold keeperOf
  refine wpAny_bind (wpAny_load ho ?_)
  simp only [boundApp, appObj, show (Value.type "builtin_function_or_method" != Value.type "method") = true by decide, show (Value.type "builtin_function_or_method" == Value.type "builtin_function_or_method" || Value.type "builtin_function_or_method" == Value.type "method-wrapper") = true by decide, if_true]
  refine wpAny_pure ?_
  exact wpAny_bind (wpAny_mono hcall (fun r s₂ hr => wpAny_bind (wpAny_holding (wpAny_point (wpAny_pure hr)))) fun _ _ x => x)

theorem call_app {u a : Addr} {v : Value} {vs : List Value} {k : Nat} {Q : Value → Shared → Prop} (ho : s.heap.get? u = some (boundApp a)) (hx : s.heap.get? a = some (lstObj vs k)) (hz : vs.length ≤ sizeLine)
    (h : Q .none { s with heap := s.heap.update a (Obj.mapSeq fun xs => xs.push v) }) : wpAny (model prog w) A (call (.ref u) [v]) Q E s := by
  refine wpAny_call (codeAny_of_tree ?_)
  show wpAny _ A.in1 (callAny (.ref u) ⟨[v], []⟩) _ _ s
  simp only [callAny]
  refine wpAny_bind (wpAny_load ho ?_)
  simp only [boundApp, appObj, show (Value.type "builtin_function_or_method" == Value.type "method" || Value.type "builtin_function_or_method" == Value.type "builtin_function_or_method" || Value.type "builtin_function_or_method" == Value.type "method-wrapper") = true by decide, if_true]
  have hT : s.TypeIs (.ref a) "list" := ⟨_, hx, rfl⟩
  have hc : ∀ {P : Unit → Shared → Prop} {E' : Value → Shared → Prop}, P () s → wpAny (model prog w) A.in1 (checkBoundCall "list.append" ⟨[.ref a, v], []⟩) P E' s := by
    intro P E' hp
    obtain ⟨sig, hs, hck⟩ := bound_sig
    unfold checkBoundCall
    rw [hs]
    dsimp only
    rw [show builtinKind "list.append" = some .method by decide +kernel]
    dsimp only
    rw [if_neg (by decide)]
    refine wpAny_bind (wpAny_isInstance hT sub_lmod ?_)
    rw [if_neg (by decide +kernel)]
    refine wpAny_bind ?_
    unfold isType
    refine wpAny_bind (wpAny_loadPart hx (wpAny_pure ?_))
    dsimp only [lstObj]
    rw [if_neg (by decide)]
    refine wpAny_bind (wpAny_typeOf hT ?_)
    dsimp only
    exact wpAny_of_eq (hck a v) hp
  have plainA : plainId "list.append" = true := PySem.F.slot_list_append.plain
  show wpAny _ A.in1 (if (Value.type "builtin_function_or_method" != Value.type "method") = true then (do
    checkBoundCall "list.append" ⟨[.ref a, v], []⟩
    again (.builtin "list.append" ⟨[.ref a, v], []⟩)) else _) _ _ s
  rw [if_pos (by decide)]
  refine wpAny_bind (hc (wpAny_pure ⟨plainId_quiet plainA _, codeAny_builtin PySem.F.entry_list_append ?_⟩))
  rw [Around.under_plainId plainA]
  exact PySem.list_append a vs.toArray k v (by rw [List.size_toArray]; exact hz) prog w A (fun r s' => match r with | .ok (.ret v) => Q v s' | .ok _ => False | .error e => E e s') s ⟨hx, h⟩
end
open PySem.MeetsSeq PySem.AutoSeq1 in
theorem setitem_at (l : Addr) (items : Array Value) (n : Nat) (i : Int) (u : Tok) (v : Value) (k : Nat) (hfit : Builtin.List.listFitsIndex i = true) (hk : seqIndex? i items.size = some k) (hlt : k < items.size) :
    Meets (Builtin.«list.__setitem__» ⟨[.ref l, .int i u, v], []⟩)
      (fun _ R s => s.heap.get? l = some { cls := .type "list", dict := none, data := .seq items n, slots := #[] } ∧ R (.ok (.ret .none)) { s with heap := s.heap.update l (Obj.mapSeq fun xs => xs.setIfInBounds k v) }) :=
  .of_wp fun prog w A R s h => by
    obtain ⟨hp, g, d, tk, os⟩ := s; obtain ⟨hl, h⟩ := h
    have hf : ¬ (!Builtin.List.listFitsIndex i) = true := by simp [hfit]
    have f1 := AutoSeq1.idx_int
    wp_walk using wpAny_loadPart' hl
    have fin : wpAny (model prog w) A.in1 (do setSeqItemAt l k v; ret .none) (fun fin s' => ∃ v, fin = Fin.done (Flow.ret v) ∧ R (Except.ok (Flow.ret v)) s') (fun e s' => R (Except.error e) s') { heap := hp, gens := g, drawn := d, toks := tk, os := os } :=
      wpAny_bind (wpAny_setSeqItemAt hl rfl (wpAny_pure ⟨_, rfl, h⟩))
    have hx : items[k]? = some items[k] := by simp [hlt]
    cases i with
    | ofNat j =>
      have hj : k = j := by
        have := hk
        unfold seqIndex? at this
        simp at this
        lia
      subst hj
      refine wpAny_bind (wpAny_seqItemAt hl rfl (wpAny_pure ?_))
      have e : Option.map (fun x => (k, x)) items[k]? = some (k, items[k]) := by rw [hx]; rfl
      generalize Option.map (fun x => (k, x)) items[k]? = z at e ⊢
      subst e
      exact fin
    | negSucc j =>
      dsimp only
      clear hf hfit
      generalize Int.negSucc j = i' at hk ⊢
      wp_walk using wpAny_loadPart' hl
      rw [hk]
      simp only [Option.bind_some, hx, Option.map_some]
      exact fin
section
variable {prog : Program} {w : World} {A : Around} {E : Value → Shared → Prop} {s : Shared}
theorem setItem_at {l : Addr} {vs : List Value} {n : Nat} {i : Int} {u : Tok} {v : Value} {k : Nat} {Q : Unit → Shared → Prop} (hl : s.heap.get? l = some (lstObj vs n)) (hfit : Builtin.List.listFitsIndex i = true) (hk : seqIndex? i vs.length = some k) (hlt : k < vs.length)
    (h : Q () { s with heap := s.heap.update l (Obj.mapSeq fun xs => xs.setIfInBounds k v) }) : wpAny (model prog w) A (setItem (.ref l) (.int i u) v) Q E s := by
  have hT : s.TypeIs (.ref l) "list" := ⟨_, hl, rfl⟩
  unfold setItem
  refine wpAny_holding ?_
  refine wpAny_bind (wpAny_sequenceKey hT (by decide) ?_)
  refine wpAny_bind (wpAny_callSpecial?_slot (name := Str.ofString "__setitem__") hT slot_list_setitem
    (call_meets PySem.F.slot_list_setitem hT PySem.F.entry_list_setitem (PySem.F.args_list_setitem_3 _ _ _) (setitem_at l vs.toArray n i u v k hfit (by rw [List.size_toArray]; exact hk) (by rw [List.size_toArray]; exact hlt)) ⟨hl, ?_⟩))
  exact wpAny_pure h
end

/-! # Statements: what is asked ahead of them -/
inductive Fl where
  | next
  | brk
  | ret (d : V)
def FlOk (F : Fz) : Flow → Fl → Prop
  | .next, .next => True
  | .brk, .brk => True
  | .ret v, .ret d => Rep F v d
  | _, _ => False
abbrev Kt := Fl → St → Prop
abbrev Xp := St → Kt → Prop
def putβ (σ : St) : Ρ → St
  | [] => σ
  | (n, d) :: β => putβ (put σ n (.val d)) β
def ownw (σ : St) (n : Nat) (K : List V → Prop) : Prop := match σ.lookup n with | some lv => (match lv with | .own ds => K ds | _ => False) | none => False
def valw (σ : St) (n : Nat) (K : V → Prop) : Prop := match σ.lookup n with | some lv => (match lv with | .val d => K d | _ => False) | none => False
def appw (σ : St) (n : Nat) (K : Nat → Prop) : Prop := match σ.lookup n with | some lv => (match lv with | .app m => K m | _ => False) | none => False
theorem ownw_inv {σ : St} {n : Nat} {K : List V → Prop} (h : ownw σ n K) : ∃ ds, σ.lookup n = some (.own ds) ∧ K ds := by
  unfold ownw at h
  cases e : σ.lookup n with
  | none => rw [e] at h; exact h.elim
  | some lv => rw [e] at h; cases lv <;> first | exact ⟨_, rfl, h⟩ | exact h.elim
theorem valw_inv {σ : St} {n : Nat} {K : V → Prop} (h : valw σ n K) : ∃ d, σ.lookup n = some (.val d) ∧ K d := by
  unfold valw at h
  cases e : σ.lookup n with
  | none => rw [e] at h; exact h.elim
  | some lv => rw [e] at h; cases lv <;> first | exact ⟨_, rfl, h⟩ | exact h.elim
theorem appw_inv {σ : St} {n : Nat} {K : Nat → Prop} (h : appw σ n K) : ∃ m, σ.lookup n = some (.app m) ∧ K m := by
  unfold appw at h
  cases e : σ.lookup n with
  | none => rw [e] at h; exact h.elim
  | some lv => rw [e] at h; cases lv <;> first | exact ⟨_, rfl, h⟩ | exact h.elim

/-- where a statement leaves -/
def XPost (C : Cx) (vn : Nm) (kd : Kd) (env : Env) (own : List Str) (s₀ : Shared) (F₀ X : Fz) (F : Fz) (K : Kt) (fl : Flow) (s' : Shared) : Prop :=
  ∃ F' σ' f, Rl C vn kd env own s₀ F₀ X σ' s' F' ∧ (∀ a o, F a o → F' a o) ∧ FlOk F' fl f ∧ K f σ'
/-- a statement is served -/
structure SS (C : Cx) (vn : Nm) (r : Nat) (kd : Kd) (st : Stmt) (x : Xp) : Prop where
  go : ∀ {A s F X σ K env own s₀ F₀}, Room r A → Rl C vn kd env own s₀ F₀ X σ s F → x σ K → wpAny (model C.prog C.w) A (exec st env) (XPost C vn kd env own s₀ F₀ X F K) (fun _ _ => False) s
structure SL (C : Cx) (vn : Nm) (r : Nat) (kd : Kd) (ss : List Stmt) (x : Xp) : Prop where
  go : ∀ {A s F X σ K env own s₀ F₀}, Room r A → Rl C vn kd env own s₀ F₀ X σ s F → x σ K → wpAny (model C.prog C.w) A (execs ss env) (XPost C vn kd env own s₀ F₀ X F K) (fun _ _ => False) s

section
variable {C : Cx} {A : Around} {s s₀ s₁ s₂ s' : Shared} {F F₀ F₁ F' X : Fz} {r : Nat} {env : Env} {own : List Str} {vn : Nm} {kd : Kd} {σ : St} {K : Kt}

theorem XPost.le {fl : Flow} (h : XPost C vn kd env own s₀ F₀ X F' K fl s') (hF : ∀ a o, F a o → F' a o) : XPost C vn kd env own s₀ F₀ X F K fl s' :=
  let ⟨F'', σ', f, R, le, ok, k⟩ := h; ⟨F'', σ', f, R, fun a o e => le a o (hF a o e), ok, k⟩
theorem wle {α : Type} {t : Sem α} {g : α → Flow} (h : wpAny (model C.prog C.w) A t (fun a => XPost C vn kd env own s₀ F₀ X F' K (g a)) (fun _ _ => False) s) (hF : ∀ a o, F a o → F' a o) : wpAny (model C.prog C.w) A t (fun a => XPost C vn kd env own s₀ F₀ X F K (g a)) (fun _ _ => False) s :=
  wpAny_mono h (fun _ _ h => h.le hF) fun _ _ e => e
theorem Rl.next (R : Rl C vn kd env own s₀ F₀ X σ s F) (h : K .next σ) : XPost C vn kd env own s₀ F₀ X F K .next s := ⟨F, σ, .next, R, fun _ _ e => e, trivial, h⟩
theorem Rl.ev (R : Rl C vn kd env own s₀ F₀ X σ s F) (Rm : Room r A) : Ev C vn r kd A s F env (ρb σ) := ⟨Rm, R.B.inv, R.B.f, R.envB⟩
/-- an expression's value, over what is frozen -/
theorem Rl.evB (R : Rl C vn kd env own s₀ F₀ X σ s F) (Rm : Room r A) {w : Wp} {x : Expr} (h : SX C vn r kd x w) {Q : V → Prop} (hw : w false (ρb σ) Q) {P : Value → Shared → Prop}
    (k : ∀ v s' F' d, Rl C vn kd env own s₀ F₀ X σ s' F' → (∀ a o, F a o → F' a o) → Rep F' v d → Q d → P v s') : wpAny (model C.prog C.w) A (eval x env) P (fun _ _ => False) s :=
  (h.e (R.ev Rm) hw).after fun v s' F' I' k' fx ⟨d, rv, hq⟩ => k v s' F' d (R.kp I' k' fx) fx.le rv hq
theorem Rl.evBs (R : Rl C vn kd env own s₀ F₀ X σ s F) (Rm : Room r A) {l : List Wp} {xs : List Expr} (h : SA C vn r kd xs l) {Q : List V → Prop} (hw : wsL l (ρb σ) Q) {P : List Value → Shared → Prop}
    (k : ∀ v s' F' d, Rl C vn kd env own s₀ F₀ X σ s' F' → (∀ a o, F a o → F' a o) → RepL F' v d → d.length = l.length → Q d → P v s') : wpAny (model C.prog C.w) A (spliced (xs.map fun x => (false, eval x env))) P (fun _ _ => False) s :=
  (h.ev (R.ev Rm) hw).after fun v s' F' I' k' fx ⟨d, rv, hl, hq⟩ => k v s' F' d (R.kp I' k' fx) fx.le rv hl hq
/-- the road back from over all variables -/
theorem Rl.back {G G' : Fz} (R : Rl C vn kd env own s₀ F₀ X σ s F) (up : ∀ a o, F a o → G a o) (I : Inv C s') (k : Kp C s s') (fx : Fx C G G' s s') : Rl C vn kd env own s₀ F₀ X σ s' F :=
  R.kp I k (Fx.refl ⟨fun a o e => fx.ok.at' a o (fx.le a o (up a o e)), R.B.f.k⟩)
/-- a flat value, over all variables -/
theorem Rl.evA (R : Rl C vn kd env own s₀ F₀ X σ s F) (Rm : Room r A) {w : Wp} {x : Expr} (h : SX C vn r kd x w) {Q : V → Prop} (hw : w false (ρa σ) Q) {P : Value → Shared → Prop}
    (k : ∀ v s' d, Rl C vn kd env own s₀ F₀ X σ s' F → (d.flat = true → Rep F v d) → Q d → P v s') : wpAny (model C.prog C.w) A (eval x env) P (fun _ _ => False) s :=
  let ⟨_, up, f, eo⟩ := R.envA
  (h.e ⟨Rm, R.B.inv, f, eo⟩ hw).after fun v s' F' I' k' fx ⟨d, rv, hq⟩ => k v s' d (R.back up I' k' fx) (fun hf => rv.of_flat hf) hq
theorem Rl.evT (R : Rl C vn kd env own s₀ F₀ X σ s F) (Rm : Room r A) {w : Wp} {x : Expr} (h : SX C vn r kd x w) {K : Bool → Prop} (hw : w true (ρa σ) fun d => bw d K) {P : Bool → Shared → Prop}
    (k : ∀ b s', Rl C vn kd env own s₀ F₀ X σ s' F → K b → P b s') : wpAny (model C.prog C.w) A (isTrue x env (eval x env)) P (fun _ _ => False) s :=
  let ⟨_, up, f, eo⟩ := R.envA
  (h.t ⟨Rm, R.B.inv, f, eo⟩ hw).after fun b s' F' I' k' fx hq => k b s' (R.back up I' k' fx) hq
theorem Rl.ext (R : Rl C vn kd env own s₀ F₀ X σ s F) {h' : Heap} {k : Nat} (up : ∀ b o, s.heap.get? b = some o → h'.get? b = some o) : Rl C vn kd env own s₀ F₀ X σ { s with heap := h', toks := k } F :=
  R.kp (s' := { s with heap := h', toks := k }) (R.B.inv.keep up rfl rfl trivial) (fun b o _ e => up b o e) (Fx.refl ⟨fun b o e => ⟨up b o (R.B.f.at' b o e).1, (R.B.f.at' b o e).2⟩, R.B.f.k⟩)
/-- targets -/
theorem Rl.assign (R : Rl C vn kd env own s₀ F₀ X σ s F) (hh : A.handled = none) {xs : List Nat} {tg : Expr} {v : Value} {d : V} {β : Ρ} (hT : Tg vn kd xs tg) (rv : Rep F v d) (hb : bindp xs d = some β) {E : Value → Shared → Prop} {Q : Unit → Shared → Prop}
    (k : ∀ s', Rl C vn kd env own s₀ F₀ X (putβ σ β) s' F → Q () s') : wpAny (model C.prog C.w) A (assign tg env v) Q E s := by
  cases hT with
  | one hx => cases hb; exact wpAny_assign_Name (R.store hx rv k)
  | two hx hy hne =>
    obtain ⟨a, b, hd, rfl⟩ := bindp2_inv hb
    exact assign2_go hh R.B.f ⟨d, rv, hd⟩ fun h' v1 v2 up r1 r2 => (R.ext (k := s.toks) up).store hx r1 fun s2 R2 => R2.store hy r2 k

def x_nil : Xp := fun σ K => K .next σ
theorem SL.nil : SL C vn r kd [] x_nil := .mk fun _ R h => wpAny_execs_nil (R.next h)
/-- what comes after -/
def sq (y : Xp) (K : Kt) : Kt := fun f σ => match f with | .next => y σ K | .brk => K .brk σ | .ret v => K (.ret v) σ
def x_sq (x y : Xp) : Xp := fun σ K => x σ (sq y K)
theorem SL.cons {st : Stmt} {ss : List Stmt} {x y : Xp} (h : SS C vn r kd st x) (h' : SL C vn r kd ss y) : SL C vn r kd (st :: ss) (x_sq x y) := .mk fun Rm R hx => by
  refine wpAny_execs_cons (wpAny_mono (h.go Rm R hx) (fun fl s' h => ?_) fun _ _ e => e)
  obtain ⟨F', σ', f, R', le, okf, hq⟩ := h
  cases fl <;> cases f <;> first | exact okf.elim | skip
  · exact wle (g := id) (h'.go Rm R' hq) le
  · exact ⟨F', σ', .brk, R', le, trivial, hq⟩
  · exact ⟨F', σ', .ret _, R', le, okf, hq⟩
/-- what holds in the middle -/
def mdK (P : St → Prop) (K : Kt) : Kt := fun f σ => match f with | .next => P σ | .brk => K .brk σ | .ret v => K (.ret v) σ
def x_mid (x y : Xp) : Xp := fun σ K => ∃ P : St → Prop, x σ (mdK P K) ∧ ∀ σ, P σ → y σ K
theorem SL.mid {st : Stmt} {ss : List Stmt} {x y : Xp} (h : SS C vn r kd st x) (h' : SL C vn r kd ss y) : SL C vn r kd (st :: ss) (x_mid x y) := .mk fun Rm R ⟨P, hx, hy⟩ => by
  refine wpAny_execs_cons (wpAny_mono (h.go Rm R hx) (fun fl s' h => ?_) fun _ _ e => e)
  obtain ⟨F', σ', f, R', le, okf, hq⟩ := h
  cases fl <;> cases f <;> first | exact okf.elim | skip
  · exact wle (g := id) (h'.go Rm R' (hy _ hq)) le
  · exact ⟨F', σ', .brk, R', le, trivial, hq⟩
  · exact ⟨F', σ', .ret _, R', le, okf, hq⟩
def x_frz (n : Nat) (y : Xp) : Xp := fun σ K => ownw σ n fun ds => y (put σ n (.val (.list ds))) K
theorem SL.frz (n : Nat) {ss : List Stmt} {y : Xp} (h : SL C vn r kd ss y) : SL C vn r kd ss (x_frz n y) := .mk fun Rm R hx => by
  obtain ⟨ds, hl, hy⟩ := ownw_inv hx
  obtain ⟨F', le, R'⟩ := R.freeze hl
  exact wle (g := id) (h.go Rm R' hy) le
def x_keep (l : List Nat) (y : Xp) : Xp := fun σ K => y (keepv σ l) K
theorem SL.keep (l : List Nat) {ss : List Stmt} {y : Xp} (h : SL C vn r kd ss y) : SL C vn r kd ss (x_keep l y) := .mk fun Rm R hx => h.go Rm (R.keep l) hx

/-! ## assignments -/
def isComp : Expr → Bool
  | .ListComp .. => true
  | .SetComp .. => true
  | .DictComp .. => true
  | _ => false
theorem swapsWith_no {v : Expr} {t : Option Expr} {n : Nat} (h : isComp v = false) : swapsWith v t n env = pure false := by
  unfold swapsWith
  cases v <;> first | rfl | cases h
theorem blockKind_fn (h : env.scope.kind = .function) : env.blockKind = .function := by
  unfold Env.blockKind; rw [h]; rfl
theorem swapsWith_cell {a : Expr} {b : List Comprehension} {c : Scope} {d p : Pos} {x : Str} {n : Nat} (hk : env.kindOf x = some .cell) : swapsWith (.ListComp a b c d) (some (.Name x p)) n env = pure false := by
  unfold swapsWith
  have : (env.kindOf x == some NameKind.local) = false := by rw [hk]; rfl
  simp [this]
theorem swapsWith_local {a : Expr} {b : List Comprehension} {c : Scope} {d p : Pos} {x : Str} {n : Nat} (hf : env.scope.kind = .function) (hk : env.kindOf x = some .local) (hp : (p.line == d.line) = true)
    (hn : (c.names.any fun (n, k) => n == x && (k == .local || k == .cell)) = false) : swapsWith (.ListComp a b c d) (some (.Name x p)) n env = pure true := by
  unfold swapsWith
  simp only [blockKind_fn hf, hk]
  show (pure _ : Sem Bool) = _
  rw [show (p.line == (Expr.ListComp a b c d).pos.line) = true from hp, hn]
  rfl
/-- a value stored -/
theorem Rl.put (R : Rl C vn kd env own s₀ F₀ X σ s F) {n : Nat} {v : Value} {d : V} (hx : isVar kd n = true) (rv : Rep F v d) (h : K .next (put σ n (.val d))) :
    wpAny (model C.prog C.w) A (storeName env (vn.vn n) v) (fun _ => XPost C vn kd env own s₀ F₀ X F K .next) (fun _ _ => False) s :=
  R.store hx rv fun _ R' => R'.next h
def x_asg (n : Nat) (a : Wp) : Xp := fun σ K => a false (ρb σ) fun d => K .next (put σ n (.val d))
theorem s_asg (n : Nat) {p q : Pos} {v : Expr} {a : Wp} (h : SX C vn r kd v a) (hx : isVar kd n = true) (hc : isComp v = false) : SS C vn r kd (.Assign [.Name (vn.vn n) p] v q) (x_asg n a) := .mk fun Rm R hw =>
  wpAny_Assign_Name (R.evB Rm h hw fun _ _ _ _ R' le rv hq => wle (g := fun _ => Flow.next) (R'.put hx rv hq) le) (swapsWith_no hc)
/-- a comprehension into a cell -/
theorem s_asgX (n : Nat) {p q : Pos} {a' : Expr} {b : List Comprehension} {c : Scope} {d : Pos} {a : Wp} (h : SX C vn r kd (.ListComp a' b c d) a) (hx : kd.lookup n = some .cell) : SS C vn r kd (.Assign [.Name (vn.vn n) p] (.ListComp a' b c d) q) (x_asg n a) := .mk fun Rm R hw =>
  wpAny_Assign_Name (R.evB Rm h hw fun _ _ _ _ R' le rv hq => wle (g := fun _ => Flow.next) (R'.put (by unfold isVar; rw [hx]) rv hq) le) (swapsWith_cell (R.fs.cell hx))
/-- a new list, kept by nobody, stored -/
theorem Rl.putOwn (R : Rl C vn kd env own s₀ F₀ X σ s F) {n : Nat} {vs : List Value} {ds : List V} (hx : isVar kd n = true) (rl : RepL F vs ds) (hna : noApp σ n = true) (h : K .next (Mine.put σ n (.own ds))) {k : Nat} :
    wpAny (model C.prog C.w) A (storeName env (vn.vn n) (.ref s.heap.objs.size)) (fun _ => XPost C vn kd env own s₀ F₀ X F K .next) (fun _ _ => False) { s with heap := s.heap.push (lstObj vs 0), toks := k } := by
  have hs := get_size s.heap
  have up : ∀ b o, s.heap.get? b = some o → (s.heap.push (lstObj vs 0)).get? b = some o := fun b o e => Heap.get?_push_of_some _ e
  exact R.storeOwn (s := { s with heap := s.heap.push (lstObj vs 0), toks := k }) (R.B.inv.keep up rfl rfl trivial) (fun b o _ e => up b o e) (Fx.refl ⟨fun b o e => ⟨up b o (R.B.f.at' b o e).1, (R.B.f.at' b o e).2⟩, R.B.f.k⟩) (k := 0) (vs := vs) hx hs
    (fun o e => nomatch hs.symm.trans (R.B.f.at' _ _ e).1) (Heap.get?_push_size _ rfl) rl hna fun s'' R'' _ => R''.next h
def x_asgL (n : Nat) (l : List Wp) : Xp := fun σ K => noApp σ n = true ∧ wsL l (ρb σ) fun ds => K .next (put σ n (.own ds))
theorem s_asgL (n : Nat) {p q pl : Pos} {xs : List Expr} {l : List Wp} (h : SA C vn r kd xs l) (hx : isVar kd n = true) (hz : Nat.ble l.length 100 = true) : SS C vn r kd (.Assign [.Name (vn.vn n) p] (.List xs pl) q) (x_asgL n l) := .mk fun {A s F X σ K env own s₀ F₀} Rm R hw => by
  refine wpAny_Assign_Name ?_ (swapsWith_no rfl)
  show wpAny _ A (do standAt pl; newList (← spliced (backTo pl (starEach xs env)))) _ _ s
  rw [h.args]
  refine wpAny_bind (wpAny_standAt (wpAny_bind (R.evBs Rm h hw.2 fun vs s' F' ds R' le rl hlen hq => ?_)))
  exact wpAny_newList (wle (g := fun _ => Flow.next) (R'.putOwn (k := s'.toks) hx rl hw.1 hq) le) (by rw [rl.length, hlen]; exact sizeLine_big (Nat.le_trans (Nat.le_of_ble_eq_true hz) (by decide)))
def cat2 (a b : V) (K : List V → Prop) : Prop := lst1 a fun p => lst1 b fun q => p.length + q.length ≤ 1000000 ∧ K (p ++ q)
def x_asgP (n : Nat) (a b : Wp) : Xp := fun σ K => noApp σ n = true ∧ a false (ρb σ) fun u => b false (ρb σ) fun v => cat2 u v fun ds => K .next (put σ n (.own ds))
theorem s_asgP (n : Nat) {p q pl : Pos} {u v : Expr} {a b : Wp} (ha : SX C vn r kd u a) (hb : SX C vn r kd v b) (hx : isVar kd n = true) : SS C vn r kd (.Assign [.Name (vn.vn n) p] (.BinOp u .Add v pl) q) (x_asgP n a b) := .mk fun {A s F X σ K env own s₀ F₀} Rm R hw => by
  refine wpAny_Assign_Name (wpAny_BinOp ?_) (swapsWith_no rfl)
  refine pair_sound ha hb (R.ev Rm) hw.2 fun va vb s' F' da db I' k' fx ra rb hq => ?_
  obtain ⟨l, rfl, hq1⟩ := lst1_inv hq
  obtain ⟨m, rfl, hz, hq2⟩ := lst1_inv hq1
  obtain ⟨_, vs, _, rfl, ha, la⟩ := ra.list_inv
  obtain ⟨_, us, _, rfl, hb, lb⟩ := rb.list_inv
  refine PySem.P.add_list (fx.ok.at' _ _ ha).1 (fx.ok.at' _ _ hb).1 ?_ (by rw [List.size_toArray, List.size_toArray, la.length, lb.length]; exact sizeLine_big hz)
  have := (R.kp I' k' fx).putOwn (A := A) (k := s'.toks) hx (la.append lb) hw.1 hq2
  rw [List.append_toArray]
  exact wle (g := fun _ => Flow.next) this fx.le
def x_unp (xs : List Nat) (a : Wp) : Xp := fun σ K => a false (ρb σ) fun d => obw (bindp xs d) fun β => K .next (putβ σ β)
theorem s_unp (x y : Nat) {i j : Pos} {k : Nat} {p q : Pos} {v : Expr} {a : Wp} (h : SX C vn r kd v a) (hT : Tg vn kd [x, y] (.Tuple [.Name (vn.vn x) i, .Name (vn.vn y) j] k p)) (hc : isComp v = false) (hn : (match v with | .Tuple .. => true | _ => false) = false) :
    SS C vn r kd (.Assign [.Tuple [.Name (vn.vn x) i, .Name (vn.vn y) j] k p] v q) (x_unp [x, y] a) := .mk fun {A s F X σ K env own s₀ F₀} Rm R hw => by
  have hsw : swappedStores [.Tuple [.Name (vn.vn x) i, .Name (vn.vn y) j] k p] v env = pure none := by
    unfold swappedStores
    cases v <;> first | (cases hn; done) | rfl
  refine wpAny_Assign_stores (R.evB Rm h hw fun u s' F' d R' le rv hq => ?_) (by unfold swapsWithSole; exact swapsWith_no hc) hsw
  obtain ⟨β, hβ, hq⟩ := obw_inv hq
  exact R'.assign Rm.handled hT rv hβ fun s'' R'' => (R''.next hq).le le

def augw (op : Operator) (a b : V) (Q : V → Prop) : Prop :=
  match op with
  | .Add => (match a with
    | .int a => int1 b fun b => Q (.int (a + b))
    | .str a => str1 b fun b => a.length + b.length ≤ 1000000 ∧ Q (.str (a ++ b))
    | _ => False)
  | .Sub => int2 a b fun a b => Q (.int (a - b))
  | .Mult => int2 a b fun a b => (a.natAbs < 2 ^ 60 ∨ b.natAbs < 2 ^ 60) ∧ Q (.int (a * b))
  | _ => False
theorem aug_sound {op : Operator} {u v : Value} {a b : V} {Q : V → Prop} (I : Inv C s) (f : FzOk C F s.heap) (ra : Rep F u a) (rb : Rep F v b) (h : augw op a b Q) : TrV C A (inplaceOp op u v) s F fun d => d.flat = true ∧ Q d := by
  cases op with
  | Add => cases a with
    | int i =>
      obtain ⟨j, rfl, h⟩ := int1_inv h
      obtain ⟨_, rfl⟩ := ra.int_inv
      obtain ⟨_, rfl⟩ := rb.int_inv
      exact PySem.P.iadd_int (pst_int I f ⟨rfl, h⟩ trivial)
    | str i =>
      obtain ⟨j, rfl, hz, h⟩ := str1_inv h
      obtain ⟨_, rfl⟩ := ra.str_inv
      obtain ⟨_, rfl⟩ := rb.str_inv
      exact PySem.SB.iadd (fun t' k => pst_str I f ⟨rfl, h⟩ (mkS_append _ _) trivial) (by rw [mkS_length, mkS_length]; exact sizeLine_big hz)
    | _ => exact h.elim
  | Sub => exact int2_go ra rb h fun _ _ _ _ e e' h => e ▸ e' ▸ PySem.P.isub_int (pst_int I f ⟨rfl, h⟩ trivial)
  | Mult => exact int2_go ra rb h fun _ _ _ _ e e' h => e ▸ e' ▸ PySem.P.imul_int (pst_int I f ⟨rfl, h.2⟩ trivial) (mul_ok h.1)
  | _ => exact h.elim
def x_aug (n : Nat) (op : Operator) (a : Wp) : Xp := fun σ K => valw σ n fun d => d.flat = true ∧ a false (ρa σ) fun v => v.flat = true ∧ augw op d v fun q => K .next (put σ n (.val q))
theorem s_aug (n : Nat) {op : Operator} {p q : Pos} {v : Expr} {a : Wp} (h : SX C vn r kd v a) : SS C vn r kd (.AugAssign (.Name (vn.vn n) p) op v q) (x_aug n op a) := .mk fun Rm R hw => by
  obtain ⟨d, hl, hf, hw⟩ := valw_inv hw
  obtain ⟨vr, ad, hV⟩ := R.ex
  obtain ⟨hv, u, e, ru⟩ := hV.ok n _ hl
  refine wpAny_AugAssign_Name (wp_loadRd R.fs.ap.kind (R.rd hV hl e) (R.evA Rm h hw fun w s' d' R' rw' hq => ?_))
  refine (aug_sound R'.B.inv R'.B.f ru (rw' hq.1) hq.2).after fun z s2 F2 I2 k2 fx ⟨d2, r2, hfl, h2⟩ => ?_
  exact (R'.back (fun _ _ e => e) I2 k2 fx).put hv (r2.of_flat hfl) h2
def x_ret (a : Wp) : Xp := fun σ K => a false (ρb σ) fun d => K (.ret d) σ
theorem s_ret {x : Expr} {q : Pos} {a : Wp} (h : SX C vn r kd x a) : SS C vn r kd (.Return (some x) q) (x_ret a) := .mk fun Rm R hw =>
  wpAny_Return_some (R.evB Rm h hw fun v s' F' d R' le rv hq => ⟨F', _, .ret d, R', le, rv, hq⟩)
def x_asrt (a : Wp) : Xp := fun σ K => a true (ρa σ) fun d => bw d fun c => c = true ∧ K .next σ
theorem s_asrt {x : Expr} {m : Option Expr} {q : Pos} {a : Wp} (h : SX C vn r kd x a) : SS C vn r kd (.Assert x m q) (x_asrt a) := .mk fun Rm R hw =>
  wpAny_Assert_holds (R.evT Rm h hw fun b s' R' hq => ⟨hq.1, R'.next hq.2⟩)
/-- a statement that is never reached -/
def x_any : Xp := fun _ _ => False
theorem s_any {st : Stmt} : SS C vn r kd st x_any := .mk fun _ _ h => h.elim
def x_brk : Xp := fun σ K => K .brk σ
theorem s_brk {q : Pos} : SS C vn r kd (.Break q) x_brk := .mk fun _ R hw => wpAny_Break ⟨_, _, .brk, R, fun _ _ e => e, trivial, hw⟩
def x_if (t : Wp) (a b : Xp) : Xp := fun σ K => t true (ρa σ) fun d => bw d fun c => (c = true → a σ K) ∧ (c = false → b σ K)
theorem s_ifs {x : Expr} {y z : List Stmt} {p : Pos} {t : Wp} {a b : Xp} (ht : SX C vn r kd x t) (ha : SL C vn r kd y a) (hb : SL C vn r kd z b) : SS C vn r kd (.If x y z p) (x_if t a b) := .mk fun Rm R hw =>
  wpAny_If (R.evT Rm ht hw fun c s' R' hq => by
    cases c
    · exact hb.go Rm R' (hq.2 rfl)
    · exact ha.go Rm R' (hq.1 rfl))
end

/-! # Lists of one's own -/
section
variable {C : Cx} {A : Around} {s s₀ s₁ s₂ s' : Shared} {F F₀ F₁ F' X : Fz} {r : Nat} {env : Env} {own : List Str} {vn : Nm} {kd kd' : Kd} {σ : St} {K : Kt}

theorem updSeq {a : Addr} {vs : List Value} {k : Nat} {f : Array Value → Array Value} {h : Heap} (hg : h.get? a = some (lstObj vs k)) : ∃ k', (h.update a (Obj.mapSeq f)).get? a = some (lstObj (f vs.toArray).toList k') ∧ ∀ b o, b ≠ a → h.get? b = some o → (h.update a (Obj.mapSeq f)).get? b = some o := updSeq0 hg

def x_app (n : Nat) (a : Wp) : Xp := fun σ K => ownw σ n fun ds => ds.length ≤ 1000000 ∧ a false (ρb σ) fun d => K .next (put σ n (.own (ds ++ [d])))
theorem s_app (O : Ok C vn) (n : Nat) {y : Expr} {p q p3 p4 : Pos} {a : Wp} (h : SX C vn r kd y a) (hline : (q.endLine == p3.line) = true) : SS C vn r kd (.Expr (.Call (.Attribute (.Name (vn.vn n) p) "append" q) [y] [] p3) p4) (x_app n a) := .mk fun {A s F X σ K env own s₀ F₀} Rm R hw => by
  obtain ⟨ds, hl, hz, hw⟩ := ownw_inv hw
  obtain ⟨a, rd, ⟨vs, k, hg⟩, mu⟩ := R.mutate hl
  have hs : backTo p3 (starEach [y] env) = [(false, eval y env)] := (SA.one h).args
  refine wpAny_Expr_any (wpAny_Call_method (T := "list") (id := "list.append") rfl (by rw [hs]; rfl) hline PySem.F.plainAttrs_list PySem.F.slot_list_append PySem.F.type_list_append (wpAny_Name (wp_loadRd R.fs.ap.kind rd ?_) (by simpa using O.dbg n))) (by unfold interactive; rw [R.fs.ap.kind]; rfl) (by rfl)
  refine ⟨⟨_, hg, rfl⟩, fun b e => by cases e; exact ⟨_, hg, rfl⟩, ?_⟩
  rw [hs]
  refine PySem.P.append_list ((h.e (R.ev Rm) hw).after fun v s' F' I' k' fx ⟨d, rv, hq⟩ => ?_)
  obtain ⟨vs', k2, hg', rl', up⟩ := mu s' F' I' k' fx
  refine ⟨vs'.toArray, k2, by rw [List.size_toArray, rl'.length]; exact sizeLine_big hz, hg', ?_⟩
  obtain ⟨k3, u1, u2⟩ := updSeq (f := fun xs => xs.push v) hg'
  exact ((up { s' with heap := s'.heap.update a (Obj.mapSeq fun xs => xs.push v) } (vs' ++ [v]) k3 (ds ++ [d]) (by rw [u1]; simp) (rl'.append (.cons rv .nil)) u2 rfl rfl).next hq).le fx.le
def x_rev (n : Nat) : Xp := fun σ K => ownw σ n fun ds => ds.length ≤ 1000000 ∧ K .next (put σ n (.own ds.reverse))
theorem s_rev (O : Ok C vn) (n : Nat) {p q p3 p4 : Pos} (hline : (q.endLine == p3.line) = true) : SS C vn r kd (.Expr (.Call (.Attribute (.Name (vn.vn n) p) "reverse" q) [] [] p3) p4) (x_rev n) := .mk fun {A s F X σ K env own s₀ F₀} Rm R hw => by
  obtain ⟨ds, hl, hz, hw⟩ := ownw_inv hw
  obtain ⟨a, rd, ⟨vs, k, hg⟩, mu⟩ := R.mutate hl
  refine wpAny_Expr_any (wpAny_Call_method (T := "list") (id := "list.reverse") rfl (by rfl) hline PySem.F.plainAttrs_list PySem.F.slot_list_reverse PySem.F.type_list_reverse (wpAny_Name (wp_loadRd R.fs.ap.kind rd ?_) (by simpa using O.dbg n))) (by unfold interactive; rw [R.fs.ap.kind]; rfl) (by rfl)
  refine ⟨⟨_, hg, rfl⟩, fun b e => by cases e; exact ⟨_, hg, rfl⟩, ?_⟩
  obtain ⟨vs', k2, hg', rl', up⟩ := mu s F R.B.inv (Kp.refl _ _) (Fx.refl R.B.f)
  refine PySem.P.reverse_list hg' ?_ (by rw [List.size_toArray, rl'.length]; exact sizeLine_big hz)
  obtain ⟨k3, u1, u2⟩ := updSeq (f := fun xs => xs.reverse) hg'
  exact (up { s with heap := s.heap.update a (Obj.mapSeq fun xs => xs.reverse) } vs'.reverse k3 ds.reverse (by rw [u1]; simp) rl'.reverse u2 rfl rfl).next hw
theorem ixOf_fit {j : Int} {n k : Nat} (hn : n ≤ 1000000) (h : ixOf j n = some k) : Builtin.List.listFitsIndex j = true ∧ seqIndex? j n = some k ∧ k < n := by
  have hr := ixOf_range h
  exact ⟨by simp [Builtin.List.listFitsIndex]; lia, seqIndex_ixOf h, hr.2.2⟩
/-- the place of a list that an index names -/
def plw (i : V) (ds : List V) (P : Nat → Prop) : Prop := int1 i fun j => ds.length ≤ 1000000 ∧ ∃ k, ixOf j ds.length = some k ∧ P k
theorem set_go {a : Addr} {vs : List Value} {k m : Nat} {j : Int} {t : Tok} {u : Value} {ds : List V} {d : V} {n : Nat} (hg : s.heap.get? a = some (lstObj vs k)) (rl : RepL F vs ds) (hz : ds.length ≤ 1000000) (hm : ixOf j ds.length = some m) (ru : Rep F u d)
    (up : ∀ s' vs' k' ds', s'.heap.get? a = some (lstObj vs' k') → RepL F vs' ds' → (∀ b o, b ≠ a → s.heap.get? b = some o → s'.heap.get? b = some o) → s'.gens = s.gens → s'.os = s.os → Rl C vn kd env own s₀ F₀ X (put σ n (.own ds')) s' F) {Q : Unit → Shared → Prop} {E : Value → Shared → Prop}
    (q : ∀ s', Rl C vn kd env own s₀ F₀ X (put σ n (.own (ds.set m d))) s' F → Q () s') : wpAny (model C.prog C.w) A (setItem (.ref a) (.int j t) u) Q E s := by
  obtain ⟨g1, g2, g3⟩ := ixOf_fit hz hm
  refine setItem_at hg g1 (by rw [rl.length]; exact g2) (by rw [rl.length]; exact g3) ?_
  obtain ⟨k3, u1, u2⟩ := updSeq (f := fun xs => xs.setIfInBounds m u) hg
  exact q _ (up { s with heap := s.heap.update a (Obj.mapSeq fun xs => xs.setIfInBounds m u) } (vs.set m u) k3 (ds.set m d) (by rw [u1]; simp) (rl.set ru m) u2 rfl rfl)
def x_setI (n : Nat) (i e : Wp) : Xp := fun σ K => ownw σ n fun ds => e false (ρa σ) fun d => i false (ρa σ) fun iv => d.flat = true ∧ plw iv ds fun k => K .next (put σ n (.own (ds.set k d)))
theorem s_setI (O : Ok C vn) (n : Nat) {p p1 q : Pos} {iy v : Expr} {i e : Wp} (hi : SX C vn r kd iy i) (he : SX C vn r kd v e) (hc : isComp v = false) : SS C vn r kd (.Assign [.Subscript (.Name (vn.vn n) p) iy p1] v q) (x_setI n i e) := .mk fun {A s F X σ K env own s₀ F₀} Rm R hw => by
  obtain ⟨ds, hl, hw⟩ := ownw_inv hw
  obtain ⟨a, rd, _, mu⟩ := R.mutate hl
  obtain ⟨G, up, f, eo⟩ := R.envA
  have ev : Ev C vn r kd A s G env (ρa σ) := ⟨Rm, R.B.inv, f, eo⟩
  refine wpAny_Assign_Subscript ((he.e ev hw).after fun u s1 F1 I1 k1 fx1 ⟨d, ru, hd⟩ => ?_) (swapsWith_no hc)
  refine wpAny_Name (wp_loadRd R.fs.ap.kind (rd.kp R.B.inv k1) ?_) (by simpa using O.dbg n)
  refine (hi.e (ev.go I1 k1 fx1) hd).after fun w s2 F2 I2 k2 fx2 ⟨d2, rw', hf, hd2⟩ => ?_
  have fx12 := fx1.trans fx2 k1
  obtain ⟨vs, k, hg, rl, upd⟩ := mu s2 F I2 (k1.trans k2) (Fx.refl ⟨fun a o e => fx12.ok.at' a o (fx12.le a o (up a o e)), R.B.f.k⟩)
  obtain ⟨j, rfl, hz, m, hm, hK⟩ := int1_inv hd2
  obtain ⟨t, rfl⟩ := rw'.int_inv
  exact set_go hg rl hz hm (ru.of_flat hf) upd fun s' R' => R'.next hK
def x_augI (n : Nat) (i : Wp) (op : Operator) (e : Wp) : Xp := fun σ K => ownw σ n fun ds => i false (ρa σ) fun iv => plw iv ds fun k => ∃ old, ds[k]? = some old ∧ old.flat = true ∧ e false (ρa σ) fun d => d.flat = true ∧ augw op old d fun z => K .next (put σ n (.own (ds.set k z)))
theorem s_augI (O : Ok C vn) (n : Nat) {op : Operator} {p p1 q : Pos} {iy v : Expr} {i e : Wp} (hi : SX C vn r kd iy i) (he : SX C vn r kd v e) (hsl : (match iy with | .Slice .. => false | _ => true) = true) : SS C vn r kd (.AugAssign (.Subscript (.Name (vn.vn n) p) iy p1) op v q) (x_augI n i op e) := .mk fun {A s F X σ K env own s₀ F₀} Rm R hw => by
  obtain ⟨ds, hl, hw⟩ := ownw_inv hw
  obtain ⟨a, rd, _, mu⟩ := R.mutate hl
  obtain ⟨G, up, f, eo⟩ := R.envA
  have ev : Ev C vn r kd A s G env (ρa σ) := ⟨Rm, R.B.inv, f, eo⟩
  have bF : ∀ {s' G'}, Fx C G G' s s' → FzOk C F s'.heap := fun fx => ⟨fun a o e => fx.ok.at' a o (fx.le a o (up a o e)), R.B.f.k⟩
  refine wpAny_AugAssign_SubscriptAny (wpAny_Name (wp_loadRd R.fs.ap.kind rd ?_) (by simpa using O.dbg n)) (by intro _ _ _; cases iy <;> first | rfl | cases hsl)
  refine (hi.e ev hw).after fun w s1 F1 I1 k1 fx1 ⟨d1, rw', hd1⟩ => ?_
  obtain ⟨j, rfl, hz, m, hm, old, hold, hof, hw2⟩ := int1_inv hd1
  obtain ⟨t, rfl⟩ := rw'.int_inv
  obtain ⟨vs, k, hg, rl, _⟩ := mu s1 F I1 k1 (Fx.refl (bF fx1))
  obtain ⟨g1, g2, g3⟩ := ixOf_fit hz hm
  have fa : FzOk C (Fz.add F a (lstObj vs k)) s1.heap := ⟨fun b o e => e.elim (fun e => (bF fx1).at' b o e) fun ⟨q, w⟩ => by
    subst q; subst w
    refine ⟨hg, fun q => ?_⟩
    subst q
    obtain ⟨ps, _, hp, _⟩ := I1.tab
    exact (nomatch hg.symm.trans hp), fun b o e => .inl (R.B.f.k b o e)⟩
  refine (itemw_sound (Q := fun d => d = old) I1 fa (Rep.list (.inr ⟨rfl, rfl⟩) (rl.mono fun _ _ e => .inl e)) (.int j t) ⟨hz, m, old, hm, hold, rfl⟩).after fun ov s2 F2 I2 k2 fx2 ⟨d2, ro, e2⟩ => ?_
  subst e2
  have ro := ro.of_flat (F' := F) hof
  have fx12 : Fx C G F1 s s2 := ⟨fx1.le, fx1.new, fx1.ok.kp k2⟩
  refine (he.e (ev.go I2 (k1.trans k2) fx12) hw2).after fun u s3 F3 I3 k3 fx3 ⟨d3, ru, hd3⟩ => ?_
  have f3 := bF (fx12.trans fx3 (k1.trans k2))
  refine (aug_sound I3 f3 ro (ru.of_flat hd3.1) hd3.2).after fun z s4 F4 I4 k4 fx4 ⟨d4, rz, hzf, hK⟩ => ?_
  obtain ⟨vs', k', hg', rl', upd⟩ := mu s4 F I4 (((k1.trans k2).trans k3).trans k4) (Fx.refl ⟨fun b o e => fx4.ok.at' b o (fx4.le b o e), R.B.f.k⟩)
  exact set_go hg' rl' hz hm (rz.of_flat hzf) upd fun s' R' => R'.next hK
def x_delI (n : Nat) (i : Wp) : Xp := fun σ K => ownw σ n fun ds => i false (ρa σ) fun iv => plw iv ds fun k => K .next (put σ n (.own (ds.eraseIdx k)))
theorem s_delI (O : Ok C vn) (n : Nat) {p p1 q : Pos} {iy : Expr} {i : Wp} (hi : SX C vn r kd iy i) : SS C vn r kd (.Delete [.Subscript (.Name (vn.vn n) p) iy p1] q) (x_delI n i) := .mk fun {A s F X σ K env own s₀ F₀} Rm R hw => by
  obtain ⟨ds, hl, hw⟩ := ownw_inv hw
  obtain ⟨a, rd, _, mu⟩ := R.mutate hl
  obtain ⟨G, up, f, eo⟩ := R.envA
  refine wpAny_Delete ?_
  show wpAny _ A (do delete (.Subscript (.Name (vn.vn n) p) iy p1) env; deleteEach [] env) _ _ s
  refine wpAny_bind (wpAny_delete_Subscript (wpAny_Name (wp_loadRd R.fs.ap.kind rd ?_) (by simpa using O.dbg n)))
  refine (hi.e ⟨Rm, R.B.inv, f, eo⟩ hw).after fun w s1 F1 I1 k1 fx1 ⟨d1, rw', hd1⟩ => ?_
  obtain ⟨j, rfl, hz, m, hm, hK⟩ := int1_inv hd1
  obtain ⟨t, rfl⟩ := rw'.int_inv
  obtain ⟨g1, g2, g3⟩ := ixOf_fit hz hm
  obtain ⟨vs, k, hg, rl, upd⟩ := mu s1 F I1 k1 (Fx.refl ⟨fun a o e => fx1.ok.at' a o (fx1.le a o (up a o e)), R.B.f.k⟩)
  have hlen := rl.length
  refine PySem.P.delItem_list hg g1 (by rw [List.size_toArray, hlen]; exact g2) ?_ (by rw [List.size_toArray, hlen]; exact sizeLine_big hz)
  obtain ⟨k3, u1, u2⟩ := updSeq (f := fun xs => xs.eraseIdxIfInBounds m) hg
  refine wpAny_deleteEach_nil ?_
  exact (upd { s1 with heap := s1.heap.update a (Obj.mapSeq fun xs => xs.eraseIdxIfInBounds m) } (vs.eraseIdx m) k3 (ds.eraseIdx m) (by rw [u1]; congr 1; unfold lstObj; congr 1; simp [Array.eraseIdxIfInBounds, hlen, g3]) (rl.eraseIdx m) u2 rfl rfl).next hK
def x_alias (y n : Nat) : Xp := fun σ K => ownw σ n fun _ => K .next (put σ y (.app n))
theorem s_alias (O : Ok C vn) (y n : Nat) {p p1 p2 q : Pos} (hy : isVar kd y = true) : SS C vn r kd (.Assign [.Name (vn.vn y) p] (.Attribute (.Name (vn.vn n) p1) "append" p2) q) (x_alias y n) := .mk fun {A s F X σ K env own s₀ F₀} Rm R hw => by
  obtain ⟨ds, hl, hw⟩ := ownw_inv hw
  obtain ⟨a, rd, ⟨vs, k, hg⟩, st⟩ := R.alias hl
  refine wpAny_Assign_Name ?_ (swapsWith_no rfl)
  show wpAny _ A (do
    let o ← eval (.Name (vn.vn n) p1) env
    standAt p2.atName
    let r ← holding [o] (getAttr o "append" true)
    letTemporaryGo (.Name (vn.vn n) p1) o r
    pure r) _ _ s
  refine wpAny_bind (wpAny_Name (wp_loadRd R.fs.ap.kind rd ?_) (by simpa using O.dbg n))
  refine wpAny_bind (wpAny_standAt (wpAny_bind (wpAny_holding (get_append hg fun tk => ?_))))
  refine wpAny_bind (wpAny_letTemporaryGo (wpAny_pure ?_))
  exact st hy fun s' F' R' le => (R'.next hw).le le
def x_add (y : Nat) (a : Wp) : Xp := fun σ K => appw σ y fun n => ownw σ n fun ds => ds.length ≤ 1000000 ∧ a false (ρb σ) fun d => K .next (put σ n (.own (ds ++ [d])))
theorem s_add (O : Ok C vn) (y : Nat) {p p1 q : Pos} {z : Expr} {a : Wp} (h : SX C vn r kd z a) : SS C vn r kd (.Expr (.Call (.Name (vn.vn y) p) [z] [] p1) q) (x_add y a) := .mk fun {A s F X σ K env own s₀ F₀} Rm R hw => by
  obtain ⟨n, hy, hw⟩ := appw_inv hw
  obtain ⟨ds, hl, hz, hw⟩ := ownw_inv hw
  obtain ⟨a, u, rd, hu, mu⟩ := R.mutApp hy hl
  have hs : backTo p1 (starEach [z] env) = [(false, eval z env)] := (SA.one h).args
  refine wpAny_Expr_any (wpAny_Call_NameR (wpAny_Name (wp_loadRd R.fs.ap.kind rd ?_) (by simpa using O.dbg y))) (by unfold interactive; rw [R.fs.ap.kind]; rfl) (by rfl)
  rw [hs]
  refine callWith_app (a := a) rfl (Calls.evalArgs_plain (Calls.spliced_cons ((h.e (R.ev Rm) hw).after fun v s' F' I' k' fx ⟨d, rv, hq⟩ => Calls.spliced_nil ?_)))
  obtain ⟨vs', k2, hu', hg', rl', up⟩ := mu s' F' I' k' fx
  refine ⟨hu', call_app hu' hg' (by rw [rl'.length]; exact sizeLine_big hz) ?_⟩
  obtain ⟨k3, u1, u2⟩ := updSeq (f := fun xs => xs.push v) hg'
  exact ((up { s' with heap := s'.heap.update a (Obj.mapSeq fun xs => xs.push v) } (vs' ++ [v]) k3 (ds ++ [d]) (by rw [u1]; simp) (rl'.append (.cons rv .nil)) u2 rfl rfl).next hq).le fx.le

/-- a comprehension's list is one's own -/
theorem Rl.other (R : Rl C vn kd env own s₀ F₀ X σ s F) {L : Addr} {m : Str → Option Value} (h0 : s₀.heap.get? L = none) (hp : ¬ Priv env own L) (hF : ∀ o, ¬ F L o) (hX : ∀ o, ¬ X L o) (hn : s.heap.Ns L m)
    (hk : ∀ b o, b ≠ L → s.heap.get? b = some o → s'.heap.get? b = some o) (hg : s'.gens = s.gens) (ho : s'.os = s.os) : Rl C vn kd env own s₀ F₀ X σ s' F := by
  obtain ⟨vr, ad, h⟩ := R.ex
  refine ⟨R.fs, R.B.upd (S := fun a => a = L) (by rintro a rfl; exact h0) (by rintro a o rfl; exact hF o) hk hg ho trivial, R.pf, R.nd, fun b o e => ⟨hk b o (by rintro rfl; exact hX o e) (R.x b o e).1, (R.x b o e).2⟩, vr, ad, h.fr.at fun b o hb e => hk b o (by rintro rfl; exact hp hb) e,
    fun n lv e => ⟨(h.ok n lv e).1, (h.ok n lv e).2.kp (fun _ _ e => e) (fun b u o w => hk _ o ?_ w) (fun _ _ => rfl) fun _ _ => rfl⟩, h.mu, h.dj⟩
  obtain ⟨vs, k, q⟩ := (h.ok n lv e).2.get u
  rintro rfl
  obtain ⟨o', es, ep, q', hd, _⟩ := hn
  cases q.symm.trans q'
  cases hd
def x_asgC (n : Nat) (xs fr : List Nat) (src : Ρ → (List V → Prop) → Prop) (cond : Option Wp) (elt : Wp) : Xp := fun σ K => noApp σ n = true ∧ w_comp xs fr src cond elt (ρb σ) fun d => lst1 d fun ds => K .next (put σ n (.own ds))
theorem s_asgC (O : Ok C vn) (n : Nat) (xs fr : List Nat) {rg : Bool} (kd' : Kd) {src : Ρ → (List V → Prop) → Prop} {cond : Option Wp} {elt : Wp} {ex tg iter : Expr} {ifs : List Expr} {scope : Scope} {p q q' : Pos}
    (hI : SSrc C vn r kd rg iter src) (hT : Tg vn kd' xs tg) (ck : compOk vn kd kd' scope fr = true) (hC : STst C vn r kd' ifs cond) (hE : SX C vn r kd' ex elt) (hl : kd.lookup n = some .local) (hp : (p.line == q.line) = true)
    (hn : (scope.names.any fun (m, k) => m == vn.vn n && (k == .local || k == .cell)) = false) :
    SS C vn r kd (.Assign [.Name (vn.vn n) p] (.ListComp ex [⟨tg, iter, ifs, 0⟩] scope q) q') (x_asgC n xs fr src cond elt) := .mk fun {A s F X σ K env own s₀ F₀} Rm R hw => by
  obtain ⟨hna, hw⟩ := hw
  have hv : isVar kd n = true := by unfold isVar; rw [hl]
  have hsw := swapsWith_local (a := ex) (b := [⟨tg, iter, ifs, 0⟩]) (c := scope) (d := q) (p := p) (n := q'.line) R.fs.ap.kind (R.fs.loc hl) hp hn
  rw [exec_Assign_Name_used _ _ _ _ hsw]
  refine wpAny_bind (wpAny_standAt (wpAny_bind ?_))
  show wpAny _ A (do
    let _ ← comprehension (.ListComp ex [⟨tg, iter, ifs, 0⟩] scope q) scope env (firstIterPos [⟨tg, iter, ifs, 0⟩] q) (newList []) false (eval iter env) (some (PySem.assign (.Name (vn.vn n) p) env))) _ _ s
  refine wpAny_bind (wpAny_mono (comp_sound (P := fun _ s' => XPost C vn kd env own s₀ F₀ X F K .next s') O (R.ev Rm) hI hT (.of ck) hC hE hw (use := some (PySem.assign (.Name (vn.vn n) p) env)) ?_) (fun _ s' h => wpAny_pure (wpAny_pure h)) fun _ _ e => e)
  intro D L s5 F5 vs k m ds B5 hD hL hDL e5 nD nL hnL rl hq
  have R5 := R.kp B5.inv B5.kp B5.fx
  show wpAny _ A (PySem.assign (.Name (vn.vn n) p) env (.ref D)) _ _ s5
  obtain ⟨vr, ad, hV⟩ := R.ex
  obtain ⟨mL, _⟩ := R.fresh hV hL
  refine wpAny_assign_Name (R.storeOwn B5.inv B5.kp B5.fx hv hD nD e5 rl hna fun s6 R6 kp6 => ?_)
  have hn6 := hnL.at' fun o e => kp6 L o mL.np e
  exact ⟨m, hn6, fun h' hs' => ((R6.other (s' := { s6 with heap := h' }) mL.new mL.np nL mL.nx hn6 (fun b o hb e => hs'.extBut b o hb e) rfl rfl).next hq).le B5.fx.le⟩
end

/-! # Two at once -/
section
variable {C : Cx} {A : Around} {s s₀ s₁ s₂ s' : Shared} {F F₀ F₁ F' X : Fz} {r : Nat} {env : Env} {own : List Str} {vn : Nm} {kd kd' : Kd} {σ : St} {K : Kt}

theorem plx_st {e : Expr} (h : plx e = true) : PySem.swappedStores.match_5 (fun _ => Bool) e (fun _ _ => true) (fun _ => false) = false := by cases e <;> first | rfl | cases h
theorem swapped_eq {i j : Str} {p q p' : Pos} {k k' : Nat} {q' : Pos} {u v : Expr} (hf : env.scope.kind = .function) (hu : plx u = true) (hv : plx v = true) :
    swappedStores [.Tuple [.Name i p, .Name j q] k p'] (.Tuple [u, v] k' q') env = (do
      let names := [Expr.Name i p, .Name j q].filterMap fun x => PySem.swappedStores.match_8 (fun _ => Option Str) x (fun id pos => if (env.kindOf id == some .local && pos.line == p.line) = true then some id else none) fun _ => none
      if (names.length != 2 || names.eraseDups.length != names.length) = true then return none
      if ([u, v].all (foldedForSure 8)) = true then return none
      if ([u, v].all (constantsAlone 8)) = true then unsupported "assign.tuple-of-constant-expressions:order-of-the-stores"
      return some names) := by
  unfold swappedStores
  dsimp only
  rw [blockKind_fn hf, List.any_cons, List.any_cons, plx_st hu, plx_st hv]
  rfl
theorem swapped_two {i j : Str} {p q p' : Pos} {k k' : Nat} {q' : Pos} {u v : Expr} (hf : env.scope.kind = .function) (hi : env.kindOf i = some .local) (hj : env.kindOf j = some .local) (hl : (p.line == q.line) = true) (hne : i ≠ j)
    (hu : plx u = true) (hv : plx v = true) (h1 : [u, v].all (foldedForSure 8) = false) (h2 : [u, v].all (constantsAlone 8) = false) :
    swappedStores [.Tuple [.Name i p, .Name j q] k p'] (.Tuple [u, v] k' q') env = pure (some [i, j]) := by
  have hlq : q.line = p.line := (beq_iff_eq.mp hl).symm
  rw [swapped_eq hf hu hv, h1, h2]
  have e : ([Expr.Name i p, .Name j q].filterMap fun x => PySem.swappedStores.match_8 (fun _ => Option Str) x (fun id pos => if (env.kindOf id == some .local && pos.line == p.line) = true then some id else none) fun _ => none) = [i, j] := by
    simp [hi, hj, hlq]
  rw [e]
  have hne' : (j == i) = false := by simpa using Ne.symm hne
  have e2 : [i, j].eraseDups = [i, j] := by rw [List.eraseDups_cons, List.filter_cons, hne']; simp [List.eraseDups_cons]
  dsimp only
  rw [e2]; rfl
theorem swapped_fold {i j : Str} {p q p' : Pos} {k k' : Nat} {q' : Pos} {u v : Expr} (hf : env.scope.kind = .function) (hu : plx u = true) (hv : plx v = true) (h : [u, v].all (foldedForSure 8) = true) :
    swappedStores [.Tuple [.Name i p, .Name j q] k p'] (.Tuple [u, v] k' q') env = pure none := by
  rw [swapped_eq hf hu hv, h]
  dsimp only
  split
  · rfl
  · rfl
theorem short2 {α β : Type} (f : α → Option β) (a b : α) (h : f a = none ∨ f b = none) : ([a, b].filterMap f).length < 2 := by
  rcases h with h | h
  · rw [List.filterMap_cons, h]
    cases e : f b <;> simp [List.filterMap_cons, e]
  · cases e : f a <;> simp [List.filterMap_cons, e, h]
theorem swapped_cell {i j : Str} {p q p' : Pos} {k k' : Nat} {q' : Pos} {u v : Expr} (hf : env.scope.kind = .function) (hu : plx u = true) (hv : plx v = true) (hi : env.kindOf i = some .cell ∨ env.kindOf j = some .cell) :
    swappedStores [.Tuple [.Name i p, .Name j q] k p'] (.Tuple [u, v] k' q') env = pure none := by
  rw [swapped_eq hf hu hv]
  have h0 : ∀ {x : Str} {l : Bool}, env.kindOf x = some .cell → (env.kindOf x == some .local && l) = false := fun h => by rw [h]; rfl
  have e := short2 (fun x => PySem.swappedStores.match_8 (fun _ => Option Str) x (fun id pos => if (env.kindOf id == some .local && pos.line == p.line) = true then some id else none) fun _ => none) (.Name i p) (.Name j q) (hi.imp (fun h => by dsimp only; rw [h0 h]; rfl) fun h => by dsimp only; rw [h0 h]; rfl)
  dsimp only at e ⊢
  generalize List.filterMap _ [Expr.Name i p, .Name j q] = l at e ⊢
  rw [if_pos]
  have : (l.length != 2) = true := bne_iff_ne.mpr (Nat.ne_of_lt e)
  rw [this]; rfl
def tup2 (d : V) (P : V → V → Prop) : Prop := ∃ d1 d2, d = .tuple [d1, d2] ∧ P d1 d2
/-- two values in a tuple -/
theorem two_ev {k' : Nat} {q' : Pos} {u v : Expr} {a b : Wp} {Qq : V → V → Prop} (R : Rl C vn kd env own s₀ F₀ X σ s F) (Rm : Room r A) (ha : SX C vn r kd u a) (hb : SX C vn r kd v b) (hw : w_tup [a, b] (ρb σ) fun d => tup2 d Qq) {P : Value → Shared → Prop}
    (kk : ∀ t s' F' v1 v2 d1 d2, Rl C vn kd env own s₀ F₀ X σ s' F' → (∀ a o, F a o → F' a o) → s'.heap.IsTuple t #[v1, v2] → Rep F' (.ref t) (.tuple [d1, d2]) → Rep F' v1 d1 → Rep F' v2 d2 → Qq d1 d2 → P (.ref t) s') : wpAny (model C.prog C.w) A (eval (.Tuple [u, v] k' q') env) P (fun _ _ => False) s := by
  refine R.evB Rm (s_tup (.cons ha (.cons hb .nil)) rfl) hw fun v s' F' d R' le rv hq => ?_
  obtain ⟨d1, d2, rfl, hq⟩ := hq
  obtain ⟨t, vs, n, rfl, ht, lt⟩ := rv.tuple_inv
  obtain ⟨v1, v2, rfl, r1, r2⟩ := lt.two
  exact kk t s' F' v1 v2 d1 d2 R' le ⟨_, (R'.B.f.at' _ _ ht).1, rfl, _, rfl⟩ rv r1 r2 hq
/-- the last first -/
def x_two (x y : Nat) (a b : Wp) : Xp := fun σ K => w_tup [a, b] (ρb σ) fun d => tup2 d fun u v => K .next (put (put σ y (.val v)) x (.val u))
theorem s_two (x y : Nat) {p q p' q' q'' : Pos} {k k' : Nat} {u v : Expr} {a b : Wp} (ha : SX C vn r kd u a) (hb : SX C vn r kd v b) (hx : kd.lookup x = some .local) (hy : kd.lookup y = some .local) (hl : (p.line == q.line) = true) (hne : vn.vn x ≠ vn.vn y)
    (h1 : [u, v].all (foldedForSure 8) = false) (h2 : [u, v].all (constantsAlone 8) = false) : SS C vn r kd (.Assign [.Tuple [.Name (vn.vn x) p, .Name (vn.vn y) q] k p'] (.Tuple [u, v] k' q') q'') (x_two x y a b) := .mk fun {A s F X σ K env own s₀ F₀} Rm R hw => by
  have hsn := swapped_two (p := p) (q := q) (p' := p') (k := k) (k' := k') (q' := q') R.fs.ap.kind (R.fs.loc hx) (R.fs.loc hy) hl hne ha.p hb.p h1 h2
  rw [exec_Assign_arm]
  refine wpAny_bind (wpAny_standAt ?_)
  show wpAny _ A (do
    let vv ← eval (.Tuple [u, v] k' q') env
    assignStores env vv (← swappedStores [.Tuple [.Name (vn.vn x) p, .Name (vn.vn y) q] k p'] (.Tuple [u, v] k' q') env) ((assignEach [.Tuple [.Name (vn.vn x) p, .Name (vn.vn y) q] k p'] env).map (·.2))) _ _ s
  refine wpAny_bind (two_ev R Rm ha hb hw fun t s' F' v1 v2 d1 d2 R' le it rt r1 r2 hq => ?_)
  rw [hsn]
  refine wpAny_bind (wpAny_pure ?_)
  show wpAny _ A (do
    rule "assign.swapped-stores"
    let items ← unpackItems (.ref t) (#[v1, v2] : Array Value).size none
    assignInOrder ([vn.vn y, vn.vn x].map fun n => bindName env n) items.reverse
    pure Flow.next) _ _ s'
  refine wpAny_bind (wpAny_rule (wpAny_bind (wpAny_unpackItems_tuple Rm.handled it fun h1 hx1 => ?_)))
  have R1 := R'.ext (k := s'.toks) (h' := h1) fun b o e => hx1 b o (by rintro rfl; rw [get_size] at e; cases e) e
  show wpAny _ A (do assignInOrder [bindName env (vn.vn y), bindName env (vn.vn x)] [v2, v1]; pure Flow.next) _ _ _
  refine wpAny_bind ?_
  show wpAny _ A (do holding _ (bindName env (vn.vn y) v2); assignInOrder [bindName env (vn.vn x)] [v1]) _ _ _
  refine wpAny_bind (wpAny_holding (wpAny_bindName (R1.store (by unfold isVar; rw [hy]) r2 fun s2 R2 => ?_)))
  show wpAny _ A (do holding _ (bindName env (vn.vn x) v1); assignInOrder [] []) _ _ _
  exact wpAny_bind (wpAny_holding (wpAny_bindName (R2.store (by unfold isVar; rw [hx]) r1 fun s3 R3 => wpAny_pure (wpAny_pure ((R3.next hq).le le)))))
/-- the first first -/
def x_two' (x y : Nat) (a b : Wp) : Xp := fun σ K => w_tup [a, b] (ρb σ) fun d => tup2 d fun u v => K .next (put (put σ x (.val u)) y (.val v))
theorem two_go (x y : Nat) {p q p' q' q'' : Pos} {k k' : Nat} {u v : Expr} {a b : Wp} (ha : SX C vn r kd u a) (hb : SX C vn r kd v b) (hT : Tg vn kd [x, y] (.Tuple [.Name (vn.vn x) p, .Name (vn.vn y) q] k p')) (Rm : Room r A) (R : Rl C vn kd env own s₀ F₀ X σ s F) (hw : x_two' x y a b σ K)
    (hs : swappedStores [.Tuple [.Name (vn.vn x) p, .Name (vn.vn y) q] k p'] (.Tuple [u, v] k' q') env = pure none) : wpAny (model C.prog C.w) A (exec (.Assign [.Tuple [.Name (vn.vn x) p, .Name (vn.vn y) q] k p'] (.Tuple [u, v] k' q') q'') env) (XPost C vn kd env own s₀ F₀ X F K) (fun _ _ => False) s := by
  refine wpAny_Assign_stores (two_ev R Rm ha hb hw fun t s' F' v1 v2 d1 d2 R' le it rt r1 r2 hq => ?_) rfl hs
  show wpAny _ A (PySem.assign (.Tuple [.Name (vn.vn x) p, .Name (vn.vn y) q] k p') env (.ref t)) _ _ s'
  exact R'.assign (xs := [x, y]) (β := [(x, d1), (y, d2)]) Rm.handled hT rt rfl fun s'' R'' => (R''.next hq).le le
theorem s_twoF (x y : Nat) {p q p' q' q'' : Pos} {k k' : Nat} {u v : Expr} {a b : Wp} (ha : SX C vn r kd u a) (hb : SX C vn r kd v b) (hT : Tg vn kd [x, y] (.Tuple [.Name (vn.vn x) p, .Name (vn.vn y) q] k p')) (h : [u, v].all (foldedForSure 8) = true) :
    SS C vn r kd (.Assign [.Tuple [.Name (vn.vn x) p, .Name (vn.vn y) q] k p'] (.Tuple [u, v] k' q') q'') (x_two' x y a b) := .mk fun Rm R hw => two_go x y ha hb hT Rm R hw (swapped_fold R.fs.ap.kind ha.p hb.p h)
theorem s_twoC (x y : Nat) {p q p' q' q'' : Pos} {k k' : Nat} {u v : Expr} {a b : Wp} (ha : SX C vn r kd u a) (hb : SX C vn r kd v b) (hT : Tg vn kd [x, y] (.Tuple [.Name (vn.vn x) p, .Name (vn.vn y) q] k p')) (h : kd.lookup x = some .cell ∨ kd.lookup y = some .cell) :
    SS C vn r kd (.Assign [.Tuple [.Name (vn.vn x) p, .Name (vn.vn y) q] k p'] (.Tuple [u, v] k' q') q'') (x_two' x y a b) := .mk fun Rm R hw => two_go x y ha hb hT Rm R hw (swapped_cell R.fs.ap.kind ha.p hb.p (h.imp R.fs.cell R.fs.cell))
end

/-! # Loops -/
/-- over the objects of a loop, as they stand in h -/
def Yat (X : Fz) (as : List Addr) (h : Heap) : Fz := fun b o => X b o ∨ (b ∈ as ∧ h.get? b = some o)
section
variable {C : Cx} {A : Around} {s s₀ s₁ s₂ s' : Shared} {F F₀ F₁ F' X : Fz} {r : Nat} {env : Env} {own : List Str} {vn : Nm} {kd kd' : Kd} {σ : St} {K : Kt}

theorem Rl.xmono {X' : Fz} (R : Rl C vn kd env own s₀ F₀ X' σ s F) (h : ∀ b o, X b o → X' b o) : Rl C vn kd env own s₀ F₀ X σ s F :=
  ⟨R.fs, R.B, R.pf, R.nd, fun b o e => R.x b o (h b o e), let ⟨vr, ad, V⟩ := R.ex; ⟨vr, ad, V.fr, V.ok, fun n b u => let m := V.mu n b u; ⟨m.new, m.np, m.nf, fun o e => m.nx o (h _ o e)⟩, V.dj⟩⟩
/-- the iterator of a loop steps on -/
theorem Rl.tick {as : List Addr} {hh : Heap} (R : Rl C vn kd env own s₀ F₀ (Yat X as hh) σ s F) (hw : ∀ a ∈ as, s₀.heap.get? a = none ∧ (∀ o, ¬ X a o) ∧ ∃ o, hh.get? a = some o) (hk : ∀ b o, b ∉ as → s.heap.get? b = some o → s'.heap.get? b = some o)
    (hg : s'.gens = s.gens) (ho : s'.os = s.os) : Rl C vn kd env own s₀ F₀ (Yat X as s'.heap) σ s' F := by
  obtain ⟨vr, ad, V⟩ := R.ex
  have hy : ∀ a ∈ as, a ≠ C.P ∧ ¬ Priv env own a ∧ ∀ o, ¬ F a o := fun a ha => let ⟨_, _, o, e⟩ := hw a ha; (R.x a o (.inr ⟨ha, e⟩)).2
  have hm : ∀ n b, Used σ n b → ad n b ∉ as := fun n b u ha => let ⟨_, _, o, e⟩ := hw _ ha; (V.mu n b u).nx o (.inr ⟨ha, e⟩)
  refine ⟨R.fs, R.B.upd (S := fun a => a ∈ as) (fun a ha => (hw a ha).1) (fun a o ha => (hy a ha).2.2 o) hk hg ho trivial, R.pf, R.nd, fun b p e => ?_, vr, ad, V.fr.at fun b o hb e => hk b o (fun ha => (hy b ha).2.1 hb) e,
    fun n lv e => ⟨(V.ok n lv e).1, (V.ok n lv e).2.kp (fun _ _ e => e) (fun b u p w => hk _ p (hm n b ⟨lv, e, u⟩) w) (fun _ _ => rfl) fun _ _ => rfl⟩, fun n b u => ?_, V.dj⟩
  · rcases e with e | ⟨ha, e⟩
    · obtain ⟨g1, g2⟩ := R.x b p (.inl e)
      exact ⟨hk b p (fun ha => (hw b ha).2.1 p e) g1, g2⟩
    · exact ⟨e, hy b ha⟩
  · have m := V.mu n b u
    exact ⟨m.new, m.np, m.nf, fun p e => e.elim (fun e => m.nx p (.inl e)) fun e => hm n b u e.1⟩
/-- the iterator of a loop is taken in -/
theorem Rl.take {as : List Addr} (R : Rl C vn kd env own s₀ F₀ X σ s₁ F') (I : Inv C s) (k : Kp C s₁ s) (fx : Fx C F' F s₁ s) (hI : ∀ a ∈ as, s₁.heap.get? a = none ∧ ∀ o, ¬ F a o) : Rl C vn kd env own s₀ F₀ (Yat X as s.heap) σ s F := by
  have R1 := R.kp I k fx
  obtain ⟨vr, ad, V⟩ := R.ex
  have fr := fun a ha => (R.fresh V (hI a ha).1)
  have V1 := R.kpX k fx V
  refine ⟨R1.fs, R1.B, R1.pf, R1.nd, fun b p e => ?_, vr, ad, V1.fr, V1.ok, fun n b u => ?_, V1.dj⟩
  · rcases e with e | ⟨ha, e⟩
    · exact R1.x b p e
    · exact ⟨e, R.B.inv.freshNe (hI b ha).1, (fr b ha).1.np, (hI b ha).2⟩
  · have m := V1.mu n b u
    exact ⟨m.new, m.np, m.nf, fun p e => e.elim (m.nx p) fun e => (fr _ e.1).2 n b u rfl⟩
/-- a body's flow, seen by its loop -/
def lpK (P : St → Prop) (K : Kt) : Kt := fun f σ => match f with | .next => P σ | .brk => K .next σ | .ret v => K (.ret v) σ
def x_while (t : Wp) (b : Xp) : Xp := fun σ K => ∃ I : Nat → St → Prop, (∃ n, I n σ) ∧ ∀ n σ, I n σ → t true (ρa σ) fun d => bw d fun c => (c = true → b σ (lpK (fun σ' => ∃ m, m < n ∧ I m σ') K)) ∧ (c = false → K .next σ)
theorem s_while {x : Expr} {y : List Stmt} {p : Pos} {t : Wp} {b : Xp} (ht : SX C vn r kd x t) (hb : SL C vn r kd y b) : SS C vn r kd (.While x y [] p) (x_while t b) := .mk fun {A s F X σ K env own s₀ F₀} Rm R hw => by
  obtain ⟨I, ⟨n, hn⟩, step⟩ := hw
  refine wpAny_While (codeAny_whileLoop (fun k s' => ∃ F' σ', Rl C vn kd env own s₀ F₀ X σ' s' F' ∧ (∀ a o, F a o → F' a o) ∧ I k σ') ?_ n ⟨F, σ, R, fun _ _ e => e, hn⟩)
  rintro k s' ⟨F', σ', R', le, hI⟩
  refine wpAny_mono (R'.evT Rm ht (step k σ' hI) (P := fun b s₂ => Rl C vn kd env own s₀ F₀ X σ' s₂ F' ∧ _) fun b s₂ R₂ hk => ⟨R₂, hk⟩) (fun b' s₂ h => ?_) fun _ _ e => e.elim
  obtain ⟨R₂, hk⟩ := h
  cases b' with
  | false => exact wpAny_execs_nil ⟨F', σ', .next, R₂, le, trivial, hk.2 rfl⟩
  | true =>
    simp only [if_true]
    refine wpAny_mono (hb.go Rm R₂ (hk.1 rfl)) (fun fl s₃ h => ?_) fun _ _ e => e.elim
    obtain ⟨F₃, σ₃, f, R₃, le₃, ok, hq⟩ := h
    have le' : ∀ a o, F a o → F₃ a o := fun a o e => le₃ a o (le a o e)
    cases fl <;> cases f <;> first | exact ok.elim | skip
    · obtain ⟨m, hm, hi⟩ := hq
      exact ⟨m, hm, F₃, σ₃, R₃, le', hi⟩
    · exact ⟨F₃, σ₃, .next, R₃, le', trivial, hq⟩
    · exact ⟨F₃, σ₃, .ret _, R₃, le', ok, hq⟩

/-- where the loop's source leaves -/
theorem src_loop {rg : Bool} {iter : Expr} {src : Ρ → (List V → Prop) → Prop} {Q : List V → Prop} (R : Rl C vn kd env own s₀ F₀ X σ s F) (Rm : Room r A) (h : SSrc C vn r kd rg iter src) (hw : src (cond rg (ρa σ) (ρb σ)) Q) :
    wpAny (model C.prog C.w) A (eval iter env) (fun x s₁ => wpAny (model C.prog C.w) A (pyIter x) (fun itv s₂ => ∃ F₂ h0 I fp n P St ds, itv = .ref I ∧ (∀ a o, F a o → F₂ a o) ∧ s.heap.get? I = none ∧ ItOk C h0 F₂ s₂.heap I fp n P St ds ∧
      Rl C vn kd env own s₀ F₀ (Yat X [I] s₂.heap) σ s₂ F₂ ∧ Q ds) (fun _ _ => False) s₁) (fun _ _ => False) s := by
  cases rg with
  | false =>
    refine wpAny_mono (h.e (R.ev Rm) hw) (fun x s₁ h => wpAny_mono h (fun itv s₂ h => ?_) fun _ _ e => e) fun _ _ e => e
    obtain ⟨F₂, h0, I, fp, n, P, St, ds, rfl, B, hI, io, _, hq⟩ := h
    exact ⟨F₂, h0, I, fp, n, P, St, ds, rfl, B.fx.le, hI, io, R.take B.inv B.kp B.fx (fun a ha => by rw [List.mem_singleton.mp ha]; exact ⟨hI, io.nf⟩), hq⟩
  | true =>
    obtain ⟨G, up, f, eo⟩ := R.envA
    refine wpAny_mono (h.e ⟨Rm, R.B.inv, f, eo⟩ hw) (fun x s₁ h => wpAny_mono h (fun itv s₂ h => ?_) fun _ _ e => e) fun _ _ e => e
    obtain ⟨F₂, h0, I, fp, n, P, St, ds, rfl, B, hI, io, hfp, hq⟩ := h
    have hle : ∀ a o, F a o → F₂ a o := fun a o e => B.fx.le a o (up a o e)
    have nf : ∀ o, ¬ F I o := fun o e => io.nf o (hle _ _ e)
    refine ⟨F, h0, I, fp, n, P, St, ds, rfl, fun _ _ e => e, hI, ⟨io.W, io.st, io.sz, io.lo, nf, fun b hb => .inl (List.mem_singleton.mp ((hfp rfl).1 ▸ hb)), io.len, fun i v hp => ?_, io.quiet⟩,
      R.take B.inv B.kp (Fx.refl ⟨fun a o e => B.f.at' a o (hle a o e), R.B.f.k⟩) (fun a ha => by rw [List.mem_singleton.mp ha]; exact ⟨hI, nf⟩), hq⟩
    obtain ⟨d, hd, rv⟩ := io.val i v hp
    exact ⟨d, hd, rv.of_flat ((hfp rfl).2 d (List.mem_of_getElem? hd))⟩
def x_for (xs : List Nat) (rg : Bool) (src : Ρ → (List V → Prop) → Prop) (b o : Xp) : Xp := fun σ K => src (cond rg (ρa σ) (ρb σ)) fun ds => ∃ I : Nat → St → Prop, I 0 σ ∧
  (∀ i d σ, ds[i]? = some d → I i σ → obw (bindp xs d) fun β => b (putβ σ β) (lpK (I (i + 1)) K)) ∧ ∀ σ, I ds.length σ → o σ K
theorem s_for (xs : List Nat) {rg : Bool} {src : Ρ → (List V → Prop) → Prop} {b o : Xp} {tg iter : Expr} {y z : List Stmt} {p : Pos} (hI : SSrc C vn r kd rg iter src) (hT : Tg vn kd xs tg) (hb : SL C vn r kd y b) (ho : SL C vn r kd z o) :
    SS C vn r kd (.For tg iter y z p) (x_for xs rg src b o) := .mk fun {A s F X σ K env own s₀ F₀} Rm R hw => by
  refine wpAny_For (wpAny_mono (src_loop R Rm hI hw) (fun x s₁ h => wpAny_mono h (fun itv s₂ h => ?_) fun _ _ e => e.elim) fun _ _ e => e.elim) (plx_set hI.p env)
  refine of_hid fun G hG => ?_
  obtain ⟨F₂, h0, I, fp, n, P, St, ds, rfl, le₂, hI, io, R₂, Iv, h1, h2, h3⟩ := h
  obtain ⟨vr, ad, V⟩ := R.ex
  obtain ⟨mI, _⟩ := R.fresh V hI
  refine hG ?_
  have W := io.W A Rm.handled
  obtain ⟨J, hJ⟩ : ∃ J : Nat → Shared → Prop, ∀ k s', J k s' ↔ ∃ i F' σ' hh, Rl C vn kd env own s₀ F₀ (Yat X [I] hh) σ' s' F' ∧ (∃ o, hh.get? I = some o) ∧ (∀ a o, F₂ a o → F' a o) ∧ i ≤ n ∧ k = n + 1 - i ∧ St i s'.heap ∧ Iv i σ' := ⟨_, fun _ _ => Iff.rfl⟩
  refine codeAny_forLoop_any J ?_ (n + 1) ((hJ _ _).mpr ⟨0, F₂, σ, _, R₂, let ⟨o, _, e, _⟩ := io.quiet 0 _ io.st; ⟨o, e⟩, fun _ _ e => e, Nat.zero_le _, rfl, io.st, h1⟩)
  intro k s' hall
  refine of_hid fun G hG => ?_
  obtain ⟨i, F', σ', hh, R', hhI, le', hi, rfl, hst, hIv⟩ := (hJ _ _).mp hall
  refine hG ?_
  have tick : ∀ {h' tk}, (∀ b, b ∉ [I] → ∀ o, s'.heap.get? b = some o → h'.get? b = some o) → Rl C vn kd env own s₀ F₀ (Yat X [I] h') σ' { s' with heap := h', toks := tk } F' := fun {h' tk} hk =>
    R'.tick (s' := { s' with heap := h', toks := tk }) (fun a ha => by rw [List.mem_singleton.mp ha]; exact ⟨mI.new, mI.nx, hhI⟩) (fun b o hb e => hk b hb o e) rfl rfl
  by_cases hlt : i < n
  · refine wpAny_with_toks (n := 0) (Nat.zero_le _) (wpAny_mono (W.item i _ (fun q s₁ => 0 ≤ s₁.toks → _) (fun _ _ => False) hlt hst fun v h' tk hPv hst' hk' => ?_) (fun _ _ e => e) fun _ _ e => e.elim)
    intro _
    refine of_hid fun G hG => ?_
    obtain ⟨d, hdi, rd⟩ := io.val i v hPv
    obtain ⟨oI, TI, hIo', hIc, hIq⟩ := io.quiet _ _ hst'
    have R1 := tick (tk := tk) fun b hb o e => hk' b o hb e
    obtain ⟨β, hβ, hbody⟩ := obw_inv (h2 i d σ' hdi hIv)
    refine hG ?_
    refine hT.quiet hIo' hIc hIq (R1.assign Rm.handled hT (rd.mono le') hβ fun s₂' R2 => ?_)
    refine wpAny_mono (hb.go Rm R2 hbody) (fun fl s₃ h => ?_) fun _ _ e => e.elim
    refine of_hid fun G hG => ?_
    obtain ⟨F₃, σ₃, f, R₃, le₃, okf, hq⟩ := h
    refine hG ?_
    have leA : ∀ a o, F a o → F₃ a o := fun a o e => le₃ a o (le' a o (le₂ a o e))
    have wk : Rl C vn kd env own s₀ F₀ X σ₃ s₃ F₃ := R₃.xmono fun _ _ e => .inl e
    cases fl <;> cases f <;> first | exact okf.elim | skip
    · refine ⟨n + 1 - (i + 1), by lia, (hJ _ _).mpr ⟨i + 1, F₃, σ₃, h', R₃, ⟨oI, hIo'⟩, fun a o e => le₃ a o (le' a o e), hlt, rfl, ?_, hq⟩⟩
      refine W.frame _ _ _ hst' fun b hb o e => ?_
      rcases io.fp b hb with qb | ⟨o2, q⟩
      · exact (R₃.x b o (.inr ⟨List.mem_singleton.mpr qb, e⟩)).1
      · have e1 := (R1.B.f.at' b o2 (le' b o2 q)).1
        cases e1.symm.trans e
        exact (R₃.B.f.at' b _ (le₃ b _ (le' b _ q))).1
    · exact ⟨F₃, σ₃, .next, wk, leA, trivial, hq⟩
    · exact ⟨F₃, σ₃, .ret _, wk, leA, okf, hq⟩
  · have hin : i = n := by lia
    subst hin
    refine wpAny_with_toks (n := 0) (Nat.zero_le _) (wpAny_mono (W.done _ (fun q s₁ => 0 ≤ s₁.toks → _) (fun _ _ => False) hst fun h' tk hk' => ?_) (fun _ _ e => e) fun _ _ e => e.elim)
    intro _
    have R1 : Rl C vn kd env own s₀ F₀ X σ' _ F' := (tick (tk := tk) fun b hb o e => hk' b o hb e).xmono fun _ _ e => .inl e
    exact wpAny_mono (ho.go Rm R1 (h3 σ' (io.len ▸ hIv))) (fun fl s₃ h => h.le fun a o e => le' a o (le₂ a o e)) fun _ _ e => e.elim
end

/-! # Whole functions -/
theorem bindL_not {kindOf : Str → Option NameKind} : ∀ {binds : List (Str × Value)} {m : Str → Option Value} {x : Str}, x ∉ binds.map Prod.fst → bindL kindOf binds m x = m x
  | [], _, _, _ => rfl
  | (n, v) :: r, m, x, h => by
    have h := not_or.mp fun q => h (List.mem_cons.mpr q)
    unfold bindL
    rw [bindL_not h.2]
    split
    · exact if_neg h.1
    · rfl
theorem bindC_not {kindOf : Str → Option NameKind} : ∀ {binds : List (Str × Value)} {m : Str → Option Value} {x : Str}, x ∉ binds.map Prod.fst → bindC kindOf binds m x = m x
  | [], _, _, _ => rfl
  | (n, v) :: r, m, x, h => by
    have h := not_or.mp fun q => h (List.mem_cons.mpr q)
    unfold bindC
    rw [bindC_not h.2]
    split
    · rfl
    · exact if_neg h.1
theorem bind_vr {kindOf : Str → Option NameKind} : ∀ {binds : List (Str × Value)} {m cm : Str → Option Value}, (binds.map Prod.fst).Nodup → ∀ {x : Str} {v : Value}, (x, v) ∈ binds →
    (if kindOf x = some .local then bindL kindOf binds m x else bindC kindOf binds cm x) = some v
  | (n, u) :: r, m, cm, nd, x, v, h => by
    have nd := List.nodup_cons.mp nd
    unfold bindL bindC
    rcases List.mem_cons.mp h with e | h
    · cases e
      rw [bindL_not nd.1, bindC_not nd.1]
      by_cases hk : kindOf n = some .local
      · simp [hk]
      · simp [hk]
    · exact bind_vr nd.2 h
theorem cellsFrom_mem : ∀ (names : List (Str × NameKind)) (n : Nat) (acc : List (Str × Addr)) (x : Str), ((acc.lookup x).isSome = true ∨ (x, NameKind.cell) ∈ names) → ((cellsFrom n names acc).lookup x).isSome = true
  | [], _, acc, x, h => h.elim id fun h => by cases h
  | (name, kind) :: r, n, acc, x, h => by
    unfold cellsFrom
    split
    · rename_i hk
      refine cellsFrom_mem r _ _ x ?_
      rw [List.lookup_cons]
      rcases h with h | h
      · left; split <;> first | rfl | exact h
      · rcases List.mem_cons.mp h with e | h
        · cases e; left; rw [beq_self_eq_true]; rfl
        · exact .inr h
    · rename_i hk
      refine cellsFrom_mem r _ _ x ?_
      rcases h with h | h
      · exact .inl h
      · rcases List.mem_cons.mp h with e | h
        · cases e; exact absurd rfl hk
        · exact .inr h

def ownOf (names : List (Str × NameKind)) : List Str := (names.filter fun x => x.2 == .cell).map Prod.fst
/-- the scope of a function: its names by number -/
def scopeOk (vn : Nm) (kd : Kd) (sc : Scope) : Bool := sc.kind == .function && !sc.isGenerator && !sc.isCoroutine && (sc.names.all fun x => x.2 != .cell || sc.names.lookup x.1 == some .cell) && kd.all fun p => sc.names.lookup (vn.vn p.1) == some p.2
/-- two variables have two names -/
def injOk (vn : Nm) : Kd → Bool
  | [] => true
  | p :: l => (!(p.2 == .local || p.2 == .cell) || l.all fun q => q.1 == p.1 || !(q.2 == .local || q.2 == .cell) || vn.vn p.1 != vn.vn q.1) && injOk vn l
theorem isVar_mem {kd : Kd} {n : Nat} (h : isVar kd n = true) : ∃ k, (n, k) ∈ kd ∧ (k == .local || k == .cell) = true := by
  unfold isVar at h
  cases e : kd.lookup n with
  | none => rw [e] at h; cases h
  | some k => rw [e] at h; refine ⟨k, lookup_memK e, ?_⟩; cases k <;> first | rfl | cases h
theorem injOk_out {vn : Nm} : ∀ {kd : Kd}, injOk vn kd = true → ∀ {n m : Nat} {k j : NameKind}, (n, k) ∈ kd → (m, j) ∈ kd → (k == .local || k == .cell) = true → (j == .local || j == .cell) = true → vn.vn n = vn.vn m → n = m
  | p :: l, h, n, m, k, j, hn, hm, hk, hj, e => by
    have ⟨h1, h2⟩ := and2 h
    have key : ∀ {a b : Nat} {c d : NameKind}, p = (a, c) → (b, d) ∈ l → (c == .local || c == .cell) = true → (d == .local || d == .cell) = true → vn.vn a = vn.vn b → b = a := by
      intro a b c d ep hb hc hd e
      subst ep
      rw [show (!(c == .local || c == .cell)) = false by rw [hc]; rfl, Bool.false_or] at h1
      have := List.all_eq_true.mp h1 _ hb
      rcases or2 this with q | q
      · rcases or2 q with q | q
        · exact beq_iff_eq.mp q
        · rw [hd] at q; cases q
      · exact absurd e (bne_iff_ne.mp q)
    rcases List.mem_cons.mp hn with q | hn
    · rcases List.mem_cons.mp hm with q' | hm
      · cases q.trans q'.symm; rfl
      · exact (key q.symm hm hk hj e).symm
    · rcases List.mem_cons.mp hm with q' | hm
      · exact key q'.symm hn hj hk e.symm
      · exact injOk_out h2 hn hm hk hj e
def σ0 : List Nat → List V → St
  | p :: ps, d :: ds => (p, .val d) :: σ0 ps ds
  | _, _ => []
/-- the flow of a whole body -/
def retK (Q : V → Prop) : Kt := fun f _ => match f with | .ret d => Q d | .next => Q .none | .brk => False

/-- a function object that stands -/
structure FnD (C : Cx) (a : Addr) (ps : List Str) (sc : Scope) (ss : List Stmt) : Prop where
  ex : ∃ o fd, C.K a o ∧ o.data = .func fd ∧ fd.body = .stmts ss ∧ fd.scope = sc ∧ fd.closure = [] ∧ fd.globals = mainGlobals ∧ fd.builtins = builtinsNs ∧
    (∀ vals, vals.length = ps.length → bindArgs fd ⟨vals, []⟩ = pure (ps.zip vals)) ∧ ∃ c oc vs t, fd.code = .ref c ∧ C.K c oc ∧ oc.data = .fields vs ∧ vs[1]? = some (.str fd.qualname t)

section
variable {C : Cx} {vn : Nm} {r : Nat} {kd : Kd}

theorem zipL {F : Fz} {vr : Str → Option Value} : ∀ {ps : List Nat} {args : List Value} {ds : List V}, RepL F args ds → ps.length = args.length → (∀ x v, (x, v) ∈ (ps.map vn.vn).zip args → vr x = some v) →
    ∀ n lv, (σ0 ps ds).lookup n = some lv → n ∈ ps ∧ ∃ d, lv = .val d ∧ ∃ v, vr (vn.vn n) = some v ∧ Rep F v d := by
  intro ps
  induction ps with
  | nil => intro args ds rl hl hv n lv h; cases ds <;> cases h
  | cons p ps ih =>
    intro args ds rl hl hv n lv h
    cases ds with
    | nil => cases h
    | cons d ds =>
    cases args with
    | nil => cases rl
    | cons v args =>
    cases rl with
    | cons rv rl =>
    have ih := ih rl (Nat.succ.inj hl) fun x v hm => hv x v (.tail _ hm)
    have h : List.lookup n ((p, .val d) :: σ0 ps ds) = some lv := h
    rw [List.lookup_cons] at h
    cases q : n == p with
    | true => rw [q] at h; cases h; rw [beq_iff_eq.mp q]; exact ⟨.head _, d, rfl, v, hv _ _ (.head _), rv⟩
    | false =>
      rw [q] at h
      obtain ⟨h1, h2⟩ := ih n lv h
      exact ⟨.tail _ h1, h2⟩
theorem σ0_keys : ∀ (ps : List Nat) (ds : List V), ((σ0 ps ds).map Prod.fst).Sublist ps
  | [], ds => by cases ds <;> exact List.Sublist.refl _
  | p :: ps, [] => List.nil_sublist _
  | p :: ps, d :: ds => (σ0_keys ps ds).cons_cons p
theorem σ0_val : ∀ {ps : List Nat} {ds : List V} {n : Nat} {lv : LV}, (n, lv) ∈ σ0 ps ds → ∃ d, lv = .val d
  | [], ds, _, _, h => by cases ds <;> cases h
  | _ :: _, [], _, _, h => by cases h
  | p :: ps, d :: ds, n, lv, h => by
    rcases List.mem_cons.mp h with e | h
    · cases e; exact ⟨_, rfl⟩
    · exact σ0_val h
theorem σ0_not_used {ps : List Nat} {ds : List V} {n : Nat} {b : Bool} : ¬ Used (σ0 ps ds) n b := fun ⟨_, h, u⟩ => by
  obtain ⟨d, rfl⟩ := σ0_val (mem_of_lookup h)
  exact u
theorem nodup_vn : ∀ {ps : List Nat}, ps.Nodup → (∀ p ∈ ps, ∀ q ∈ ps, vn.vn p = vn.vn q → p = q) → (ps.map vn.vn).Nodup
  | [], _, _ => List.Pairwise.nil
  | p :: ps, nd, h => by
    have nd := List.nodup_cons.mp nd
    refine List.nodup_cons.mpr ⟨fun hm => ?_, nodup_vn nd.2 fun q hq q' hq' => h q (.tail _ hq) q' (.tail _ hq')⟩
    obtain ⟨q, hq, e⟩ := List.mem_map.mp hm
    exact nd.1 (h p (.head _) q (.tail _ hq) e.symm ▸ hq)
theorem Fn.of_body {a : Addr} {ps : List Nat} {sc : Scope} {ss : List Stmt} {X : Xp} {w : List V → (V → Prop) → Prop} (D : FnD C a (ps.map vn.vn) sc ss) (hb : SL C vn r kd ss X) (hsc : scopeOk vn kd sc = true) (hinj : injOk vn kd = true) (hps : (ps.all fun p => isVar kd p) = true) (nd : ps.Nodup)
    (hec : ∀ o fd L, C.K a o → o.data = .func fd → vn.ec (callEnvC fd L a)) (hw : ∀ ds Q, w ds Q → ds.length = ps.length ∧ X (σ0 ps ds) (retK Q)) : Fn C a (r + 1) w := by
  obtain ⟨o, fd, hK, hd, hbody, hscope, hclo, hglob, hbi, hbind, c, oc, vs, t, hc, hKc, hdc, hvs⟩ := D.ex
  subst hscope
  intro A s F args ds Q R I f rl hq
  obtain ⟨hlen, hx⟩ := hw ds Q hq
  have ⟨hsc, hkd⟩ := and2 hsc
  have ⟨hsc, hcells⟩ := and2 hsc
  have ⟨hsc, hco⟩ := and2 hsc
  have ⟨hkind, hgen⟩ := and2 hsc
  have hkind := beq_iff_eq.mp hkind
  have hgen : fd.scope.isGenerator = false := by cases h : fd.scope.isGenerator <;> first | rfl | (rw [h] at hgen; cases hgen)
  have hco : fd.scope.isCoroutine = false := by cases h : fd.scope.isCoroutine <;> first | rfl | (rw [h] at hco; cases hco)
  have hps : ∀ p ∈ ps, isVar kd p = true := List.all_eq_true.mp hps
  have lk : ∀ n k, kd.lookup n = some k → fd.scope.names.lookup (vn.vn n) = some k := fun n k e => beq_iff_eq.mp (List.all_eq_true.mp hkd _ (lookup_memK e))
  have inj : ∀ n m, isVar kd n = true → isVar kd m = true → vn.vn n = vn.vn m → n = m := fun n m hn hm e =>
    let ⟨_, h1, h2⟩ := isVar_mem hn; let ⟨_, h3, h4⟩ := isVar_mem hm; injOk_out hinj h1 h3 h2 h4 e
  have hal : args.length = (ps.map vn.vn).length := by rw [List.length_map, rl.length, hlen]
  have hndn : ((ps.map vn.vn).zip args |>.map Prod.fst).Nodup := by
    rw [List.map_fst_zip (Nat.le_of_eq hal.symm)]
    exact nodup_vn nd fun p hp q hq e => inj p q (hps p hp) (hps q hq) e
  have cellLk : ∀ x ∈ ownOf fd.scope.names, fd.scope.names.lookup x = some .cell := fun x hx => by
    obtain ⟨⟨y, k⟩, hy, rfl⟩ := List.mem_map.mp hx
    obtain ⟨hy1, hy2⟩ := List.mem_filter.mp hy
    obtain rfl : k = .cell := beq_iff_eq.mp hy2
    exact beq_iff_eq.mp ((or2 (List.all_eq_true.mp hcells _ hy1)).elim (fun h => nomatch h) id)
  have lkOwn : ∀ x, fd.scope.names.lookup x = some .cell → x ∈ ownOf fd.scope.names := fun x hx => List.mem_map.mpr ⟨(x, .cell), List.mem_filter.mpr ⟨PySem.mem_of_lookup hx, rfl⟩, rfl⟩
  have varK : ∀ n, isVar kd n = true → fd.scope.names.lookup (vn.vn n) = some .local ∨ fd.scope.names.lookup (vn.vn n) = some .cell := fun n h => by
    unfold isVar at h
    cases e : kd.lookup n with
    | none => rw [e] at h; cases h
    | some k => rw [e] at h; cases k <;> first | exact .inl (lk _ _ e) | exact .inr (lk _ _ e) | cases h
  refine wpAny_call (codeAny_call_function R.lt (I.k a o hK).1 hd hco hgen hbody ⟨c, oc, vs, t, hc, (I.k c oc hKc).1, hdc, hvs⟩ ?_)
  rw [hbind args hal, hclo]
  have hkd : ∀ x ∈ (ps.map vn.vn).zip args, fd.scope.names.lookup x.1 = some .local ∨ (fd.scope.names.lookup x.1 = some .cell ∧ ((cellsFrom (s.heap.objs.size + 1) fd.scope.names []).lookup x.1).isSome = true) := fun x hx => by
    obtain ⟨p, hp, e⟩ := List.mem_map.mp (List.of_mem_zip hx).1
    exact e ▸ (varK p (hps p hp)).imp id fun h => ⟨h, cellsFrom_mem _ _ _ _ (.inr (PySem.mem_of_lookup h))⟩
  refine wpAny_pure (wpAny_mono (wpAny_toks_of (n := 0) (Nat.zero_le _) (wpAny_newFunctionEnv_cells (Q := fun env s' => env = callEnvC fd s.heap.objs.size a ∧ InCallC s env.locals (bindL env.kindOf ((ps.map vn.vn).zip args) fun _ => none) env.cells (bindC env.kindOf ((ps.map vn.vn).zip args) fun _ => none) s')
    (E := fun _ _ => False) hkind hkd fun env he s' x => ⟨he, x⟩)) (fun env s₁ h => ?_) fun _ _ h => h.2.elim)
  obtain ⟨_, he, X'⟩ := h
  subst he
  refine ⟨I.lim.keeps X'.toInCall.keep, codeAny_func ?_⟩
  generalize hEnv : callEnvC fd s.heap.objs.size a = env at X' ⊢
  have hL : env.locals = s.heap.objs.size := by rw [← hEnv]; rfl
  have hscope : env.scope = fd.scope := by rw [← hEnv]; rfl
  have hcl : env.cells = cellsFrom (s.heap.objs.size + 1) fd.scope.names [] := by rw [← hEnv]; rfl
  have hko : ∀ x, env.kindOf x = fd.scope.names.lookup x := fun x => by unfold Env.kindOf; rw [hscope]
  obtain ⟨h₁, tk, e₁⟩ := X'.toInCall.same
  subst e₁
  have hup : ∀ b o, s.heap.get? b = some o → h₁.get? b = some o := X'.toInCall.keep
  have B₁ : Bk C s F { s with heap := h₁, toks := tk } F := ⟨I, I.keep hup rfl rfl trivial, fun b o _ e => hup b o e, Fx.refl ⟨fun b o e => ⟨hup b o (f.at' b o e).1, (f.at' b o e).2⟩, f.k⟩⟩
  have hcs : ∀ x ∈ ownOf fd.scope.names, ∃ c, env.cells.lookup x = some c := fun x hx => by
    rw [hcl]; exact Option.isSome_iff_exists.mp (cellsFrom_mem fd.scope.names (s.heap.objs.size + 1) [] x (.inr (PySem.mem_of_lookup (cellLk x hx))))
  have hAp : Apart env (ownOf fd.scope.names) s.heap := by
    refine ⟨hscope ▸ hkind, hL ▸ get_size _, fun x hx => ?_, fun x hx y hy hxy e => ?_⟩
    · obtain ⟨c, hc⟩ := hcs x hx
      have hab := X'.above x c (PySem.mem_of_lookup hc)
      refine ⟨(hko x).trans (cellLk x hx), c, hc, ?_, Nat.ne_of_gt hab⟩
      cases e : s.heap.get? c with
      | none => rfl
      | some o => exact absurd (Nat.lt_trans (Heap.lt_size e) (hL ▸ hab)) (Nat.lt_irrefl _)
    · obtain ⟨c, hc⟩ := hcs x hx
      exact hxy (name_of_addr X'.apart (PySem.mem_of_lookup hc) (PySem.mem_of_lookup (e ▸ hc)))
  have hFs : Fs C vn kd env (ownOf fd.scope.names) s :=
    ⟨hAp, fun n hn => (varK n hn).imp (fun h => (hko _).trans h) (lkOwn _), by rw [← hEnv]; exact hglob, by rw [← hEnv]; exact hbi, fun n k e => .inl ((hko _).trans (lk n k e)), inj, by rw [← hEnv]; exact hec o fd _ hK hd, I⟩
  let vr : Str → Option Value := fun x => if env.kindOf x = some .local then bindL env.kindOf ((ps.map vn.vn).zip args) (fun _ => none) x else bindC env.kindOf ((ps.map vn.vn).zip args) (fun _ => none) x
  have hfr : Frm env (ownOf fd.scope.names) h₁ vr := by
    refine ⟨⟨_, X'.toInCall.ns, fun x hx => (if_pos hx).symm⟩, fun x hx => ?_⟩
    obtain ⟨hk, c, hc, _⟩ := hAp.c x hx
    refine ⟨c, hc, ?_⟩
    have : vr x = bindC env.kindOf ((ps.map vn.vn).zip args) (fun _ => none) x := if_neg (by rw [hk]; exact fun h => nomatch h)
    rw [this]; exact X'.cell x c hc
  have hRl : Rl C vn kd env (ownOf fd.scope.names) s F (fun _ _ => False) (σ0 ps ds) { s with heap := h₁, toks := tk } F := by
    refine ⟨hFs, B₁, fun b pb o e => (nomatch (hAp.none b pb).symm.trans (f.at' b o e).1), nd.sublist (σ0_keys ps ds), fun _ _ h => h.elim, vr, fun _ _ => 0, hfr, fun n lv e => ?_, fun n b u => absurd u σ0_not_used, fun n b m c u => absurd u σ0_not_used⟩
    obtain ⟨hm, d, rfl, v, e1, rv⟩ := zipL (vn := vn) rl ((List.length_map ..).symm.trans hal.symm) (fun x v hm => bind_vr hndn hm) n lv e
    exact ⟨hps n hm, v, e1, rv⟩
  refine wpAny_mono (hb.go (A := A.deeper env) (K := retK Q) (R.deeper env) hRl hx) (fun fl s' h => ?_) fun _ _ e => e.elim
  refine of_hid fun G hG => ?_
  obtain ⟨F', σ', fl', R', le, okf, hq'⟩ := h
  refine hG ?_
  cases fl <;> cases fl' <;> first | exact okf.elim | exact hq'.elim | skip
  · exact R'.B.toPst ⟨_, .none, hq'⟩
  · exact R'.B.toPst ⟨_, okf, hq'⟩
end

/-! # The program's own texts -/
def fnB (p : Program) (k : Nat) : List Stmt := match p.main.body[k]? with | some s => (match s with | .FunctionDef _ _ b .. => b | _ => []) | none => []
def fnS (p : Program) (k : Nat) : Option Stmt := p.main.body[k]?
def fnSc (p : Program) (k : Nat) : Scope := match p.main.body[k]? with | some s => (match s with | .FunctionDef _ _ _ _ _ _ sc .. => sc | _ => p.main.scope) | none => p.main.scope
def nth : List String → Nat → Str
  | [], _ => Str.ofString ""
  | s :: _, 0 => Str.ofString s
  | _ :: l, n + 1 => nth l n
abbrev Nn (l : List String) (ec : Env → Prop) : Nm := ⟨nth l, ec⟩
theorem nth_mem : ∀ {l : List String} {n : Nat}, nth l n = Str.ofString "" ∨ ∃ s ∈ l, nth l n = Str.ofString s
  | [], _ => .inl rfl
  | s :: _, 0 => .inr ⟨s, .head _, rfl⟩
  | _ :: l, n + 1 => (nth_mem (l := l) (n := n)).imp id fun ⟨s, h, e⟩ => ⟨s, .tail _ h, e⟩
theorem Ok.of {C : Cx} {l : List String} {ec : Env → Prop} (hb : ∀ x ∈ biNames, C.mg x = none) (he : ∀ scope cl L env, ec env → ec (compEnvC scope cl L env)) (hd : (l.all fun s => Str.ofString s != "__debug__") = true) : Ok C (Nn l ec) :=
  ⟨hb, he, fun n e => (nth_mem (l := l) (n := n)).elim (fun h => absurd (h.symm.trans e) (by decide +kernel)) fun ⟨s, h, e'⟩ => bne_iff_ne.mp (List.all_eq_true.mp hd s h) (e'.symm.trans e)⟩
open PySem.AutoSeq1 (wpAny_loadPart')

/-! # enumerate(a tuple) -/
theorem meets_enum_tup (l : Addr) (items : Array Value) (n : Nat) :
    Meets (Builtin.«enumerate.__new__» ⟨[.type "enumerate", .ref l], []⟩) (fun _ R s => s.heap.get? l = some { cls := .type "tuple", dict := none, data := .seq items n, slots := #[] } ∧
      R (.ok (.ret (.ref (s.heap.push { cls := .type "tuple_iterator", data := .fields #[.ref l, .int 0 0] }).objs.size)))
        { s with heap := (s.heap.push { cls := .type "tuple_iterator", data := .fields #[.ref l, .int 0 0] }).push { cls := .type "enumerate", data := .fields #[.none, .bool false, .ref s.heap.objs.size, rawInt 0, .none, .none] } }) :=
  .of_wp fun prog w A R s h => by
    obtain ⟨hp, g, d, tk, os⟩ := s; obtain ⟨hl, h⟩ := h
    have hsub := sub_enumerate
    have hL : Heap.IsTuple (Shared.heap ⟨hp, g, d, tk, os⟩) l items := ⟨_, hl, rfl, n, rfl⟩
    wp_walk using wpAny_loadPart' hl
    refine wpAny_stack_any fun st => wpAny_pure ?_
    split
    · rename_i c _ _ _ _ _
      cases (c == Value.type "enumerate")
      · wp_walk using wpAny_loadPart' hl, wpAny_pyIter_tuple hL
        exact ⟨_, rfl, h⟩
      · wp_walk using wpAny_loadPart' hl, wpAny_pyIter_tuple hL
        exact ⟨_, rfl, h⟩
    · wp_walk using wpAny_loadPart' hl, wpAny_pyIter_tuple hL
      exact ⟨_, rfl, h⟩

section
variable {prog : Program} {w : World} {A : Around} {E : Value → Shared → Prop} {s : Shared}
theorem call_enum_tup {l : Addr} {items : Array Value} {n : Nat} {Q : Value → Shared → Prop} (hl : s.heap.get? l = some { cls := .type "tuple", dict := none, data := .seq items n, slots := #[] })
    (h : ∀ h', IsEnum h' (s.heap.objs.size + 1) s.heap.objs.size 0 .none → h'.IsTupleIter s.heap.objs.size l 0 → (∀ b o, s.heap.get? b = some o → h'.get? b = some o) → Q (.ref (s.heap.objs.size + 1)) { s with heap := h' }) :
    wpAny (model prog w) A (call (.type "enumerate") [.ref l]) Q E s := by
  refine callType_new PySem.F.called_enumerate (by decide) (PySem.F.typeCall_enumerate_1 _) (PySem.F.newCall_enumerate_1 _) (fun obj => PySem.F.args_object_init_2 obj _) PySem.F.entry_enumerate_new
    (meets_enum_tup l items n) ⟨hl, ?_⟩
  have hz : (s.heap.push { cls := .type "tuple_iterator", data := .fields #[.ref l, .int 0 0] }).objs.size = s.heap.objs.size + 1 := Heap.size_push ..
  show _ ∧ _
  rw [hz]
  have he : IsEnum ((s.heap.push { cls := .type "tuple_iterator", data := .fields #[.ref l, .int 0 0] }).push
      { cls := .type "enumerate", data := .fields #[.none, .bool false, .ref s.heap.objs.size, rawInt 0, .none, .none] }) (s.heap.objs.size + 1) s.heap.objs.size 0 .none := by
    have := Heap.get?_push_size (s.heap.push { cls := .type "tuple_iterator", data := .fields #[.ref l, .int 0 0] })
      (o := { cls := .type "enumerate", data := .fields #[.none, .bool false, .ref s.heap.objs.size, rawInt 0, .none, .none] }) rfl
    rw [hz] at this; exact this
  exact ⟨⟨_, he, rfl⟩, h _ he ⟨_, Heap.get?_push_of_some _ (Heap.get?_push_size _ rfl), rfl, rfl⟩ fun b o x => Heap.get?_push_of_some _ (Heap.get?_push_of_some _ x)⟩

theorem nextOf_tup_item {it t : Addr} {i : Nat} {items : Array Value} {x : Value} {Q : Value → Shared → Prop} (hit : s.heap.IsTupleIter it t i) (ht : s.heap.IsTuple t items) (hx : items[i]? = some x)
    (hQ : ∀ h', h'.IsTupleIter it t (i + 1) → Heap.SameBut it s.heap h' → Q x { s with heap := h' }) : wpAny (model prog w) A (Builtin.SmallTypes.nextOf (.ref it)) Q E s := by
  obtain ⟨o, ho, hc, hd⟩ := id hit
  obtain ⟨ol, hol, _, nl, hdl⟩ := ht
  unfold Builtin.SmallTypes.nextOf
  refine wpAny_bind (wpAny_callSpecial?_slot (name := Str.ofString "__next__") hit.typeIs PySem.F.slot_tuple_iterator_next
    (wpAny_call_entry PySem.F.slot_tuple_iterator_next hit.typeIs PySem.F.entry_tuple_iterator_next ?_ (PySem.F.args_tuple_iterator_next_1 _)))
  show wpAny _ _ (field (.ref it) 0 >>= _) _ _ s
  refine wpAny_bind (wpAny_field ho hd (x := .ref t) rfl ?_)
  show wpAny _ _ (if (Value.ref t == Value.none) = true then _ else _) _ _ s
  rw [if_neg (show ¬ ((Value.ref t == Value.none) = true) from Bool.false_ne_true)]
  show wpAny _ _ (field (.ref it) 1 >>= _) _ _ s
  refine wpAny_bind (wpAny_field ho hd (x := .int i 0) rfl ?_)
  show wpAny _ _ (seqItems? (.ref t) >>= _) _ _ s
  refine wpAny_bind (wpAny_seqItems hol hdl ?_)
  simp only [Int.toNat_natCast, hx]
  refine wpAny_bind (wpAny_setField ho hd (by simp) (wpAny_pure ⟨x, rfl, wpAny_pure (hQ _ ?_ (Heap.SameBut.update ..))⟩))
  exact ⟨_, Heap.get?_update_self _ ho (Obj.isFreed_of_fields (Obj.data_mapFields hd _)), (Obj.cls_mapFields ..).trans hc, by
    rw [Obj.data_mapFields hd]; simp [rawInt]⟩
theorem nextOf_tup_end {it t : Addr} {i : Nat} {items : Array Value} {Q : Value → Shared → Prop} (hh : A.handled = none) (hit : s.heap.IsTupleIter it t i) (ht : s.heap.IsTuple t items) (hx : items[i]? = none)
    (hE : ∀ h' e, Heap.ExtBut it s.heap h' → (∃ o, h'.get? e = some o ∧ o.cls = .type "StopIteration") → E (.ref e) { s with heap := h' }) : wpAny (model prog w) A (Builtin.SmallTypes.nextOf (.ref it)) Q E s := by
  obtain ⟨o, ho, hc, hd⟩ := id hit
  obtain ⟨ol, hol, _, nl, hdl⟩ := ht
  unfold Builtin.SmallTypes.nextOf
  refine wpAny_bind (wpAny_callSpecial?_slot (name := Str.ofString "__next__") hit.typeIs PySem.F.slot_tuple_iterator_next
    (wpAny_call_entry PySem.F.slot_tuple_iterator_next hit.typeIs PySem.F.entry_tuple_iterator_next ?_ (PySem.F.args_tuple_iterator_next_1 _)))
  show wpAny _ _ (field (.ref it) 0 >>= _) _ _ s
  refine wpAny_bind (wpAny_field ho hd (x := .ref t) rfl ?_)
  show wpAny _ _ (if (Value.ref t == Value.none) = true then _ else _) _ _ s
  rw [if_neg (show ¬ ((Value.ref t == Value.none) = true) from Bool.false_ne_true)]
  show wpAny _ _ (field (.ref it) 1 >>= _) _ _ s
  refine wpAny_bind (wpAny_field ho hd (x := .int i 0) rfl ?_)
  show wpAny _ _ (seqItems? (.ref t) >>= _) _ _ s
  refine wpAny_bind (wpAny_seqItems hol hdl ?_)
  simp only [Int.toNat_natCast, hx]
  refine wpAny_bind (wpAny_rule (wpAny_bind (wpAny_setField ho hd (by simp) ?_)))
  show wpAny _ _ (newExc (.type "StopIteration") [] >>= _) _ _ _
  refine wpAny_bind ?_
  simp only [newExc, newTuple]
  refine wpAny_bind (wpAny_newObj_type ?_ (by size_fits))
  refine wpAny_bind (m := firstArgMember _ _) (wpAny_of_eq (a := Value.none) (by first | rfl | (simp only [firstArgMember]; rfl)) ?_)
  refine wpAny_newObj_type ?_ (by size_fits)
  simp only [raiseNew]
  refine wpAny_bind (wpAny_handled ?_)
  first | rw [show A.in1.handled = none from hh] | rw [hh]
  refine wpAny_bind (wpAny_pure (wpAny_throw ?_))
  exact hE _ _ (((Heap.SameBut.update ..).extBut.push _).push _) ⟨_, Heap.get?_push_size _ rfl, rfl⟩
end
theorem drawsTup {prog : Program} {w : World} {A : Around} (hh : A.handled = none) (it l : Addr) (hne : l ≠ it) (items : Array Value) :
    Draws prog w A it [it, l] items.size (fun i v => items[i]? = some v) (fun i h => h.IsTupleIter it l i ∧ h.IsTuple l items) where
  live := fun _ _ st => let ⟨o, ho, _⟩ := st.1; ⟨o, ho⟩
  frame := fun _ _ _ st hk => ⟨st.1.at fun o e => hk it (by simp) o e, st.2.at fun o e => hk l (by simp) o e⟩
  item := fun i s Q E hi st hQ => by
    refine nextOf_tup_item st.1 st.2 (x := items[i]) (by simp [hi]) fun h' hit' hs' => ?_
    exact hQ _ h' s.toks (by simp [hi]) ⟨hit', st.2.extBut hs'.extBut hne⟩ hs'
  done := fun s Q E st hE => nextOf_tup_end hh st.1 st.2 (by simp) hE


section
variable {C : Cx} {A : Around} {s s₀ s₁ s₂ s' : Shared} {F F₀ F₁ F' X : Fz} {r : Nat} {env : Env} {own : List Str} {vn : Nm} {kd kd' : Kd} {σ : St} {K : Kt}
theorem boot_enumerate : bootBuiltins "enumerate" = some (.type "enumerate") := by decide +kernel
def tupw (d : V) (P : List V → Prop) : Prop := match d with | .tuple l => P l | _ => False
theorem tupw_inv {d : V} {P : List V → Prop} (h : tupw d P) : ∃ l, d = .tuple l ∧ P l := by cases d <;> first | exact ⟨_, rfl, h⟩ | exact h.elim
def x_forE (x y : Nat) (a : Wp) (b : Xp) : Xp := fun σ K => a false (ρb σ) fun d => tupw d fun ds => ∃ I : Nat → St → Prop, I 0 σ ∧
  (∀ (i : Nat) d σ, ds[i]? = some d → I i σ → b (put (put σ x (.val (.int i))) y (.val d)) (lpK (I (i + 1)) K)) ∧ ∀ σ, I ds.length σ → K .next σ
theorem s_forE (O : Ok C vn) (x y : Nat) {e : Nat} {p q p1 p2 p4 p5 : Pos} {k : Nat} {g : Expr} {ss : List Stmt} {a : Wp} {b : Xp} (hn : vn.vn e = "enumerate") (hx : kd.lookup e = some .globalImplicit) (hT : Tg vn kd [x, y] (.Tuple [.Name (vn.vn x) p, .Name (vn.vn y) q] k p1)) (hg : SX C vn r kd g a) (hb : SL C vn r kd ss b) :
    SS C vn r kd (.For (.Tuple [.Name (vn.vn x) p, .Name (vn.vn y) q] k p1) (.Call (.Name (vn.vn e) p2) [g] [] p4) ss [] p5) (x_forE x y a b) := .mk fun {A s F X σ K env own s₀ F₀} Rm R hw => by
  have ev := R.ev Rm
  generalize hZ : XPost C vn kd env own s₀ F₀ X F K = Z
  have z : ∀ {fl s}, XPost C vn kd env own s₀ F₀ X F K fl s → Z fl s := fun h => hZ ▸ h
  clear hZ
  refine wpAny_For (wpAny_Call_NameR (nameB O ev.I ev.eo hx hn (by decide +kernel) boot_enumerate (by decide +kernel) ?_)) (fun v => rfl)
  show wpAny _ A (callWith p4 (.type "enumerate") [] (backTo p4 (starEach [g] env)) []) _ _ s
  rw [(SA.one hg).args]
  refine PySem.callWith_type rfl (Calls.evalArgs_plain (Calls.spliced_cons ((hg.e ev hw).after fun v s₁ F₁ I₁ k₁ fx₁ ⟨d, rv, hd⟩ => Calls.spliced_nil ?_)))
  refine of_hid fun G hG => ?_
  obtain ⟨ds, rfl, Iv, h1, h2, h3⟩ := tupw_inv hd
  obtain ⟨l, vs', m, rfl, ha, la⟩ := rv.tuple_inv
  refine hG ?_
  have hl := (fx₁.ok.at' _ _ ha).1
  refine call_enum_tup hl fun h' hE hI hk => ?_
  have fresh : ∀ a, s₁.heap.objs.size ≤ a → s₁.heap.get? a = none := fun a ha => by
    cases q : s₁.heap.get? a with
    | none => rfl
    | some o => exact absurd (Heap.lt_size q) (Nat.not_lt.mpr ha)
  generalize hen : s₁.heap.objs.size + 1 = en at hE ⊢
  generalize hit : s₁.heap.objs.size = it at hE hI
  have fen : s₁.heap.get? en = none := fresh _ (hen ▸ Nat.le_succ _)
  have fit : s₁.heap.get? it = none := fresh _ (Nat.le_of_eq hit)
  have hne : en ≠ it := by rw [← hen, ← hit]; exact Nat.ne_of_gt (Nat.lt_succ_self _)
  have hlen : l ≠ en := by rintro rfl; cases fen.symm.trans hl
  have hlit : l ≠ it := by rintro rfl; cases fit.symm.trans hl
  have R₁ := R.kp I₁ k₁ fx₁
  refine of_hid fun G hG => ?_
  obtain ⟨vr, ad, V⟩ := R₁.ex
  obtain ⟨oi, hoi, _⟩ := id hI
  refine hG ?_
  have mas : ∀ {P : Addr → Prop}, P en → P it → ∀ a ∈ [en, it], P a := fun h1 h2 a ha => (List.mem_cons.mp ha).elim (fun e => e ▸ h1) fun h => List.mem_singleton.mp h ▸ h2
  have hfr := mas (P := fun a => Mut env own s₀.heap F₁ X a) (R₁.fresh V fen).1 (R₁.fresh V fit).1
  have R₂ : Rl C vn kd env own s₀ F₀ (Yat X [en, it] h') σ { s₁ with heap := h' } F₁ := R₁.take (s := { s₁ with heap := h' }) (I₁.keep hk rfl rfl trivial) (fun b o _ e => hk b o e)
    (Fx.refl ⟨fun b o e => ⟨hk b o (fx₁.ok.at' b o e).1, (fx₁.ok.at' b o e).2⟩, fx₁.ok.k⟩) fun a ha => ⟨mas (P := fun a => s₁.heap.get? a = none) fen fit a ha, (hfr a ha).nf⟩
  have W : WalksT C.prog C.w A en (en :: [it, l]) [en, it] vs'.toArray.size _ _ _ := WalksT.enumerateD (drawsTup (A := A.in1) Rm.handled it l hlit vs'.toArray) en hne (by simp [hne, Ne.symm hlen]) (by simp)
  refine wpAny_pyIter_enum hE ?_
  have hsz : vs'.toArray.size = ds.length := by rw [List.size_toArray, la.length]
  obtain ⟨J, hJ⟩ : ∃ J : Nat → Shared → Prop, ∀ k s', J k s' ↔ ∃ i F' σ' hh, Rl C vn kd env own s₀ F₀ (Yat X [en, it] hh) σ' s' F' ∧ ((∃ o, hh.get? en = some o) ∧ ∃ o, hh.get? it = some o) ∧ (∀ a o, F₁ a o → F' a o) ∧ i ≤ ds.length ∧ k = ds.length + 1 - i ∧ ((∃ old, IsEnum s'.heap en it i old) ∧ s'.heap.IsTupleIter it l i ∧ s'.heap.IsTuple l vs'.toArray) ∧ Iv i σ' := ⟨_, fun _ _ => Iff.rfl⟩
  refine codeAny_forLoop_any J ?_ (ds.length + 1) ((hJ _ _).mpr ⟨0, F₁, σ, h', R₂, ⟨⟨_, hE⟩, ⟨oi, hoi⟩⟩, fun _ _ e => e, Nat.zero_le _, rfl, ⟨⟨_, hE⟩, hI, ⟨_, hk _ _ hl, rfl, _, rfl⟩⟩, h1⟩)
  intro kk s' hall
  refine of_hid fun G hG => ?_
  obtain ⟨i', F', σ', hh, R', hhI, le', hi, rfl, hst, hIv⟩ := (hJ _ _).mp hall
  refine hG ?_
  have tick : ∀ {hh : Heap} {s1 s2 : Shared}, Rl C vn kd env own s₀ F₀ (Yat X [en, it] hh) σ' s1 F' → ((∃ o, hh.get? en = some o) ∧ ∃ o, hh.get? it = some o) → (∀ b o, b ∉ [en, it] → s1.heap.get? b = some o → s2.heap.get? b = some o) →
      s2.gens = s1.gens → s2.os = s1.os → Rl C vn kd env own s₀ F₀ (Yat X [en, it] s2.heap) σ' s2 F' := fun {hh s1 s2} R1 hx hk hgn ho =>
    R1.tick (fun a ha => ⟨(hfr a ha).new, (hfr a ha).nx, mas (P := fun a => ∃ o, hh.get? a = some o) hx.1 hx.2 a ha⟩) hk hgn ho
  by_cases hlt : i' < ds.length
  · refine wpAny_with_toks (n := 0) (Nat.zero_le _) (wpAny_mono (W.item i' _ (fun q s₁ => 0 ≤ s₁.toks → _) (fun _ _ => False) (by rw [hsz]; exact hlt) hst fun Tt vals h2' tk hPt hTs hTt hMid hk2 => ?_) (fun _ _ e => e) fun _ _ e => e.elim)
    intro _
    refine of_hid fun G hG => ?_
    obtain ⟨t0, xv, hxv, rfl⟩ := hPt
    obtain ⟨d, hd, rd⟩ := la.getV i' xv (by simpa using hxv)
    obtain ⟨⟨xo, hEo⟩, ⟨hI2, hTup2⟩, hTe, hTi⟩ := id hMid
    obtain ⟨oi2, hoi2, _⟩ := id hI2
    refine hG ?_
    have R3 := tick (s2 := { s' with heap := h2', toks := tk }) R' hhI (fun b o hb e => hk2 b o hb e) rfl rfl
    refine W.go _ _ _ i' Tt _ _ _ hMid fun h3' hst3 hk3 => ?_
    refine of_hid fun G hG => ?_
    obtain ⟨⟨old3, hE3⟩, hI3, hTup3⟩ := id hst3
    obtain ⟨oi3, hoi3, _⟩ := id hI3
    refine hG ?_
    have R4 := tick (s2 := { s' with heap := h3', toks := tk }) R3 ⟨⟨_, hEo⟩, _, hoi2⟩ (fun b o hb e => hk3 b o hb e) rfl rfl
    have hT3 : h3'.IsTuple Tt #[.int i' t0, xv] := by
      obtain ⟨o, ho, r⟩ := hTt
      exact ⟨o, hk3 Tt o (by simp [hTe, hTi]) ho, r⟩
    cases hT with
    | two hx hy hne' =>
    refine wpAny_assign_Tuple Rm.handled hT3 rfl rfl fun h4 hx4 => ?_
    have R5 := R4.ext (k := tk) (h' := h4) fun b o e => hx4 b o (by rintro rfl; rw [get_size] at e; cases e) e
    show wpAny _ A (do holding _ (PySem.assign (.Name (vn.vn x) p) env _); assignInOrder [fun v => PySem.assign (.Name (vn.vn y) q) env v] _) _ _ _
    refine wpAny_bind (wpAny_holding (wpAny_assign_Name (R5.store hx (.int i' t0) fun s5 R5 => ?_)))
    show wpAny _ A (do holding _ (PySem.assign (.Name (vn.vn y) q) env _); assignInOrder [] _) _ _ _
    refine wpAny_bind (wpAny_holding (wpAny_assign_Name (R5.store hy (rd.mono le') fun s6 R6 => wpAny_pure ?_)))
    refine wpAny_mono (hb.go Rm R6 (h2 i' d σ' hd hIv)) (fun fl s₃ h => ?_) fun _ _ e => e.elim
    refine of_hid fun G hG => ?_
    obtain ⟨F₃, σ₃, f, R₃, le₃, okf, hq⟩ := h
    refine hG ?_
    have leA : ∀ a o, F a o → F₃ a o := fun a o e => le₃ a o (le' a o (fx₁.le a o e))
    have wk : Rl C vn kd env own s₀ F₀ X σ₃ s₃ F₃ := R₃.xmono fun _ _ e => .inl e
    cases fl <;> cases f <;> first | exact okf.elim | skip
    · refine ⟨ds.length + 1 - (i' + 1), by lia, (hJ _ _).mpr ⟨i' + 1, F₃, σ₃, h3', R₃, ⟨⟨_, hE3⟩, _, hoi3⟩, fun a o e => le₃ a o (le' a o e), hlt, rfl, ?_, hq⟩⟩
      refine W.frame _ _ _ hst3 fun b hb o e => ?_
      rcases List.mem_cons.mp hb with hb | hb
      · exact (R₃.x _ _ (.inr ⟨hb ▸ .head _, e⟩)).1
      · rcases List.mem_cons.mp hb with hb | hb
        · exact (R₃.x _ _ (.inr ⟨hb ▸ .tail _ (.head _), e⟩)).1
        · obtain rfl := List.mem_singleton.mp hb
          have e1 := (R4.B.f.at' _ _ (le' _ _ ha)).1
          cases e1.symm.trans e
          exact (R₃.B.f.at' _ _ (le₃ _ _ (le' _ _ ha))).1
    · exact z ⟨F₃, σ₃, .next, wk, leA, trivial, hq⟩
    · exact z ⟨F₃, σ₃, .ret _, wk, leA, okf, hq⟩
  · have hin : i' = ds.length := by lia
    subst hin
    refine wpAny_with_toks (n := 0) (Nat.zero_le _) (wpAny_mono (W.done _ (fun q s₁ => 0 ≤ s₁.toks → _) (fun _ _ => False) (by rw [hsz]; exact hst) fun h' tk hk' => ?_) (fun _ _ e => e) fun _ _ e => e.elim)
    intro _
    have R5 : Rl C vn kd env own s₀ F₀ X σ' { s' with heap := h', toks := tk } F' := (tick (s2 := { s' with heap := h', toks := tk }) R' hhI (fun b o hb e => hk' b o hb e) rfl rfl).xmono fun _ _ e => .inl e
    exact wpAny_execs_nil (z ((R5.next (h3 σ' hIv)).le fun a o e => le' a o (fx₁.le a o e)))
end
/-! # A list of lists of one's own: only the last is still being built -/
section
variable {C : Cx} {A : Around} {s s₀ s₁ s₂ s' : Shared} {F F₀ F₁ F' X : Fz} {r : Nat} {env : Env} {own : List Str} {vn : Nm} {kd kd' : Kd} {σ : St} {K : Kt}
def own2w (σ : St) (n : Nat) (K : List V → List V → Prop) : Prop := match σ.lookup n with | some lv => (match lv with | .own2 fs ls => K fs ls | _ => False) | none => False
theorem own2w_inv {σ : St} {n : Nat} {K : List V → List V → Prop} (h : own2w σ n K) : ∃ fs ls, σ.lookup n = some (.own2 fs ls) ∧ K fs ls := by
  unfold own2w at h
  cases e : σ.lookup n with
  | none => rw [e] at h; exact h.elim
  | some lv => rw [e] at h; cases lv <;> first | exact ⟨_, _, rfl, h⟩ | exact h.elim
/-- the inner list changes -/
theorem Rl.mutate2 (R₀ : Rl C vn kd env own s₀ F₀ X σ s₁ F₁) {n : Nat} {fs ls : List V} (hl : σ.lookup n = some (.own2 fs ls)) :
    ∃ a b, RdAt env s₁.heap (vn.vn n) (.ref a) ∧ (∃ vs k, s₁.heap.get? a = some (lstObj (vs ++ [.ref b]) k) ∧ RepL F₁ vs fs) ∧ (∃ us j, s₁.heap.get? b = some (lstObj us j)) ∧
      (∀ s F, Inv C s → Kp C s₁ s → Fx C F₁ F s₁ s → ∃ us j, s.heap.get? b = some (lstObj us j) ∧ RepL F us ls ∧
      ∀ s' us' j' ls', s'.heap.get? b = some (lstObj us' j') → RepL F us' ls' → (∀ c o, c ≠ b → s.heap.get? c = some o → s'.heap.get? c = some o) → s'.gens = s.gens → s'.os = s.os → Rl C vn kd env own s₀ F₀ X (Mine.put σ n (.own2 fs ls')) s' F) := by
  obtain ⟨vr, ad, h⟩ := R₀.ex
  obtain ⟨_, vs, k, us, j, e1, e2, e3, r1, r2⟩ := h.ok n _ hl
  refine ⟨ad n false, ad n true, R₀.rd h hl e1, ⟨vs, k, e2, r1⟩, ⟨us, j, e3⟩, fun s F I1 k1 x1 => ?_⟩
  have h' := R₀.kpX k1 x1 h
  obtain ⟨_, vs, k, us, j, e1, e2, e3, r1, r2⟩ := h'.ok n _ hl
  have hne : ad n false ≠ ad n true := fun e => nomatch (h.dj n false n true ⟨_, hl, trivial⟩ ⟨_, hl, trivial⟩ e).2
  exact ⟨us, j, e3, r2, fun s' us' j' ls' hg rl' hk h1 h2 => (R₀.kp I1 k1 x1).muts (lv := .own2 fs ls') h' hl (c := true) trivial (fun _ _ => trivial) hk h1 h2 ⟨vs, k, us', j', e1, hk _ _ hne e2, hg, r1, rl'⟩⟩
theorem last_ev (O : Ok C vn) (R : Rl C vn kd env own s₀ F₀ X σ s F) (Rm : Room r A) {n : Nat} {fs : List V} {vs : List Value} {k : Nat} {a b : Addr} {ix : Expr} {p q : Pos} (rd : RdAt env s.heap (vn.vn n) (.ref a)) (hg : s.heap.get? a = some (lstObj (vs ++ [.ref b]) k)) (rl : RepL F vs fs)
    (hi : SX C vn r kd ix (pw (w_un .USub (pw (w_c (.int 1)))))) (hz : fs.length < 1000000) {P : Value → Shared → Prop}
    (kk : ∀ s', Inv C s' → Kp C s s' → Rl C vn kd env own s₀ F₀ X σ s' F → P (.ref b) s') : wpAny (model C.prog C.w) A (eval (.Subscript (.Name (vn.vn n) p) ix q) env) P (fun _ _ => False) s := by
  have up : ∀ c o, F c o → (F.add a (lstObj (vs ++ [.ref b]) k)) c o := fun _ _ e => .inl e
  have hP : a ≠ C.P := fun e => by
    obtain ⟨_, _, g, _⟩ := R.B.inv.tab
    rw [← e, hg] at g; cases g
  have f : FzOk C (F.add a (lstObj (vs ++ [.ref b]) k)) s.heap := ⟨fun c o e => e.elim (R.B.f.at' c o) fun ⟨e1, e2⟩ => by subst e1 e2; exact ⟨hg, hP⟩, fun c o e => .inl (R.B.f.k c o e)⟩
  have eo : EnvOk C vn kd env s.heap (F.add a (lstObj (vs ++ [.ref b]) k)) [(n, .list (fs ++ [.raw (.ref b)]))] := ⟨R.fs.ap.kind, R.fs.glob, R.fs.bi, R.fs.kk, R.fs.ec, fun m d e => by
    rw [List.lookup_cons] at e
    cases q : m == n with
    | false => rw [q] at e; cases e
    | true =>
      rw [q] at e; cases e
      rw [beq_iff_eq.mp q]
      exact ⟨_, rd, .list (.inr ⟨rfl, rfl⟩) ((rl.mono up).append (.cons (.raw _) .nil))⟩⟩
  have hl : (fs ++ [V.raw (.ref b)]).length = fs.length + 1 := List.length_append ..
  have hw : pw (w_item (pw (w_x n)) (pw (w_un .USub (pw (w_c (.int 1)))))) false [(n, .list (fs ++ [.raw (.ref b)]))] fun d => d = .raw (.ref b) := by
    show w_x n [(n, .list (fs ++ [.raw (.ref b)]))] _
    unfold w_x
    rw [List.lookup_cons_self]
    refine ⟨by rw [hl]; omega, fs.length, .raw (.ref b), ?_, ?_, rfl⟩
    · rw [hl]; unfold ixOf; rw [if_neg (by decide), if_pos (by omega)]; exact congrArg some (by omega)
    · rw [List.getElem?_append_right (Nat.le_refl _), Nat.sub_self]; rfl
  refine ((s_item (s_x O n) hi).e ⟨Rm, R.B.inv, f, eo⟩ hw).after fun v s' F' I' k' fx ⟨d, rv, hq⟩ => ?_
  subst hq
  cases rv
  exact kk s' I' k' (R.back up I' k' fx)
/-- xs[-1].append(e) -/
def x_app2 (n : Nat) (a : Wp) : Xp := fun σ K => own2w σ n fun fs ls => fs.length < 1000000 ∧ ls.length ≤ 1000000 ∧ a false (ρb σ) fun d => K .next (put σ n (.own2 fs (ls ++ [d])))
theorem s_app2 (O : Ok C vn) (n : Nat) {ix y : Expr} {p p1 q p3 p4 : Pos} {a : Wp} (hi : SX C vn r kd ix (pw (w_un .USub (pw (w_c (.int 1)))))) (h : SX C vn r kd y a) (hline : (q.endLine == p3.line) = true) :
    SS C vn r kd (.Expr (.Call (.Attribute (.Subscript (.Name (vn.vn n) p) ix p1) "append" q) [y] [] p3) p4) (x_app2 n a) := .mk fun {A s F X σ K env own s₀ F₀} Rm R hw => by
  obtain ⟨fs, ls, hl, hz, hz2, hw⟩ := own2w_inv hw
  obtain ⟨a, b, rd, ⟨vs, k, hg, rl⟩, _, mu⟩ := R.mutate2 hl
  have hs : backTo p3 (starEach [y] env) = [(false, eval y env)] := (SA.one h).args
  refine wpAny_Expr_any (wpAny_Call_method (T := "list") (id := "list.append") rfl (by rw [hs]; rfl) hline PySem.F.plainAttrs_list PySem.F.slot_list_append PySem.F.type_list_append (last_ev O R Rm rd hg rl hi hz fun s1 I1 k1 R1 => ?_)) (by unfold interactive; rw [R.fs.ap.kind]; rfl) (by rfl)
  obtain ⟨a', b', _, _, ⟨us, j, hb⟩, _⟩ := R1.mutate2 hl
  obtain ⟨us1, j1, hg1, _, _⟩ := mu s1 F I1 k1 (Fx.refl R1.B.f)
  refine ⟨⟨_, hg1, rfl⟩, fun c e => by cases e; exact ⟨_, hg1, rfl⟩, ?_⟩
  rw [hs]
  refine PySem.P.append_list ((h.e (R1.ev Rm) hw).after fun v s' F' I' k' fx ⟨d, rv, hq⟩ => ?_)
  obtain ⟨vs', k2, hg', rl', up⟩ := mu s' F' I' (k1.trans k') ((Fx.refl R1.B.f).trans fx k1)
  refine ⟨vs'.toArray, k2, by rw [List.size_toArray, rl'.length]; exact sizeLine_big hz2, hg', ?_⟩
  obtain ⟨k3, u1, u2⟩ := updSeq (f := fun xs => xs.push v) hg'
  exact ((up { s' with heap := s'.heap.update b (Obj.mapSeq fun xs => xs.push v) } (vs' ++ [v]) k3 (ls ++ [d]) (by rw [u1]; simp) (rl'.append (.cons rv .nil)) u2 rfl rfl).next hq).le fx.le
/-- the inner list is finished, a new one begins -/
theorem Rl.grow2 (R : Rl C vn kd env own s₀ F₀ X σ s F) {n : Nat} {fs ls : List V} (hl : σ.lookup n = some (.own2 fs ls)) : ∃ a b, RdAt env s.heap (vn.vn n) (.ref a) ∧ (∃ vs k, s.heap.get? a = some (lstObj (vs ++ [.ref b]) k) ∧ vs.length = fs.length) ∧
    ∀ s1 c, Rl C vn kd env own s₀ F₀ X σ s1 F → Kp C s s1 → s.heap.get? c = none → s1.heap.get? c = some (lstObj [] 0) → ∃ vs k, s1.heap.get? a = some (lstObj (vs ++ [.ref b]) k) ∧ vs.length = fs.length ∧
      ∀ s2 k', s2.heap.get? a = some (lstObj ((vs ++ [.ref b]) ++ [.ref c]) k') → (∀ x o, x ≠ a → s1.heap.get? x = some o → s2.heap.get? x = some o) → s2.gens = s1.gens → s2.os = s1.os →
        ∃ F', (∀ a o, F a o → F' a o) ∧ Rl C vn kd env own s₀ F₀ X (Mine.put σ n (.own2 (fs ++ [.list ls]) [])) s2 F' := by
  obtain ⟨vr, ad, h⟩ := R.ex
  obtain ⟨hv, vs, k, us, j, e1, e2, e3, r1, r2⟩ := h.ok n _ hl
  refine ⟨ad n false, ad n true, R.rd h hl e1, ⟨vs, k, e2, r1.length⟩, fun s1 c R1 kp hc hc1 => ?_⟩
  have x1 : Fx C F F s s1 := Fx.refl R1.B.f
  have h' := R.kpX kp x1 h
  have hu : ∀ b, Used σ n b := fun b => ⟨_, hl, trivial⟩
  have m1 := h'.mu n false (hu _)
  have m2 := h'.mu n true (hu _)
  have hne : ad n false ≠ ad n true := fun e => nomatch (h'.dj n false n true (hu _) (hu _) e).2
  have ca : ∀ m b, Used σ m b → ad m b ≠ c := (R.fresh h hc).2
  obtain ⟨_, vs, k, us, j, e1, e2, e3, r1, r2⟩ := h'.ok n _ hl
  refine ⟨vs, k, e2, r1.length, fun s2 k' hg hk hgn ho => ⟨F.add (ad n true) (lstObj us j), fun _ _ e => .inl e, ?_⟩⟩
  have mc : Mut env own s₀.heap F X c := (R.fresh h hc).1
  have nfa : ∀ o, ¬ (F.add (ad n true) (lstObj us j)) (ad n false) o := fun o e => e.elim (m1.nf o) fun ⟨q, _⟩ => hne q
  have nfc : ∀ o, ¬ (F.add (ad n true) (lstObj us j)) c o := fun o e => e.elim (mc.nf o) fun ⟨q, _⟩ => ca n true (hu _) q.symm
  have B1 := R1.B.freeze m2.new e3
  have B2 : Bk C s₀ F₀ s2 (F.add (ad n true) (lstObj us j)) := B1.upd (S := fun x => x = ad n false) (by rintro a rfl; exact m1.new) (by rintro a o rfl; exact nfa o) hk hgn ho trivial
  have up : ∀ x o, F x o → (F.add (ad n true) (lstObj us j)) x o := fun _ _ e => .inl e
  refine R1.set (vr' := vr) (ad' := adAt ad n (ad n false) c) h' B2 up (fun x o e => e.imp id fun ⟨q, _⟩ => by subst q; exact ⟨m2.np, m2.nx, fun m b u q e => q (h'.dj m b n true u (hu _) e).1⟩) (fun x o g hb => hk x o ?_ g) (h'.fr.at fun b o hb g => hk b o (fun q => m1.np (q ▸ hb)) g)
    (fun _ _ => rfl) (fun m b q => adAt_ne q) (.inl adAt_f) hv ⟨vs ++ [.ref (ad n true)], k', [], 0, by rw [adAt_f]; exact e1, by rw [adAt_f, adAt_t]; exact hg, by rw [adAt_t]; exact hk c _ (fun q => ca n false (hu _) q.symm) hc1, (r1.mono up).append (.cons (.list (.inr ⟨rfl, rfl⟩) (r2.mono up)) .nil), .nil⟩
    (fun b _ => ?_) fun _ _ => by rw [adAt_f, adAt_t]; exact ca n false (hu _)
  · rintro rfl
    rcases hb with ⟨o, hx⟩ | ⟨m, c', v, q, z⟩
    · exact m1.nx o hx
    · exact q (h'.dj m c' n false v (hu _) z).1
  · cases b
    · rw [adAt_f]; exact ⟨m1.mono nfa, fun m c' v q z => q (h'.dj m c' n false v (hu _) z).1⟩
    · rw [adAt_t]; exact ⟨mc.mono nfc, fun m c' v q z => ca m c' v z⟩
/-- xs.append([]) -/
def x_new2 (n : Nat) : Xp := fun σ K => own2w σ n fun fs ls => fs.length < 1000000 ∧ K .next (put σ n (.own2 (fs ++ [.list ls]) []))
theorem s_new2 (O : Ok C vn) (n : Nat) {p q p3 p4 pl : Pos} (hline : (q.endLine == p3.line) = true) :
    SS C vn r kd (.Expr (.Call (.Attribute (.Name (vn.vn n) p) "append" q) [.List [] pl] [] p3) p4) (x_new2 n) := .mk fun {A s F X σ K env own s₀ F₀} Rm R hw => by
  obtain ⟨fs, ls, hl, hz, hw⟩ := own2w_inv hw
  obtain ⟨a, b, rd, ⟨vs, k, hg, hlen⟩, mu⟩ := R.grow2 hl
  have hs : backTo p3 (starEach [.List [] pl] env) = [(false, eval (.List [] pl) env)] := (SA.one (s_lst (C := C) (vn := vn) (r := r) (kd := kd) .nil rfl)).args
  refine wpAny_Expr_any (wpAny_Call_method (T := "list") (id := "list.append") rfl (by rw [hs]; rfl) hline PySem.F.plainAttrs_list PySem.F.slot_list_append PySem.F.type_list_append (wpAny_Name (wp_loadRd R.fs.ap.kind rd ?_) (by simpa using O.dbg n))) (by unfold interactive; rw [R.fs.ap.kind]; rfl) (by rfl)
  refine ⟨⟨_, hg, rfl⟩, fun b e => by cases e; exact ⟨_, hg, rfl⟩, ?_⟩
  rw [hs]
  refine PySem.P.append_list ?_
  show wpAny _ A (do standAt pl; newList []) _ _ s
  refine wpAny_bind (wpAny_standAt (wpAny_newList ?_ (by decide)))
  have up : ∀ x o, s.heap.get? x = some o → (s.heap.push (lstObj [] 0)).get? x = some o := fun x o e => Heap.get?_push_of_some _ e
  have R1 := R.ext (k := s.toks) up
  obtain ⟨vs, k, hg1, hlen, go⟩ := mu _ s.heap.objs.size R1 (fun x o _ e => up x o e) (get_size s.heap) (Heap.get?_push_size _ rfl)
  refine ⟨(vs ++ [Value.ref b]).toArray, k, by rw [List.size_toArray, List.length_append, hlen]; exact sizeLine_big (by show _ + 1 ≤ _; omega), hg1, ?_⟩
  obtain ⟨k3, u1, u2⟩ := updSeq (f := fun xs => xs.push (.ref s.heap.objs.size)) hg1
  obtain ⟨F', le, R2⟩ := go { s with heap := (s.heap.push (lstObj [] 0)).update a (Obj.mapSeq fun xs => xs.push (.ref s.heap.objs.size)) } k3 (by rw [u1]; simp) u2 rfl rfl
  exact (R2.next hw).le le
/-- all is frozen -/
theorem Rl.freeze2 (R : Rl C vn kd env own s₀ F₀ X σ s F) {n : Nat} {fs ls : List V} (hl : σ.lookup n = some (.own2 fs ls)) : ∃ F', (∀ a o, F a o → F' a o) ∧ Rl C vn kd env own s₀ F₀ X (Mine.put σ n (.val (.list (fs ++ [.list ls])))) s F' := by
  obtain ⟨vr, ad, h⟩ := R.ex
  obtain ⟨hv, vs, k, us, j, e1, e2, e3, r1, r2⟩ := h.ok n _ hl
  have hu : ∀ b, Used σ n b := fun b => ⟨_, hl, trivial⟩
  have m1 := h.mu n false (hu _)
  have m2 := h.mu n true (hu _)
  have up1 : ∀ x o, F x o → (F.add (ad n true) (lstObj us j)) x o := fun _ _ e => .inl e
  have up2 : ∀ x o, F x o → ((F.add (ad n true) (lstObj us j)).add (ad n false) (lstObj (vs ++ [.ref (ad n true)]) k)) x o := fun _ _ e => .inl (.inl e)
  refine ⟨_, up2, R.set (lv := .val (.list (fs ++ [.list ls]))) h ((R.B.freeze m2.new e3).freeze m1.new e2) up2 (fun x o e => ?_) (fun _ _ g _ => g) h.fr (fun _ _ => rfl) (fun _ _ _ => rfl) (.inl rfl) hv
    ⟨_, e1, .list (.inr ⟨rfl, rfl⟩) ((r1.mono up2).append (.cons (.list (.inl (.inr ⟨rfl, rfl⟩)) (r2.mono up2)) .nil))⟩ (fun _ u => u.elim) fun u => u.elim⟩
  rcases e with (e | ⟨q, _⟩) | ⟨q, _⟩
  · exact .inl e
  · subst q; exact .inr ⟨m2.np, m2.nx, fun m b u q e => q (h.dj m b n true u (hu _) e).1⟩
  · subst q; exact .inr ⟨m1.np, m1.nx, fun m b u q e => q (h.dj m b n false u (hu _) e).1⟩
def x_frz2 (n : Nat) (y : Xp) : Xp := fun σ K => own2w σ n fun fs ls => y (put σ n (.val (.list (fs ++ [.list ls])))) K
theorem SL.frz2 (n : Nat) {ss : List Stmt} {y : Xp} (h : SL C vn r kd ss y) : SL C vn r kd ss (x_frz2 n y) := .mk fun Rm R hx => by
  obtain ⟨fs, ls, hl, hy⟩ := own2w_inv hx
  obtain ⟨F', le, R'⟩ := R.freeze2 hl
  exact wle (g := id) (h.go Rm R' hy) le
end
section
variable {C : Cx} {A : Around} {s s₀ s₁ s₂ s' : Shared} {F F₀ F₁ F' X : Fz} {r : Nat} {env : Env} {own : List Str} {vn : Nm} {kd kd' : Kd} {σ : St} {K : Kt}
/-- objects taken in are stored, and become one's own -/
theorem Rl.storeX {as as' : List Addr} {hh : Heap} (R : Rl C vn kd env own s₀ F₀ (Yat X as hh) σ s F) (sub : ∀ c ∈ as', c ∈ as) {n : Nat} {a b : Addr} {lv : LV} (hv : isVar kd n = true) (hna : noApp σ n = true)
    (hab : ∀ c, c = a ∨ c = b → c ∈ as ∧ c ∉ as' ∧ s₀.heap.get? c = none ∧ (∀ o, ¬ X c o) ∧ ∃ o, hh.get? c = some o) (hne : lv.uses true → a ≠ b)
    (ok : ∀ (ad : Nat → Bool → Addr) h', (∀ c o, c ∈ as → hh.get? c = some o → h'.get? c = some o) → VarOk h' F (some (.ref a)) (adAt ad n a b) n lv) {M : Model} {E : Value → Shared → Prop} {Q : Unit → Shared → Prop}
    (k : ∀ s', Rl C vn kd env own s₀ F₀ (Yat X as' hh) (Mine.put σ n lv) s' F → Q () s') : wpAny M A (storeName env (vn.vn n) (.ref a)) Q E s := by
  have sb : ∀ c o, Yat X as' hh c o → Yat X as hh c o := fun c o e => e.imp id fun ⟨e1, e2⟩ => ⟨sub _ e1, e2⟩
  obtain ⟨vr, ad, h⟩ := R.ex
  have h' : Vs vn kd env own s₀.heap (Yat X as' hh) σ s.heap F vr ad := ⟨h.fr, h.ok, fun n b u => let m := h.mu n b u; ⟨m.new, m.np, m.nf, fun o e => m.nx o (sb _ o e)⟩, h.dj⟩
  have key : ∀ c, c = a ∨ c = b → Mut env own s₀.heap F (Yat X as' hh) c ∧ ∀ m d, Used σ m d → ad m d ≠ c := fun c hc => by
    obtain ⟨h1, h2, h3, h4, o, h5⟩ := hab c hc
    obtain ⟨g1, g2, g3, g4⟩ := R.x c o (.inr ⟨h1, h5⟩)
    exact ⟨⟨h3, g3, g4, fun o e => e.elim (h4 o) fun e => h2 e.1⟩, fun m d u e => (h.mu m d u).nx o (.inr ⟨e ▸ h1, e ▸ h5⟩)⟩
  have adc : ∀ d, adAt ad n a b n d = a ∨ adAt ad n a b n d = b := fun d => match d with | false => .inl adAt_f | true => .inr adAt_t
  refine (R.xmono sb).stored (lv := lv) (ad' := adAt ad n a b) h' hv (fun _ _ q => adAt_ne q) (.inr hna) (fun h2 kp => ok ad h2 fun c o hc e => ?_) (fun d _ => ⟨(key _ (adc d)).1, fun m c u _ => (key _ (adc d)).2 m c u⟩) (fun _ u => by rw [adAt_f, adAt_t]; exact hne u) fun s' R' _ => k s' R'
  obtain ⟨g1, g2, g3, g4⟩ := R.x c o (.inr ⟨hc, e⟩)
  exact kp c o g3 g1
/-- x, y = ([[]], e) -/
def x_nest (x y : Nat) (b : Wp) : Xp := fun σ K => noApp σ x = true ∧ b false (ρb σ) fun d => K .next (put (put σ y (.val d)) x (.own2 [] []))
theorem noApp_put {σ : St} {x y : Nat} {d : V} (h : noApp σ x = true) : noApp (put σ y (.val d)) x = true := by
  unfold noApp at h ⊢
  induction σ with
  | nil => rfl
  | cons p σ ih =>
    rw [List.all_cons] at h
    obtain ⟨h1, h2⟩ := Bool.and_eq_true_iff.mp h
    unfold put
    cases q : p.1 == y with
    | true => rw [List.all_cons, h2]; rfl
    | false => rw [List.all_cons, h1, ih h2]; rfl
theorem newL {M : Model} {E : Value → Shared → Prop} {vs : List Value} {Q : Value → Shared → Prop} (hz : vs.length ≤ 1000000) (h : ∀ a h', s.heap.get? a = none → h'.get? a = some (lstObj vs 0) → (∀ x o, s.heap.get? x = some o → h'.get? x = some o) → Q (.ref a) { s with heap := h' }) : wpAny M A (newList vs) Q E s :=
  wpAny_newList (h _ _ (get_size _) (Heap.get?_push_size _ rfl) (fun x o e => Heap.get?_push_of_some _ e)) (sizeLine_big hz)
theorem newT {M : Model} {E : Value → Shared → Prop} {vs : List Value} {Q : Value → Shared → Prop} (hz : vs.length ≤ 1000000) (h : ∀ t h', h'.IsTuple t vs.toArray → (∀ x o, s.heap.get? x = some o → h'.get? x = some o) → Q (.ref t) { s with heap := h' }) : wpAny M A (newTuple vs) Q E s :=
  wpAny_newTuple (h _ _ ⟨_, Heap.get?_push_size _ rfl, rfl, _, rfl⟩ (fun x o e => Heap.get?_push_of_some _ e)) (sizeLine_big hz)
theorem all_f {f : Expr → Bool} {u : Expr} {l : List Expr} (h : f u = false) : (u :: l).all f = false := by rw [List.all_cons, h]; rfl
theorem plx_nest {p1 p2 : Pos} : plx (.List [.List [] p1] p2) = true := by rfl
theorem nest_f {p1 p2 : Pos} : foldedForSure 8 (.List [.List [] p1] p2) = false := by rfl
theorem nest_c {p1 p2 : Pos} : constantsAlone 8 (.List [.List [] p1] p2) = false := by rfl
theorem s_nest (x y : Nat) {p q p' q' q'' p1 p2 : Pos} {k k' : Nat} {v : Expr} {b : Wp} (hb : SX C vn r kd v b) (hx : kd.lookup x = some .local) (hy : kd.lookup y = some .local) (hl : (p.line == q.line) = true) (hne : vn.vn x ≠ vn.vn y) :
    SS C vn r kd (.Assign [.Tuple [.Name (vn.vn x) p, .Name (vn.vn y) q] k p'] (.Tuple [.List [.List [] p1] p2, v] k' q') q'') (x_nest x y b) := .mk fun {A s F X σ K env own s₀ F₀} Rm R hw => by
  obtain ⟨hna, hw⟩ := hw
  have hsn := swapped_two (u := .List [.List [] p1] p2) (v := v) (p := p) (q := q) (p' := p') (k := k) (k' := k') (q' := q') R.fs.ap.kind (R.fs.loc hx) (R.fs.loc hy) hl hne plx_nest hb.p (all_f nest_f) (all_f nest_c)
  rw [exec_Assign_arm]
  refine wpAny_bind (wpAny_standAt ?_)
  show wpAny _ A (do
    let vv ← eval (.Tuple [.List [.List [] p1] p2, v] k' q') env
    assignStores env vv (← swappedStores [.Tuple [.Name (vn.vn x) p, .Name (vn.vn y) q] k p'] (.Tuple [.List [.List [] p1] p2, v] k' q') env) ((assignEach [.Tuple [.Name (vn.vn x) p, .Name (vn.vn y) q] k p'] env).map (·.2))) _ _ s
  refine wpAny_bind ?_
  show wpAny _ A (do standAt q'; newTuple (← spliced (backTo q' (starEach [.List [.List [] p1] p2, v] env)))) _ _ s
  rw [(SA.cons (s_lst (C := C) (vn := vn) (r := r) (kd := kd) (p := p2) (SA.cons (s_lst (p := p1) .nil rfl) .nil) rfl) (SA.cons hb .nil)).args]
  refine wpAny_bind (wpAny_standAt (wpAny_bind (Calls.spliced_cons ?_)))
  show wpAny _ A (do standAt p2; newList (← spliced [(false, eval (.List [] p1) env)])) _ _ s
  refine wpAny_bind (wpAny_standAt (wpAny_bind (Calls.spliced_cons ?_)))
  show wpAny _ A (do standAt p1; newList []) _ _ s
  refine wpAny_bind (wpAny_standAt (newL (Nat.zero_le _) fun b h1 nb gb up1 => ?_))
  refine Calls.spliced_nil (newL (vs := [.ref b]) (Nat.le_of_ble_eq_true rfl) fun a h2 na1 ga up2 => ?_)
  have na : s.heap.get? a = none := by
    cases q : s.heap.get? a with
    | none => rfl
    | some o => cases na1.symm.trans (up1 _ _ q)
  have hab : a ≠ b := by rintro rfl; cases na1.symm.trans gb
  have gb := up2 _ _ gb
  have up : ∀ x o, s.heap.get? x = some o → h2.get? x = some o := fun x o e => up2 _ _ (up1 _ _ e)
  have R2 : Rl C vn kd env own s₀ F₀ X σ { s with heap := h2 } F := R.ext (k := s.toks) up
  refine Calls.spliced_cons ((hb.e (R2.ev Rm) hw).after fun w s3 F3 I3 k3 fx3 ⟨d, rv, hq⟩ => Calls.spliced_nil ?_)
  refine newT (vs := [.ref a, w]) (Nat.le_of_ble_eq_true rfl) fun t h3 it up3 => ?_
  rw [hsn]
  refine wpAny_bind (wpAny_pure ?_)
  show wpAny _ A (do
    rule "assign.swapped-stores"
    let items ← unpackItems (.ref t) (#[.ref a, w] : Array Value).size none
    assignInOrder ([vn.vn y, vn.vn x].map fun n => bindName env n) items.reverse
    pure Flow.next) _ _ { s3 with heap := h3 }
  refine wpAny_bind (wpAny_rule (wpAny_bind (wpAny_unpackItems_tuple Rm.handled it fun h4 hx4 => ?_)))
  have Pa : a ≠ C.P := R.B.inv.freshNe na
  have Pb : b ≠ C.P := R.B.inv.freshNe nb
  have up4 : ∀ x o, s3.heap.get? x = some o → h4.get? x = some o := fun x o e => hx4 x o (by rintro rfl; have e2 := up3 _ _ e; rw [get_size] at e2; cases e2) (up3 _ _ e)
  have R3 := R2.kp I3 k3 fx3
  have R4' := R3.ext (k := s3.toks) up4
  have ga4 := up4 _ _ (k3 a _ Pa ga)
  have gb4 := up4 _ _ (k3 b _ Pb gb)
  have nF : ∀ c, s.heap.get? c = none → (∃ o, h2.get? c = some o) → ∀ o, ¬ F3 c o := fun c hc ⟨o', hc'⟩ o e => by
    rcases fx3.new c o e with e | e
    · cases hc.symm.trans (R.B.f.at' c o e).1
    · cases hc'.symm.trans e
  have new4 : ∀ c o, F3 c o → F c o ∨ s.heap.get? c = none := fun c o e => (fx3.new c o e).imp id fun e' => by
    cases q : s.heap.get? c with
    | none => rfl
    | some o' => cases e'.symm.trans (up _ _ q)
  have R4 := R.take (as := [a, b]) (s := { s3 with heap := h4 }) R4'.B.inv (fun c o hc e => up4 c o (k3 c o hc (up c o e))) ⟨fx3.le, new4, R4'.B.f⟩ fun c hc => by
    rcases List.mem_cons.mp hc with rfl | hc
    · exact ⟨na, nF _ na ⟨_, ga⟩⟩
    · rw [List.mem_singleton] at hc; subst hc; exact ⟨nb, nF _ nb ⟨_, gb⟩⟩
  show wpAny _ A (do assignInOrder [bindName env (vn.vn y), bindName env (vn.vn x)] [w, .ref a]; pure Flow.next) _ _ _
  refine wpAny_bind ?_
  show wpAny _ A (do holding _ (bindName env (vn.vn y) w); assignInOrder [bindName env (vn.vn x)] [.ref a]) _ _ _
  have nX : ∀ c, s.heap.get? c = none → ∀ o, ¬ X c o := fun c hc o e => nomatch hc.symm.trans (R.x c o e).1
  have n0 : ∀ c, c ≠ C.P → s.heap.get? c = none → s₀.heap.get? c = none := fun c hP hc => Kp.none R.B.kp hP hc
  refine wpAny_bind (wpAny_holding (wpAny_bindName (R4.store (by unfold isVar; rw [hy]) rv fun s5 R5 => ?_)))
  show wpAny _ A (do holding _ (bindName env (vn.vn x) (.ref a)); assignInOrder [] []) _ _ _
  refine wpAny_bind (wpAny_holding (wpAny_bindName (R5.storeX (as' := []) (lv := .own2 [] []) (a := a) (b := b) (fun c hc => nomatch hc) (by unfold isVar; rw [hx]) (noApp_put hna) (fun c hc => ?_) (fun _ => hab) (fun ad h' hk => ?_) fun s6 R6 => wpAny_pure (wpAny_pure ?_))))
  · rcases hc with rfl | rfl
    · exact ⟨.head _, (fun h => nomatch h), n0 _ Pa na, nX _ na, _, ga4⟩
    · exact ⟨.tail _ (.head _), (fun h => nomatch h), n0 _ Pb nb, nX _ nb, _, gb4⟩
  · exact ⟨[], 0, [], 0, by rw [adAt_f], by rw [adAt_f, adAt_t]; exact hk a _ (.head _) ga4, by rw [adAt_t]; exact hk b _ (.tail _ (.head _)) gb4, .nil, .nil⟩
  · exact ((R6.xmono fun c o e => .inl e).next hq).le fx3.le
theorem swapped_eq3 {i j l : Str} {p q q2 p' : Pos} {k k' : Nat} {q' : Pos} {u v w : Expr} (hf : env.scope.kind = .function) (hu : plx u = true) (hv : plx v = true) (hw : plx w = true) :
    swappedStores [.Tuple [.Name i p, .Name j q, .Name l q2] k p'] (.Tuple [u, v, w] k' q') env = (do
      let names := [Expr.Name i p, .Name j q, .Name l q2].filterMap fun x => PySem.swappedStores.match_8 (fun _ => Option Str) x (fun id pos => if (env.kindOf id == some .local && pos.line == p.line) = true then some id else none) fun _ => none
      if (names.length != 3 || names.eraseDups.length != names.length) = true then return none
      if ([u, v, w].all (foldedForSure 8)) = true then return none
      if ([u, v, w].all (constantsAlone 8)) = true then unsupported "assign.tuple-of-constant-expressions:order-of-the-stores"
      return some names) := by
  unfold swappedStores
  dsimp only
  rw [blockKind_fn hf, List.any_cons, List.any_cons, List.any_cons, plx_st hu, plx_st hv, plx_st hw]
  rfl
theorem swapped_three {i j l : Str} {p q q2 p' : Pos} {k k' : Nat} {q' : Pos} {u v w : Expr} (hf : env.scope.kind = .function) (hi : env.kindOf i = some .local) (hj : env.kindOf j = some .local) (hk : env.kindOf l = some .local) (h1 : (p.line == q.line) = true) (h2 : (p.line == q2.line) = true)
    (d1 : i ≠ j) (d2 : i ≠ l) (d3 : j ≠ l) (hu : plx u = true) (hv : plx v = true) (hw : plx w = true) (f1 : [u, v, w].all (foldedForSure 8) = false) (f2 : [u, v, w].all (constantsAlone 8) = false) :
    swappedStores [.Tuple [.Name i p, .Name j q, .Name l q2] k p'] (.Tuple [u, v, w] k' q') env = pure (some [i, j, l]) := by
  have e1 : q.line = p.line := (beq_iff_eq.mp h1).symm
  have e2 : q2.line = p.line := (beq_iff_eq.mp h2).symm
  rw [swapped_eq3 hf hu hv hw, f1, f2]
  have e : ([Expr.Name i p, .Name j q, .Name l q2].filterMap fun x => PySem.swappedStores.match_8 (fun _ => Option Str) x (fun id pos => if (env.kindOf id == some .local && pos.line == p.line) = true then some id else none) fun _ => none) = [i, j, l] := by
    simp [hi, hj, hk, e1, e2]
  rw [e]
  have n1 : (j == i) = false := by simpa using Ne.symm d1
  have n2 : (l == i) = false := by simpa using Ne.symm d2
  have n3 : (l == j) = false := by simpa using Ne.symm d3
  have e3 : [i, j, l].eraseDups = [i, j, l] := by rw [List.eraseDups_cons, List.filter_cons, n1, List.filter_cons, n2]; simp [List.eraseDups_cons, n3]
  dsimp only
  rw [e3]; rfl
/-- x, y, z = (e, [], []) -/
def x_three (x y z : Nat) (a : Wp) : Xp := fun σ K => noApp σ y = true ∧ noApp σ z = true ∧ a false (ρb σ) fun d => K .next (put (put (put σ z (.own [])) y (.own [])) x (.val d))
theorem noApp_putO {σ : St} {x y : Nat} {d : List V} (h : noApp σ x = true) : noApp (put σ y (.own d)) x = true := by
  unfold noApp at h ⊢
  induction σ with
  | nil => rfl
  | cons p σ ih =>
    rw [List.all_cons] at h
    obtain ⟨h1, h2⟩ := Bool.and_eq_true_iff.mp h
    unfold put
    cases q : p.1 == y with
    | true => rw [List.all_cons, h2]; rfl
    | false => rw [List.all_cons, h1, ih h2]; rfl
theorem plx_e {p : Pos} : plx (.List [] p) = true := by rfl
theorem e_f {p : Pos} : foldedForSure 8 (.List [] p) = false := by rfl
theorem e_c {p : Pos} : constantsAlone 8 (.List [] p) = false := by rfl
theorem all_f2 {f : Expr → Bool} {u v : Expr} {l : List Expr} (h : f v = false) : (u :: v :: l).all f = false := by rw [List.all_cons, List.all_cons, h]; cases f u <;> rfl
theorem s_three (x y z : Nat) {p q q2 p' q' q'' p1 p2 : Pos} {k k' : Nat} {v : Expr} {b : Wp} (hb : SX C vn r kd v b) (hx : kd.lookup x = some .local) (hy : kd.lookup y = some .local) (hz : kd.lookup z = some .local) (hl : (p.line == q.line) = true) (hl2 : (p.line == q2.line) = true)
    (d1 : vn.vn x ≠ vn.vn y) (d2 : vn.vn x ≠ vn.vn z) (d3 : vn.vn y ≠ vn.vn z) :
    SS C vn r kd (.Assign [.Tuple [.Name (vn.vn x) p, .Name (vn.vn y) q, .Name (vn.vn z) q2] k p'] (.Tuple [v, .List [] p1, .List [] p2] k' q') q'') (x_three x y z b) := .mk fun {A s F X σ K env own s₀ F₀} Rm R hw => by
  obtain ⟨hna, hna2, hw⟩ := hw
  have hsn := swapped_three (u := v) (v := .List [] p1) (w := .List [] p2) (p := p) (q := q) (q2 := q2) (p' := p') (k := k) (k' := k') (q' := q') R.fs.ap.kind (R.fs.loc hx) (R.fs.loc hy) (R.fs.loc hz) hl hl2 d1 d2 d3 hb.p plx_e plx_e (all_f2 e_f) (all_f2 e_c)
  rw [exec_Assign_arm]
  refine wpAny_bind (wpAny_standAt ?_)
  show wpAny _ A (do
    let vv ← eval (.Tuple [v, .List [] p1, .List [] p2] k' q') env
    assignStores env vv (← swappedStores [.Tuple [.Name (vn.vn x) p, .Name (vn.vn y) q, .Name (vn.vn z) q2] k p'] (.Tuple [v, .List [] p1, .List [] p2] k' q') env) ((assignEach [.Tuple [.Name (vn.vn x) p, .Name (vn.vn y) q, .Name (vn.vn z) q2] k p'] env).map (·.2))) _ _ s
  refine wpAny_bind ?_
  show wpAny _ A (do standAt q'; newTuple (← spliced (backTo q' (starEach [v, .List [] p1, .List [] p2] env)))) _ _ s
  rw [(SA.cons hb (SA.cons (s_lst (C := C) (vn := vn) (r := r) (kd := kd) (p := p1) .nil rfl) (SA.cons (s_lst (p := p2) .nil rfl) .nil))).args]
  refine wpAny_bind (wpAny_standAt (wpAny_bind (Calls.spliced_cons ((hb.e (R.ev Rm) hw).after fun w s1 F1 I1 k1 fx1 ⟨d, rv, hq⟩ => Calls.spliced_cons ?_))))
  have R1 := R.kp I1 k1 fx1
  show wpAny _ A (do standAt p1; newList []) _ _ s1
  refine wpAny_bind (wpAny_standAt (newL (Nat.zero_le _) fun b h1 nb gb up1 => Calls.spliced_cons ?_))
  show wpAny _ A (do standAt p2; newList []) _ _ { s1 with heap := h1 }
  refine wpAny_bind (wpAny_standAt (newL (Nat.zero_le _) fun c h2 nc1 gc up2 => Calls.spliced_nil ?_))
  have nc : s1.heap.get? c = none := by
    cases q : s1.heap.get? c with
    | none => rfl
    | some o => cases nc1.symm.trans (up1 _ _ q)
  have hbc : b ≠ c := by rintro rfl; cases nc1.symm.trans gb
  have gb := up2 _ _ gb
  have up : ∀ x o, s1.heap.get? x = some o → h2.get? x = some o := fun x o e => up2 _ _ (up1 _ _ e)
  refine newT (vs := [w, .ref b, .ref c]) (Nat.le_of_ble_eq_true rfl) fun t h3 it up3 => ?_
  rw [hsn]
  refine wpAny_bind (wpAny_pure ?_)
  show wpAny _ A (do
    rule "assign.swapped-stores"
    let items ← unpackItems (.ref t) (#[w, .ref b, .ref c] : Array Value).size none
    assignInOrder ([vn.vn z, vn.vn y, vn.vn x].map fun n => bindName env n) items.reverse
    pure Flow.next) _ _ { s1 with heap := h3 }
  refine wpAny_bind (wpAny_rule (wpAny_bind (wpAny_unpackItems_tuple Rm.handled it fun h4 hx4 => ?_)))
  have Pb : b ≠ C.P := R1.B.inv.freshNe nb
  have Pc : c ≠ C.P := R1.B.inv.freshNe nc
  have up4 : ∀ x o, h2.get? x = some o → h4.get? x = some o := fun x o e => hx4 x o (by rintro rfl; have e2 := up3 _ _ e; rw [get_size] at e2; cases e2) (up3 _ _ e)
  have upA : ∀ x o, s1.heap.get? x = some o → h4.get? x = some o := fun x o e => up4 _ _ (up _ _ e)
  have R4' := R1.ext (k := s1.toks) upA
  have gb4 := up4 _ _ gb
  have gc4 := up4 _ _ gc
  have nF : ∀ c, s1.heap.get? c = none → ∀ o, ¬ F1 c o := fun c hc o e => nomatch hc.symm.trans (R1.B.f.at' c o e).1
  have R4 := R1.take (as := [b, c]) (s := { s1 with heap := h4 }) R4'.B.inv (fun c o hc e => upA c o e) (Fx.refl R4'.B.f) fun x hx => by
    rcases List.mem_cons.mp hx with rfl | hx
    · exact ⟨nb, nF _ nb⟩
    · rw [List.mem_singleton] at hx; subst hx; exact ⟨nc, nF _ nc⟩
  show wpAny _ A (do assignInOrder [bindName env (vn.vn z), bindName env (vn.vn y), bindName env (vn.vn x)] [.ref c, .ref b, w]; pure Flow.next) _ _ _
  have nX : ∀ c, s1.heap.get? c = none → ∀ o, ¬ X c o := fun c hc o e => nomatch hc.symm.trans (R1.x c o e).1
  have n0 : ∀ c, c ≠ C.P → s1.heap.get? c = none → s₀.heap.get? c = none := fun c hP hc => Kp.none R1.B.kp hP hc
  refine wpAny_bind ?_
  show wpAny _ A (do holding _ (bindName env (vn.vn z) (.ref c)); assignInOrder [bindName env (vn.vn y), bindName env (vn.vn x)] [.ref b, w]) _ _ _
  refine wpAny_bind (wpAny_holding (wpAny_bindName (R4.storeX (as' := [b]) (lv := .own []) (a := c) (b := c) (fun x hx => List.mem_singleton.mp hx ▸ .head _) (by unfold isVar; rw [hz]) hna2 (fun x hx => ?_) (fun u => nomatch u) (fun ad h' hk => ?_) fun s5 R5 => ?_)))
  · obtain rfl : x = c := hx.elim id id
    exact ⟨.tail _ (.head _), fun h => hbc (List.mem_singleton.mp h).symm, n0 _ Pc nc, nX _ nc, _, gc4⟩
  · exact ⟨[], 0, by rw [adAt_f], by rw [adAt_f]; exact hk c _ (.tail _ (.head _)) gc4, .nil⟩
  show wpAny _ A (do holding _ (bindName env (vn.vn y) (.ref b)); assignInOrder [bindName env (vn.vn x)] [w]) _ _ _
  refine wpAny_bind (wpAny_holding (wpAny_bindName (R5.storeX (as' := []) (lv := .own []) (a := b) (b := b) (fun c hc => nomatch hc) (by unfold isVar; rw [hy]) (noApp_putO hna) (fun x hx => ?_) (fun u => nomatch u) (fun ad h' hk => ?_) fun s6 R6 => ?_)))
  · obtain rfl : x = b := hx.elim id id
    exact ⟨.head _, (fun h => nomatch h), n0 _ Pb nb, nX _ nb, _, gb4⟩
  · exact ⟨[], 0, by rw [adAt_f], by rw [adAt_f]; exact hk b _ (.head _) gb4, .nil⟩
  show wpAny _ A (do holding _ (bindName env (vn.vn x) w); assignInOrder [] []) _ _ _
  refine wpAny_bind (wpAny_holding (wpAny_bindName (R6.store (by unfold isVar; rw [hx]) rv fun s7 R7 => wpAny_pure (wpAny_pure ?_))))
  exact ((R7.xmono fun c o e => .inl e).next hq).le fx1.le
end
abbrev PW := PySem.Challenge.pw_mq0282_02
def noEc (_ : Env) : Prop := True
def l_S_IMODE : List String := ["mode"]
theorem f_S_IMODE {C : Cx} {a : Addr} (O : Ok C (Nn l_S_IMODE noEc)) (D : FnD C a ([0].map (nth l_S_IMODE)) (fnSc PW 11) (fnB PW 11)) : Fn C a 1 (fun ds Q => ∃ i, ds = [.int i] ∧ Q (.int (Builtin.bitAnd i 4095))) :=
  Fn.of_body (vn := Nn l_S_IMODE noEc) (kd := [(0, .local)]) (r := 0) (ps := [0]) D
    (.cons (s_ret (s_bin (s_x O 0) s_int))
    .nil)
    (by decide +kernel) (by decide +kernel) rfl (by decide) (fun _ _ _ _ _ => trivial) fun ds Q ⟨i, e, h⟩ => by subst e; exact ⟨rfl, h⟩
def l_S_IFMT : List String := ["mode"]
theorem f_S_IFMT {C : Cx} {a : Addr} (O : Ok C (Nn l_S_IFMT noEc)) (D : FnD C a ([0].map (nth l_S_IFMT)) (fnSc PW 12) (fnB PW 12)) : Fn C a 1 (fun ds Q => ∃ i, ds = [.int i] ∧ Q (.int (Builtin.bitAnd i 61440))) :=
  Fn.of_body (vn := Nn l_S_IFMT noEc) (kd := [(0, .local)]) (r := 0) (ps := [0]) D
    (.cons (s_ret (s_bin (s_x O 0) s_int))
    .nil)
    (by decide +kernel) (by decide +kernel) rfl (by decide) (fun _ _ _ _ _ => trivial) fun ds Q ⟨i, e, h⟩ => by subst e; exact ⟨rfl, h⟩

/-! # filemode -/
def sg (c : Nat) : V := .str [c]
def fmTab : List (List (Int × Nat)) := [[(40960, 108), (49152, 115), (32768, 45), (24576, 98), (16384, 100), (8192, 99), (4096, 112)], [(256, 114)], [(128, 119)], [(2112, 115), (2048, 83), (64, 120)], [(32, 114)], [(16, 119)], [(1032, 115), (1024, 83), (8, 120)], [(4, 114)], [(2, 119)], [(513, 116), (512, 84), (1, 120)]]
def tabV (t : List (Int × Nat)) : V := .tuple (t.map fun p => .tuple [.int p.1, .str [p.2]])
/-- the test of a place -/
def fmT (m : Int) (i : Nat) (b : Int) : Bool := match i with | 0 => decide (Builtin.bitAnd m 61440 = b) | _ => decide (Builtin.bitAnd m b = b)
def fmD (i : Nat) : Nat := match i with | 0 => 63 | _ => 45
def fmP (m : Int) (i : Nat) (t : List (Int × Nat)) : Nat := match t.find? (fun p => fmT m i p.1) with | some p => p.2 | none => fmD i
def fmGo (m : Int) : Nat → List (List (Int × Nat)) → List Nat
  | _, [] => []
  | i, t :: ts => fmP m i t :: fmGo m (i + 1) ts
def fmode (m : Int) : List Nat := fmGo m 0 fmTab
theorem strsOf_map : ∀ ls : List (List Nat), strsOf (ls.map .str) = some ls
  | [] => rfl
  | l :: ls => by show (strsOf (ls.map .str)).map (l :: ·) = _; rw [strsOf_map ls]; rfl
theorem joinL_nil : ∀ ls : List (List Nat), joinL [] ls = ls.flatten
  | [] => rfl
  | [x] => by simp [joinL]
  | x :: y :: r => by rw [joinL, joinL_nil (y :: r)]; simp
theorem joinL_one (l : List Nat) : joinL [] (l.map fun c => [c]) = l := by
  rw [joinL_nil]
  induction l with
  | nil => rfl
  | cons c l ih => simpa using ih
theorem fmGo_len (m : Int) : ∀ (i : Nat) (ts : List (List (Int × Nat))), (fmGo m i ts).length = ts.length
  | _, [] => rfl
  | i, t :: ts => congrArg Nat.succ (fmGo_len m (i + 1) ts)
theorem fmGo_get (m : Int) : ∀ (i j : Nat) (ts : List (List (Int × Nat))) (t : List (Int × Nat)), ts[j]? = some t → (fmGo m i ts)[j]? = some (fmP m (i + j) t)
  | i, 0, t' :: ts, t, h => by cases h; rfl
  | i, j + 1, t' :: ts, t, h => by rw [show i + (j + 1) = (i + 1) + j by lia]; exact fmGo_get m (i + 1) j ts t h
theorem find_at {α : Type} {p : α → Bool} : ∀ {l : List α} {j : Nat} {a : α}, l[j]? = some a → p a = true → (∀ q ∈ l.take j, p q = false) → l.find? p = some a
  | x :: l, 0, a, h, hp, _ => by cases h; rw [List.find?_cons, hp]
  | x :: l, j + 1, a, h, hp, hn => by rw [List.find?_cons, hn x (.head _)]; exact find_at (l := l) (j := j) h hp fun q hq => hn q (.tail _ hq)
theorem find_no {α : Type} {p : α → Bool} : ∀ {l : List α}, (∀ q ∈ l, p q = false) → l.find? p = none
  | [], _ => rfl
  | x :: l, hn => by rw [List.find?_cons, hn x (.head _)]; exact find_no fun q hq => hn q (.tail _ hq)
theorem take_snoc {α : Type} {l : List α} {j : Nat} {a : α} (h : l[j]? = some a) : l.take (j + 1) = l.take j ++ [a] := by rw [List.take_add_one, h]; rfl
def l_filemode : List String := ["mode", "perm", "index", "table", "enumerate", "_filemode_table", "bit", "char", "S_IFMT"]
theorem f_filemode {C : Cx} {a : Addr} {qf : Nat} (hf_S_IFMT : FnAt C "S_IFMT" 1 (fun ds Q => ∃ i, ds = [.int i] ∧ Q (.int (Builtin.bitAnd i 61440)))) (hg__filemode_table : Gl C "_filemode_table" (.tuple (fmTab.map tabV))) (O : Ok C (Nn l_filemode noEc)) (D : FnD C a ([0].map (nth l_filemode)) (fnSc PW 33) (fnB PW 33)) : Fn C a 2 (fun ds Q => ∃ m, ds = [.int m] ∧ Q (.str (fmode m))) :=
  Fn.of_body (vn := Nn l_filemode noEc) (kd := [(0, .local), (1, .local), (2, .local), (3, .local), (4, .globalImplicit), (5, .globalImplicit), (6, .local), (7, .local), (8, .globalImplicit)]) (r := 1) (ps := [0]) D
    (.cons (s_asgL 1 .nil rfl rfl)
    (.cons (s_forE O 2 3 (e := 4) rfl rfl (.two rfl rfl (by decide +kernel)) (s_g O 5 hg__filemode_table rfl) (.cons (s_for [6, 7] (s_v (s_x O 3)) (.two rfl rfl (by decide +kernel)) (.cons (s_ifs (s_cmp (s_x O 2) s_int) (.cons (s_ifs (s_cmp (s_call O 8 hf_S_IFMT rfl (.cons (s_x O 0) .nil)) (s_x O 6)) (.cons (s_app O 1 (s_x O 7) rfl)
    (.cons s_brk
    .nil)) .nil)
    .nil) (.cons (s_ifs (s_cmp (s_bin (s_x O 0) (s_x O 6)) (s_x O 6)) (.cons (s_app O 1 (s_x O 7) rfl)
    (.cons s_brk
    .nil)) .nil)
    .nil))
    (.keep [0, 1, 2, 3] .nil)) (.cons (s_ifs (s_cmp (s_x O 2) s_int) (.cons (s_app O 1 (s_str [63] (by decide +kernel)) rfl)
    .nil) (.cons (s_app O 1 (s_str [45] (by decide +kernel)) rfl)
    .nil))
    .nil))
    (.keep [0, 1] .nil)))
    (.frz 1 (.cons (s_ret (s_join [] (by decide +kernel) (s_x O 1) rfl))
    .nil))))
    (by decide +kernel) (by decide +kernel) rfl (by decide) (fun _ _ _ _ _ => trivial) fun ds Q ⟨m, e, hQ⟩ => by
      subst e
      refine ⟨rfl, rfl, fun i σ => σ = [(0, .val (.int m)), (1, .own (((fmode m).take i).map sg))], rfl, ?_, ?_⟩
      · intro i d σ hd hσ
        subst hσ
        rw [List.getElem?_map] at hd
        obtain ⟨t, ht, rfl⟩ := Option.map_eq_some_iff.mp hd
        have hi : i < 10 := (List.getElem?_eq_some_iff.mp ht).1
        have hg : (fmode m)[i]? = some (fmP m i t) := by have := fmGo_get m 0 i fmTab t ht; rwa [Nat.zero_add] at this
        have hln : (((fmode m).take i).map sg).length ≤ 1000000 := by rw [List.length_map, List.length_take]; lia
        have hln2 : (t.map fun p => V.tuple [.int p.1, .str [p.2]]).length ≤ 1000000 := by
          have : ∀ t ∈ fmTab, t.length ≤ 7 := by decide
          rw [List.length_map]; exact Nat.le_trans (this t (List.mem_of_getElem? ht)) (by decide)
        have fin : ∀ c, fmP m i t = c → [(0, LV.val (.int m)), (1, .own (((fmode m).take i).map sg ++ [.str [c]]))] = [(0, .val (.int m)), (1, .own (((fmode m).take (i + 1)).map sg))] := by
          rintro c rfl
          rw [take_snoc hg, List.map_append]; rfl
        refine ⟨hln2, fun j σ => σ = [(0, .val (.int m)), (1, .own (((fmode m).take i).map sg)), (2, .val (.int i)), (3, .val (tabV t))] ∧ ∀ p ∈ t.take j, fmT m i p.1 = false, ⟨rfl, fun p h => nomatch h⟩, ?_, ?_⟩
        · rintro j d σ hd ⟨rfl, hno⟩
          rw [List.getElem?_map] at hd
          obtain ⟨p, hp, rfl⟩ := Option.map_eq_some_iff.mp hd
          have hyes : fmT m i p.1 = true → fmP m i t = p.2 := fun h => by
            unfold fmP; rw [find_at hp h hno]
          have hstep : fmT m i p.1 = false → ∀ q ∈ t.take (j + 1), fmT m i q.1 = false := fun h q hq => by
            rw [take_snoc hp] at hq
            rcases List.mem_append.mp hq with hq | hq
            · exact hno q hq
            · rw [List.mem_singleton.mp hq]; exact h
          conv => whnf
          refine ⟨fun h0 => ?_, fun h0 => ?_⟩
          · obtain rfl : i = 0 := by have : (i : Int) = 0 := of_decide_eq_true h0; lia
            conv => whnf
            refine ⟨_, rfl, ?_⟩
            conv => whnf
            refine ⟨fun h => ⟨hln, fin _ (hyes h)⟩, fun h => ⟨rfl, hstep h⟩⟩
          · have hi0 : i ≠ 0 := fun e => absurd (show (i : Int) = 0 by lia) (of_decide_eq_false h0)
            have hT : ∀ b, fmT m i b = decide (Builtin.bitAnd m b = b) := fun b => by cases i with | zero => exact absurd rfl hi0 | succ _ => rfl
            rw [hT] at hyes hstep
            conv => whnf
            exact ⟨fun h => ⟨hln, fin _ (hyes h)⟩, fun h => ⟨rfl, hstep h⟩⟩
        · rintro σ ⟨rfl, hno⟩
          rw [List.length_map, List.take_length] at hno
          have hP : fmP m i t = fmD i := by unfold fmP; rw [find_no hno]
          conv => whnf
          refine ⟨fun h0 => ?_, fun h0 => ?_⟩
          · obtain rfl : i = 0 := by have : (i : Int) = 0 := of_decide_eq_true h0; lia
            exact ⟨hln, fin _ hP⟩
          · have hD : fmD i = 45 := by cases i with | zero => exact absurd (show (((0 : Nat) : Int) = 0) from rfl) (of_decide_eq_false h0) | succ _ => rfl
            exact ⟨hln, fin _ (hP.trans hD)⟩
      · rintro σ rfl
        have hl : (fmode m).length = 10 := fmGo_len m 0 fmTab
        have ht : (fmode m).take (fmTab.map tabV).length = fmode m := List.take_of_length_le (by rw [hl]; exact Nat.le_refl _)
        rw [ht]
        refine ⟨by decide, (fmode m).map fun c => [c], ?_, ?_, ?_⟩
        · have := strsOf_map ((fmode m).map fun c => [c])
          rwa [List.map_map] at this
        · rw [List.map_map, List.length_map, hl]
          have : ∀ l : List Nat, (l.map ((fun x => List.length x) ∘ fun c => [c])).sum = l.length := fun l => by induction l with | nil => rfl | cons c l ih => rw [List.map_cons, List.sum_cons, ih, List.length_cons]; exact Nat.add_comm _ _
          rw [this, hl]; decide
        · rw [joinL_one]; exact hQ

/-! # Helpers -/
theorem rangeSize1 (a b : Int) : (Builtin.Range.rangeSize a b 1).toNat = (b - a).toNat := by
  unfold Builtin.Range.rangeSize
  rw [if_pos (by decide)]
  split
  · rw [Int.ediv_one]; lia
  · lia
theorem rng_len (a b : Int) : ((rangeL a b 1).map V.int).length = (b - a).toNat := by rw [List.length_map]; unfold rangeL; rw [List.length_map, List.length_range, rangeSize1]
theorem rng_get {a : Nat} {b : Int} {i : Nat} {d : V} (h : ((rangeL a b 1).map V.int)[i]? = some d) : d = .int ((a + i : Nat) : Int) ∧ ((a + i : Nat) : Int) < b := by
  have hl := (List.getElem?_eq_some_iff.mp h).1
  rw [rng_len] at hl
  unfold rangeL at h
  rw [List.getElem?_map, List.getElem?_map, rangeSize1, List.getElem?_range hl] at h
  cases h
  exact ⟨congrArg V.int (by show (a : Int) + (i : Int) * 1 = _; lia), by lia⟩
theorem pow_small {n : Nat} (h : n ≤ 12) : ((2 : Int) ^ n ≠ 0) ∧ ((2 : Int) ^ n).natAbs < 2 ^ 29 := by
  refine ⟨Int.ne_of_gt (Int.pow_pos (by decide)), ?_⟩
  rw [Int.natAbs_pow]
  exact Nat.lt_of_le_of_lt (Nat.pow_le_pow_right (by decide) h) (by decide)
theorem ixL_nat (a n : Nat) : ixL (a : Int) n = min a n := by unfold ixL; rw [if_neg (by lia)]; lia
theorem sl_to {α : Type} (l : List α) (a : Nat) : sliceL l none (some (a : Int)) = l.take a := by
  unfold sliceL; dsimp only; rw [ixL_nat, List.drop_zero, Nat.sub_zero, List.take_eq_take_iff]; lia
theorem sl_from {α : Type} (l : List α) (a : Nat) : sliceL l (some (a : Int)) none = l.drop a := by
  unfold sliceL; dsimp only; rw [ixL_nat]
  by_cases h : a ≤ l.length
  · rw [Nat.min_eq_left h, List.take_of_length_le (by rw [List.length_drop]; exact Nat.le_refl _)]
  · rw [Nat.min_eq_right (by lia), List.drop_of_length_le (Nat.le_refl _), List.drop_of_length_le (by lia), List.take_nil]
theorem sok_le {l : List Nat} (h : ∀ c ∈ l, c < 0x110000) : sok l = true := List.all_eq_true.mpr fun c hc => decide_eq_true (h c hc)
theorem rangeL0 (n : Nat) : (rangeL 0 n 1).map V.int = (List.range n).map fun f => V.int (f : Nat) := by
  unfold rangeL
  rw [rangeSize1, List.map_map, show ((n : Int) - 0).toNat = n by lia]
  exact List.map_congr_left fun i _ => congrArg V.int (by show (0 : Int) + (i : Int) * 1 = _; lia)
theorem ixOf_nat {i n : Nat} (h : i < n) : ixOf (i : Int) n = some i := by unfold ixOf; rw [if_pos (by lia), if_pos (by lia)]; rfl
abbrev SIGN : List V → (V → Prop) → Prop := fun ds Q => ∃ (t : List Nat) (k c : Nat), ds = [.str t, .int k] ∧ t.length ≤ 1000000 ∧ (∀ x ∈ t, x < 128) ∧ t[k]? = some c ∧
  (c ≠ 92 → Q (.tuple [.str [c], .int ((k + 1 : Nat) : Int)])) ∧ (c = 92 → ∃ d, t[k + 1]? = some d ∧ Q (.tuple [.str (if d ∈ [45, 63] then [d] else []), .int ((k + 2 : Nat) : Int)]))
theorem sok1 {t : List Nat} (h : ∀ x ∈ t, x < 128) {k c : Nat} (hk : t[k]? = some c) : sok [c] = true := sok_le fun x hx => by rw [List.mem_singleton.mp hx]; exact Nat.lt_trans (h c (List.mem_of_getElem? hk)) (by decide)
theorem ixOf_get {α : Type} {l : List α} {k : Nat} {c : α} (h : l[k]? = some c) : ixOf (k : Int) l.length = some k := ixOf_nat (List.getElem?_eq_some_iff.mp h).1
def l_sign : List String := ["text", "at"]
theorem f_sign {C : Cx} {a : Addr} (O : Ok C (Nn l_sign noEc)) (D : FnD C a ([0, 1].map (nth l_sign)) (fnSc PW 38) (fnB PW 38)) : Fn C a 1 (SIGN) :=
  Fn.of_body (vn := Nn l_sign noEc) (kd := [(0, .local), (1, .local)]) (r := 0) (ps := [0, 1]) D
    (.cons (s_ifs (s_cmp (s_item (s_x O 0) (s_x O 1)) (s_str [92] (by decide +kernel))) (.cons (s_ret (s_tup (.cons (s_item (s_x O 0) (s_x O 1)) (.cons (s_bin (s_x O 1) s_int) .nil)) rfl))
    .nil) .nil)
    (.cons (s_ret (s_tup (.cons (s_if (s_cmp (s_item (s_x O 0) (s_bin (s_x O 1) s_int)) (s_str [45, 63] (by decide +kernel))) (s_item (s_x O 0) (s_bin (s_x O 1) s_int)) (s_str [] (by decide +kernel))) (.cons (s_bin (s_x O 1) s_int) .nil)) rfl))
    .nil))
    (by decide +kernel) (by decide +kernel) rfl (by decide) (fun _ _ _ _ _ => trivial) fun ds Q ⟨t, k, c, e, hz, h128, hk, h1, h2⟩ => by
      subst e
      refine ⟨rfl, ?_⟩
      conv => whnf
      refine ⟨hz, k, c, ixOf_get hk, hk, ?_⟩
      conv => whnf
      refine ⟨sok1 h128 hk, by decide, ?_⟩
      conv => whnf
      refine ⟨fun h => ?_, fun h => ?_⟩
      · have hc : c ≠ 92 := fun e => by subst e; cases h
        exact ⟨hz, k, c, ixOf_get hk, hk, h1 hc⟩
      · obtain rfl : c = 92 := by
          have : decide ([c] = [92]) = true := by revert h; cases decide ([c] = [92]) <;> intro h <;> first | rfl | cases h
          cases of_decide_eq_true this; rfl
        obtain ⟨d, hd, hQ⟩ := h2 rfl
        conv => whnf
        refine ⟨hz, k + 1, d, ixOf_get hd, hd, ?_⟩
        conv => whnf
        refine ⟨fun h => ?_, fun h => ?_⟩
        · have h : d ∈ [45, 63] := of_decide_eq_true h
          rw [if_pos h] at hQ
          exact ⟨hz, k + 1, d, ixOf_get hd, hd, hQ⟩
        · have h : ¬ d ∈ [45, 63] := of_decide_eq_false h
          rw [if_neg h] at hQ
          exact hQ
theorem getA {α : Type} (p : List α) (x : α) (r : List α) : (p ++ x :: r)[p.length]? = some x := by rw [List.getElem?_append_right (Nat.le_refl _), Nat.sub_self]; rfl
theorem sl2 {α : Type} (p : List α) (x y : α) (r : List α) : sliceL (p ++ x :: y :: r) (some (p.length : Int)) (some ((p.length : Int) + 2)) = [x, y] := by
  show List.take (ixL (((p.length + 2 : Nat)) : Int) _ - ixL (p.length : Int) _) (List.drop (ixL (p.length : Int) _) _) = _
  have e1 : min p.length (p ++ x :: y :: r).length = p.length := Nat.min_eq_left (by rw [List.length_append]; exact Nat.le_add_right _ _)
  have e2 : min (p.length + 2) (p ++ x :: y :: r).length = p.length + 2 := Nat.min_eq_left (by rw [List.length_append]; exact Nat.add_le_add_left (Nat.le_add_left 2 _) _)
  rw [ixL_nat, ixL_nat, e1, e2, List.drop_left, Nat.add_sub_cancel_left]; rfl
theorem flat1 {α : Type} (l : List α) : (l.map fun x => [x]).flatten = l := by induction l with | nil => rfl | cons x l ih => rw [List.map_cons, List.flatten_cons, ih]; rfl
theorem get_at {T pre r : List Nat} {x : Nat} (hT : T = pre ++ x :: r) (hz : T.length ≤ 1000000) {P : V → Prop} (h : P (.str [x])) : itemw (.str T) (.int pre.length) P := by
  have g : T[pre.length]? = some x := hT ▸ getA pre x r
  exact ⟨hz, pre.length, x, ixOf_get g, g, h⟩
theorem sokc {x : Nat} (h : x < 128) : sok [x] = true := sok_le fun c hc => List.mem_singleton.mp hc ▸ Nat.lt_trans h (by decide)
theorem nsg {x u : Nat} (h : x ≠ u) {Q : Prop} (e : decide ([x] = [u]) = true) : Q := absurd (of_decide_eq_true e) fun e => h (List.cons.inj e).1
theorem sumlen_append (a b : List (List Nat)) : ((a ++ b).map (·.length)).sum = (a.map (·.length)).sum + (b.map (·.length)).sum := by rw [List.map_append, List.sum_append_nat]
theorem sl_m3 (p : List Nat) (x y z : Nat) : sliceL (p ++ [x, y, z]) (some (-3)) none = [x, y, z] := by
  unfold sliceL
  dsimp only
  have e : ixL (-3) (p ++ [x, y, z]).length = p.length := by unfold ixL; rw [if_pos (by decide), List.length_append]; show (max 0 (min (-3 + ((p.length + 3 : Nat) : Int)) ((p.length + 3 : Nat) : Int))).toNat = _; lia
  rw [e, List.drop_left, List.length_append, Nat.add_sub_cancel_left]; rfl

def ecC (C : Cx) (env : Env) : Prop := env.code = .ref C.c
/-! # escape, _translate -/
abbrev ESC : List V → (V → Prop) → Prop := fun ds Q => ∃ x, ds = [.str [x]] ∧ x < 128 ∧ Q (.str (escL x))
def l_esc : List String := ["pattern", "isinstance", "str", "_special_chars_map"]
def k_esc : Kd := [(0, .local), (1, .globalImplicit), (2, .globalImplicit), (3, .globalImplicit)]
def X_esc : Xp := (x_sq (x_if (pw (w_isS (pw (w_x 0)))) (x_sq (x_ret (pw (w_tr (pw (w_x 0))))) x_nil) (x_sq x_any (x_sq x_any x_nil))) x_nil)
theorem sl_esc {C : Cx} (hmap : SpMap C "_special_chars_map") (O : Ok C (Nn l_esc noEc)) : SL C (Nn l_esc noEc) 0 k_esc (fnB PW 6) X_esc :=
    (.cons (s_ifs (s_isS O (n := 1) (m := 2) rfl rfl rfl rfl (s_x O 0)) (.cons (s_ret (s_tr O (m := 3) hmap rfl (s_x O 0) rfl rfl))
    .nil) (.cons s_any
    (.cons s_any
    .nil)))
    .nil)
theorem f_esc {C : Cx} {a : Addr} (hmap : SpMap C "_special_chars_map") (O : Ok C (Nn l_esc noEc)) (D : FnD C a ([0].map (nth l_esc)) (fnSc PW 6) (fnB PW 6)) : Fn C a 1 ESC :=
  Fn.of_body (vn := Nn l_esc noEc) (ps := [0]) D (sl_esc hmap O) (by decide +kernel) (by decide +kernel) rfl (by decide) (fun _ _ _ _ _ => trivial) fun ds Q ⟨x, e, h, hQ⟩ => by
    subst e
    exact ⟨rfl, fun _ => ⟨x, rfl, h, hQ⟩, fun h => (nomatch h)⟩
def l_tr : List String := ["pat", "STAR", "QUESTION_MARK", "res", "add", "i", "n", "len", "c", "j", "stuff", "chunks", "k", "chunk", "range", "_twin_re_1", "escape"]
def k_tr : Kd := [(0, .local), (1, .local), (2, .local), (3, .local), (4, .local), (5, .local), (6, .local), (7, .globalImplicit), (8, .local), (9, .local), (10, .local), (11, .local), (12, .local), (13, .local), (14, .globalImplicit), (15, .globalImplicit), (16, .globalImplicit)]
def X_tr_1 : Xp := (x_sq (x_asg 9 (pw (w_bin .Add (pw (w_x 9)) (pw (w_c (.int 1)))))) x_nil)
def X_tr_2 : Xp := (x_sq (x_asg 12 (pw (w_find 45 (pw (w_x 0)) (pw (w_x 12)) (pw (w_x 9))))) (x_sq (x_if (w_cmp .Lt (pw (w_x 12)) (pw (w_c (.int 0)))) (x_sq x_brk x_nil) x_nil) (x_sq x_any (x_sq x_any (x_sq x_any x_nil)))))
def X_tr_3 : Xp := (x_sq x_any x_nil)
def X_tr_4 : Xp := (x_sq (x_for [12] true (w_r3 (pw (w_bin .Sub (pw (w_len (pw (w_x 11)))) (pw (w_c (.int 1))))) (pw (w_c (.int 0))) (pw (w_un .USub (pw (w_c (.int 1)))))) X_tr_3 x_nil) (x_frz 11 (x_sq (x_asg 10 (pw (w_gj (pw (w_x 11))))) x_nil)))
def X_tr_5 : Xp := (x_sq (x_asg 13 (pw (w_sl (pw (w_x 0)) ((pw (w_x 5)) false) ((pw (w_x 9)) false)))) (x_sq (x_if (pw (w_x 13)) (x_sq (x_app 11 (pw (w_x 13))) x_nil) (x_sq x_any x_nil)) X_tr_4))
def X_tr_6 : Xp := (x_sq (x_asgL 11 []) (x_sq (x_asg 12 (w_if (w_cmp .Eq (pw (w_item (pw (w_x 0)) (pw (w_x 5)))) (pw (w_c (.str [33])))) (pw (w_bin .Add (pw (w_x 5)) (pw (w_c (.int 2))))) (pw (w_bin .Add (pw (w_x 5)) (pw (w_c (.int 1))))))) (x_sq (x_while (pw (w_c (.bool true))) X_tr_2) X_tr_5)))
def X_tr_7 : Xp := (x_sq (x_asg 10 (pw (w_sub (pw (w_x 10))))) (x_sq (x_asg 5 (pw (w_bin .Add (pw (w_x 9)) (pw (w_c (.int 1)))))) (x_sq (x_if (w_not (pw (w_x 10))) (x_sq x_any x_nil) (x_sq (x_if (w_cmp .Eq (pw (w_x 10)) (pw (w_c (.str [33])))) (x_sq x_any x_nil) (x_sq (x_if (w_cmp .Eq (pw (w_item (pw (w_x 10)) (pw (w_c (.int 0))))) (pw (w_c (.str [33])))) (x_sq x_any x_nil) (x_sq (x_if (w_cmp .In (pw (w_item (pw (w_x 10)) (pw (w_c (.int 0))))) (pw (w_tup [(pw (w_c (.str [94]))), (pw (w_c (.str [91])))]))) (x_sq x_any x_nil) x_nil) x_nil)) (x_sq (x_add 4 (pw (w_fs [91] [93] (pw (w_x 10))))) x_nil))) x_nil)) x_nil)))
def X_tr_8 : Xp := (x_sq (x_asg 10 (pw (w_sl (pw (w_x 0)) ((pw (w_x 5)) false) ((pw (w_x 9)) false)))) (x_mid (x_if (w_cmp .NotIn (pw (w_c (.str [45]))) (pw (w_x 10))) (x_sq (x_asg 10 (pw (w_repl 92 (pw (w_x 10))))) x_nil) X_tr_6) (x_keep [0, 1, 2, 3, 4, 6, 9, 10] X_tr_7)))
def X_tr_9 : Xp := (x_sq (x_asg 9 (pw (w_x 5))) (x_sq (x_if (w_bool true [(w_cmp .Lt (pw (w_x 9)) (pw (w_x 6))), (w_cmp .Eq (pw (w_item (pw (w_x 0)) (pw (w_x 9)))) (pw (w_c (.str [33]))))]) (x_sq x_any x_nil) x_nil) (x_sq (x_if (w_bool true [(w_cmp .Lt (pw (w_x 9)) (pw (w_x 6))), (w_cmp .Eq (pw (w_item (pw (w_x 0)) (pw (w_x 9)))) (pw (w_c (.str [93]))))]) (x_sq x_any x_nil) x_nil) (x_sq (x_while (w_bool true [(w_cmp .Lt (pw (w_x 9)) (pw (w_x 6))), (w_cmp .NotEq (pw (w_item (pw (w_x 0)) (pw (w_x 9)))) (pw (w_c (.str [93]))))]) X_tr_1) (x_sq (x_if (w_cmp .GtE (pw (w_x 9)) (pw (w_x 6))) (x_sq x_any x_nil) X_tr_8) x_nil)))))
def X_tr_10 : Xp := (x_sq (x_asg 8 (pw (w_item (pw (w_x 0)) (pw (w_x 5))))) (x_sq (x_asg 5 (pw (w_bin .Add (pw (w_x 5)) (pw (w_c (.int 1)))))) (x_sq (x_if (w_cmp .Eq (pw (w_x 8)) (pw (w_c (.str [42])))) (x_sq (x_if (w_bool false [(w_not (pw (w_x 3))), (w_cmp .IsNot (pw (w_item (pw (w_x 3)) (pw (w_un .USub (pw (w_c (.int 1))))))) (pw (w_x 1)))]) (x_sq (x_add 4 (pw (w_x 1))) x_nil) x_nil) x_nil) (x_sq (x_if (w_cmp .Eq (pw (w_x 8)) (pw (w_c (.str [63])))) (x_sq (x_add 4 (pw (w_x 2))) x_nil) (x_sq (x_if (w_cmp .Eq (pw (w_x 8)) (pw (w_c (.str [91])))) X_tr_9 (x_sq (x_add 4 (pw (w_call ESC [(pw (w_x 8))]))) x_nil)) x_nil)) x_nil)) (x_keep [0, 1, 2, 3, 4, 5, 6] x_nil))))
def X_tr : Xp := (x_sq (x_asgL 3 []) (x_sq (x_alias 4 3) (x_sq (x_two 5 6 (pw (w_c (.int 0))) (pw (w_len (pw (w_x 0))))) (x_sq (x_while (w_cmp .Lt (pw (w_x 5)) (pw (w_x 6))) X_tr_10) (x_sq (x_asrt (w_cmp .Eq (pw (w_x 5)) (pw (w_x 6)))) (x_frz 3 (x_sq (x_ret (pw (w_x 3))) x_nil)))))))
theorem sl_tr {C : Cx} (hf_escape : FnAt C "escape" 1 ESC) (hpat : SpPat C "_twin_re_1") (O : Ok C (Nn l_tr (ecC C))) : SL C (Nn l_tr (ecC C)) 1 k_tr (fnB PW 8) X_tr :=
    (.cons (s_asgL 3 .nil rfl rfl)
    (.cons (s_alias O 4 3 rfl)
    (.cons (s_two 5 6 s_int (s_len O (n := 7) rfl rfl (s_x O 0)) rfl rfl rfl (by show nth _ _ ≠ nth _ _; decide +kernel) rfl rfl)
    (.cons (s_while (s_cmp (s_x O 5) (s_x O 6)) (.cons (s_asg 8 (s_item (s_x O 0) (s_x O 5)) rfl rfl)
    (.cons (s_asg 5 (s_bin (s_x O 5) s_int) rfl rfl)
    (.cons (s_ifs (s_cmp (s_x O 8) (s_str [42] (by decide +kernel))) (.cons (s_ifs (s_or (.cons (s_not (s_x O 3)) (.cons (s_cmp (s_item (s_x O 3) (s_neg s_int)) (s_x O 1)) .nil))) (.cons (s_add O 4 (s_x O 1))
    .nil) .nil)
    .nil) (.cons (s_ifs (s_cmp (s_x O 8) (s_str [63] (by decide +kernel))) (.cons (s_add O 4 (s_x O 2))
    .nil) (.cons (s_ifs (s_cmp (s_x O 8) (s_str [91] (by decide +kernel))) (.cons (s_asg 9 (s_x O 5) rfl rfl)
    (.cons (s_ifs (s_and (.cons (s_cmp (s_x O 9) (s_x O 6)) (.cons (s_cmp (s_item (s_x O 0) (s_x O 9)) (s_str [33] (by decide +kernel))) .nil))) (.cons s_any
    .nil) .nil)
    (.cons (s_ifs (s_and (.cons (s_cmp (s_x O 9) (s_x O 6)) (.cons (s_cmp (s_item (s_x O 0) (s_x O 9)) (s_str [93] (by decide +kernel))) .nil))) (.cons s_any
    .nil) .nil)
    (.cons (s_while (s_and (.cons (s_cmp (s_x O 9) (s_x O 6)) (.cons (s_cmp (s_item (s_x O 0) (s_x O 9)) (s_str [93] (by decide +kernel))) .nil))) (.cons (s_asg 9 (s_bin (s_x O 9) s_int) rfl rfl)
    .nil))
    (.cons (s_ifs (s_cmp (s_x O 9) (s_x O 6)) (.cons s_any
    .nil) (.cons (s_asg 10 (s_sl (s_x O 0) (s_at (s_x O 5)) (s_at (s_x O 9))) rfl rfl)
    (.mid (s_ifs (s_cmp (s_str [45] (by decide +kernel)) (s_x O 10)) (.cons (s_asg 10 (s_repl 92 [92, 92] (by decide +kernel) (by decide +kernel) (s_x O 10) rfl rfl) rfl rfl)
    .nil) (.cons (s_asgL 11 .nil rfl rfl)
    (.cons (s_asg 12 (s_if (s_cmp (s_item (s_x O 0) (s_x O 5)) (s_str [33] (by decide +kernel))) (s_bin (s_x O 5) s_int) (s_bin (s_x O 5) s_int)) rfl rfl)
    (.cons (s_while s_bool (.cons (s_asg 12 (s_find 45 (by decide +kernel) (s_x O 0) (s_x O 12) (s_x O 9) rfl rfl) rfl rfl)
    (.cons (s_ifs (s_cmp (s_x O 12) s_int) (.cons s_brk
    .nil) .nil)
    (.cons s_any
    (.cons s_any
    (.cons s_any
    .nil))))))
    (.cons (s_asg 13 (s_sl (s_x O 0) (s_at (s_x O 5)) (s_at (s_x O 9))) rfl rfl)
    (.cons (s_ifs (s_x O 13) (.cons (s_app O 11 (s_x O 13) rfl)
    .nil) (.cons s_any
    .nil))
    (.cons (s_for [12] (s_r3 O (n := 14) rfl rfl (s_bin (s_len O (n := 7) rfl rfl (s_x O 11)) s_int) s_int (s_neg s_int)) (.one rfl) (.cons s_any
    .nil) .nil)
    (.frz 11 (.cons (s_asg 10 (s_gj (fun _ h => h) (s_x O 11) (by decide +kernel) (by decide +kernel) (by decide +kernel) (by decide +kernel) (by decide +kernel) rfl rfl (by decide +kernel) (by decide +kernel) rfl fun _ _ => rfl) rfl rfl)
    .nil)))))))))
    (.keep [0, 1, 2, 3, 4, 6, 9, 10] (.cons (s_asg 10 (s_sub O (m := 15) hpat (fun _ h => h) rfl (s_x O 10) rfl (fun _ => rfl) (by decide +kernel)) rfl rfl)
    (.cons (s_asg 5 (s_bin (s_x O 9) s_int) rfl rfl)
    (.cons (s_ifs (s_not (s_x O 10)) (.cons s_any
    .nil) (.cons (s_ifs (s_cmp (s_x O 10) (s_str [33] (by decide +kernel))) (.cons s_any
    .nil) (.cons (s_ifs (s_cmp (s_item (s_x O 10) s_int) (s_str [33] (by decide +kernel))) (.cons s_any
    .nil) (.cons (s_ifs (s_cmp (s_item (s_x O 10) s_int) (s_tup (.cons (s_str [94] (by decide +kernel)) (.cons (s_str [91] (by decide +kernel)) .nil)) rfl)) (.cons s_any
    .nil) .nil)
    .nil))
    (.cons (s_add O 4 (s_fs [91] [93] (by decide +kernel) (by decide +kernel) rfl rfl (s_x O 10)))
    .nil)))
    .nil))
    .nil)))))))
    .nil))))) (.cons (s_add O 4 (s_call O 16 hf_escape rfl (.cons (s_x O 8) .nil)))
    .nil))
    .nil))
    .nil))
    (.keep [0, 1, 2, 3, 4, 5, 6] .nil)))))
    (.cons (s_asrt (s_cmp (s_x O 5) (s_x O 6)))
    (.frz 3 (.cons (s_ret (s_x O 3))
    .nil)))))))
/-! # _translate, turn by turn -/
def trσ (P : List Nat) (a : Addr) (res : List V) (i : Nat) : St := [(0, .val (.str P)), (1, .val (.raw (.ref a))), (2, .val (.str [46])), (3, .own res), (4, .app 3), (6, .val (.int P.length)), (5, .val (.int i))]
def σ7 (P : List Nat) (a : Addr) (res : List V) (j : Nat) (s : List Nat) : St := [(0, .val (.str P)), (1, .val (.raw (.ref a))), (2, .val (.str [46])), (3, .own res), (4, .app 3), (6, .val (.int P.length)), (9, .val (.int j)), (10, .val (.str s))]
def σ8 (P : List Nat) (a : Addr) (res : List V) (i j : Nat) : St := [(0, .val (.str P)), (1, .val (.raw (.ref a))), (2, .val (.str [46])), (3, .own res), (4, .app 3), (6, .val (.int P.length)), (5, .val (.int i)), (8, .val (.str [91])), (9, .val (.int j))]
section
variable {P pre r : List Nat} {x y : Nat} {a : Addr} {res : List V} {K : Kt}
theorem tr_c (hx : x < 128) (n1 : x ≠ 42) (n2 : x ≠ 63) (n3 : x ≠ 91) (hT : P = pre ++ x :: r) (hz : P.length ≤ 1000000) (hl : res.length ≤ 1000000) (hK : K .next (trσ P a (res ++ [.str (escL x)]) (pre.length + 1))) : X_tr_10 (trσ P a res pre.length) K :=
  get_at hT hz ⟨sokc hx, rfl, nsg n1, fun _ => ⟨sokc hx, rfl, nsg n2, fun _ => ⟨sokc hx, rfl, nsg n3, fun _ => ⟨hl, x, rfl, hx, hK⟩⟩⟩⟩
theorem tr_q (hT : P = pre ++ 63 :: r) (hz : P.length ≤ 1000000) (hl : res.length ≤ 1000000) (hK : K .next (trσ P a (res ++ [.str [46]]) (pre.length + 1))) : X_tr_10 (trσ P a res pre.length) K :=
  get_at hT hz ⟨rfl, rfl, fun h => (nomatch h), fun _ => ⟨rfl, rfl, fun _ => ⟨hl, hK⟩, fun h => (nomatch h)⟩⟩
theorem tr_st (hT : P = pre ++ 42 :: r) (hz : P.length ≤ 1000000) (hl : res.length ≤ 1000000) (hres : ∀ d, res[res.length - 1]? = some d → ∃ l, d = .str l) (hK : K .next (trσ P a (res ++ [.raw (.ref a)]) (pre.length + 1))) : X_tr_10 (trσ P a res pre.length) K := by
  refine get_at hT hz ⟨rfl, rfl, fun _ => ⟨hl, ?_⟩, fun h => (nomatch h)⟩
  cases hr : res with
  | nil => subst hr; exact ⟨fun h => (nomatch h), fun _ => ⟨fun _ => ⟨hl, hK⟩, fun h => (nomatch h)⟩⟩
  | cons d ds =>
    rw [← hr]
    have hne : 0 < res.length := by rw [hr]; exact Nat.succ_pos _
    obtain ⟨l, hlast⟩ : ∃ l, res[res.length - 1]? = some (.str l) := by
      have h : res.length - 1 < res.length := Nat.sub_lt hne Nat.zero_lt_one
      obtain ⟨l, e⟩ := hres _ (List.getElem?_eq_getElem h)
      exact ⟨l, (List.getElem?_eq_getElem h).trans (congrArg some e)⟩
    have hix : ixOf (-1) res.length = some (res.length - 1) := by unfold ixOf; rw [if_neg (by decide), if_pos (by lia)]; exact congrArg some (by lia)
    have he : (!res.isEmpty) = true := by rw [hr]; rfl
    refine ⟨fun _ => ⟨hl, res.length - 1, .str l, hix, hlast, fun _ => ⟨hl, hK⟩, fun h => (nomatch h)⟩, fun h => absurd ?_ h⟩
    show (!(!res.isEmpty)) = false
    rw [he]; rfl

/-- the brackets' inside, made ready, goes out -/
theorem tr_7 {j h : Nat} {s t : List Nat} (hs : s = h :: t) (n1 : h ≠ 33) (n2 : h ≠ 94) (n3 : h ≠ 91) (hz : s.length ≤ 1000) (h128 : ∀ c ∈ s, c < 128) (hamp : s.all noAmp = true) (hl : res.length ≤ 1000000)
    (hK : ∀ σ, keepv σ [0, 1, 2, 3, 4, 5, 6] = trσ P a (res ++ [.str ([91] ++ s ++ [93])]) (j + 1) → K .next σ) : X_tr_7 (σ7 P a res j s) K := by
  subst hs
  have hz' : (h :: t).length ≤ 1000000 := Nat.le_trans hz (by decide)
  have hsk : sok (h :: t) = true := sok_le fun c hc => Nat.lt_trans (h128 c hc) (by decide)
  have h1 : h < 128 := h128 h (.head _)
  have hix : ixOf 0 (h :: t).length = some 0 := ixOf_get (k := 0) (l := h :: t) (c := h) rfl
  have nt : ([V.str [94], .str [91]].any fun y => veq y (.str [h])) = false := by
    rw [List.any_cons, List.any_cons, List.any_nil, eqv_str, eqv_str, decide_eq_false (fun e => n2 (List.cons.inj e).1.symm), decide_eq_false (fun e => n3 (List.cons.inj e).1.symm)]; rfl
  refine ⟨hz', hamp, hz', fun h => (nomatch h), fun _ => ⟨hsk, rfl, fun e => absurd (List.cons.inj (of_decide_eq_true e)).1 n1, fun _ => ⟨hz', 0, h, hix, rfl, sokc h1, rfl, nsg n1, fun _ => ⟨hz', 0, h, hix, rfl, sokc h1, rfl, ?_⟩⟩⟩⟩
  rw [nt]
  exact ⟨fun h => (nomatch h), fun _ => ⟨hl, hz', hK _ rfl⟩⟩
end
/-! ## the brackets -/
def gd (c : Nat) : Prop := c < 128 ∧ c ≠ 92 ∧ c ≠ 93 ∧ noAmp c = true
/-- brackets with a hyphen in front at most -/
structure BOk (L : List Nat) (h : Nat) (t : List Nat) : Prop where
  eq : L = h :: t
  n1 : h ≠ 33
  n2 : h ≠ 94
  n3 : h ≠ 91
  n45 : 45 ∉ t
  len : L.length ≤ 50
  gd : ∀ c ∈ L, gd c
def esL (l : List Nat) : List Nat := replw 45 [92, 45] l
theorem esL_cons (c : Nat) (l : List Nat) : esL (c :: l) = (if c = 45 then [92, 45] else [c]) ++ esL l := rfl
theorem esL_mem {l : List Nat} {c : Nat} (h : c ∈ esL l) : c ∈ l ∨ c = 92 ∨ c = 45 := by
  obtain ⟨d, hd, hc⟩ := List.mem_flatMap.mp h
  split at hc
  · rcases List.mem_cons.mp hc with rfl | hc
    · exact .inr (.inl rfl)
    · exact .inr (.inr (List.mem_singleton.mp hc))
  · exact .inl (List.mem_singleton.mp hc ▸ hd)
section
variable {P pre r L t : List Nat} {h : Nat} {a : Addr} {res : List V} {K : Kt}
theorem at_L (hT : P = pre ++ (L ++ 93 :: r)) (t : Nat) (h : t < L.length) : P[pre.length + t]? = L[t]? := by
  rw [hT, List.getElem?_append_right (Nat.le_add_right _ _), Nat.add_sub_cancel_left, List.getElem?_append_left h]
theorem at_end (hT : P = pre ++ (L ++ 93 :: r)) : P[pre.length + L.length]? = some 93 := by
  rw [hT, List.getElem?_append_right (Nat.le_add_right _ _), Nat.add_sub_cancel_left]; exact getA L 93 r
theorem sl_L (hT : P = pre ++ (L ++ 93 :: r)) : sliceL P (some ((pre.length : Nat) : Int)) (some ((pre.length + L.length : Nat) : Int)) = L := by
  have hl : P.length = pre.length + (L.length + (r.length + 1)) := by rw [hT, List.length_append, List.length_append, List.length_cons]
  unfold sliceL
  dsimp only
  rw [ixL_nat, ixL_nat, hl, Nat.min_eq_left (Nat.le_add_right _ _), Nat.min_eq_left (Nat.add_le_add_left (Nat.le_add_right _ _) _), Nat.add_sub_cancel_left, hT, List.drop_left, List.take_left]
theorem tr_4 {i j : Nat} {st ch : List Nat} (B : BOk L h t) (hK : ∀ σ, keepv σ [0, 1, 2, 3, 4, 6, 9, 10] = σ7 P a res j (esL L) → K .next σ) :
    X_tr_4 (σ8 P a res i j ++ [(10, .val (.str st)), (11, .own [.str L]), (12, .val (.int (-1))), (13, .val (.str ch))]) K := by
  refine ⟨by show 1 ≤ 1000000; decide, by decide, by show Int.natAbs (1 - 1) < 2 ^ 28; decide, by decide, by decide, by show (rangeL ((1 : Int) - 1) 0 (-1)).length ≤ 1000000; decide, fun _ σ => σ = σ8 P a res i j ++ [(10, .val (.str st)), (11, .own [.str L]), (12, .val (.int (-1))), (13, .val (.str ch))], rfl, fun k d σ hd => (nomatch hd), ?_⟩
  rintro σ rfl
  refine ⟨[L], rfl, by show 1 ≤ 100; decide, fun x hx => ?_, hK _ rfl⟩
  rw [List.mem_singleton.mp hx]
  exact ⟨Nat.le_trans B.len (by decide), fun e => (B.gd 92 e).2.1 rfl⟩
theorem find_none {c i j : Nat} (h : ∀ k, i ≤ k → k < j → P[k]? ≠ some c) : findi c P i j = -1 := by
  unfold findi findw
  rw [List.find?_eq_none.mpr fun k hk e => ?_]
  obtain ⟨h1, h2⟩ := List.mem_range'_1.mp hk
  exact h k h1 (by lia) (eq_of_beq e)
theorem tr_6 (hT : P = pre ++ (L ++ 93 :: r)) (hz : P.length ≤ 1000000) (B : BOk L h t) (hK : ∀ σ, keepv σ [0, 1, 2, 3, 4, 6, 9, 10] = σ7 P a res (pre.length + L.length) (esL L) → K .next σ) :
    X_tr_6 (σ8 P a res pre.length (pre.length + L.length) ++ [(10, .val (.str L))]) K := by
  have hpl : pre.length + L.length + 1 ≤ P.length := by rw [hT, List.length_append, List.length_append, List.length_cons]; lia
  have hT' : P = pre ++ h :: (t ++ 93 :: r) := by rw [hT, B.eq]; rfl
  have hL0 : L.length = t.length + 1 := by rw [B.eq]; rfl
  have hg := B.gd h (B.eq ▸ .head _)
  refine ⟨rfl, get_at hT' hz ⟨sokc hg.1, rfl, nsg B.n1, fun _ => ?_⟩⟩
  refine ⟨fun m σ => σ = σ8 P a res pre.length (pre.length + L.length) ++ [(10, .val (.str L)), (11, .own []), (12, .val (.int ((pre.length + 1 : Nat) : Int)))], ⟨0, rfl⟩, ?_⟩
  rintro n σ rfl
  refine ⟨fun _ => ⟨Int.natCast_nonneg _, Int.natCast_nonneg _, Int.ofNat_le.mpr (Nat.le_of_succ_le hpl), ?_⟩, fun h => (nomatch h)⟩
  rw [Int.toNat_natCast, Int.toNat_natCast, find_none fun k h1 h2 e => ?_]
  · refine ⟨fun _ => ⟨by lia, by lia, hz, ?_⟩, fun h => (nomatch h)⟩
    rw [sl_L hT]
    have hne : (!L.isEmpty) = true := by rw [B.eq]; rfl
    refine ⟨Nat.le_trans B.len (by decide), ?_⟩
    rw [hne]
    exact ⟨fun _ => ⟨by decide, tr_4 B hK⟩, fun h => (nomatch h)⟩
  · obtain ⟨d, rfl⟩ := Nat.exists_eq_add_of_le h1
    rw [show pre.length + 1 + d = pre.length + (d + 1) by lia, at_L hT _ (by lia), B.eq, List.getElem?_cons_succ] at e
    exact B.n45 (List.mem_of_getElem? e)
theorem tr_8 (hT : P = pre ++ (L ++ 93 :: r)) (hz : P.length ≤ 1000000) (B : BOk L h t) (hl : res.length ≤ 1000000)
    (hK : ∀ σ, keepv σ [0, 1, 2, 3, 4, 5, 6] = trσ P a (res ++ [.str ([91] ++ esL L ++ [93])]) (pre.length + L.length + 1) → K .next σ) :
    X_tr_8 (σ8 P a res pre.length (pre.length + L.length)) K := by
  have hPl : pre.length + L.length + 1 + r.length = P.length := by rw [hT, List.length_append, List.length_append, List.length_cons]; lia
  refine ⟨by lia, by lia, hz, ?_⟩
  rw [sl_L hT]
  refine ⟨fun σ => keepv σ [0, 1, 2, 3, 4, 6, 9, 10] = σ7 P a res (pre.length + L.length) (esL L), ⟨fun h => ?_, fun _ => tr_6 hT hz B fun σ h => h⟩, fun σ eσ => ?_⟩
  · have h : ¬ 45 ∈ L := fun e => by
      have h : (!decide (45 ∈ L)) = true := h
      rw [decide_eq_true e] at h; cases h
    refine ⟨fun e => (B.gd 92 e).2.1 rfl, ?_⟩
    rw [show esL L = L from replw_free h]; rfl
  · show X_tr_7 (keepv σ [0, 1, 2, 3, 4, 6, 9, 10]) K
    rw [eσ]
    have hm : ∀ c ∈ esL L, c < 128 ∧ noAmp c = true := fun c hc => by
      rcases esL_mem hc with hc | rfl | rfl
      · exact ⟨(B.gd c hc).1, (B.gd c hc).2.2.2⟩
      · exact ⟨by decide, rfl⟩
      · exact ⟨by decide, rfl⟩
    have hzl := replw_len (z := [92, 45]) 45 (by decide) (by decide) L
    have hl5 := B.len
    have go : ∀ u s, esL L = u :: s → u ≠ 33 → u ≠ 94 → u ≠ 91 → X_tr_7 (σ7 P a res (pre.length + L.length) (esL L)) K := fun u s e n1 n2 n3 =>
      tr_7 e n1 n2 n3 (by show (replw 45 [92, 45] L).length ≤ _; lia) (fun c hc => (hm c hc).1) (List.all_eq_true.mpr fun c hc => (hm c hc).2) hl hK
    by_cases h45 : h = 45
    · exact go 92 (45 :: esL t) (by rw [B.eq, esL_cons, if_pos h45]; rfl) (by decide) (by decide) (by decide)
    · exact go h (esL t) (by rw [B.eq, esL_cons, if_neg h45]; rfl) B.n1 B.n2 B.n3
theorem tr_chk {i k x c : Nat} {b t : Xp} (hx : P[k]? = some x) (hz : P.length ≤ 1000000) (h1 : x < 128) (h2 : c < 128) (hne : x ≠ c) (hK : t (σ8 P a res i k) K) :
    x_sq (x_if (w_bool true [(w_cmp .Lt (pw (w_x 9)) (pw (w_x 6))), (w_cmp .Eq (pw (w_item (pw (w_x 0)) (pw (w_x 9)))) (pw (w_c (.str [c]))))]) b x_nil) t (σ8 P a res i k) K := by
  have hk := (List.getElem?_eq_some_iff.mp hx).1
  exact ⟨fun _ => ⟨hz, k, x, ixOf_get hx, hx, sokc h1, sokc h2, nsg hne, fun _ => hK⟩, fun h => absurd (decide_eq_true (Int.ofNat_lt.mpr hk)) h⟩
theorem tr_9 (hT : P = pre ++ (L ++ 93 :: r)) (hz : P.length ≤ 1000000) (B : BOk L h t) (hl : res.length ≤ 1000000)
    (hK : ∀ σ, keepv σ [0, 1, 2, 3, 4, 5, 6] = trσ P a (res ++ [.str ([91] ++ esL L ++ [93])]) (pre.length + L.length + 1) → K .next σ) :
    X_tr_9 (trσ P a res pre.length ++ [(8, .val (.str [91]))]) K := by
  have hPl : pre.length + L.length + 1 + r.length = P.length := by rw [hT, List.length_append, List.length_append, List.length_cons]; lia
  have g0 : P[pre.length]? = some h := by rw [hT, B.eq]; exact getA pre h _
  have hcg := B.gd h (B.eq ▸ .head _)
  refine tr_chk g0 hz hcg.1 (by decide) B.n1 (tr_chk g0 hz hcg.1 (by decide) hcg.2.2.1 ?_)
  refine ⟨fun m σ => ∃ d, d ≤ L.length ∧ σ = σ8 P a res pre.length (pre.length + d) ∧ m = L.length - d, ⟨_, 0, Nat.zero_le _, rfl, rfl⟩, ?_⟩
  rintro n σ ⟨d, hd, rfl, rfl⟩
  have hlt : ∀ {Q : Prop}, ¬ decide (((pre.length + d : Nat) : Int) < (P.length : Int)) = true → Q := fun h => absurd (decide_eq_true (Int.ofNat_lt.mpr (by lia))) h
  by_cases hdl : d < L.length
  · have hx := List.getElem?_eq_getElem hdl
    have gx := (at_L hT d hdl).trans hx
    have hxg := B.gd L[d] (List.getElem_mem hdl)
    have hne : decide ([L[d]] = [93]) = false := decide_eq_false fun e => hxg.2.2.1 (List.cons.inj e).1
    refine ⟨fun _ => ⟨hz, _, L[d], ixOf_get gx, gx, sokc hxg.1, rfl, fun _ => ⟨L.length - (d + 1), by lia, d + 1, by lia, rfl, rfl⟩, fun h => ?_⟩, fun h => hlt h⟩
    have h : (!decide ([L[d]] = [93])) = false := h
    rw [hne] at h; cases h
  · have hde : d = L.length := by lia
    subst hde
    refine ⟨fun _ => ⟨hz, _, 93, ixOf_get (at_end hT), at_end hT, rfl, rfl, fun h => (nomatch h), fun _ => ?_⟩, fun h => hlt h⟩
    exact ⟨fun h => absurd (of_decide_eq_true h) (Int.not_le.mpr (Int.ofNat_lt.mpr (by lia))), fun _ => tr_8 hT hz B hl hK⟩
theorem tr_b {pre : List Nat} (hT : P = pre ++ 91 :: (L ++ 93 :: r)) (hz : P.length ≤ 1000000) (B : BOk L h t) (hl : res.length ≤ 1000000) (hK : K .next (trσ P a (res ++ [.str ([91] ++ esL L ++ [93])]) (pre.length + (L.length + 2)))) : X_tr_10 (trσ P a res pre.length) K := by
  have hT2 : P = (pre ++ [91]) ++ (L ++ 93 :: r) := hT.trans (by rw [List.append_assoc]; rfl)
  refine get_at hT hz ⟨rfl, rfl, fun h => (nomatch h), fun _ => ⟨rfl, rfl, fun h => (nomatch h), fun _ => ⟨rfl, rfl, fun _ => ?_, fun h => (nomatch h)⟩⟩⟩
  have := tr_9 (K := sq x_nil (sq x_nil (sq (x_keep [0, 1, 2, 3, 4, 5, 6] x_nil) K))) (a := a) hT2 hz B hl fun σ h => by
    show K .next (keepv σ _)
    rw [h, List.length_append, List.length_singleton, show pre.length + 1 + L.length + 1 = pre.length + (L.length + 2) by lia]
    exact hK
  rw [List.length_append] at this
  exact this
end
/-! # _translate whole -/
inductive It where
  | q
  | c (x : Nat)
  | b (L : List Nat)
  | st
def It.txt : It → List Nat
  | .q => [63]
  | .c x => [x]
  | .b l => 91 :: (l ++ [93])
  | .st => [42]
def txts (ps : List It) : List Nat := (ps.map It.txt).flatten
def It.ok : It → Prop
  | .q => True
  | .c x => x < 128 ∧ x ≠ 42 ∧ x ≠ 63 ∧ x ≠ 91
  | .b l => ∃ h t, BOk l h t
  | .st => True
def It.out : It → List Nat
  | .q => [46]
  | .c x => escL x
  | .b l => [91] ++ esL l ++ [93]
  | .st => []
def It.tro (y : Addr) : It → V
  | .st => .raw (.ref y)
  | p => .str p.out
/-- no two stars side by side -/
def apart (ps : List It) : Prop := ∀ k, ps[k]? = some .st → ps[k + 1]? ≠ some .st
abbrev TRANS : List V → (V → Prop) → Prop := fun ds Q => ∃ (ps : List It) (y : Addr), ds = [.str (txts ps), .raw (.ref y), .str [46]] ∧ (∀ p ∈ ps, p.ok) ∧ apart ps ∧ ps.length ≤ 1000 ∧ (txts ps).length ≤ 1000000 ∧ Q (.list (ps.map (It.tro y)))
theorem txts_append (a b : List It) : txts (a ++ b) = txts a ++ txts b := by unfold txts; rw [List.map_append, List.flatten_append]
theorem txt_ne (p : It) : 0 < p.txt.length := by cases p <;> exact Nat.succ_pos _
theorem tr_turn {P : List Nat} {pre rest : List Nat} {p : It} {y : Addr} {done : List It} {K : Kt} (hT : P = pre ++ (p.txt ++ rest)) (hz : P.length ≤ 1000000) (hp : p.ok) (hd : p = .st → ∀ q, done[done.length - 1]? = some q → q ≠ .st) (hl : done.length ≤ 1000)
    (hK : K .next (trσ P y ((done ++ [p]).map (It.tro y)) (pre ++ p.txt).length)) : X_tr_10 (trσ P y (done.map (It.tro y)) pre.length) K := by
  have hl : (done.map (It.tro y)).length ≤ 1000000 := by rw [List.length_map]; lia
  rw [List.map_append, List.length_append] at hK
  cases p with
  | q => exact tr_q hT hz hl hK
  | c x => exact tr_c hp.1 hp.2.1 hp.2.2.1 hp.2.2.2 hT hz hl hK
  | st =>
    refine tr_st hT hz hl (fun d hd' => ?_) hK
    rw [List.getElem?_map, List.length_map] at hd'
    obtain ⟨p', hp', rfl⟩ := Option.map_eq_some_iff.mp hd'
    have := hd rfl p' hp'
    cases p' <;> first | exact ⟨_, rfl⟩ | exact absurd rfl this
  | b l =>
    obtain ⟨h, t, B⟩ := hp
    have hT : P = pre ++ 91 :: (l ++ 93 :: rest) := by
      rw [hT]; show pre ++ 91 :: ((l ++ [93]) ++ rest) = _; rw [List.append_assoc]; rfl
    have hlen : (It.b l).txt.length = l.length + 2 := by show (91 :: (l ++ [93])).length = _; rw [List.length_cons, List.length_append]; rfl
    rw [hlen, List.map_singleton] at hK
    exact tr_b hT hz B hl hK
theorem f_tr {C : Cx} {x : Addr} (hf_escape : FnAt C "escape" 1 ESC) (hpat : SpPat C "_twin_re_1") (hec : ∀ o fd L, C.K x o → o.data = .func fd → ecC C (callEnvC fd L x)) (O : Ok C (Nn l_tr (ecC C))) (D : FnD C x ([0, 1, 2].map (nth l_tr)) (fnSc PW 8) (fnB PW 8))
    (h1 : scopeOk (Nn l_tr noEc) k_tr (fnSc PW 8) = true) (h2 : injOk (Nn l_tr noEc) k_tr = true) : Fn C x 2 TRANS :=
  Fn.of_body (vn := Nn l_tr (ecC C)) (ps := [0, 1, 2]) D (sl_tr hf_escape hpat O) h1 h2 rfl (by decide) hec fun ds Q ⟨ps, y, e, hok, hap, hpl, hz, hQ⟩ => by
    subst e
    have hsp : ∀ k, txts ps = txts (ps.take k) ++ txts (ps.drop k) := fun k => by rw [← txts_append, List.take_append_drop]
    generalize hP : txts ps = P at hz hsp
    refine ⟨rfl, rfl, hz, _, _, rfl, fun m σ => ∃ k, k ≤ ps.length ∧ σ = trσ P y ((ps.take k).map (It.tro y)) (txts (ps.take k)).length ∧ m = ps.length - k, ⟨_, 0, Nat.zero_le _, rfl, rfl⟩, ?_⟩
    rintro m σ ⟨k, hk, rfl, rfl⟩
    refine ⟨fun hlt => ?_, fun hge => ?_⟩
    · have hlt : ((txts (ps.take k)).length : Int) < (P.length : Int) := of_decide_eq_true hlt
      have hkl : k < ps.length := by
        refine Nat.lt_of_not_le fun h => ?_
        have := hsp k
        rw [List.drop_of_length_le h] at this
        rw [this, List.length_append, show (txts []).length = 0 from rfl] at hlt
        lia
      have g := List.getElem?_eq_getElem hkl
      have hT := hsp k
      rw [List.drop_eq_getElem_cons hkl, show txts (ps[k] :: ps.drop (k + 1)) = ps[k].txt ++ txts (ps.drop (k + 1)) from rfl] at hT
      refine tr_turn hT hz (hok _ (List.getElem_mem hkl)) (fun he q hq hqs => ?_) (by rw [List.length_take]; lia) ⟨ps.length - (k + 1), by lia, k + 1, hkl, ?_, rfl⟩
      · rw [List.length_take, Nat.min_eq_left hk, List.getElem?_take] at hq
        split at hq
        · subst hqs
          refine hap (k - 1) hq ?_
          rw [show k - 1 + 1 = k by lia, g, he]
        · cases hq
      · rw [take_snoc g, txts_append]
        show _ = trσ P y _ (txts (ps.take k) ++ (ps[k].txt ++ [])).length
        rw [List.append_nil]
    · have hge : ¬ ((txts (ps.take k)).length : Int) < (P.length : Int) := of_decide_eq_false hge
      have hke : k = ps.length := by
        refine Nat.le_antisymm hk (Nat.le_of_not_lt fun h => hge ?_)
        have hT := hsp k
        rw [List.drop_eq_getElem_cons h] at hT
        have := txt_ne ps[k]
        rw [hT, List.length_append, show txts (ps[k] :: ps.drop (k + 1)) = ps[k].txt ++ txts (ps.drop (k + 1)) from rfl, List.length_append]
        lia
      subst hke
      rw [List.take_length, hP]
      exact ⟨decide_eq_true rfl, hQ⟩

/-! # _join_translated_parts with stars -/
def jin (y : Addr) (gs : List (List (List Nat))) : List V := (gs.map fun g => V.raw (.ref y) :: g.map .str).flatten
theorem jin_cons (y : Addr) (g : List (List Nat)) (gs : List (List (List Nat))) : jin y (g :: gs) = .raw (.ref y) :: (g.map .str ++ jin y gs) := rfl
def jT : List (List (List Nat)) → List Nat
  | [] => []
  | g :: gs => if gs = [] then [46, 42] ++ g.flatten else [40, 63, 62, 46, 42, 63] ++ g.flatten ++ [41] ++ jT gs
def jgood : List (List (List Nat)) → Prop
  | [] => True
  | g :: gs => (gs = [] ∨ g ≠ []) ∧ (g.map (·.length)).sum + g.length ≤ 1000 ∧ jgood gs
abbrev JOIN : List V → (V → Prop) → Prop := fun ds Q => ∃ (a : List (List Nat)) (gs : List (List (List Nat))) (y : Addr), ds = [.list (a.map .str ++ jin y gs), .raw (.ref y)] ∧ (a.map (·.length)).sum + a.length ≤ 1000 ∧ gs.length ≤ 10 ∧ jgood gs ∧
  Q (.str ([40, 63, 115, 58] ++ (a.flatten ++ jT gs) ++ [41, 92, 90]))
def jσ (L : List V) (y : Addr) (res : List V) (i : Nat) : St := [(0, .val (.list L)), (1, .val (.raw (.ref y))), (2, .own res), (3, .app 2), (5, .val (.int L.length)), (4, .val (.int i))]
def jτ (L : List V) (y : Addr) (res : List V) (i : Nat) (f : List V) : St := [(0, .val (.list L)), (1, .val (.raw (.ref y))), (2, .own res), (3, .app 2), (5, .val (.int L.length)), (4, .val (.int i)), (7, .own f)]
def l_join : List String := ["inp", "STAR", "res", "add", "i", "n", "len", "fixed"]
def k_join : Kd := [(0, .local), (1, .local), (2, .local), (3, .local), (4, .local), (5, .local), (6, .globalImplicit), (7, .local)]
def X_join_1 : Xp := (x_sq (x_add 3 (pw (w_item (pw (w_x 0)) (pw (w_x 4))))) (x_sq (x_aug 4 .Add (pw (w_c (.int 1)))) x_nil))
def X_join_2 : Xp := (x_sq (x_app 7 (pw (w_item (pw (w_x 0)) (pw (w_x 4))))) (x_sq (x_aug 4 .Add (pw (w_c (.int 1)))) x_nil))
def X_join_3 : Xp := (x_sq (x_asrt (w_cmp .Is (pw (w_item (pw (w_x 0)) (pw (w_x 4)))) (pw (w_x 1)))) (x_sq (x_aug 4 .Add (pw (w_c (.int 1)))) (x_sq (x_if (w_cmp .Eq (pw (w_x 4)) (pw (w_x 5))) (x_sq (x_add 3 (pw (w_c (.str [46, 42])))) (x_sq x_brk x_nil)) x_nil) (x_sq (x_asrt (w_cmp .IsNot (pw (w_item (pw (w_x 0)) (pw (w_x 4)))) (pw (w_x 1)))) (x_sq (x_asgL 7 []) (x_sq (x_while (w_bool true [(w_cmp .Lt (pw (w_x 4)) (pw (w_x 5))), (w_cmp .IsNot (pw (w_item (pw (w_x 0)) (pw (w_x 4)))) (pw (w_x 1)))]) X_join_2) (x_frz 7 (x_sq (x_asg 7 (pw (w_join [] (pw (w_x 7))))) (x_sq (x_if (w_cmp .Eq (pw (w_x 4)) (pw (w_x 5))) (x_sq (x_add 3 (pw (w_c (.str [46, 42])))) (x_sq (x_add 3 (pw (w_x 7))) x_nil)) (x_sq (x_add 3 (pw (w_fs [40, 63, 62, 46, 42, 63] [41] (pw (w_x 7))))) x_nil)) (x_keep [0, 1, 2, 3, 4, 5] x_nil))))))))))
def X_join_4 : Xp := (x_sq (x_asrt (w_cmp .Eq (pw (w_x 4)) (pw (w_x 5)))) (x_frz 2 (x_sq (x_asg 2 (pw (w_join [] (pw (w_x 2))))) (x_sq (x_ret (pw (w_fs [40, 63, 115, 58] [41, 92, 90] (pw (w_x 2))))) x_nil))))
def X_join : Xp := (x_sq (x_asgL 2 []) (x_sq (x_alias 3 2) (x_sq (x_two 4 5 (pw (w_c (.int 0))) (pw (w_len (pw (w_x 0))))) (x_sq (x_while (w_bool true [(w_cmp .Lt (pw (w_x 4)) (pw (w_x 5))), (w_cmp .IsNot (pw (w_item (pw (w_x 0)) (pw (w_x 4)))) (pw (w_x 1)))]) X_join_1) (x_sq (x_while (w_cmp .Lt (pw (w_x 4)) (pw (w_x 5))) X_join_3) X_join_4)))))
theorem sl_join {C : Cx} (O : Ok C (Nn l_join noEc)) : SL C (Nn l_join noEc) 0 k_join (fnB PW 9) X_join :=
    (.cons (s_asgL 2 .nil rfl rfl)
    (.cons (s_alias O 3 2 rfl)
    (.cons (s_two 4 5 s_int (s_len O (n := 6) rfl rfl (s_x O 0)) rfl rfl rfl (by show nth _ _ ≠ nth _ _; decide +kernel) rfl rfl)
    (.cons (s_while (s_and (.cons (s_cmp (s_x O 4) (s_x O 5)) (.cons (s_cmp (s_item (s_x O 0) (s_x O 4)) (s_x O 1)) .nil))) (.cons (s_add O 3 (s_item (s_x O 0) (s_x O 4)))
    (.cons (s_aug 4 s_int)
    .nil)))
    (.cons (s_while (s_cmp (s_x O 4) (s_x O 5)) (.cons (s_asrt (s_cmp (s_item (s_x O 0) (s_x O 4)) (s_x O 1)))
    (.cons (s_aug 4 s_int)
    (.cons (s_ifs (s_cmp (s_x O 4) (s_x O 5)) (.cons (s_add O 3 (s_str [46, 42] (by decide +kernel)))
    (.cons s_brk
    .nil)) .nil)
    (.cons (s_asrt (s_cmp (s_item (s_x O 0) (s_x O 4)) (s_x O 1)))
    (.cons (s_asgL 7 .nil rfl rfl)
    (.cons (s_while (s_and (.cons (s_cmp (s_x O 4) (s_x O 5)) (.cons (s_cmp (s_item (s_x O 0) (s_x O 4)) (s_x O 1)) .nil))) (.cons (s_app O 7 (s_item (s_x O 0) (s_x O 4)) rfl)
    (.cons (s_aug 4 s_int)
    .nil)))
    (.frz 7 (.cons (s_asg 7 (s_join [] (by decide +kernel) (s_x O 7) rfl) rfl rfl)
    (.cons (s_ifs (s_cmp (s_x O 4) (s_x O 5)) (.cons (s_add O 3 (s_str [46, 42] (by decide +kernel)))
    (.cons (s_add O 3 (s_x O 7))
    .nil)) (.cons (s_add O 3 (s_fs [40, 63, 62, 46, 42, 63] [41] (by decide +kernel) (by decide +kernel) rfl rfl (s_x O 7)))
    .nil))
    (.keep [0, 1, 2, 3, 4, 5] .nil)))))))))))
    (.cons (s_asrt (s_cmp (s_x O 4) (s_x O 5)))
    (.frz 2 (.cons (s_asg 2 (s_join [] (by decide +kernel) (s_x O 2) rfl) rfl rfl)
    (.cons (s_ret (s_fs [40, 63, 115, 58] [41, 92, 90] (by decide +kernel) (by decide +kernel) rfl rfl (s_x O 2)))
    .nil)))))))))

section
variable {y : Addr} {K : Kt} {L : List V} {res : List V} {i : Nat}
theorem join_end {rs : List (List Nat)} {Q : V → Prop} (hs : (rs.map (·.length)).sum + rs.length ≤ 100000) (hQ : Q (.str ([40, 63, 115, 58] ++ rs.flatten ++ [41, 92, 90]))) : X_join_4 (jσ L y (rs.map .str) L.length) (retK Q) := by
  refine ⟨decide_eq_true rfl, by decide, rs, strsOf_map rs, by lia, ?_⟩
  rw [joinL_nil]
  exact ⟨by rw [List.length_flatten]; exact Nat.le_trans (Nat.le_add_right _ _) (Nat.le_trans hs (by decide)), hQ⟩
theorem join_1 {d : V} (hz : res.length ≤ 1000000) (hL : L.length ≤ 1000000) (hd : L[i]? = some d) (hK : K .next (jσ L y (res ++ [d]) (i + 1))) : X_join_1 (jσ L y res i) K :=
  ⟨hz, hL, i, d, ixOf_get hd, hd, rfl, rfl, hK⟩
theorem join_2 {f : List V} {d : V} (hz : f.length ≤ 1000000) (hL : L.length ≤ 1000000) (hd : L[i]? = some d) (hK : K .next (jτ L y res (i + 1) (f ++ [d]))) : X_join_2 (jτ L y res i f) K :=
  ⟨hz, hL, i, d, ixOf_get hd, hd, rfl, rfl, hK⟩
theorem join_o (hL : L.length ≤ 1000000) (hi : i < L.length) {d : V} (hd : L[i]? = some d) {v : Bool} (hv : (match d with | .str _ => v = true | .raw (.ref x) => x = y ∧ v = false | _ => False)) {Q : Bool → Prop} (hQ : Q v) :
    wB true true [w_cmp .Lt (pw (w_x 4)) (pw (w_x 5)), w_cmp .IsNot (pw (w_item (pw (w_x 0)) (pw (w_x 4)))) (pw (w_x 1))] (ρa (jσ L y res i)) fun d => bw d Q := by
  refine ⟨fun _ => ⟨hL, i, d, ixOf_get hd, hd, ?_⟩, fun h => absurd (decide_eq_true (by lia)) h⟩
  cases d with
  | str l => subst hv; exact hQ
  | raw v' => cases v' <;> first | (obtain ⟨rfl, rfl⟩ := hv; exact ⟨rfl, hQ⟩) | exact hv.elim
  | _ => exact hv.elim
theorem get_mid {pre : List V} {a : List (List Nat)} {k : Nat} {l : List Nat} (r : List V) (h : a[k]? = some l) : (pre ++ (a.map .str ++ r))[pre.length + k]? = some (.str l) := by
  have hk := (List.getElem?_eq_some_iff.mp h).1
  rw [List.getElem?_append_right (Nat.le_add_right _ _), Nat.add_sub_cancel_left, List.getElem?_append_left (by rw [List.length_map]; exact hk), List.getElem?_map, h]; rfl
/-- one turn at a star -/
theorem join_3 {pre : List V} {g : List (List Nat)} {gs : List (List (List Nat))} {rs : List (List Nat)} (hg : jgood (g :: gs)) (hL : L.length ≤ 1000000) (e : L = pre ++ jin y (g :: gs)) (hr : rs.length ≤ 100000)
    (h0 : g = [] → gs = [] → K .brk (jσ L y ((rs ++ [[46, 42]]).map .str) L.length))
    (h1 : gs = [] → K .next (jσ L y ((rs ++ [[46, 42], g.flatten]).map .str) L.length))
    (h2 : gs ≠ [] → K .next (jσ L y ((rs ++ [[40, 63, 62, 46, 42, 63] ++ g.flatten ++ [41]]).map .str) (pre.length + 1 + g.length))) : X_join_3 (jσ L y (rs.map .str) pre.length) K := by
  obtain ⟨hg1, hg2, hg3⟩ := hg
  have gy : L[pre.length]? = some (.raw (.ref y)) := by rw [e, jin_cons, List.getElem?_append_right (Nat.le_refl _), Nat.sub_self]; rfl
  have ln : L.length = pre.length + 1 + g.length + (jin y gs).length := by rw [e, jin_cons, List.length_append, List.length_cons, List.length_append, List.length_map]; lia
  have e' : L = (pre ++ [.raw (.ref y)]) ++ (g.map .str ++ jin y gs) := by rw [e, jin_cons, List.append_assoc]; rfl
  have lp : (pre ++ [V.raw (.ref y)]).length = pre.length + 1 := List.length_append ..
  have gm : ∀ {k : Nat} {l : List Nat}, g[k]? = some l → L[pre.length + 1 + k]? = some (.str l) := fun {k l} h => by
    rw [e', ← lp]; exact get_mid _ h
  have hz1 : (rs.map V.str).length ≤ 1000000 := by rw [List.length_map]; lia
  have jl : gs ≠ [] → 0 < (jin y gs).length := fun h => by
    cases gs with
    | nil => exact absurd rfl h
    | cons a r => rw [jin_cons, List.length_cons]; lia
  refine ⟨hL, pre.length, _, ixOf_get gy, gy, rfl, rfl, rfl, rfl, ?_⟩
  conv => whnf
  refine ⟨fun h => ?_, fun h => ?_⟩
  · have h : ((pre.length : Int) + 1) = (L.length : Int) := of_decide_eq_true h
    have hgn : g = [] := List.length_eq_zero_iff.mp (by lia)
    have hgs : gs = [] := Classical.byContradiction fun hn => by have := jl hn; lia
    refine ⟨hz1, ?_⟩
    have := h0 hgn hgs
    rw [List.map_append, show L.length = pre.length + 1 by rw [ln, hgn, hgs]; rfl] at this
    exact this
  · have h : ¬ ((pre.length : Int) + 1) = (L.length : Int) := of_decide_eq_false h
    have hb0 : 0 < g.length := by
      rcases hg1 with hs | hs
      · subst hs
        have : (jin y []).length = 0 := rfl
        lia
      · exact List.length_pos_iff.mpr hs
    have g0 := gm (List.getElem?_eq_getElem hb0)
    refine ⟨hL, pre.length + 1, _, ixOf_get g0, g0, rfl, rfl, fun n σ => ∃ k, σ = jτ L y (rs.map .str) (pre.length + 1 + k) ((g.take k).map .str) ∧ k ≤ g.length ∧ n = g.length - k, ⟨_, 0, rfl, Nat.zero_le _, rfl⟩, ?_⟩
    rintro n σ ⟨k, rfl, hk, rfl⟩
    have fin : k = g.length → x_frz 7 (x_sq (x_asg 7 (pw (w_join [] (pw (w_x 7))))) (x_sq (x_if (w_cmp .Eq (pw (w_x 4)) (pw (w_x 5))) (x_sq (x_add 3 (pw (w_c (.str [46, 42])))) (x_sq (x_add 3 (pw (w_x 7))) x_nil)) (x_sq (x_add 3 (pw (w_fs [40, 63, 62, 46, 42, 63] [41] (pw (w_x 7))))) x_nil)) (x_keep [0, 1, 2, 3, 4, 5] x_nil))) (jτ L y (rs.map .str) (pre.length + 1 + k) ((g.take k).map .str)) K := by
      rintro rfl
      rw [List.take_length]
      refine ⟨by decide, g, strsOf_map g, by lia, ?_⟩
      rw [joinL_nil]
      have gf : g.flatten.length ≤ 1000 := by rw [List.length_flatten]; lia
      conv => whnf
      refine ⟨fun h => ?_, fun h => ?_⟩
      · have h : (((pre.length + 1 + g.length : Nat) : Int)) = (L.length : Int) := of_decide_eq_true h
        have hgs : gs = [] := Classical.byContradiction fun hn => by have := jl hn; lia
        refine ⟨hz1, by rw [List.length_append, List.length_map, List.length_singleton]; lia, ?_⟩
        have := h1 hgs
        rw [show (rs ++ [[46, 42], g.flatten]).map V.str = rs.map V.str ++ [.str [46, 42]] ++ [.str g.flatten] by rw [List.map_append, List.append_assoc]; rfl, show L.length = pre.length + 1 + g.length by lia] at this
        exact this
      · have h : ¬ (((pre.length + 1 + g.length : Nat) : Int)) = (L.length : Int) := of_decide_eq_false h
        have hgs : gs ≠ [] := fun hn => h (by subst hn; have : (jin y []).length = 0 := rfl; lia)
        refine ⟨hz1, by lia, ?_⟩
        have := h2 hgs
        rw [List.map_append] at this
        exact this
    conv => whnf
    refine ⟨fun h => ?_, fun h => ⟨fun h' => absurd h' h, fun _ => ?_⟩⟩
    · have h : ((pre.length + 1 + k : Nat) : Int) < (L.length : Int) := of_decide_eq_true h
      by_cases hkb : k < g.length
      · have gk := gm (List.getElem?_eq_getElem hkb)
        refine ⟨hL, pre.length + 1 + k, _, ixOf_get gk, gk, fun _ => join_2 (by rw [List.length_map, List.length_take]; lia) hL gk ⟨g.length - (k + 1), by lia, k + 1, ?_, hkb, rfl⟩, fun h => (nomatch h)⟩
        rw [take_snoc (List.getElem?_eq_getElem hkb), List.map_append]; rfl
      · have hke : k = g.length := by lia
        have gn : L[pre.length + 1 + k]? = some (.raw (.ref y)) := by
          cases gs with
          | nil => have : (jin y []).length = 0 := rfl; lia
          | cons a r =>
            rw [e', hke, ← lp, List.getElem?_append_right (Nat.le_add_right _ _), Nat.add_sub_cancel_left, List.getElem?_append_right (by rw [List.length_map]; exact Nat.le_refl _), List.length_map, Nat.sub_self]; rfl
        exact ⟨hL, pre.length + 1 + k, _, ixOf_get gn, gn, rfl, fun h => (nomatch h), fun _ => fin hke⟩
    · have h : ¬ ((pre.length + 1 + k : Nat) : Int) < (L.length : Int) := fun e => h (decide_eq_true e)
      exact fin (by lia)
theorem jin_len (y : Addr) : ∀ gs, jgood gs → (jin y gs).length ≤ 1001 * gs.length
  | [], _ => Nat.zero_le _
  | g :: gs, ⟨_, h2, h3⟩ => by
    have := jin_len y gs h3
    rw [jin_cons, List.length_cons, List.length_append, List.length_map, List.length_cons]
    lia
theorem f_join {C : Cx} {x : Addr} (O : Ok C (Nn l_join noEc)) (D : FnD C x ([0, 1].map (nth l_join)) (fnSc PW 9) (fnB PW 9)) : Fn C x 1 JOIN :=
  Fn.of_body (vn := Nn l_join noEc) (ps := [0, 1]) D (sl_join O) (by decide +kernel) (by decide +kernel) rfl (by decide) (fun _ _ _ _ _ => trivial) fun ds Q ⟨a, gs, y, e, h1, h2, hg, hQ⟩ => by
    subst e
    have jl := jin_len y gs hg
    have hln : (a.map V.str ++ jin y gs).length = a.length + (jin y gs).length := by rw [List.length_append, List.length_map]
    have hL : (a.map V.str ++ jin y gs).length ≤ 1000000 := by lia
    generalize hLe : a.map V.str ++ jin y gs = L at hL hln
    have ga : ∀ {k : Nat} {l : List Nat}, a[k]? = some l → L[k]? = some (.str l) := fun {k l} h => by
      have hk := (List.getElem?_eq_some_iff.mp h).1
      rw [← hLe, List.getElem?_append_left (by rw [List.length_map]; exact hk), List.getElem?_map, h]; rfl
    have main : x_while (w_cmp .Lt (pw (w_x 4)) (pw (w_x 5))) X_join_3 (jσ L y (a.map .str) a.length) (sq X_join_4 (retK Q)) := by
      refine ⟨fun n σ => ∃ pre gs' rs, L = pre ++ jin y gs' ∧ σ = jσ L y (rs.map .str) pre.length ∧ n = gs'.length ∧ jgood gs' ∧ (rs.map (·.length)).sum + rs.length + 1010 * gs'.length ≤ 12000 ∧ rs.flatten ++ jT gs' = a.flatten ++ jT gs, ⟨_, a.map .str, gs, a, hLe.symm, by rw [List.length_map], rfl, hg, by lia, rfl⟩, ?_⟩
      rintro n σ ⟨pre, gs', rs, e, rfl, rfl, hg', hb, ht⟩
      cases gs' with
      | nil =>
        have hpl : pre.length = L.length := by rw [e]; show _ = (pre ++ []).length; rw [List.append_nil]
        rw [hpl]
        refine ⟨fun h => absurd (of_decide_eq_true h) (Int.lt_irrefl _), fun _ => join_end (by lia) ?_⟩
        rw [show rs.flatten = rs.flatten ++ jT [] from (List.append_nil _).symm, ht]; exact hQ
      | cons g gs'' =>
        obtain ⟨q1, q2, q3⟩ := id hg'
        have hlt : decide ((pre.length : Int) < (L.length : Int)) = true := decide_eq_true (by rw [e, jin_cons, List.length_append, List.length_cons]; lia)
        have bl : (g :: gs'').length = gs''.length + 1 := rfl
        refine ⟨fun _ => join_3 hg' hL e (by lia) (fun hg0 hg1 => ?_) (fun hg1 => ?_) (fun hg1 => ?_), fun h => by rw [show decide ((pre.length : Int) < (L.length : Int)) = false from h] at hlt; cases hlt⟩
        · subst hg0 hg1
          refine join_end (by rw [sumlen_append, List.length_append]; simp only [List.map_cons, List.map_nil, List.sum_cons, List.length_cons, List.length_nil, List.sum_nil]; lia) ?_
          rw [List.flatten_append]
          have : rs.flatten ++ [[46, 42]].flatten = a.flatten ++ jT gs := ht
          rw [this]; exact hQ
        · subst hg1
          refine ⟨0, by rw [bl]; lia, L, [], _, (List.append_nil _).symm, rfl, rfl, trivial, by rw [sumlen_append, List.length_append]; simp only [List.map_cons, List.map_nil, List.sum_cons, List.length_cons, List.length_nil, List.sum_nil, List.length_flatten]; lia, ?_⟩
          rw [List.flatten_append, ← ht]
          show _ ++ ([46, 42] ++ (g.flatten ++ [])) ++ [] = rs.flatten ++ ([46, 42] ++ g.flatten)
          rw [List.append_nil, List.append_nil]
        · refine ⟨gs''.length, by rw [bl]; lia, pre ++ .raw (.ref y) :: g.map .str, gs'', _, by rw [e, jin_cons, List.append_assoc]; rfl, by rw [List.length_append, List.length_cons, List.length_map, Nat.add_assoc, Nat.add_comm 1], rfl, q3, by rw [sumlen_append, List.length_append]; simp only [List.map_cons, List.map_nil, List.sum_cons, List.length_cons, List.length_nil, List.sum_nil, List.length_append, List.length_flatten]; lia, ?_⟩
          rw [List.flatten_append, ← ht]
          have e2 : jT (g :: gs'') = [40, 63, 62, 46, 42, 63] ++ g.flatten ++ [41] ++ jT gs'' := if_neg hg1
          rw [e2]
          show _ ++ ([40, 63, 62, 46, 42, 63] ++ g.flatten ++ [41] ++ []) ++ _ = _
          rw [List.append_nil, List.append_assoc]
    refine ⟨rfl, rfl, hL, _, _, rfl, fun m σ => ∃ k, k ≤ a.length ∧ σ = jσ L y ((a.take k).map .str) k ∧ m = a.length - k, ⟨_, 0, Nat.zero_le _, rfl, rfl⟩, ?_⟩
    rintro m σ ⟨k, hk, rfl, rfl⟩
    by_cases hkl : k < a.length
    · have g := ga (List.getElem?_eq_getElem hkl)
      refine join_o hL (by lia) g rfl ⟨fun _ => join_1 (by rw [List.length_map, List.length_take]; lia) hL g ⟨a.length - (k + 1), by lia, k + 1, hkl, ?_, rfl⟩, fun h => (nomatch h)⟩
      rw [take_snoc (List.getElem?_eq_getElem hkl), List.map_append]; rfl
    · obtain rfl : k = a.length := by lia
      rw [List.take_length]
      by_cases hs : gs = []
      · subst hs
        have hke : a.length = L.length := hln.symm
        exact ⟨fun h => absurd (of_decide_eq_true h) (by rw [hke]; exact Int.lt_irrefl _), fun h => ⟨fun h' => absurd h' h, fun _ => main⟩⟩
      · have gy : L[a.length]? = some (.raw (.ref y)) := by
          cases gs with
          | nil => exact absurd rfl hs
          | cons g r => rw [← hLe, List.getElem?_append_right (by rw [List.length_map]; exact Nat.le_refl _), List.length_map, Nat.sub_self]; rfl
        exact join_o hL (List.getElem?_eq_some_iff.mp gy).1 gy ⟨rfl, rfl⟩ ⟨fun h => (nomatch h), fun _ => main⟩
end
def l_trl : List String := ["pat", "STAR", "object", "parts", "_translate", "_join_translated_parts"]
def k_trl : Kd := [(0, .local), (1, .local), (2, .globalImplicit), (3, .local), (4, .globalImplicit), (5, .globalImplicit)]
def X_trl : Xp := (x_sq (x_asg 1 (pw w_obj)) (x_sq (x_asg 3 (pw (w_call TRANS [(pw (w_x 0)), (pw (w_x 1)), (pw (w_c (.str [46])))]))) (x_sq (x_ret (pw (w_call JOIN [(pw (w_x 3)), (pw (w_x 1))]))) x_nil)))
theorem sl_trl {C : Cx} (hf__translate : FnAt C "_translate" 2 TRANS) (hf__join_translated_parts : FnAt C "_join_translated_parts" 1 JOIN) (O : Ok C (Nn l_trl noEc)) : SL C (Nn l_trl noEc) 2 k_trl (fnB PW 3) X_trl :=
    (.cons (s_asg 1 (s_obj O (n := 2) rfl rfl) rfl rfl)
    (.cons (s_asg 3 (s_call O 4 hf__translate rfl (.cons (s_x O 0) (.cons (s_x O 1) (.cons (s_str [46] (by decide +kernel)) .nil)))) rfl rfl)
    (.cons (s_ret (s_call O 5 hf__join_translated_parts rfl (.cons (s_x O 3) (.cons (s_x O 1) .nil))))
    .nil)))

/-! # translate, over groups that stars part -/
def psOf (a : List It) (gs : List (List It)) : List It := a ++ (gs.map fun g => It.st :: g).flatten
def ogs (gs : List (List It)) : List (List (List Nat)) := gs.map fun g => g.map It.out
def ftext (a : List It) (gs : List (List It)) : List Nat := [40, 63, 115, 58] ++ ((a.map It.out).flatten ++ jT (ogs gs)) ++ [41, 92, 90]
def grpOk (g : List It) : Prop := (∀ p ∈ g, p.ok ∧ p ≠ .st) ∧ ((g.map It.out).map (·.length)).sum + g.length ≤ 1000
def gsOk : List (List It) → Prop
  | [] => True
  | g :: gs => (gs = [] ∨ g ≠ []) ∧ grpOk g ∧ gsOk gs
abbrev TRL : List V → (V → Prop) → Prop := fun ds Q => ∃ (a : List It) (gs : List (List It)), ds = [.str (txts (psOf a gs))] ∧ grpOk a ∧ gsOk gs ∧ gs.length ≤ 10 ∧ (psOf a gs).length ≤ 1000 ∧ (txts (psOf a gs)).length ≤ 1000000 ∧ Q (.str (ftext a gs))
theorem gs_good : ∀ gs, gsOk gs → jgood (ogs gs)
  | [], _ => trivial
  | g :: gs, ⟨h1, h2, h3⟩ => by
    refine ⟨h1.imp (fun h => by rw [h]; rfl) fun h e => h (List.map_eq_nil_iff.mp e), ?_, gs_good gs h3⟩
    have := h2.2
    rwa [List.length_map]
theorem gs_ok : ∀ gs, gsOk gs → ∀ p ∈ (gs.map fun g => It.st :: g).flatten, p.ok
  | [], _, p, hp => by cases hp
  | g :: gs, ⟨_, h2, h3⟩, p, hp => by
    rw [List.map_cons, List.flatten_cons] at hp
    rcases List.mem_append.mp hp with hp | hp
    · rcases List.mem_cons.mp hp with rfl | hp
      · exact trivial
      · exact (h2.1 p hp).1
    · exact gs_ok gs h3 p hp
theorem tro_g (y : Addr) (g : List It) (h : ∀ p ∈ g, p ≠ It.st) : g.map (It.tro y) = (g.map It.out).map V.str := by
  rw [List.map_map]
  refine List.map_congr_left fun p hp => ?_
  have := h p hp
  cases p <;> first | rfl | exact absurd rfl this
theorem tro_gs (y : Addr) : ∀ gs, gsOk gs → ((gs.map fun g => It.st :: g).flatten).map (It.tro y) = jin y (ogs gs)
  | [], _ => rfl
  | g :: gs, ⟨_, h2, h3⟩ => by
    rw [List.map_cons, List.flatten_cons, List.map_append, tro_gs y gs h3, List.map_cons, tro_g y g fun p hp => (h2.1 p hp).2]
    show _ = jin y (g.map It.out :: ogs gs)
    rw [jin_cons]; rfl
theorem apart_cons {p : It} {l : List It} (h : apart l) (h2 : p = .st → l[0]? ≠ some .st) : apart (p :: l) := fun k hk => by
  cases k with
  | zero => exact h2 (by cases hk; rfl)
  | succ k => exact h k hk
theorem apart_app : ∀ {g l : List It}, (∀ p ∈ g, p ≠ It.st) → apart l → apart (g ++ l)
  | [], l, _, h => h
  | p :: g, l, hg, h => apart_cons (apart_app (fun q hq => hg q (.tail _ hq)) h) fun e => absurd e (hg p (.head _))
theorem apart_gs : ∀ gs, gsOk gs → apart ((gs.map fun g => It.st :: g).flatten)
  | [], _ => fun k hk => by cases hk
  | g :: gs, ⟨h1, h2, h3⟩ => by
    rw [List.map_cons, List.flatten_cons]
    refine apart_cons (apart_app (fun p hp => (h2.1 p hp).2) (apart_gs gs h3)) fun _ => ?_
    cases g with
    | nil =>
      rcases h1 with rfl | h1
      · exact fun h => nomatch h
      · exact absurd rfl h1
    | cons p g => exact fun h => (h2.1 p (.head _)).2 (Option.some.inj h)
theorem f_trl {C : Cx} {x : Addr} (hf__translate : FnAt C "_translate" 2 TRANS) (hf__join_translated_parts : FnAt C "_join_translated_parts" 1 JOIN) (O : Ok C (Nn l_trl noEc)) (D : FnD C x ([0].map (nth l_trl)) (fnSc PW 3) (fnB PW 3)) : Fn C x 3 TRL :=
  Fn.of_body (vn := Nn l_trl noEc) (ps := [0]) D (sl_trl hf__translate hf__join_translated_parts O) (by decide +kernel) (by decide +kernel) rfl (by decide) (fun _ _ _ _ _ => trivial) fun ds Q ⟨a, gs, e, h1, h2, h3, h4, h5, hQ⟩ => by
    subst e
    refine ⟨rfl, fun y => ⟨psOf a gs, y, rfl, fun p hp => ?_, apart_app (fun p hp => (h1.1 p hp).2) (apart_gs gs h2), h4, h5, a.map It.out, ogs gs, y, ?_, ?_, ?_, gs_good gs h2, hQ⟩⟩
    · rcases List.mem_append.mp hp with hp | hp
      · exact (h1.1 p hp).1
      · exact gs_ok gs h2 p hp
    · rw [← tro_gs y gs h2, ← tro_g y a fun p hp => (h1.1 p hp).2, ← List.map_append]; rfl
    · have := h1.2; rwa [List.length_map]
    · unfold ogs; rw [List.length_map]; exact h3
def l_tst : List String := ["number", "value", "care"]
def k_tst : Kd := [(0, .local), (1, .local), (2, .local)]
def X_tst : Xp := (x_sq (x_asg 1 (pw (w_bin .Mod (pw (w_x 0)) (pw (w_c (.int 16)))))) (x_sq (x_asg 2 (pw (w_bin .BitXor (pw (w_x 1)) (pw (w_bin .Mod (pw (w_bin .FloorDiv (pw (w_x 0)) (pw (w_c (.int 16))))) (pw (w_c (.int 16)))))))) (x_sq (x_ret (w_if (w_cmp .NotEq (pw (w_bin .BitAnd (pw (w_x 1)) (pw (w_x 2)))) (pw (w_c (.int 0)))) (pw (w_tup [(pw (w_x 2)), (pw (w_x 1))])) (pw (w_tup [(pw (w_bin .BitOr (pw (w_x 2)) (pw (w_c (.int 4))))), (pw (w_bin .BitOr (pw (w_x 1)) (pw (w_c (.int 4)))))])))) x_nil)))
theorem sl_tst {C : Cx} (O : Ok C (Nn l_tst noEc)) : SL C (Nn l_tst noEc) 0 k_tst (fnB PW 35) X_tst :=
    (.cons (s_asg 1 (s_bin (s_x O 0) s_int) rfl rfl)
    (.cons (s_asg 2 (s_bin (s_x O 1) (s_bin (s_bin (s_x O 0) s_int) s_int)) rfl rfl)
    (.cons (s_ret (s_if (s_cmp (s_bin (s_x O 1) (s_x O 2)) s_int) (s_tup (.cons (s_x O 2) (.cons (s_x O 1) .nil)) rfl) (s_tup (.cons (s_bin (s_x O 2) s_int) (.cons (s_bin (s_x O 1) s_int) .nil)) rfl)))
    .nil)))

/-! # _law_test -/
abbrev toI (k : Nat) : V := .int (k : Int)
theorem fdN (a b : Nat) : (a : Int).fdiv (b : Int) = ((a / b : Nat) : Int) := by rw [Int.fdiv_eq_ediv_of_nonneg _ (Int.natCast_nonneg _)]; rfl
theorem fmN (a b : Nat) : (a : Int).fmod (b : Int) = ((a % b : Nat) : Int) := by rw [Int.fmod_eq_emod_of_nonneg _ (Int.natCast_nonneg _)]; rfl
def xn (a b : Nat) : Nat := a ^^^ b
def an (a b : Nat) : Nat := a &&& b
def on (a b : Nat) : Nat := a ||| b
def tstA (v b : Nat) : Nat × Nat := if an v (xn v b) ≠ 0 then (xn v b, v) else (on (xn v b) 4, on v 4)
theorem z0 (n : Nat) : decide ((n : Int) = 0) = decide (n = 0) := decide_eq_decide.mpr (by lia)
def tstN (n : Nat) : Nat × Nat := tstA (n % 16) (n / 16 % 16)
theorem tst_c : ∀ v : Nat, v < 16 → ∀ b : Nat, b < 16 → (Builtin.bitXor (v : Int) (b : Int) = ((xn v b : Nat) : Int)) ∧ (Builtin.bitAnd (v : Int) ((xn v b : Nat) : Int) = ((an v (xn v b) : Nat) : Int)) ∧ (Builtin.bitOr ((xn v b : Nat) : Int) 4 = ((on (xn v b) 4 : Nat) : Int)) ∧ Builtin.bitOr (v : Int) 4 = ((on v 4 : Nat) : Int) := by decide +kernel
theorem tst_ok : ∀ v : Nat, v < 16 → ∀ b : Nat, b < 16 → (tstA v b).1 < 16 ∧ (tstA v b).2 < 16 ∧ an (tstA v b).2 (tstA v b).1 ≠ 0 := by decide +kernel
abbrev TST : List V → (V → Prop) → Prop := fun ds Q => ∃ n : Nat, ds = [.int n] ∧ Q (.tuple [toI (tstN n).1, toI (tstN n).2])
theorem f_tst {C : Cx} {a : Addr} (O : Ok C (Nn l_tst noEc)) (D : FnD C a ([0].map (nth l_tst)) (fnSc PW 35) (fnB PW 35)) : Fn C a 1 TST :=
  Fn.of_body (vn := Nn l_tst noEc) (ps := [0]) D (sl_tst O) (by decide +kernel) (by decide +kernel) rfl (by decide) (fun _ _ _ _ _ => trivial) fun ds Q ⟨n, e, hQ⟩ => by
    subst e
    have h1 : (n : Int).fmod 16 = ((n % 16 : Nat) : Int) := fmN n 16
    have h2 : ((n : Int).fdiv 16).fmod 16 = ((n / 16 % 16 : Nat) : Int) := by rw [show (16 : Int) = ((16 : Nat) : Int) from rfl, fdN, fmN]
    obtain ⟨c1, c2, c3, c4⟩ := tst_c (n % 16) (Nat.mod_lt _ (by decide)) (n / 16 % 16) (Nat.mod_lt _ (by decide))
    refine ⟨rfl, by decide, ?_⟩
    conv => whnf
    rw [h1]
    refine ⟨by decide, by decide, by decide, ?_⟩
    conv => whnf
    rw [h2, c1, c2]
    refine ⟨fun h => ?_, fun h => ?_⟩
    · have hn : an (n % 16) (xn (n % 16) (n / 16 % 16)) ≠ 0 := fun e => by rw [e] at h; cases h
      have e : tstN n = (xn (n % 16) (n / 16 % 16), n % 16) := by unfold tstN tstA; rw [if_pos hn]
      rw [e] at hQ
      exact hQ
    · have hn : ¬ an (n % 16) (xn (n % 16) (n / 16 % 16)) ≠ 0 := fun e => by
        have h : (!decide (((an (n % 16) (xn (n % 16) (n / 16 % 16)) : Nat) : Int) = 0)) = false := h
        rw [z0, decide_eq_false e] at h
        cases h
      have e : tstN n = (on (xn (n % 16) (n / 16 % 16)) 4, on (n % 16) 4) := by unfold tstN tstA; rw [if_neg hn]
      rw [e] at hQ
      show Q (.tuple [.int (Builtin.bitOr _ 4), .int (Builtin.bitOr _ 4)])
      rw [c3, c4]
      exact hQ
/-! # _law_written -/
def rs (c v r s : Nat) : List Nat := if an c r = 0 then [63] else if an v r ≠ 0 then [s] else [45]
def FG : List (Nat × List Nat) := [(0, [45]), (1, [120]), (8, [83, 84]), (9, [115, 116])]
def rb (c v : Nat) : List (List Nat) := (FG.filter fun f => decide (an (an (xn f.1 v) c) 9 = 0)).map (·.2)
def wrtL (c v : Nat) : List Nat := rs c v 4 114 ++ rs c v 2 119 ++ if (rb c v).length = 4 then [63] else [91] ++ (rb c v).flatten ++ [93]
def l_wrt : List String := ["care", "value", "row", "right", "sign", "runs", "figure", "signs", "len"]
def k_wrt : Kd := [(0, .cell), (1, .cell), (2, .local), (3, .local), (4, .local), (5, .local), (8, .globalImplicit)]
def X_wrt_1 : Xp := (x_sq (x_if (w_cmp .Eq (pw (w_bin .BitAnd (pw (w_x 0)) (pw (w_x 3)))) (pw (w_c (.int 0)))) (x_sq (x_aug 2 .Add (pw (w_c (.str [63])))) x_nil) (x_sq (x_aug 2 .Add (w_if (w_cmp .NotEq (pw (w_bin .BitAnd (pw (w_x 1)) (pw (w_x 3)))) (pw (w_c (.int 0)))) (pw (w_x 4)) (pw (w_c (.str [45]))))) x_nil)) (x_keep [0, 1, 2] x_nil))
def X_wrt : Xp := (x_sq (x_asg 2 (pw (w_c (.str [])))) (x_sq (x_for [3, 4] false (w_v (pw (w_tup [(pw (w_tup [(pw (w_c (.int 4))), (pw (w_c (.str [114])))])), (pw (w_tup [(pw (w_c (.int 2))), (pw (w_c (.str [119])))]))]))) X_wrt_1 x_nil) (x_sq (x_asgC 5 [6, 7] [1, 0] (w_v (pw (w_tup [(pw (w_tup [(pw (w_c (.int 0))), (pw (w_c (.str [45])))])), (pw (w_tup [(pw (w_c (.int 1))), (pw (w_c (.str [120])))])), (pw (w_tup [(pw (w_c (.int 8))), (pw (w_c (.str [83, 84])))])), (pw (w_tup [(pw (w_c (.int 9))), (pw (w_c (.str [115, 116])))]))]))) (some (w_cmp .Eq (pw (w_bin .BitAnd (pw (w_bin .BitAnd (pw (w_bin .BitXor (pw (w_x 6)) (pw (w_x 1)))) (pw (w_x 0)))) (pw (w_c (.int 9))))) (pw (w_c (.int 0))))) (pw (w_x 7))) (x_frz 5 (x_sq (x_ret (pw (w_bin .Add (pw (w_x 2)) (w_if (w_cmp .Eq (pw (w_len (pw (w_x 5)))) (pw (w_c (.int 4)))) (pw (w_c (.str [63]))) (pw (w_bin .Add (pw (w_bin .Add (pw (w_c (.str [91]))) (pw (w_join [] (pw (w_x 5)))))) (pw (w_c (.str [93]))))))))) x_nil)))))
theorem sl_wrt {C : Cx} (O : Ok C (Nn l_wrt noEc)) : SL C (Nn l_wrt noEc) 0 k_wrt (fnB PW 36) X_wrt :=
    (.cons (s_asg 2 (s_str [] (by decide +kernel)) rfl rfl)
    (.cons (s_for [3, 4] (s_v (s_tup (.cons (s_tup (.cons s_int (.cons (s_str [114] (by decide +kernel)) .nil)) rfl) (.cons (s_tup (.cons s_int (.cons (s_str [119] (by decide +kernel)) .nil)) rfl) .nil)) rfl)) (.two rfl rfl (by show nth _ _ ≠ nth _ _; decide +kernel)) (.cons (s_ifs (s_cmp (s_bin (s_x O 0) (s_x O 3)) s_int) (.cons (s_aug 2 (s_str [63] (by decide +kernel)))
    .nil) (.cons (s_aug 2 (s_if (s_cmp (s_bin (s_x O 1) (s_x O 3)) s_int) (s_x O 4) (s_str [45] (by decide +kernel))))
    .nil))
    (.keep [0, 1, 2] .nil)) .nil)
    (.cons (s_asgC O 5 [6, 7] [1, 0] [(0, .free), (1, .free), (6, .local), (7, .local)] (s_v (s_tup (.cons (s_tup (.cons s_int (.cons (s_str [45] (by decide +kernel)) .nil)) rfl) (.cons (s_tup (.cons s_int (.cons (s_str [120] (by decide +kernel)) .nil)) rfl) (.cons (s_tup (.cons s_int (.cons (s_str [83, 84] (by decide +kernel)) .nil)) rfl) (.cons (s_tup (.cons s_int (.cons (s_str [115, 116] (by decide +kernel)) .nil)) rfl) .nil)))) rfl)) (.two rfl rfl (by show nth _ _ ≠ nth _ _; decide +kernel)) (by decide +kernel) (.some (s_cmp (s_bin (s_bin (s_bin (s_x O 6) (s_x O 1)) (s_x O 0)) s_int) s_int)) (s_x O 7) rfl rfl (by decide +kernel))
    (.frz 5 (.cons (s_ret (s_bin (s_x O 2) (s_if (s_cmp (s_len O (n := 8) rfl rfl (s_x O 5)) s_int) (s_str [63] (by decide +kernel)) (s_bin (s_bin (s_str [91] (by decide +kernel)) (s_join [] (by decide +kernel) (s_x O 5) rfl)) (s_str [93] (by decide +kernel))))))
    .nil)))))

abbrev WRT : List V → (V → Prop) → Prop := fun ds Q => ∃ c v : Nat, ds = [.int c, .int v] ∧ c < 16 ∧ v < 16 ∧ Q (.str (wrtL c v))
def wσ (c v : Nat) (row : List Nat) : St := [(0, .val (toI c)), (1, .val (toI v)), (2, .val (.str row))]
theorem wrt_c : ∀ c : Nat, c < 16 → (Builtin.bitAnd (c : Int) 4 = ((an c 4 : Nat) : Int)) ∧ (Builtin.bitAnd (c : Int) 2 = ((an c 2 : Nat) : Int)) := by decide +kernel
theorem rb_c : ∀ c : Nat, c < 16 → ∀ v : Nat, v < 16 → ∀ f : Nat, f < 16 → Builtin.bitAnd (Builtin.bitAnd (Builtin.bitXor (f : Int) (v : Int)) (c : Int)) 9 = ((an (an (xn f v) c) 9 : Nat) : Int) := by decide +kernel
theorem wrt_1 {c v r s : Nat} {row : List Nat} {K : Kt} (h1 : Builtin.bitAnd (c : Int) (r : Int) = ((an c r : Nat) : Int)) (h2 : Builtin.bitAnd (v : Int) (r : Int) = ((an v r : Nat) : Int)) (hs : s < 128) (hr : row.length ≤ 100) (hK : K .next (wσ c v (row ++ rs c v r s))) :
    X_wrt_1 (put (put (wσ c v row) 3 (.val (toI r))) 4 (.val (.str [s]))) K := by
  conv => whnf
  rw [h1, z0]
  refine ⟨fun h => ?_, fun h => ?_⟩
  · have e : rs c v r s = [63] := by unfold rs; rw [if_pos (of_decide_eq_true h)]
    rw [e] at hK
    exact ⟨rfl, rfl, by show row.length + 1 ≤ _; lia, hK⟩
  · refine ⟨rfl, ?_⟩
    conv => whnf
    rw [h2, z0]
    refine ⟨fun g => ?_, fun g => ?_⟩
    · have e : rs c v r s = [s] := by unfold rs; rw [if_neg (of_decide_eq_false h), if_pos (by simpa using g)]
      rw [e] at hK
      exact ⟨rfl, by show row.length + 1 ≤ _; lia, hK⟩
    · have e : rs c v r s = [45] := by unfold rs; rw [if_neg (of_decide_eq_false h), if_neg (by simpa using g)]
      rw [e] at hK
      exact ⟨rfl, by show row.length + 1 ≤ _; lia, hK⟩
def fgV (f : Nat × List Nat) : V := .tuple [toI f.1, .str f.2]
def rbF (c v : Nat) (d : V) : Option V := match d with | .tuple [.int f, .str l] => if an (an (xn f.toNat v) c) 9 = 0 then some (.str l) else none | _ => none
theorem rbF_map (c v : Nat) (l : List (Nat × List Nat)) : (l.map fgV).filterMap (rbF c v) = ((l.filter fun f => decide (an (an (xn f.1 v) c) 9 = 0)).map (·.2)).map V.str := by
  induction l with
  | nil => rfl
  | cons f l ih =>
    rw [List.map_cons, List.filterMap_cons, List.filter_cons, show rbF c v (fgV f) = if an (an (xn f.1 v) c) 9 = 0 then some (.str f.2) else none from rfl]
    by_cases h : an (an (xn f.1 v) c) 9 = 0
    · rw [if_pos h, if_pos (decide_eq_true h), List.map_cons, List.map_cons, ih]
    · rw [if_neg h, if_neg (by rw [decide_eq_false h]; decide), ih]
theorem rb_len (c v : Nat) : (rb c v).length ≤ 4 := by unfold rb; rw [List.length_map]; exact List.length_filter_le _ _
theorem wrt_l : ∀ c : Nat, c < 16 → ∀ v : Nat, v < 16 → (rb c v).flatten.length ≤ 8 := by decide +kernel
theorem rs_len (c v r s : Nat) : (rs c v r s).length = 1 := by unfold rs; split; rfl; split <;> rfl
theorem f_wrt {C : Cx} {a : Addr} (O : Ok C (Nn l_wrt noEc)) (D : FnD C a ([0, 1].map (nth l_wrt)) (fnSc PW 36) (fnB PW 36)) : Fn C a 1 WRT :=
  Fn.of_body (vn := Nn l_wrt noEc) (ps := [0, 1]) D (sl_wrt O) (by decide +kernel) (by decide +kernel) rfl (by decide) (fun _ _ _ _ _ => trivial) fun ds Q ⟨c, v, e, hc, hv, hQ⟩ => by
    subst e
    obtain ⟨a1, a2⟩ := wrt_c c hc
    obtain ⟨b1, b2⟩ := wrt_c v hv
    refine ⟨rfl, by decide, fun n σ => σ = wσ c v (if n = 0 then [] else if n = 1 then rs c v 4 114 else rs c v 4 114 ++ rs c v 2 119), rfl, fun i d σ hd hσ => ?_, ?_⟩
    · subst hσ
      match i, hd with
      | 0, hd => cases hd; exact wrt_1 (r := 4) (s := 114) a1 b1 (by decide) (Nat.zero_le _) rfl
      | 1, hd => cases hd; exact wrt_1 (r := 2) (s := 119) a2 b2 (by decide) (by show (rs c v 4 114).length ≤ _; rw [rs_len]; decide) rfl
      | n + 2, hd => cases hd
    intro σ hσ
    have hσ : σ = wσ c v (rs c v 4 114 ++ rs c v 2 119) := hσ
    subst hσ
    have hl2 : (rs c v 4 114 ++ rs c v 2 119).length = 2 := by rw [List.length_append, rs_len, rs_len]
    generalize hrow : rs c v 4 114 ++ rs c v 2 119 = row at hl2
    refine ⟨rfl, rfl, by decide, rbF c v, fun d hd => ?_, ?_⟩
    · have hd : d ∈ FG.map fgV := hd
      obtain ⟨f, hf, rfl⟩ := List.mem_map.mp hd
      have hf16 : f.1 < 16 := (by decide : ∀ f ∈ FG, f.1 < 16) f hf
      show ((decide (Builtin.bitAnd (Builtin.bitAnd (Builtin.bitXor (f.1 : Int) (v : Int)) (c : Int)) 9 = 0)) = true → _) ∧ ((decide (Builtin.bitAnd (Builtin.bitAnd (Builtin.bitXor (f.1 : Int) (v : Int)) (c : Int)) 9 = 0)) = false → _)
      rw [rb_c c hc v hv f.1 hf16, z0]
      have e : rbF c v (fgV f) = if an (an (xn f.1 v) c) 9 = 0 then some (.str f.2) else none := rfl
      exact ⟨fun h => by rw [e, if_pos (of_decide_eq_true h)]; rfl, fun h => by rw [e, if_neg (of_decide_eq_false h)]⟩
    have hb := rb_len c v
    have e : (FG.map fgV).filterMap (rbF c v) = (rb c v).map V.str := rbF_map c v FG
    rw [show [V.tuple [.int 0, .str [45]], .tuple [.int 1, .str [120]], .tuple [.int 8, .str [83, 84]], .tuple [.int 9, .str [115, 116]]] = FG.map fgV from rfl, e]
    have hf : (rb c v).flatten.length ≤ 8 := wrt_l c hc v hv
    have hs : ((rb c v).map (·.length)).sum ≤ 8 := by rw [← List.length_flatten]; exact hf
    refine ⟨by rw [List.length_map]; lia, fun h => ?_, fun h => ?_⟩
    · have h : (((rb c v).map V.str).length : Int) = 4 := of_decide_eq_true h
      rw [List.length_map] at h
      have ew : wrtL c v = row ++ [63] := by unfold wrtL; rw [hrow, if_pos (by lia)]
      rw [ew] at hQ
      exact ⟨by show row.length + 1 ≤ _; lia, hQ⟩
    · have h : ¬ (((rb c v).map V.str).length : Int) = 4 := of_decide_eq_false h
      rw [List.length_map] at h
      have ew : wrtL c v = row ++ ([91] ++ (rb c v).flatten ++ [93]) := by unfold wrtL; rw [hrow, if_neg (by lia)]
      rw [ew] at hQ
      refine ⟨by decide, rb c v, strsOf_map _, by lia, ?_⟩
      rw [joinL_nil]
      exact ⟨by show 1 + (rb c v).flatten.length ≤ _; lia, by rw [List.length_append]; show 1 + _ + 1 ≤ _; lia, by rw [List.length_append, List.length_append]; show _ + (1 + _ + 1) ≤ _; lia, hQ⟩

/-! # _law_stands -/
def piV (p : Bool × List Nat) : V := .tuple [.bool p.1, .list (p.2.map sg)]
def piB (p : Bool × List Nat) (c : Nat) : Bool := p.1 || decide (c ∈ p.2)
def stdB (run : List (Bool × List Nat)) (t : List Nat) : Bool := decide (run.length = t.length) && (run.zip t).all fun x => piB x.1 x.2
abbrev STD : List V → (V → Prop) → Prop := fun ds Q => ∃ run t, ds = [.list (run.map piV), .str t] ∧ run.length ≤ 1000 ∧ t.length ≤ 1000 ∧ (∀ c ∈ t, c < 128) ∧ (∀ p ∈ run, p.2.length ≤ 1000 ∧ ∀ q ∈ p.2, q < 128) ∧ Q (.bool (stdB run t))
def l_std : List String := ["run", "piece", "len", "range", "k", "free", "signs"]
def k_std : Kd := [(0, .local), (1, .local), (2, .globalImplicit), (3, .globalImplicit), (4, .local), (5, .local), (6, .local)]
def X_std_1 : Xp := (x_sq (x_unp [5, 6] (pw (w_item (pw (w_x 0)) (pw (w_x 4))))) (x_sq (x_if (w_bool true [(w_not (pw (w_x 5))), (w_cmp .NotIn (pw (w_item (pw (w_x 1)) (pw (w_x 4)))) (pw (w_x 6)))]) (x_sq (x_ret (pw (w_c (.bool false)))) x_nil) x_nil) (x_keep [0, 1] x_nil)))
def X_std : Xp := (x_sq (x_if (w_cmp .NotEq (pw (w_len (pw (w_x 0)))) (pw (w_len (pw (w_x 1))))) (x_sq (x_ret (pw (w_c (.bool false)))) x_nil) x_nil) (x_sq (x_for [4] true (w_r1 (pw (w_len (pw (w_x 0))))) X_std_1 x_nil) (x_sq (x_ret (pw (w_c (.bool true)))) x_nil)))
theorem sl_std {C : Cx} (O : Ok C (Nn l_std noEc)) : SL C (Nn l_std noEc) 0 k_std (fnB PW 40) X_std :=
    (.cons (s_ifs (s_cmp (s_len O (n := 2) rfl rfl (s_x O 0)) (s_len O (n := 2) rfl rfl (s_x O 1))) (.cons (s_ret s_bool)
    .nil) .nil)
    (.cons (s_for [4] (s_r1 O (n := 3) rfl rfl (s_len O (n := 2) rfl rfl (s_x O 0))) (.one rfl) (.cons (s_unp 5 6 (s_item (s_x O 0) (s_x O 4)) (.two rfl rfl (by show nth _ _ ≠ nth _ _; decide +kernel)) rfl rfl)
    (.cons (s_ifs (s_and (.cons (s_not (s_x O 5)) (.cons (s_cmp (s_item (s_x O 1) (s_x O 4)) (s_x O 6)) .nil))) (.cons (s_ret s_bool)
    .nil) .nil)
    (.keep [0, 1] .nil))) .nil)
    (.cons (s_ret s_bool)
    .nil)))

theorem any_sg (l : List Nat) (c : Nat) : ((l.map sg).any fun y => veq y (.str [c])) = decide (c ∈ l) := by
  induction l with
  | nil => rfl
  | cons d l ih =>
    rw [List.map_cons, List.any_cons, ih, show veq (sg d) (.str [c]) = decide ([d] = [c]) from eqv_str]
    by_cases h : d = c
    · subst h; rw [decide_eq_true rfl, Bool.true_or]; exact (decide_eq_true (List.mem_cons_self)).symm
    · rw [decide_eq_false (fun e => h (List.cons.inj e).1), Bool.false_or]
      exact decide_eq_decide.mpr ⟨fun q => .tail _ q, fun q => (List.mem_cons.mp q).elim (fun e => absurd e.symm h) id⟩
theorem vok_sg {l : List Nat} (h : ∀ c ∈ l, c < 128) : (l.map sg).all (vok 8) = true := List.all_eq_true.mpr fun d hd => by
  obtain ⟨c, hc, rfl⟩ := List.mem_map.mp hd
  exact sokc (h c hc)
theorem all_take {α : Type} (f : α → Bool) (l : List α) {i : Nat} {a : α} (h : l[i]? = some a) (ht : (l.take i).all f = true) : (l.take (i + 1)).all f = f a := by
  rw [take_snoc h, List.all_append, ht, Bool.true_and, List.all_cons, List.all_nil, Bool.and_true]
theorem all_false {α : Type} {f : α → Bool} {l : List α} {i : Nat} {a : α} (h : l[i]? = some a) (hf : f a = false) : l.all f = false := by
  refine Bool.eq_false_iff.mpr fun e => ?_
  have := List.all_eq_true.mp e a (List.mem_of_getElem? h)
  rw [hf] at this; cases this
def sσ (run : List (Bool × List Nat)) (t : List Nat) : St := [(0, .val (.list (run.map piV))), (1, .val (.str t))]
theorem std_1 {run : List (Bool × List Nat)} {t : List Nat} {K : Kt} {k c : Nat} {p : Bool × List Nat} (hr : run.length ≤ 1000) (ht : t.length ≤ 1000) (hp : run[k]? = some p) (hc : t[k]? = some c) (hl : p.2.length ≤ 1000)
    (hq : ∀ q ∈ p.2, q < 128) (hc2 : c < 128) (h0 : piB p c = false → ∀ σ, K (.ret (.bool false)) σ) (h1 : piB p c = true → K .next (sσ run t)) : X_std_1 (put (sσ run t) 4 (.val (toI k))) K := by
  have g : (run.map piV)[k]? = some (piV p) := by rw [List.getElem?_map, hp]; rfl
  refine ⟨by rw [List.length_map]; lia, k, _, ixOf_get g, g, ?_⟩
  conv => whnf
  refine ⟨fun h => ?_, fun h => ?_⟩
  · have h : p.1 = false := by simpa using h
    refine ⟨by lia, k, c, ixOf_get hc, hc, sokc hc2, vok_sg hq, ?_⟩
    show ((!((p.2.map sg).any fun y => veq y (.str [c]))) = true → _) ∧ ((!((p.2.map sg).any fun y => veq y (.str [c]))) = false → _)
    rw [any_sg]
    have e : piB p c = decide (c ∈ p.2) := by unfold piB; rw [h, Bool.false_or]
    rw [← e]
    exact ⟨fun g => h0 (by simpa using g) _, fun g => h1 (by simpa using g)⟩
  · have h : p.1 = true := by simpa using h
    have e : piB p c = true := by unfold piB; rw [h, Bool.true_or]
    rw [h]
    exact ⟨fun g => (nomatch g), fun _ => h1 e⟩
theorem f_std {C : Cx} {a : Addr} (O : Ok C (Nn l_std noEc)) (D : FnD C a ([0, 1].map (nth l_std)) (fnSc PW 40) (fnB PW 40)) : Fn C a 1 STD :=
  Fn.of_body (vn := Nn l_std noEc) (ps := [0, 1]) D (sl_std O) (by decide +kernel) (by decide +kernel) rfl (by decide) (fun _ _ _ _ _ => trivial) fun ds Q ⟨run, t, e, hr, ht, ht2, hp, hQ⟩ => by
    subst e
    have zr : (run.map piV).length ≤ 1000000 := by rw [List.length_map]; lia
    have zt : t.length ≤ 1000000 := by lia
    have zl : ((run.map piV).length : Int) = (run.length : Int) := by rw [List.length_map]
    refine ⟨rfl, zr, zt, fun h => ?_, fun h => ?_⟩
    · have h : run.length ≠ t.length := fun e => by
        have h : (!decide (((run.map piV).length : Int) = (t.length : Int))) = true := h
        rw [zl, e, decide_eq_true rfl] at h; cases h
      have e : stdB run t = false := by unfold stdB; rw [decide_eq_false h, Bool.false_and]
      rw [e] at hQ; exact hQ
    · have h : run.length = t.length := Classical.byContradiction fun e => by
        have h : (!decide (((run.map piV).length : Int) = (t.length : Int))) = false := h
        rw [zl, decide_eq_false (by lia)] at h; cases h
      have e : stdB run t = (run.zip t).all fun x => piB x.1 x.2 := by unfold stdB; rw [decide_eq_true h, Bool.true_and]
      rw [e] at hQ
      refine ⟨zr, by decide, by decide, by rw [zl]; lia, by decide, by rw [show (rangeL 0 (run.map piV).length 1).length = _ from (List.length_map ..).symm.trans (rng_len 0 _)]; lia, fun n σ => σ = sσ run t ∧ ((run.zip t).take n).all (fun x => piB x.1 x.2) = true, ⟨rfl, rfl⟩, ?_, ?_⟩
      · rintro i d σ hd ⟨rfl, hI⟩
        obtain ⟨rfl, hlt⟩ := rng_get (a := 0) hd
        rw [Nat.zero_add, zl] at hlt
        rw [Nat.zero_add]
        have hi : i < run.length := by lia
        have gr : run[i]? = some run[i] := List.getElem?_eq_getElem hi
        have gt : t[i]? = some t[i] := List.getElem?_eq_getElem (by lia)
        have gz : (run.zip t)[i]? = some (run[i], t[i]) := by rw [List.getElem?_zip_eq_some]; exact ⟨gr, gt⟩
        have hpi := hp _ (List.getElem_mem hi)
        refine std_1 hr ht gr gt hpi.1 hpi.2 (ht2 _ (List.getElem_mem _)) (fun h0 σ => ?_) fun h1 => ⟨rfl, ?_⟩
        · rw [all_false gz h0] at hQ; exact hQ
        · rw [all_take _ _ gz hI]; exact h1
      · rintro σ ⟨rfl, hI⟩
        rw [rng_len, zl, List.take_of_length_le (by rw [List.length_zip]; lia)] at hI
        rw [hI] at hQ
        exact hQ

/-! # _law_fits -/
def hit (t : Nat × Nat) (c : Nat) : Bool := decide (an (xn c t.2) t.1 = 0)
def fitsB : List Nat → List (Nat × Nat) → List Bool → Bool
  | [], ts, _ => ts.isEmpty
  | _ :: _, [], ss => ss.headD false
  | c :: cs, t :: ts, ss => (hit t c && fitsB cs ts ss.tail) || (ss.headD false && fitsB cs (t :: ts) ss)
def tV (t : Nat × Nat) : V := .tuple [toI t.1, toI t.2]
def FTS : Nat → List V → (V → Prop) → Prop
  | 0, _, _ => False
  | n + 1, ds, Q => ∃ (ts : List (Nat × Nat)) (ss : List Bool) (cs : List Nat), ds = [.list (ts.map tV), .list (ss.map .bool), .list (cs.map toI)] ∧ cs.length ≤ n ∧ ts.length ≤ 100 ∧ ss.length = ts.length + 1 ∧ (∀ t ∈ ts, t.1 < 16 ∧ t.2 < 16) ∧ (∀ c ∈ cs, c < 16) ∧ n ≤ 100 ∧ Q (.bool (fitsB cs ts ss))
def l_fts : List String := ["tests", "stars", "classes", "care", "value", "_law_fits"]
def k_fts : Kd := [(0, .local), (1, .local), (2, .local), (3, .local), (4, .local), (5, .globalImplicit)]
def X_fts (W : List V → (V → Prop) → Prop) : Xp := (x_sq (x_if (w_cmp .Eq (pw (w_x 0)) (pw (w_lst []))) (x_sq (x_ret (w_bool false [(pw (w_item (pw (w_x 1)) (pw (w_c (.int 0))))), (w_cmp .Eq (pw (w_x 2)) (pw (w_lst [])))])) x_nil) x_nil) (x_sq (x_if (w_cmp .Eq (pw (w_x 2)) (pw (w_lst []))) (x_sq (x_ret (pw (w_c (.bool false)))) x_nil) x_nil) (x_sq (x_unp [3, 4] (pw (w_item (pw (w_x 0)) (pw (w_c (.int 0)))))) (x_sq (x_if (w_bool true [(w_cmp .Eq (pw (w_bin .BitAnd (pw (w_bin .BitXor (pw (w_item (pw (w_x 2)) (pw (w_c (.int 0))))) (pw (w_x 4)))) (pw (w_x 3)))) (pw (w_c (.int 0)))), (pw (w_call W [(pw (w_sl (pw (w_x 0)) ((pw (w_c (.int 1))) false) w_no)), (pw (w_sl (pw (w_x 1)) ((pw (w_c (.int 1))) false) w_no)), (pw (w_sl (pw (w_x 2)) ((pw (w_c (.int 1))) false) w_no))]))]) (x_sq (x_ret (pw (w_c (.bool true)))) x_nil) x_nil) (x_sq (x_ret (w_bool true [(pw (w_item (pw (w_x 1)) (pw (w_c (.int 0))))), (pw (w_call W [(pw (w_x 0)), (pw (w_x 1)), (pw (w_sl (pw (w_x 2)) ((pw (w_c (.int 1))) false) w_no))]))])) x_nil)))))
theorem sl_fts {C : Cx} {W : List V → (V → Prop) → Prop} {r : Nat} (hf__law_fits : FnAt C "_law_fits" r W) (O : Ok C (Nn l_fts noEc)) : SL C (Nn l_fts noEc) r k_fts (fnB PW 37) (X_fts W) :=
    (.cons (s_ifs (s_cmp (s_x O 0) (s_lst .nil rfl)) (.cons (s_ret (s_or (.cons (s_item (s_x O 1) s_int) (.cons (s_cmp (s_x O 2) (s_lst .nil rfl)) .nil))))
    .nil) .nil)
    (.cons (s_ifs (s_cmp (s_x O 2) (s_lst .nil rfl)) (.cons (s_ret s_bool)
    .nil) .nil)
    (.cons (s_unp 3 4 (s_item (s_x O 0) s_int) (.two rfl rfl (by show nth _ _ ≠ nth _ _; decide +kernel)) rfl rfl)
    (.cons (s_ifs (s_and (.cons (s_cmp (s_bin (s_bin (s_item (s_x O 2) s_int) (s_x O 4)) (s_x O 3)) s_int) (.cons (s_call O (hq := Nat.ble_eq_true_of_le (Nat.le_refl r)) 5 hf__law_fits rfl (.cons (s_sl (s_x O 0) (s_at s_int) s_no) (.cons (s_sl (s_x O 1) (s_at s_int) s_no) (.cons (s_sl (s_x O 2) (s_at s_int) s_no) .nil)))) .nil))) (.cons (s_ret s_bool)
    .nil) .nil)
    (.cons (s_ret (s_and (.cons (s_item (s_x O 1) s_int) (.cons (s_call O (hq := Nat.ble_eq_true_of_le (Nat.le_refl r)) 5 hf__law_fits rfl (.cons (s_x O 0) (.cons (s_x O 1) (.cons (s_sl (s_x O 2) (s_at s_int) s_no) .nil)))) .nil))))
    .nil)))))

theorem fts_c : ∀ c : Nat, c < 16 → ∀ v : Nat, v < 16 → ∀ k : Nat, k < 16 → Builtin.bitAnd (Builtin.bitXor (c : Int) (v : Int)) (k : Int) = ((an (xn c v) k : Nat) : Int) := by decide +kernel
theorem vok_tV (ts : List (Nat × Nat)) (n : Nat) : (ts.map tV).all (vok (n + 1)) = true := List.all_eq_true.mpr fun d hd => by
  obtain ⟨t, _, rfl⟩ := List.mem_map.mp hd
  cases n <;> rfl
theorem vok_toI (l : List Nat) (n : Nat) : (l.map toI).all (vok n) = true := List.all_eq_true.mpr fun d hd => by
  obtain ⟨k, _, rfl⟩ := List.mem_map.mp hd
  cases n <;> rfl
theorem slc_1 {α : Type} (a : α) (l : List α) : sliceL (a :: l) (some (1 : Int)) none = l := sl_from (a :: l) 1
theorem f_fts {C : Cx} {a : Addr} {n : Nat} (hf : FnAt C "_law_fits" n (FTS n)) (O : Ok C (Nn l_fts noEc)) (D : FnD C a ([0, 1, 2].map (nth l_fts)) (fnSc PW 37) (fnB PW 37)) : Fn C a (n + 1) (FTS (n + 1)) :=
  Fn.of_body (vn := Nn l_fts noEc) (ps := [0, 1, 2]) D (sl_fts hf O) (by decide +kernel) (by decide +kernel) rfl (by decide) (fun _ _ _ _ _ => trivial) fun ds Q ⟨ts, ss, cs, e, hc, ht, hs, ht2, hc2, hn, hQ⟩ => by
    subst e
    have zt : (ts.map tV).length ≤ 1000000 := by rw [List.length_map]; lia
    have zs : (ss.map V.bool).length ≤ 1000000 := by rw [List.length_map]; lia
    have zc : (cs.map toI).length ≤ 1000000 := by rw [List.length_map]; lia
    obtain ⟨s0, ss', rfl⟩ : ∃ s0 ss', ss = s0 :: ss' := by
      cases ss with
      | nil => rw [List.length_nil] at hs; lia
      | cons s ss => exact ⟨s, ss, rfl⟩
    have hs' : ss'.length = ts.length := by rw [List.length_cons] at hs; lia
    cases ts with
    | nil =>
      refine ⟨rfl, rfl, rfl, fun _ => ?_, fun h => (nomatch h)⟩
      refine ⟨zs, 0, .bool s0, ixOf_get (k := 0) (l := (s0 :: ss').map V.bool) rfl, rfl, ?_⟩
      refine ⟨fun h => ?_, fun h => ?_⟩
      · have h : s0 = false := h
        subst h
        refine ⟨vok_toI cs 7, rfl, ?_⟩
        cases cs <;> exact hQ
      · have h : s0 = true := by cases s0 with | false => exact absurd rfl h | true => rfl
        subst h
        cases cs <;> exact hQ
    | cons t ts =>
      refine ⟨rfl, vok_tV (t :: ts) 6, rfl, fun h => (nomatch h), fun _ => ?_⟩
      cases cs with
      | nil => exact ⟨rfl, rfl, fun _ => hQ, fun h => (nomatch h)⟩
      | cons c cs =>
        refine ⟨vok_toI (c :: cs) 7, rfl, fun h => (nomatch h), fun _ => ?_⟩
        refine ⟨zt, 0, tV t, ixOf_get (k := 0) (l := (t :: ts).map tV) rfl, rfl, ?_⟩
        refine ⟨zc, 0, toI c, ixOf_get (k := 0) (l := (c :: cs).map toI) rfl, rfl, ?_⟩
        obtain ⟨t1, t2⟩ := ht2 t (.head _)
        cases n with
        | zero => rw [List.length_cons] at hc; lia
        | succ m =>
        have hcl : cs.length ≤ m := by rw [List.length_cons] at hc; lia
        have e1 : sliceL ((t :: ts).map tV) (some (1 : Int)) none = ts.map tV := slc_1 _ _
        have e2 : sliceL ((s0 :: ss').map V.bool) (some (1 : Int)) none = ss'.map V.bool := slc_1 _ _
        have e3 : sliceL ((c :: cs).map toI) (some (1 : Int)) none = cs.map toI := slc_1 _ _
        have rest : (hit t c && fitsB cs ts ss') = false → x_sq (x_ret (w_bool true [pw (w_item (pw (w_x 1)) (pw (w_c (.int 0)))), pw (w_call (FTS (m + 1)) [pw (w_x 0), pw (w_x 1), pw (w_sl (pw (w_x 2)) (pw (w_c (.int 1)) false) w_no)])])) x_nil (putβ (σ0 [0, 1, 2] [.list ((t :: ts).map tV), .list ((s0 :: ss').map V.bool), .list ((c :: cs).map toI)]) [(3, toI t.1), (4, toI t.2)]) (retK Q) := fun hf => by
          have eq : fitsB (c :: cs) (t :: ts) (s0 :: ss') = (s0 && fitsB cs (t :: ts) (s0 :: ss')) := by
            show ((hit t c && fitsB cs ts ss') || _) = _
            rw [hf, Bool.false_or]; rfl
          rw [eq] at hQ
          refine ⟨zs, 0, .bool s0, ixOf_get (k := 0) (l := (s0 :: ss').map V.bool) rfl, rfl, ?_⟩
          refine ⟨fun h => ?_, fun h => ?_⟩
          · have h : s0 = true := h
            subst h
            refine ⟨by decide, zc, t :: ts, true :: ss', cs, ?_, hcl, ht, hs, ht2, fun x hx => hc2 x (.tail _ hx), by lia, hQ⟩
            show [V.list ((t :: ts).map tV), V.list ((true :: ss').map V.bool), V.list (sliceL ((c :: cs).map toI) (some (1 : Int)) none)] = _
            rw [e3]
          · have h : s0 = false := by cases s0 with | true => exact absurd rfl h | false => rfl
            subst h
            exact hQ
        have eh : (decide (Builtin.bitAnd (Builtin.bitXor (c : Int) (t.2 : Int)) (t.1 : Int) = 0)) = hit t c := by rw [fts_c c (hc2 c (.head _)) t.2 t2 t.1 t1, z0]; rfl
        refine ⟨fun h => ?_, fun h => ?_⟩
        · have h : hit t c = true := eh ▸ h
          refine ⟨by decide, zt, by decide, zs, by decide, zc, ts, ss', cs, ?_, hcl, by rw [List.length_cons] at ht; lia, hs', fun x hx => ht2 x (.tail _ hx), fun x hx => hc2 x (.tail _ hx), by lia, ?_⟩
          · show [V.list (sliceL ((t :: ts).map tV) (some (1 : Int)) none), V.list (sliceL ((s0 :: ss').map V.bool) (some (1 : Int)) none), V.list (sliceL ((c :: cs).map toI) (some (1 : Int)) none)] = _
            rw [e1, e2, e3]
          · refine ⟨fun g => ?_, fun g => rest (by rw [h, Bool.true_and]; exact g)⟩
            have eq : fitsB (c :: cs) (t :: ts) (s0 :: ss') = true := by
              show ((hit t c && fitsB cs ts ss') || _) = _
              rw [h, Bool.true_and, show fitsB cs ts ss' = true from g, Bool.true_or]
            rw [eq] at hQ
            exact hQ
        · have h : hit t c = false := Bool.eq_false_iff.mpr fun e => h (eh.trans e)
          refine ⟨fun g => ?_, fun _ => rest (by rw [h, Bool.false_and])⟩
          have g : (decide (Builtin.bitAnd (Builtin.bitXor (c : Int) (t.2 : Int)) (t.1 : Int) = 0)) = true := g
          rw [eh, h] at g; cases g
def l_rns : List String := ["text", "runs", "way", "fine", "at", "len", "signs", "sign", "_law_sign"]
def k_rns : Kd := [(0, .local), (1, .local), (2, .local), (3, .local), (4, .local), (5, .globalImplicit), (6, .local), (7, .local), (8, .globalImplicit)]
def X_rns_1 : Xp := (x_sq (x_new2 1) (x_sq (x_asg 2 (pw (w_c (.str [104, 101, 108, 100])))) (x_sq (x_aug 4 .Add (pw (w_c (.int 6)))) x_nil)))
def X_rns_2 : Xp := (x_sq (x_new2 1) (x_sq (x_asg 2 (pw (w_c (.str [108, 97, 115, 116])))) (x_sq (x_aug 4 .Add (pw (w_c (.int 2)))) x_nil)))
def X_rns_3 : Xp := (x_sq (x_asg 3 (w_cmp .NotEq (pw (w_x 2)) (pw (w_c (.str [115, 104, 117, 116]))))) (x_sq (x_app2 1 (pw (w_tup [(pw (w_c (.bool true))), (pw (w_lst []))]))) (x_sq (x_aug 4 .Add (pw (w_c (.int 1)))) x_nil)))
def X_rns_4 : Xp := (x_sq (x_asg 3 (w_bool true [(pw (w_x 3)), (w_cmp .NotIn (pw (w_item (pw (w_x 0)) (pw (w_x 4)))) (pw (w_c (.str [45, 94]))))])) (x_sq (x_unp [7, 4] (pw (w_call SIGN [(pw (w_x 0)), (pw (w_x 4))]))) (x_sq (x_asg 3 (w_bool true [(pw (w_x 3)), (w_cmp .NotEq (pw (w_x 7)) (pw (w_c (.str []))))])) (x_sq (x_app 6 (pw (w_x 7))) (x_keep [0, 1, 2, 3, 4, 6] x_nil)))))
def X_rns_5 : Xp := (x_sq (x_asg 3 (w_cmp .NotEq (pw (w_x 2)) (pw (w_c (.str [115, 104, 117, 116]))))) (x_sq (x_asgL 6 []) (x_sq (x_aug 4 .Add (pw (w_c (.int 1)))) (x_sq (x_while (w_cmp .NotEq (pw (w_item (pw (w_x 0)) (pw (w_x 4)))) (pw (w_c (.str [93])))) X_rns_4) (x_frz 6 (x_sq (x_app2 1 (pw (w_tup [(pw (w_c (.bool false))), (pw (w_x 6))]))) (x_sq (x_aug 4 .Add (pw (w_c (.int 1)))) x_nil)))))))
def X_rns_6 : Xp := (x_sq (x_asg 3 (w_bool true [(w_cmp .NotEq (pw (w_x 2)) (pw (w_c (.str [115, 104, 117, 116])))), (w_cmp .NotIn (pw (w_item (pw (w_x 0)) (pw (w_x 4)))) (pw (w_c (.str [42, 43, 63, 40, 41, 123, 124, 125, 94, 36]))))])) (x_sq (x_unp [7, 4] (pw (w_call SIGN [(pw (w_x 0)), (pw (w_x 4))]))) (x_sq (x_asg 3 (w_bool true [(pw (w_x 3)), (w_cmp .NotEq (pw (w_x 7)) (pw (w_c (.str []))))])) (x_sq (x_app2 1 (pw (w_tup [(pw (w_c (.bool false))), (pw (w_lst [(pw (w_x 7))]))]))) x_nil))))
def X_rns_7 : Xp := (x_sq (x_if (w_bool true [(w_cmp .Eq (pw (w_sl (pw (w_x 0)) ((pw (w_x 4)) false) ((pw (w_bin .Add (pw (w_x 4)) (pw (w_c (.int 6))))) false))) (pw (w_c (.str [40, 63, 62, 46, 42, 63])))), (w_cmp .In (pw (w_x 2)) (pw (w_tup [(pw (w_c (.str [104, 101, 97, 100]))), (pw (w_c (.str [115, 104, 117, 116])))])))]) X_rns_1 (x_sq (x_if (w_bool true [(w_cmp .Eq (pw (w_item (pw (w_x 0)) (pw (w_x 4)))) (pw (w_c (.str [41])))), (w_cmp .Eq (pw (w_x 2)) (pw (w_c (.str [104, 101, 108, 100]))))]) (x_sq (x_asg 2 (pw (w_c (.str [115, 104, 117, 116])))) (x_sq (x_aug 4 .Add (pw (w_c (.int 1)))) x_nil)) (x_sq (x_if (w_bool true [(w_cmp .Eq (pw (w_sl (pw (w_x 0)) ((pw (w_x 4)) false) ((pw (w_bin .Add (pw (w_x 4)) (pw (w_c (.int 2))))) false))) (pw (w_c (.str [46, 42])))), (w_cmp .In (pw (w_x 2)) (pw (w_tup [(pw (w_c (.str [104, 101, 97, 100]))), (pw (w_c (.str [115, 104, 117, 116])))])))]) X_rns_2 (x_sq (x_if (w_cmp .Eq (pw (w_item (pw (w_x 0)) (pw (w_x 4)))) (pw (w_c (.str [46])))) X_rns_3 (x_sq (x_if (w_cmp .Eq (pw (w_item (pw (w_x 0)) (pw (w_x 4)))) (pw (w_c (.str [91])))) X_rns_5 X_rns_6) x_nil)) x_nil)) x_nil)) x_nil)) (x_keep [0, 1, 2, 3, 4] x_nil))
def X_rns : Xp := (x_sq (x_nest 1 2 (pw (w_c (.str [104, 101, 97, 100])))) (x_sq (x_asg 3 (w_bool true [(w_cmp .Eq (pw (w_sl (pw (w_x 0)) w_no ((pw (w_c (.int 4))) false))) (pw (w_c (.str [40, 63, 115, 58])))), (w_cmp .Eq (pw (w_sl (pw (w_x 0)) ((pw (w_un .USub (pw (w_c (.int 3))))) false) w_no)) (pw (w_c (.str [41, 92, 90]))))])) (x_sq (x_asg 4 (pw (w_c (.int 4)))) (x_sq (x_while (w_bool true [(pw (w_x 3)), (w_cmp .Lt (pw (w_x 4)) (pw (w_bin .Sub (pw (w_len (pw (w_x 0)))) (pw (w_c (.int 3))))))]) X_rns_7) (x_frz2 1 (x_sq (x_ret (w_if (w_bool true [(pw (w_x 3)), (w_cmp .In (pw (w_x 2)) (pw (w_tup [(pw (w_c (.str [104, 101, 97, 100]))), (pw (w_c (.str [108, 97, 115, 116])))])))]) (pw (w_x 1)) (pw (w_lst [])))) x_nil))))))
theorem sl_rns {C : Cx} (hf__law_sign : FnAt C "_law_sign" 1 SIGN) (O : Ok C (Nn l_rns noEc)) : SL C (Nn l_rns noEc) 1 k_rns (fnB PW 39) X_rns :=
    (.cons (s_nest 1 2 (s_str [104, 101, 97, 100] (by decide +kernel)) rfl rfl rfl (by show nth _ _ ≠ nth _ _; decide +kernel))
    (.cons (s_asg 3 (s_and (.cons (s_cmp (s_sl (s_x O 0) s_no (s_at s_int)) (s_str [40, 63, 115, 58] (by decide +kernel))) (.cons (s_cmp (s_sl (s_x O 0) (s_at (s_neg s_int)) s_no) (s_str [41, 92, 90] (by decide +kernel))) .nil))) rfl rfl)
    (.cons (s_asg 4 s_int rfl rfl)
    (.cons (s_while (s_and (.cons (s_x O 3) (.cons (s_cmp (s_x O 4) (s_bin (s_len O (n := 5) rfl rfl (s_x O 0)) s_int)) .nil))) (.cons (s_ifs (s_and (.cons (s_cmp (s_sl (s_x O 0) (s_at (s_x O 4)) (s_at (s_bin (s_x O 4) s_int))) (s_str [40, 63, 62, 46, 42, 63] (by decide +kernel))) (.cons (s_cmp (s_x O 2) (s_tup (.cons (s_str [104, 101, 97, 100] (by decide +kernel)) (.cons (s_str [115, 104, 117, 116] (by decide +kernel)) .nil)) rfl)) .nil))) (.cons (s_new2 O 1 rfl)
    (.cons (s_asg 2 (s_str [104, 101, 108, 100] (by decide +kernel)) rfl rfl)
    (.cons (s_aug 4 s_int)
    .nil))) (.cons (s_ifs (s_and (.cons (s_cmp (s_item (s_x O 0) (s_x O 4)) (s_str [41] (by decide +kernel))) (.cons (s_cmp (s_x O 2) (s_str [104, 101, 108, 100] (by decide +kernel))) .nil))) (.cons (s_asg 2 (s_str [115, 104, 117, 116] (by decide +kernel)) rfl rfl)
    (.cons (s_aug 4 s_int)
    .nil)) (.cons (s_ifs (s_and (.cons (s_cmp (s_sl (s_x O 0) (s_at (s_x O 4)) (s_at (s_bin (s_x O 4) s_int))) (s_str [46, 42] (by decide +kernel))) (.cons (s_cmp (s_x O 2) (s_tup (.cons (s_str [104, 101, 97, 100] (by decide +kernel)) (.cons (s_str [115, 104, 117, 116] (by decide +kernel)) .nil)) rfl)) .nil))) (.cons (s_new2 O 1 rfl)
    (.cons (s_asg 2 (s_str [108, 97, 115, 116] (by decide +kernel)) rfl rfl)
    (.cons (s_aug 4 s_int)
    .nil))) (.cons (s_ifs (s_cmp (s_item (s_x O 0) (s_x O 4)) (s_str [46] (by decide +kernel))) (.cons (s_asg 3 (s_cmp (s_x O 2) (s_str [115, 104, 117, 116] (by decide +kernel))) rfl rfl)
    (.cons (s_app2 O 1 (s_neg s_int) (s_tup (.cons s_bool (.cons (s_lst .nil rfl) .nil)) rfl) rfl)
    (.cons (s_aug 4 s_int)
    .nil))) (.cons (s_ifs (s_cmp (s_item (s_x O 0) (s_x O 4)) (s_str [91] (by decide +kernel))) (.cons (s_asg 3 (s_cmp (s_x O 2) (s_str [115, 104, 117, 116] (by decide +kernel))) rfl rfl)
    (.cons (s_asgL 6 .nil rfl rfl)
    (.cons (s_aug 4 s_int)
    (.cons (s_while (s_cmp (s_item (s_x O 0) (s_x O 4)) (s_str [93] (by decide +kernel))) (.cons (s_asg 3 (s_and (.cons (s_x O 3) (.cons (s_cmp (s_item (s_x O 0) (s_x O 4)) (s_str [45, 94] (by decide +kernel))) .nil))) rfl rfl)
    (.cons (s_unp 7 4 (s_call O 8 hf__law_sign rfl (.cons (s_x O 0) (.cons (s_x O 4) .nil))) (.two rfl rfl (by show nth _ _ ≠ nth _ _; decide +kernel)) rfl rfl)
    (.cons (s_asg 3 (s_and (.cons (s_x O 3) (.cons (s_cmp (s_x O 7) (s_str [] (by decide +kernel))) .nil))) rfl rfl)
    (.cons (s_app O 6 (s_x O 7) rfl)
    (.keep [0, 1, 2, 3, 4, 6] .nil))))))
    (.frz 6 (.cons (s_app2 O 1 (s_neg s_int) (s_tup (.cons s_bool (.cons (s_x O 6) .nil)) rfl) rfl)
    (.cons (s_aug 4 s_int)
    .nil))))))) (.cons (s_asg 3 (s_and (.cons (s_cmp (s_x O 2) (s_str [115, 104, 117, 116] (by decide +kernel))) (.cons (s_cmp (s_item (s_x O 0) (s_x O 4)) (s_str [42, 43, 63, 40, 41, 123, 124, 125, 94, 36] (by decide +kernel))) .nil))) rfl rfl)
    (.cons (s_unp 7 4 (s_call O 8 hf__law_sign rfl (.cons (s_x O 0) (.cons (s_x O 4) .nil))) (.two rfl rfl (by show nth _ _ ≠ nth _ _; decide +kernel)) rfl rfl)
    (.cons (s_asg 3 (s_and (.cons (s_x O 3) (.cons (s_cmp (s_x O 7) (s_str [] (by decide +kernel))) .nil))) rfl rfl)
    (.cons (s_app2 O 1 (s_neg s_int) (s_tup (.cons s_bool (.cons (s_lst (.cons (s_x O 7) .nil) rfl) .nil)) rfl) rfl)
    .nil)))))
    .nil))
    .nil))
    .nil))
    .nil))
    (.keep [0, 1, 2, 3, 4] .nil)))
    (.frz2 1 (.cons (s_ret (s_if (s_and (.cons (s_x O 3) (.cons (s_cmp (s_x O 2) (s_tup (.cons (s_str [104, 101, 97, 100] (by decide +kernel)) (.cons (s_str [108, 97, 115, 116] (by decide +kernel)) .nil)) rfl)) .nil))) (s_x O 1) (s_lst .nil rfl)))
    .nil))))))

/-! # _law_runs -/
def wN : Nat → List Nat
  | 0 => [104, 101, 97, 100]
  | 1 => [104, 101, 108, 100]
  | 2 => [115, 104, 117, 116]
  | _ => [108, 97, 115, 116]
def rσ (T : List Nat) (fs ls : List V) (w : Nat) (at_ : Nat) : St := [(0, .val (.str T)), (2, .val (.str (wN w))), (1, .own2 fs ls), (3, .val (.bool true)), (4, .val (toI at_))]
theorem sl_n {T pre r : List Nat} (hT : T = pre ++ r) (n : Nat) : sliceL T (some (pre.length : Int)) (some ((pre.length : Int) + (n : Int))) = r.take n := by
  unfold sliceL
  dsimp only
  rw [show (pre.length : Int) + (n : Int) = ((pre.length + n : Nat) : Int) from rfl, ixL_nat, ixL_nat, hT]
  have hl : (pre ++ r).length = pre.length + r.length := List.length_append ..
  rw [hl, Nat.min_eq_left (Nat.le_add_right pre.length r.length), List.drop_left, List.take_eq_take_iff]
  lia
section
variable {T pre r : List Nat} {fs ls : List V} {w : Nat} {K : Kt}
theorem sok_sl (hc : ∀ c ∈ T, c < 128) (a b : Option Int) : sok (sliceL T a b) = true := sok_le fun c h => Nat.lt_trans (hc c (List.mem_of_mem_drop (List.mem_of_mem_take h))) (by decide)
def OPN : List Nat := [40, 63, 62, 46, 42, 63]
theorem t_open (hz : T.length ≤ 900000) (hT : T = pre ++ r) (hc : ∀ c ∈ T, c < 128) (hw : w ≤ 3) {P : Bool → Prop} (h : P (decide (r.take 6 = OPN) && (decide (w = 0) || decide (w = 2)))) :
    wB true true [w_cmp .Eq (pw (w_sl (pw (w_x 0)) ((pw (w_x 4)) false) ((pw (w_bin .Add (pw (w_x 4)) (pw (w_c (.int 6))))) false))) (pw (w_c (.str [40, 63, 62, 46, 42, 63]))), w_cmp .In (pw (w_x 2)) (pw (w_tup [pw (w_c (.str [104, 101, 97, 100])), pw (w_c (.str [115, 104, 117, 116]))]))] (ρa (rσ T fs ls w pre.length)) fun d => bw d P := by
  have hp : pre.length ≤ 900000 := by rw [hT, List.length_append] at hz; lia
  have e6 : sliceL T (some (pre.length : Int)) (some ((pre.length : Int) + 6)) = r.take 6 := sl_n hT 6
  refine ⟨by lia, by lia, by lia, sok_sl hc _ _, rfl, ?_⟩
  rw [e6]
  show (decide (r.take 6 = OPN) = true → _) ∧ (decide (r.take 6 = OPN) ≠ true → P (decide (r.take 6 = OPN)))
  refine ⟨fun e => ?_, fun e => ?_⟩
  · rw [e, Bool.true_and] at h
    match w, hw with
    | 0, _ => exact ⟨rfl, rfl, h⟩
    | 1, _ => exact ⟨rfl, rfl, h⟩
    | 2, _ => exact ⟨rfl, rfl, h⟩
    | 3, _ => exact ⟨rfl, rfl, h⟩
  · have e := Bool.eq_false_iff.mpr e
    rw [e, Bool.false_and] at h
    rw [e]; exact h
theorem t_last (hz : T.length ≤ 900000) (hT : T = pre ++ r) (hc : ∀ c ∈ T, c < 128) (hw : w ≤ 3) {P : Bool → Prop} (h : P (decide (r.take 2 = [46, 42]) && (decide (w = 0) || decide (w = 2)))) :
    wB true true [w_cmp .Eq (pw (w_sl (pw (w_x 0)) ((pw (w_x 4)) false) ((pw (w_bin .Add (pw (w_x 4)) (pw (w_c (.int 2))))) false))) (pw (w_c (.str [46, 42]))), w_cmp .In (pw (w_x 2)) (pw (w_tup [pw (w_c (.str [104, 101, 97, 100])), pw (w_c (.str [115, 104, 117, 116]))]))] (ρa (rσ T fs ls w pre.length)) fun d => bw d P := by
  have hp : pre.length ≤ 900000 := by rw [hT, List.length_append] at hz; lia
  have e6 : sliceL T (some (pre.length : Int)) (some ((pre.length : Int) + 2)) = r.take 2 := sl_n hT 2
  refine ⟨by lia, by lia, by lia, sok_sl hc _ _, rfl, ?_⟩
  rw [e6]
  show (decide (r.take 2 = [46, 42]) = true → _) ∧ (decide (r.take 2 = [46, 42]) ≠ true → P (decide (r.take 2 = [46, 42])))
  refine ⟨fun e => ?_, fun e => ?_⟩
  · rw [e, Bool.true_and] at h
    match w, hw with
    | 0, _ => exact ⟨rfl, rfl, h⟩
    | 1, _ => exact ⟨rfl, rfl, h⟩
    | 2, _ => exact ⟨rfl, rfl, h⟩
    | 3, _ => exact ⟨rfl, rfl, h⟩
  · have e := Bool.eq_false_iff.mpr e
    rw [e, Bool.false_and] at h
    rw [e]; exact h
theorem t_shut {c : Nat} (hz : T.length ≤ 900000) (hT : T = pre ++ c :: r) (hc : ∀ c ∈ T, c < 128) (hw : w ≤ 3) {P : Bool → Prop} (h : P (decide (c = 41) && decide (w = 1))) :
    wB true true [w_cmp .Eq (pw (w_item (pw (w_x 0)) (pw (w_x 4)))) (pw (w_c (.str [41]))), w_cmp .Eq (pw (w_x 2)) (pw (w_c (.str [104, 101, 108, 100])))] (ρa (rσ T fs ls w pre.length)) fun d => bw d P := by
  refine get_at hT (by lia) ⟨sokc (hc c (by rw [hT]; exact List.mem_append_right _ (.head _))), rfl, ?_⟩
  show (decide ([c] = [41]) = true → _) ∧ (decide ([c] = [41]) ≠ true → P (decide ([c] = [41])))
  rw [show decide ([c] = [41]) = decide (c = 41) from decide_eq_decide.mpr ⟨fun e => (List.cons.inj e).1, fun e => by rw [e]⟩]
  refine ⟨fun e => ?_, fun e => ?_⟩
  · rw [e, Bool.true_and] at h
    match w, hw with
    | 0, _ => exact ⟨rfl, rfl, h⟩
    | 1, _ => exact ⟨rfl, rfl, h⟩
    | 2, _ => exact ⟨rfl, rfl, h⟩
    | 3, _ => exact ⟨rfl, rfl, h⟩
  · have e := Bool.eq_false_iff.mpr e
    rw [e, Bool.false_and] at h
    rw [e]; exact h
theorem rns_open (hz : T.length ≤ 900000) (hT : T = pre ++ (OPN ++ r)) (hc : ∀ c ∈ T, c < 128) (hw : w = 0 ∨ w = 2) (hf : fs.length ≤ 1000) (hK : K .next (rσ T (fs ++ [.list ls]) [] 1 (pre.length + 6))) : X_rns_7 (rσ T fs ls w pre.length) K := by
  refine t_open hz hT hc (by lia) ?_
  have e : (decide ((OPN ++ r).take 6 = OPN) && (decide (w = 0) || decide (w = 2))) = true := by
    rw [show (OPN ++ r).take 6 = OPN from List.take_left' rfl, decide_eq_true rfl]
    rcases hw with rfl | rfl <;> rfl
  rw [e]
  exact ⟨fun _ => ⟨by lia, rfl, rfl, hK⟩, fun h => (nomatch h)⟩
theorem not_open {c : Nat} (h : c ≠ 40) : decide ((c :: r).take 6 = OPN) = false := decide_eq_false fun e => h (List.cons.inj e).1
theorem rns_shut (hz : T.length ≤ 900000) (hT : T = pre ++ 41 :: r) (hc : ∀ c ∈ T, c < 128) (hK : K .next (rσ T fs ls 2 (pre.length + 1))) : X_rns_7 (rσ T fs ls 1 pre.length) K := by
  refine t_open hz hT hc (by decide) ?_
  rw [not_open (by decide), Bool.false_and]
  refine ⟨fun h => (nomatch h), fun _ => ?_⟩
  refine t_shut hz hT hc (by decide) ?_
  exact ⟨fun _ => ⟨rfl, rfl, hK⟩, fun h => (nomatch h)⟩
theorem rns_last (hz : T.length ≤ 900000) (hT : T = pre ++ 46 :: 42 :: r) (hc : ∀ c ∈ T, c < 128) (hw : w = 0 ∨ w = 2) (hf : fs.length ≤ 1000) (hK : K .next (rσ T (fs ++ [.list ls]) [] 3 (pre.length + 2))) : X_rns_7 (rσ T fs ls w pre.length) K := by
  refine t_open hz hT hc (by lia) ?_
  rw [not_open (by decide), Bool.false_and]
  refine ⟨fun h => (nomatch h), fun _ => ?_⟩
  refine t_shut hz hT hc (by lia) ?_
  refine ⟨fun h => (nomatch h), fun _ => ?_⟩
  refine t_last hz hT hc (by lia) ?_
  have e : (decide ((46 :: 42 :: r).take 2 = [46, 42]) && (decide (w = 0) || decide (w = 2))) = true := by
    rw [show (46 :: 42 :: r).take 2 = [46, 42] from rfl, decide_eq_true rfl]
    rcases hw with rfl | rfl <;> rfl
  rw [e]
  exact ⟨fun _ => ⟨by lia, rfl, rfl, hK⟩, fun h => (nomatch h)⟩
/-- the three signs of structure do not stand here -/
theorem rns_item {c d : Nat} (hz : T.length ≤ 900000) (hT : T = pre ++ c :: d :: r) (hc : ∀ c ∈ T, c < 128) (hw : w ≤ 3) (h1 : c ≠ 40) (h2 : c ≠ 41) (h3 : ¬ (c = 46 ∧ d = 42))
    (h : x_if (w_cmp .Eq (pw (w_item (pw (w_x 0)) (pw (w_x 4)))) (pw (w_c (.str [46])))) X_rns_3 (x_sq (x_if (w_cmp .Eq (pw (w_item (pw (w_x 0)) (pw (w_x 4)))) (pw (w_c (.str [91])))) X_rns_5 X_rns_6) x_nil) (rσ T fs ls w pre.length) (sq x_nil (sq x_nil (sq x_nil (sq (x_keep [0, 1, 2, 3, 4] x_nil) K))))) : X_rns_7 (rσ T fs ls w pre.length) K := by
  refine t_open hz hT hc hw ?_
  rw [not_open h1, Bool.false_and]
  refine ⟨fun h => (nomatch h), fun _ => ?_⟩
  refine t_shut hz hT hc hw ?_
  rw [decide_eq_false h2, Bool.false_and]
  refine ⟨fun h => (nomatch h), fun _ => ?_⟩
  refine t_last hz hT hc hw ?_
  rw [decide_eq_false (fun e : (c :: d :: r).take 2 = [46, 42] => h3 ⟨(List.cons.inj e).1, (List.cons.inj (List.cons.inj e).2).1⟩), Bool.false_and]
  exact ⟨fun h => (nomatch h), fun _ => h⟩
theorem rns_q {d : Nat} (hz : T.length ≤ 900000) (hT : T = pre ++ 46 :: d :: r) (hc : ∀ c ∈ T, c < 128) (hw : w ≤ 3) (hw2 : w ≠ 2) (hd : d ≠ 42) (hf : fs.length ≤ 1000) (hl : ls.length ≤ 1000)
    (hK : K .next (rσ T fs (ls ++ [piV (true, [])]) w (pre.length + 1))) : X_rns_7 (rσ T fs ls w pre.length) K := by
  refine rns_item hz hT hc hw (by decide) (by decide) (fun h => hd h.2) ?_
  refine get_at hT (by lia) ⟨rfl, rfl, fun _ => ?_, fun h => (nomatch h)⟩
  match w, hw, hw2 with
  | 0, _, _ => exact ⟨rfl, rfl, by lia, by lia, rfl, rfl, hK⟩
  | 1, _, _ => exact ⟨rfl, rfl, by lia, by lia, rfl, rfl, hK⟩
  | 3, _, _ => exact ⟨rfl, rfl, by lia, by lia, rfl, rfl, hK⟩
def CL : List Nat := [98, 99, 100, 108, 112, 114, 115, 119]
def SPC : List Nat := [42, 43, 63, 40, 41, 123, 124, 125, 94, 36]
theorem cl_ok : ∀ x ∈ CL, (!decide (x ∈ [42, 43, 63, 40, 41, 123, 124, 125, 94, 36])) = true ∧ x ≠ 40 ∧ x ≠ 41 ∧ x ≠ 46 ∧ x ≠ 91 ∧ x ≠ 92 ∧ x < 128 := by decide +kernel
theorem wn_ok {w : Nat} (hw : w ≤ 3) (hw2 : w ≠ 2) : (!decide (wN w = [115, 104, 117, 116])) = true := by
  match w, hw, hw2 with
  | 0, _, _ => decide
  | 1, _, _ => decide
  | 3, _, _ => decide
theorem wn_sok (w : Nat) : sok (wN w) = true := by
  match w with
  | 0 => rfl
  | 1 => rfl
  | 2 => rfl
  | n + 3 => rfl
theorem rns_c1 {x d : Nat} (hz : T.length ≤ 900000) (hT : T = pre ++ x :: d :: r) (hc : ∀ c ∈ T, c < 128) (hw : w ≤ 3) (hw2 : w ≠ 2) (hx : x ∈ CL) (hf : fs.length ≤ 1000) (hl : ls.length ≤ 1000)
    (hK : K .next (rσ T fs (ls ++ [piV (false, [x])]) w (pre.length + 1))) : X_rns_7 (rσ T fs ls w pre.length) K := by
  obtain ⟨x1', x2, x3, x4, x5, x6, x7⟩ := cl_ok x hx
  have zT : T.length ≤ 1000000 := by lia
  have gx : T[pre.length]? = some x := by rw [hT]; exact getA pre x (d :: r)
  refine rns_item hz hT hc hw x2 x3 (fun h => x4 h.1) ?_
  refine get_at hT zT ⟨sokc x7, rfl, fun h => absurd ((List.cons.inj (of_decide_eq_true h)).1) x4, fun _ => ?_⟩
  refine get_at hT zT ⟨sokc x7, rfl, fun h => absurd ((List.cons.inj (of_decide_eq_true h)).1) x5, fun _ => ?_⟩
  have hwn : (!decide (wN w = [115, 104, 117, 116])) = true := wn_ok hw hw2
  refine ⟨wn_sok w, rfl, fun _ => ?_, fun h => absurd hwn h⟩
  refine get_at hT zT ?_
  conv => whnf
  rw [x1']
  refine ⟨T, pre.length, x, rfl, zT, hc, gx, fun _ => ?_, fun h => absurd h x6⟩
  refine ⟨fun _ => ⟨sokc x7, rfl, ?_⟩, fun h => absurd rfl h⟩
  refine ⟨by lia, by lia, ?_⟩
  exact hK
theorem rns_c2 (hz : T.length ≤ 900000) (hT : T = pre ++ 92 :: 45 :: r) (hc : ∀ c ∈ T, c < 128) (hw : w ≤ 3) (hw2 : w ≠ 2) (hf : fs.length ≤ 1000) (hl : ls.length ≤ 1000)
    (hK : K .next (rσ T fs (ls ++ [piV (false, [45])]) w (pre.length + 2))) : X_rns_7 (rσ T fs ls w pre.length) K := by
  have zT : T.length ≤ 1000000 := by lia
  have gx : T[pre.length]? = some 92 := by rw [hT]; exact getA pre 92 (45 :: r)
  have gy : T[pre.length + 1]? = some 45 := by
    rw [hT, List.getElem?_append_right (Nat.le_add_right _ _), Nat.add_sub_cancel_left]; rfl
  refine rns_item hz hT hc hw (by decide) (by decide) (fun h => absurd h.1 (by decide)) ?_
  refine get_at hT zT ⟨rfl, rfl, fun h => absurd ((List.cons.inj (of_decide_eq_true h)).1) (by decide), fun _ => ?_⟩
  refine get_at hT zT ⟨rfl, rfl, fun h => absurd ((List.cons.inj (of_decide_eq_true h)).1) (by decide), fun _ => ?_⟩
  have hwn : (!decide (wN w = [115, 104, 117, 116])) = true := wn_ok hw hw2
  refine ⟨wn_sok w, rfl, fun _ => ?_, fun h => absurd hwn h⟩
  refine get_at hT zT ?_
  conv => whnf
  refine ⟨T, pre.length, 92, rfl, zT, hc, gx, fun h => absurd rfl h, fun _ => ⟨45, gy, ?_⟩⟩
  refine ⟨fun _ => ⟨rfl, rfl, ?_⟩, fun h => absurd rfl h⟩
  refine ⟨by lia, by lia, ?_⟩
  exact hK
def bσ (T : List Nat) (fs ls : List V) (w at_ : Nat) (S : List Nat) : St := rσ T fs ls w at_ ++ [(6, .own (S.map sg))]
def BC : List Nat := [120, 83, 84, 115, 116]
theorem bc_ok : ∀ x ∈ BC, (!decide (x ∈ [45, 94])) = true ∧ x ≠ 92 ∧ x ≠ 93 ∧ x < 128 := by decide +kernel
theorem rns_4a {x : Nat} {S : List Nat} (hz : T.length ≤ 900000) (hT : T = pre ++ x :: r) (hc : ∀ c ∈ T, c < 128) (hx : x ∈ BC) (hS : S.length ≤ 1000) (hK : K .next (bσ T fs ls w (pre.length + 1) (S ++ [x]))) : X_rns_4 (bσ T fs ls w pre.length S) K := by
  obtain ⟨x1, x2, x3, x4⟩ := bc_ok x hx
  have zT : T.length ≤ 1000000 := by lia
  have gx : T[pre.length]? = some x := by rw [hT]; exact getA pre x r
  refine ⟨fun _ => ?_, fun h => absurd rfl h⟩
  refine get_at hT zT ?_
  conv => whnf
  rw [x1]
  refine ⟨T, pre.length, x, rfl, zT, hc, gx, fun _ => ?_, fun h => absurd h x2⟩
  refine ⟨fun _ => ⟨sokc x4, rfl, ?_⟩, fun h => absurd rfl h⟩
  refine ⟨by rw [List.length_map]; lia, ?_⟩
  show K .next (rσ T fs ls w (pre.length + 1) ++ [(6, .own (S.map sg ++ [sg x]))])
  have e : S.map sg ++ [sg x] = (S ++ [x]).map sg := by rw [List.map_append]; rfl
  rw [e]
  exact hK
theorem rns_4b {S : List Nat} (hz : T.length ≤ 900000) (hT : T = pre ++ 92 :: 45 :: r) (hc : ∀ c ∈ T, c < 128) (hS : S.length ≤ 1000) (hK : K .next (bσ T fs ls w (pre.length + 2) (S ++ [45]))) : X_rns_4 (bσ T fs ls w pre.length S) K := by
  have zT : T.length ≤ 1000000 := by lia
  have gx : T[pre.length]? = some 92 := by rw [hT]; exact getA pre 92 (45 :: r)
  have gy : T[pre.length + 1]? = some 45 := by
    rw [hT, List.getElem?_append_right (Nat.le_add_right _ _), Nat.add_sub_cancel_left]; rfl
  refine ⟨fun _ => ?_, fun h => absurd rfl h⟩
  refine get_at hT zT ?_
  conv => whnf
  refine ⟨T, pre.length, 92, rfl, zT, hc, gx, fun h => absurd rfl h, fun _ => ⟨45, gy, ?_⟩⟩
  refine ⟨fun _ => ⟨rfl, rfl, ?_⟩, fun h => absurd rfl h⟩
  refine ⟨by rw [List.length_map]; lia, ?_⟩
  show K .next (rσ T fs ls w (pre.length + 2) ++ [(6, .own (S.map sg ++ [sg 45]))])
  have e : S.map sg ++ [sg 45] = (S ++ [45]).map sg := by rw [List.map_append]; rfl
  rw [e]
  exact hK
def encS : List Nat → List Nat
  | [] => []
  | c :: l => (if c = 45 then [92, 45] else [c]) ++ encS l
theorem encS_app (a b : List Nat) : encS (a ++ b) = encS a ++ encS b := by
  induction a with
  | nil => rfl
  | cons c a ih => show (if c = 45 then [92, 45] else [c]) ++ encS (a ++ b) = (if c = 45 then [92, 45] else [c]) ++ encS a ++ encS b; rw [ih, List.append_assoc]
theorem encS_one (c : Nat) : encS [c] = if c = 45 then [92, 45] else [c] := List.append_nil _
theorem rns_b {d : Nat} {L : List Nat} (hz : T.length ≤ 900000) (hT : T = pre ++ 91 :: (encS L ++ 93 :: d :: r)) (hc : ∀ c ∈ T, c < 128) (hw : w ≤ 3) (hw2 : w ≠ 2) (hL : ∀ c ∈ L, c = 45 ∨ c ∈ BC) (hLl : L.length ≤ 100) (hf : fs.length ≤ 1000) (hl : ls.length ≤ 1000)
    (hK : K .next (rσ T fs (ls ++ [piV (false, L)]) w (pre.length + 1 + (encS L).length + 1))) : X_rns_7 (rσ T fs ls w pre.length) K := by
  have zT : T.length ≤ 1000000 := by lia
  obtain ⟨d0, r0, e0⟩ : ∃ d0 r0, encS L ++ 93 :: d :: r = d0 :: r0 := by
    cases encS L with
    | nil => exact ⟨_, _, rfl⟩
    | cons a l => exact ⟨_, _, rfl⟩
  have hT0 : T = pre ++ 91 :: d0 :: r0 := by rw [hT, e0]
  refine rns_item hz hT0 hc hw (by decide) (by decide) (fun h => absurd h.1 (by decide)) ?_
  refine get_at hT0 zT ⟨rfl, rfl, fun h => absurd ((List.cons.inj (of_decide_eq_true h)).1) (by decide), fun _ => ?_⟩
  refine get_at hT0 zT ⟨rfl, rfl, fun _ => ?_, fun h => (nomatch h)⟩
  have hwn : (!decide (wN w = [115, 104, 117, 116])) = true := wn_ok hw hw2
  refine ⟨wn_sok w, rfl, ?_⟩
  conv => whnf
  rw [hwn]
  refine ⟨rfl, rfl, rfl, fun n σ => ∃ a b, L = a ++ b ∧ n = b.length ∧ σ = bσ T fs ls w (pre.length + 1 + (encS a).length) a, ⟨_, [], L, rfl, rfl, rfl⟩, ?_⟩
  rintro n σ ⟨a, b, eL, rfl, rfl⟩
  have hal : a.length ≤ 100 := by rw [eL, List.length_append] at hLl; lia
  have hp : (pre ++ 91 :: encS a).length = pre.length + 1 + (encS a).length := by rw [List.length_append, List.length_cons]; lia
  cases b with
  | nil =>
    rw [List.append_nil] at eL
    subst eL
    have hT1 : T = (pre ++ 91 :: encS L) ++ 93 :: d :: r := by rw [hT, List.append_assoc]; rfl
    rw [← hp]
    refine get_at hT1 zT ⟨rfl, rfl, fun h => (nomatch h), fun _ => ?_⟩
    rw [hp]
    refine ⟨by lia, by lia, rfl, rfl, hK⟩
  | cons c b =>
    have hT1 : T = (pre ++ 91 :: encS a) ++ (if c = 45 then [92, 45] else [c]) ++ (encS b ++ 93 :: d :: r) := by
      rw [hT, eL, encS_app, show encS (c :: b) = (if c = 45 then [92, 45] else [c]) ++ encS b from rfl]
      simp only [List.append_assoc, List.cons_append]
    have nx : ∃ m, m < (c :: b).length ∧ ∃ a' b', L = a' ++ b' ∧ m = b'.length ∧ bσ T fs ls w (pre.length + 1 + (encS (a ++ [c])).length) (a ++ [c]) = bσ T fs ls w (pre.length + 1 + (encS a').length) a' :=
      ⟨b.length, by rw [List.length_cons]; lia, a ++ [c], b, by rw [eL, List.append_assoc]; rfl, rfl, rfl⟩
    have el : (encS (a ++ [c])).length = (encS a).length + (if c = 45 then [92, 45] else [c]).length := by rw [encS_app, encS_one, List.length_append]
    rw [el] at nx
    by_cases h45 : c = 45
    · subst h45
      have hT1 : T = (pre ++ 91 :: encS a) ++ 92 :: 45 :: (encS b ++ 93 :: d :: r) := by rw [hT1, List.append_assoc]; rfl
      rw [← hp]
      refine get_at hT1 zT ⟨rfl, rfl, fun _ => ?_, fun h => (nomatch h)⟩
      refine rns_4b hz hT1 hc (by lia) ?_
      rw [hp]
      exact nx
    · have hx := (hL c (by rw [eL]; exact List.mem_append_right _ (.head _))).resolve_left h45
      obtain ⟨x1, x2, x3, x4⟩ := bc_ok c hx
      rw [if_neg h45] at hT1 nx
      have hT1 : T = (pre ++ 91 :: encS a) ++ c :: (encS b ++ 93 :: d :: r) := by rw [hT1, List.append_assoc]; rfl
      rw [← hp]
      refine get_at hT1 zT ⟨sokc x4, rfl, fun _ => ?_, fun h => absurd (of_decide_eq_true (show decide ([c] = [93]) = true from by simpa using h)) (fun e => x3 (List.cons.inj e).1)⟩
      refine rns_4a hz hT1 hc hx (by lia) ?_
      rw [hp]
      exact nx
end
/-! # _law_runs, whole -/
def iok : It → Prop
  | .q => True
  | .c x => x = 45 ∨ x ∈ CL
  | .b L => (∀ c ∈ L, c = 45 ∨ c ∈ BC) ∧ L.length ≤ 100
  | .st => False
def pi : It → Bool × List Nat
  | .q => (true, [])
  | .c x => (false, [x])
  | .b L => (false, L)
  | .st => (true, [])
section
variable {T pre r : List Nat} {fs ls : List V} {w d : Nat} {K : Kt}
theorem cl_esc : ∀ x ∈ CL, escL x = [x] := by decide +kernel
theorem esL_enc : ∀ L : List Nat, esL L = encS L
  | [] => rfl
  | c :: L => by rw [esL_cons, esL_enc L]; rfl
theorem rns_it {p : It} (hp : iok p) (hz : T.length ≤ 900000) (hT : T = pre ++ (p.out ++ d :: r)) (hc : ∀ c ∈ T, c < 128) (hw : w ≤ 3) (hw2 : w ≠ 2) (hd : d ≠ 42) (hf : fs.length ≤ 1000) (hl : ls.length ≤ 1000)
    (hK : K .next (rσ T fs (ls ++ [piV (pi p)]) w (pre.length + p.out.length))) : X_rns_7 (rσ T fs ls w pre.length) K := by
  cases p with
  | q => exact rns_q hz hT hc hw hw2 hd hf hl hK
  | st => exact hp.elim
  | c x =>
    rcases hp with rfl | hx
    · exact rns_c2 hz hT hc hw hw2 hf hl hK
    · have e : (It.c x).out = [x] := cl_esc x hx
      rw [e] at hT hK
      exact rns_c1 hz hT hc hw hw2 hx hf hl hK
  | b L =>
    obtain ⟨h1, h2⟩ := hp
    have e : (It.b L).out = [91] ++ encS L ++ [93] := congrArg (fun z => [91] ++ z ++ [93]) (esL_enc L)
    rw [e] at hT hK
    refine rns_b (L := L) (d := d) (r := r) hz ?_ hc hw hw2 h1 h2 hf hl ?_
    · rw [hT, List.append_assoc, List.append_assoc]; rfl
    · have el : ([91] ++ encS L ++ [93]).length = 1 + (encS L).length + 1 := by rw [List.length_append, List.length_append]; rfl
      rw [el] at hK
      rw [show pre.length + 1 + (encS L).length + 1 = pre.length + (1 + (encS L).length + 1) by lia]
      exact hK
end
inductive Tk where
  | it (p : It)
  | op
  | sh
  | la
def Tk.txt : Tk → List Nat
  | .it p => p.out
  | .op => OPN
  | .sh => [41]
  | .la => [46, 42]
abbrev Ts := Nat × List V × List V
def stp (s : Ts) : Tk → Ts
  | .it p => (s.1, s.2.1, s.2.2 ++ [piV (pi p)])
  | .op => (1, s.2.1 ++ [.list s.2.2], [])
  | .sh => (2, s.2.1, s.2.2)
  | .la => (3, s.2.1 ++ [.list s.2.2], [])
def okk (w : Nat) : Tk → Prop
  | .it p => iok p ∧ w ≤ 3 ∧ w ≠ 2
  | .op => w = 0 ∨ w = 2
  | .sh => w = 1
  | .la => w = 0 ∨ w = 2
def okks : Ts → List Tk → Prop
  | s, [] => s.1 = 0 ∨ s.1 = 3
  | s, t :: l => okk s.1 t ∧ okks (stp s t) l
def tT (l : List Tk) : List Nat := (l.map Tk.txt).flatten
theorem tT_cons (t : Tk) (l : List Tk) : tT (t :: l) = t.txt ++ tT l := rfl
theorem tT_snoc (l : List Tk) (t : Tk) : tT (l ++ [t]) = tT l ++ t.txt := by unfold tT; rw [List.map_append, List.flatten_append]; show _ ++ (t.txt ++ []) = _; rw [List.append_nil]
theorem iok_hd {p : It} (h : iok p) : ∃ d r, p.out = d :: r ∧ d ≠ 42 := by
  cases p with
  | q => exact ⟨46, [], rfl, by decide⟩
  | st => exact h.elim
  | c x =>
    rcases h with rfl | h
    · exact ⟨92, [45], rfl, by decide⟩
    · exact ⟨x, [], cl_esc x h, (by decide : ∀ x ∈ CL, x ≠ 42) x h⟩
  | b L => exact ⟨91, _, rfl, by decide⟩
theorem tT_hd {s : Ts} {l : List Tk} (h : okks s l) : ∃ d r, tT l ++ [41, 92, 90] = d :: r ∧ d ≠ 42 := by
  cases l with
  | nil => exact ⟨41, _, rfl, by decide⟩
  | cons t l =>
    cases t with
    | it p =>
      obtain ⟨d, r, e, hd⟩ := iok_hd h.1.1
      exact ⟨d, r ++ tT l ++ [41, 92, 90], by rw [tT_cons]; show p.out ++ tT l ++ _ = _; rw [e]; rfl, hd⟩
    | op => exact ⟨40, _, rfl, by decide⟩
    | sh => exact ⟨41, _, rfl, by decide⟩
    | la => exact ⟨46, _, rfl, by decide⟩
abbrev HD : List Nat := [40, 63, 115, 58]
abbrev TL : List Nat := [41, 92, 90]
abbrev RNS : List V → (V → Prop) → Prop := fun ds Q => ∃ l : List Tk, ds = [.str (HD ++ (tT l ++ TL))] ∧ okks (0, [], []) l ∧ l.length ≤ 500 ∧ (tT l).length ≤ 800000 ∧ (∀ c ∈ tT l, c < 128) ∧
  Q (.list ((l.foldl stp (0, [], [])).2.1 ++ [.list (l.foldl stp (0, [], [])).2.2]))
theorem rns_tk {T pre : List Nat} {t : Tk} {l : List Tk} {s : Ts} {K : Kt} (hz : T.length ≤ 900000) (hT : T = pre ++ (t.txt ++ (tT l ++ TL))) (hc : ∀ c ∈ T, c < 128) (ho : okks s (t :: l)) (hf : s.2.1.length ≤ 1000) (hl : s.2.2.length ≤ 1000)
    (hK : K .next (rσ T (stp s t).2.1 (stp s t).2.2 (stp s t).1 (pre.length + t.txt.length))) : X_rns_7 (rσ T s.2.1 s.2.2 s.1 pre.length) K := by
  obtain ⟨h1, h2⟩ := ho
  cases t with
  | it p =>
    obtain ⟨d, r, e, hd⟩ := tT_hd h2
    exact rns_it h1.1 hz (by rw [hT, e]; rfl) hc h1.2.1 h1.2.2 hd hf hl hK
  | op => exact rns_open hz hT hc h1 hf hK
  | sh =>
    have h1 : s.1 = 1 := h1
    rw [h1]
    exact rns_shut hz hT hc hK
  | la => exact rns_last hz hT hc h1 hf hK
theorem stp_len (s : Ts) (t : Tk) : (stp s t).2.1.length ≤ s.2.1.length + 1 ∧ (stp s t).2.2.length ≤ s.2.2.length + 1 := by
  cases t with
  | it p => exact ⟨Nat.le_succ _, by show (s.2.2 ++ [piV (pi p)]).length ≤ _; rw [List.length_append]; exact Nat.le_refl _⟩
  | op => exact ⟨by show (s.2.1 ++ [V.list s.2.2]).length ≤ _; rw [List.length_append]; exact Nat.le_refl _, Nat.zero_le _⟩
  | sh => exact ⟨Nat.le_succ _, Nat.le_succ _⟩
  | la => exact ⟨by show (s.2.1 ++ [V.list s.2.2]).length ≤ _; rw [List.length_append]; exact Nat.le_refl _, Nat.zero_le _⟩
theorem f_rns {C : Cx} {a : Addr} (hf__law_sign : FnAt C "_law_sign" 1 SIGN) (O : Ok C (Nn l_rns noEc)) (D : FnD C a ([0].map (nth l_rns)) (fnSc PW 39) (fnB PW 39)) : Fn C a 2 RNS :=
  Fn.of_body (vn := Nn l_rns noEc) (ps := [0]) D (sl_rns hf__law_sign O) (by decide +kernel) (by decide +kernel) rfl (by decide) (fun _ _ _ _ _ => trivial) fun ds Q ⟨l, e, ho, hn, hz0, hc0, hQ⟩ => by
    subst e
    have hz : (HD ++ (tT l ++ TL)).length ≤ 900000 := by rw [List.length_append, List.length_append]; show 4 + (_ + 3) ≤ _; lia
    have hl4 : (HD ++ (tT l ++ TL)).length = 4 + (tT l).length + 3 := by rw [List.length_append, List.length_append]; show 4 + (_ + 3) = _; lia
    have hc : ∀ c ∈ HD ++ (tT l ++ TL), c < 128 := fun c h => by
      rcases List.mem_append.mp h with h | h
      · exact (by decide : ∀ c ∈ HD, c < 128) c h
      · rcases List.mem_append.mp h with h | h
        · exact hc0 c h
        · exact (by decide : ∀ c ∈ TL, c < 128) c h
    have hs1 : sliceL (HD ++ (tT l ++ TL)) none (some (4 : Int)) = [40, 63, 115, 58] := by rw [show (4 : Int) = ((4 : Nat) : Int) from rfl, sl_to]; rfl
    have hs2 : sliceL (HD ++ (tT l ++ TL)) (some (-3 : Int)) none = [41, 92, 90] := by rw [← List.append_assoc]; exact sl_m3 (HD ++ tT l) 41 92 90
    generalize hT : HD ++ (tT l ++ TL) = T at hz hl4 hc hs1 hs2
    have hz1 : T.length ≤ 1000000 := by lia
    refine ⟨rfl, rfl, by decide, hz1, ?_⟩
    rw [hs1]
    refine ⟨rfl, rfl, fun _ => ⟨by decide, hz1, ?_⟩, fun h => absurd rfl h⟩
    rw [show -(3 : Int) = -3 from rfl, hs2]
    refine ⟨rfl, rfl, fun m σ => ∃ dn td s, T = HD ++ (tT dn ++ (tT td ++ TL)) ∧ m = td.length ∧ σ = rσ T s.2.1 s.2.2 s.1 (4 + (tT dn).length) ∧ okks s td ∧ s.2.1.length + td.length ≤ 500 ∧ s.2.2.length + td.length ≤ 500 ∧ td.foldl stp s = l.foldl stp (0, [], []), ⟨_, [], l, (0, [], []), hT.symm, rfl, rfl, ho, by show 0 + _ ≤ _; lia, by show 0 + _ ≤ _; lia, rfl⟩, ?_⟩
    rintro m σ ⟨dn, td, s, e, rfl, rfl, hs, b1, b2, hfo⟩
    have hp : (HD ++ tT dn).length = 4 + (tT dn).length := by rw [List.length_append]; rfl
    have hlt : T.length = 4 + (tT dn).length + (tT td).length + 3 := by rw [e, List.length_append, List.length_append, List.length_append]; show 4 + (_ + (_ + 3)) = _; lia
    cases td with
    | nil =>
      have hlt : T.length = 4 + (tT dn).length + 3 := hlt
      have hw : s.1 = 0 ∨ s.1 = 3 := hs
      have hfo : s = l.foldl stp (0, [], []) := hfo
      rw [← hfo] at hQ
      refine ⟨fun _ => ⟨hz1, fun h => absurd (of_decide_eq_true h) (by lia), fun _ => ?_⟩, fun h => absurd rfl h⟩
      obtain ⟨w, fs, ls⟩ := s
      rcases hw with hw | hw
      · have hw : w = 0 := hw
        subst hw
        exact ⟨fun _ => ⟨rfl, rfl, fun _ => hQ, fun h => (nomatch h)⟩, fun h => absurd rfl h⟩
      · have hw : w = 3 := hw
        subst hw
        exact ⟨fun _ => ⟨rfl, rfl, fun _ => hQ, fun h => (nomatch h)⟩, fun h => absurd rfl h⟩
    | cons t td =>
      have hpos : 0 < t.txt.length := by
        cases t with
        | it p => obtain ⟨d, r, e, _⟩ := iok_hd hs.1.1; show 0 < p.out.length; rw [e]; exact Nat.succ_pos _
        | _ => exact Nat.le_of_ble_eq_true rfl
      have hl5 : (tT (t :: td)).length = t.txt.length + (tT td).length := by rw [tT_cons, List.length_append]
      have l1 : (t :: td).length = td.length + 1 := rfl
      obtain ⟨g1, g2⟩ := stp_len s t
      refine ⟨fun _ => ⟨hz1, fun _ => ?_, fun h => absurd (of_decide_eq_false h) (fun q => q (by lia))⟩, fun h => absurd rfl h⟩
      rw [← hp]
      refine rns_tk (pre := HD ++ tT dn) (t := t) (l := td) hz (by rw [e, tT_cons, List.append_assoc, List.append_assoc]) hc hs (by lia) (by lia) ?_
      refine ⟨td.length, by rw [l1]; exact Nat.lt_succ_self _, dn ++ [t], td, stp s t, ?_, rfl, ?_, hs.2, by lia, by lia, hfo⟩
      · rw [e, tT_cons, tT_snoc, List.append_assoc, List.append_assoc]
      · rw [hp, tT_snoc, List.length_append, Nat.add_assoc]

/-! # _law_takes -/
abbrev Rn := List (Bool × List Nat)
def rnV (r : Rn) : V := .list (r.map piV)
def firstAt (r : Rn) (t : List Nat) (a : Nat) : Option Nat := ((List.range' a (t.length - a)).filter fun p => stdB r ((t.drop p).take r.length)).head?
def midB (t : List Nat) : List Rn → Nat → Option Nat
  | [], a => some a
  | r :: rs, a => (firstAt r t a).bind fun p => midB t rs (p + r.length)
def tkB (r0 : Rn) (rs : List Rn) (t : List Nat) : Bool :=
  stdB r0 (t.take r0.length) && (if rs = [] then decide (r0.length = t.length) else ((midB t rs.dropLast r0.length).any fun a => decide (a + (rs.getLastD []).length ≤ t.length) && stdB (rs.getLastD []) (t.drop (t.length - (rs.getLastD []).length))))
def rnOk (r : Rn) : Prop := r.length ≤ 1000 ∧ ∀ p ∈ r, p.2.length ≤ 1000 ∧ ∀ q ∈ p.2, q < 128
abbrev TKS : List V → (V → Prop) → Prop := fun ds Q => ∃ (r0 : Rn) (rs : List Rn) (t : List Nat), ds = [.list ((r0 :: rs).map rnV), .str t] ∧ rs.length ≤ 100 ∧ (∀ r ∈ r0 :: rs, rnOk r) ∧ t.length ≤ 1000 ∧ (∀ c ∈ t, c < 128) ∧ Q (.bool (tkB r0 rs t))
def l_tks : List String := ["runs", "text", "at", "len", "_law_stands", "run", "places", "range", "p", "left"]
def k_tks : Kd := [(0, .local), (1, .cell), (2, .local), (3, .globalImplicit), (4, .globalImplicit), (5, .cell), (6, .local), (7, .globalImplicit), (9, .local)]
def X_tks_1 : Xp := (x_sq (x_asgC 6 [8] [5, 1] (w_r2 (pw (w_x 2)) (pw (w_len (pw (w_x 1))))) (some (pw (w_call STD [(pw (w_x 5)), (pw (w_sl (pw (w_x 1)) ((pw (w_x 8)) false) ((pw (w_bin .Add (pw (w_x 8)) (pw (w_len (pw (w_x 5)))))) false)))]))) (pw (w_x 8))) (x_frz 6 (x_sq (x_if (w_cmp .Eq (pw (w_x 6)) (pw (w_lst []))) (x_sq (x_ret (pw (w_c (.bool false)))) x_nil) x_nil) (x_sq (x_asg 2 (pw (w_bin .Add (pw (w_item (pw (w_x 6)) (pw (w_c (.int 0))))) (pw (w_len (pw (w_x 5))))))) (x_keep [0, 1, 2] x_nil)))))
def X_tks : Xp := (x_sq (x_asg 2 (pw (w_len (pw (w_item (pw (w_x 0)) (pw (w_c (.int 0)))))))) (x_sq (x_if (w_not (pw (w_call STD [(pw (w_item (pw (w_x 0)) (pw (w_c (.int 0))))), (pw (w_sl (pw (w_x 1)) w_no ((pw (w_x 2)) false)))]))) (x_sq (x_ret (pw (w_c (.bool false)))) x_nil) x_nil) (x_sq (x_if (w_cmp .Eq (pw (w_len (pw (w_x 0)))) (pw (w_c (.int 1)))) (x_sq (x_ret (w_cmp .Eq (pw (w_x 2)) (pw (w_len (pw (w_x 1)))))) x_nil) x_nil) (x_sq (x_for [5] false (w_v (pw (w_sl (pw (w_x 0)) ((pw (w_c (.int 1))) false) ((pw (w_un .USub (pw (w_c (.int 1))))) false)))) X_tks_1 x_nil) (x_keep [0, 1, 2] (x_sq (x_asg 9 (pw (w_bin .Sub (pw (w_len (pw (w_x 1)))) (pw (w_len (pw (w_item (pw (w_x 0)) (pw (w_un .USub (pw (w_c (.int 1)))))))))))) (x_sq (x_ret (w_bool true [(w_cmp .LtE (pw (w_x 2)) (pw (w_x 9))), (pw (w_call STD [(pw (w_item (pw (w_x 0)) (pw (w_un .USub (pw (w_c (.int 1))))))), (pw (w_sl (pw (w_x 1)) ((pw (w_x 9)) false) w_no))]))])) x_nil)))))))
theorem sl_tks {C : Cx} (hf__law_stands : FnAt C "_law_stands" 1 STD) (O : Ok C (Nn l_tks noEc)) : SL C (Nn l_tks noEc) 1 k_tks (fnB PW 41) X_tks :=
    (.cons (s_asg 2 (s_len O (n := 3) rfl rfl (s_item (s_x O 0) s_int)) rfl rfl)
    (.cons (s_ifs (s_not (s_call O 4 hf__law_stands rfl (.cons (s_item (s_x O 0) s_int) (.cons (s_sl (s_x O 1) s_no (s_at (s_x O 2))) .nil)))) (.cons (s_ret s_bool)
    .nil) .nil)
    (.cons (s_ifs (s_cmp (s_len O (n := 3) rfl rfl (s_x O 0)) s_int) (.cons (s_ret (s_cmp (s_x O 2) (s_len O (n := 3) rfl rfl (s_x O 1))))
    .nil) .nil)
    (.cons (s_for [5] (s_v (s_sl (s_x O 0) (s_at s_int) (s_at (s_neg s_int)))) (.one rfl) (.cons (s_asgC O 6 [8] [5, 1] [(1, .free), (3, .globalImplicit), (4, .globalImplicit), (5, .free), (8, .local)] (s_r2 O (n := 7) rfl rfl (s_x O 2) (s_len O (n := 3) rfl rfl (s_x O 1))) (.one rfl) (by decide +kernel) (.some (s_call O 4 hf__law_stands rfl (.cons (s_x O 5) (.cons (s_sl (s_x O 1) (s_at (s_x O 8)) (s_at (s_bin (s_x O 8) (s_len O (n := 3) rfl rfl (s_x O 5))))) .nil)))) (s_x O 8) rfl rfl (by decide +kernel))
    (.frz 6 (.cons (s_ifs (s_cmp (s_x O 6) (s_lst .nil rfl)) (.cons (s_ret s_bool)
    .nil) .nil)
    (.cons (s_asg 2 (s_bin (s_item (s_x O 6) s_int) (s_len O (n := 3) rfl rfl (s_x O 5))) rfl rfl)
    (.keep [0, 1, 2] .nil))))) .nil)
    (.keep [0, 1, 2] (.cons (s_asg 9 (s_bin (s_len O (n := 3) rfl rfl (s_x O 1)) (s_len O (n := 3) rfl rfl (s_item (s_x O 0) (s_neg s_int)))) rfl rfl)
    (.cons (s_ret (s_and (.cons (s_cmp (s_x O 2) (s_x O 9)) (.cons (s_call O 4 hf__law_stands rfl (.cons (s_item (s_x O 0) (s_neg s_int)) (.cons (s_sl (s_x O 1) (s_at (s_x O 9)) s_no) .nil))) .nil))))
    .nil)))))))

theorem vok_rn (rs : List Rn) : True := trivial
def tσ (R : List Rn) (t : List Nat) (a : Nat) : St := [(0, .val (.list (R.map rnV))), (1, .val (.str t)), (2, .val (toI a))]
theorem sl_nn (l : List Nat) (p n : Nat) : sliceL l (some (p : Int)) (some ((p : Int) + (n : Int))) = (l.drop p).take n := by
  unfold sliceL
  dsimp only
  rw [show (p : Int) + (n : Int) = ((p + n : Nat) : Int) from rfl, ixL_nat, ixL_nat]
  by_cases h : p ≤ l.length
  · rw [Nat.min_eq_left h, List.take_eq_take_iff, List.length_drop]
    lia
  · rw [Nat.min_eq_right (Nat.le_of_not_le h), List.drop_of_length_le (Nat.le_refl _), List.drop_of_length_le (Nat.le_of_not_le h), List.take_nil, List.take_nil]
theorem rangeLa (a n : Nat) : (rangeL (a : Int) (n : Int) 1).map V.int = (List.range' a (n - a)).map toI := by
  unfold rangeL
  rw [rangeSize1, List.map_map, List.range'_eq_map_range, List.map_map, show ((n : Int) - (a : Int)).toNat = n - a by lia]
  exact List.map_congr_left fun i _ => congrArg V.int (by show (a : Int) + (i : Int) * 1 = ((a + i : Nat) : Int); lia)
def plF (r : Rn) (t : List Nat) (d : V) : Option V := match d with | .int i => if stdB r ((t.drop i.toNat).take r.length) = true then some (.int i) else none | _ => none
theorem plF_map (r : Rn) (t : List Nat) (l : List Nat) : (l.map toI).filterMap (plF r t) = (l.filter fun p => stdB r ((t.drop p).take r.length)).map toI := by
  induction l with
  | nil => rfl
  | cons p l ih =>
    rw [List.map_cons, List.filterMap_cons, List.filter_cons, show plF r t (toI p) = if stdB r ((t.drop p).take r.length) = true then some (toI p) else none from rfl]
    by_cases h : stdB r ((t.drop p).take r.length) = true
    · rw [if_pos h, if_pos h, List.map_cons, ih]
    · rw [if_neg h, if_neg h, ih]
theorem first_lt {r : Rn} {t : List Nat} {a p : Nat} (h : firstAt r t a = some p) : p < t.length := by
  unfold firstAt at h
  obtain ⟨l, e⟩ := List.head?_eq_some_iff.mp h
  have hm : p ∈ (List.range' a (t.length - a)).filter fun p => stdB r ((t.drop p).take r.length) := by rw [e]; exact .head _
  have := List.mem_range'_1.mp (List.mem_filter.mp hm).1
  lia
theorem sl_in (f : Rn → V) (r0 : Rn) (rs : List Rn) (h : rs ≠ []) : sliceL ((r0 :: rs).map f) (some (1 : Int)) (some (-1 : Int)) = rs.dropLast.map f := by
  have hl : 0 < rs.length := List.length_pos_iff.mpr h
  have hn : ((r0 :: rs).map f).length = rs.length + 1 := by rw [List.length_map, List.length_cons]
  unfold sliceL
  dsimp only
  rw [hn, show ixL (1 : Int) (rs.length + 1) = 1 from by unfold ixL; rw [if_neg (by decide)]; lia, show ixL (-1 : Int) (rs.length + 1) = rs.length from by unfold ixL; rw [if_pos (by decide)]; lia]
  rw [List.map_cons, List.drop_succ_cons, List.drop_zero, List.dropLast_eq_take, List.map_take]
theorem tks_1 {R : List Rn} {r : Rn} {t : List Nat} {a : Nat} {K : Kt} (hr : rnOk r) (ht : t.length ≤ 1000) (hc : ∀ c ∈ t, c < 128) (ha : a ≤ 2000)
    (h0 : firstAt r t a = none → ∀ σ, K (.ret (.bool false)) σ) (h1 : ∀ p, firstAt r t a = some p → K .next (tσ R t (p + r.length))) : X_tks_1 (put (tσ R t a) 5 (.val (rnV r))) K := by
  have zt : t.length ≤ 1000000 := by lia
  have zr : (r.map piV).length ≤ 1000000 := by rw [List.length_map]; have := hr.1; lia
  have hlr : (rangeL (a : Int) (t.length : Int) 1).length ≤ 1000000 := by
    have := rng_len (a : Int) (t.length : Int)
    rw [List.length_map] at this
    lia
  refine ⟨rfl, rfl, zt, by decide, by lia, by lia, by decide, hlr, plF r t, fun d hd => ?_, ?_⟩
  · rw [rangeLa] at hd
    obtain ⟨p, hp, rfl⟩ := List.mem_map.mp hd
    have hp2 : p ≤ 3000 := by have := List.mem_range'_1.mp hp; lia
    have hrl := hr.1
    have ep : plF r t (toI p) = if stdB r ((t.drop p).take r.length) = true then some (toI p) else none := rfl
    refine ⟨zr, by lia, by rw [List.length_map]; lia, zt, r, (t.drop p).take r.length, ?_, hr.1, by rw [List.length_take, List.length_drop]; lia, fun c h => hc c (List.mem_of_mem_drop (List.mem_of_mem_take h)), hr.2, ?_⟩
    · show [rnV r, V.str (sliceL t (some (p : Int)) (some ((p : Int) + ((r.map piV).length : Int))))] = _
      rw [sl_nn, List.length_map]; rfl
    · exact ⟨fun h => by rw [ep, if_pos h]; rfl, fun h => by rw [ep, if_neg (by rw [h]; exact Bool.false_ne_true)]⟩
  · rw [rangeLa, plF_map]
    have hfl : ((List.range' a (t.length - a)).filter fun p => stdB r ((t.drop p).take r.length)).length ≤ 1000 := Nat.le_trans (List.length_filter_le _ _) (by rw [List.length_range']; lia)
    unfold firstAt at h0 h1
    generalize (List.range' a (t.length - a)).filter (fun p => stdB r ((t.drop p).take r.length)) = l at h0 h1 hfl
    refine ⟨vok_toI l 7, rfl, ?_⟩
    cases l with
    | nil => exact ⟨fun _ => h0 rfl _, fun h => (nomatch h)⟩
    | cons p l =>
      refine ⟨fun h => (nomatch h), fun _ => ?_⟩
      refine ⟨by rw [List.length_map]; lia, 0, toI p, ixOf_get (k := 0) (l := (p :: l).map toI) rfl, rfl, zr, ?_⟩
      have := h1 p rfl
      show K .next (tσ R t 0 |>.map id |> fun _ => put (tσ R t a) 2 (.val (.int ((p : Int) + ((r.map piV).length : Int)))))
      rw [List.length_map]
      exact this
theorem f_tks {C : Cx} {x : Addr} (hf : FnAt C "_law_stands" 1 STD) (O : Ok C (Nn l_tks noEc)) (D : FnD C x ([0, 1].map (nth l_tks)) (fnSc PW 41) (fnB PW 41)) : Fn C x 2 TKS :=
  Fn.of_body (vn := Nn l_tks noEc) (ps := [0, 1]) D (sl_tks hf O) (by decide +kernel) (by decide +kernel) rfl (by decide) (fun _ _ _ _ _ => trivial) fun ds Q ⟨r0, rs, t, e, hl, hr, ht, hc, hQ⟩ => by
    subst e
    have zR : ((r0 :: rs).map rnV).length ≤ 1000000 := by rw [List.length_map, List.length_cons]; lia
    have h0 := hr r0 (.head _)
    have h0l := h0.1
    have z0 : (r0.map piV).length ≤ 1000000 := by rw [List.length_map]; lia
    have zt : t.length ≤ 1000000 := by lia
    have i0 : ixOf 0 ((r0 :: rs).map rnV).length = some 0 := ixOf_get (k := 0) (l := (r0 :: rs).map rnV) rfl
    refine ⟨rfl, zR, 0, rnV r0, i0, rfl, z0, ?_⟩
    refine ⟨zR, 0, rnV r0, i0, rfl, by rw [List.length_map]; lia, zt, r0, t.take r0.length, ?_, h0.1, by rw [List.length_take]; lia, fun c h => hc c (List.mem_of_mem_take h), h0.2, ?_⟩
    · show [rnV r0, V.str (sliceL t none (some ((r0.map piV).length : Int)))] = _
      rw [sl_to, List.length_map]; rfl
    conv => whnf
    refine ⟨fun h => ?_, fun h => ?_⟩
    · have e : tkB r0 rs t = false := by unfold tkB; rw [show stdB r0 (t.take r0.length) = false by simpa using h, Bool.false_and]
      rw [e] at hQ; exact hQ
    have h : stdB r0 (t.take r0.length) = true := by simpa using h
    unfold tkB at hQ
    rw [h, Bool.true_and] at hQ
    refine ⟨zR, fun g => ?_, fun g => ?_⟩
    · have g : (((r0 :: rs).map rnV).length : Int) = 1 := of_decide_eq_true g
      rw [List.length_map, List.length_cons] at g
      have hrs : rs = [] := List.length_eq_zero_iff.mp (by lia)
      rw [if_pos hrs] at hQ
      refine ⟨zt, ?_⟩
      show Q (.bool (decide (((r0.map piV).length : Int) = (t.length : Int))))
      rw [List.length_map, decide_eq_decide.mpr (show ((r0.length : Int) = (t.length : Int)) ↔ r0.length = t.length by lia)]
      exact hQ
    · have g : ¬ (((r0 :: rs).map rnV).length : Int) = 1 := of_decide_eq_false g
      rw [List.length_map, List.length_cons] at g
      have hrs : rs ≠ [] := fun e => g (by rw [e]; rfl)
      rw [if_neg hrs] at hQ
      have emid : sliceL ((r0 :: rs).map rnV) (some (1 : Int)) (some (-1 : Int)) = rs.dropLast.map rnV := sl_in _ _ rs hrs
      refine ⟨by decide, by decide, zR, ?_⟩
      rw [emid]
      refine ⟨by rw [List.length_map, List.length_dropLast]; lia, fun n σ => ∃ a, a ≤ 2000 ∧ σ = tσ (r0 :: rs) t a ∧ midB t (rs.dropLast.drop n) a = midB t rs.dropLast r0.length, ⟨r0.length, by lia, by rw [List.length_map]; rfl, rfl⟩, ?_, ?_⟩
      · rintro i d σ hd ⟨a, ha, rfl, hm⟩
        rw [List.getElem?_map] at hd
        obtain ⟨r, hri, rfl⟩ := Option.map_eq_some_iff.mp hd
        have hrk := hr r (.tail _ (List.dropLast_subset _ (List.mem_of_getElem? hri)))
        have hdr : rs.dropLast.drop i = r :: rs.dropLast.drop (i + 1) := by
          obtain ⟨hi, rfl⟩ := List.getElem?_eq_some_iff.mp hri
          exact List.drop_eq_getElem_cons hi
        rw [hdr] at hm
        have hm : ((firstAt r t a).bind fun p => midB t (rs.dropLast.drop (i + 1)) (p + r.length)) = midB t rs.dropLast r0.length := hm
        refine tks_1 hrk ht hc ha (fun h0 σ => ?_) fun p h1 => ?_
        · rw [h0] at hm
          rw [← hm] at hQ
          exact hQ
        · rw [h1] at hm
          exact ⟨p + r.length, by have := first_lt h1; have := hrk.1; lia, rfl, hm⟩
      · rintro σ ⟨a, ha, rfl, hm⟩
        rw [List.length_map, List.drop_length] at hm
        have hm : some a = midB t rs.dropLast r0.length := hm
        rw [← hm] at hQ
        obtain ⟨ini, la, rfl⟩ : ∃ ini la, rs = ini ++ [la] := ⟨_, _, (List.dropLast_concat_getLast hrs).symm⟩
        have elast : (ini ++ [la]).getLastD [] = la := by rw [List.getLastD_eq_getLast?, List.getLast?_append]; rfl
        rw [elast] at hQ
        have gl : ((r0 :: (ini ++ [la])).map rnV)[(ini ++ [la]).length]? = some (rnV la) := by
          rw [List.getElem?_map, List.length_append, List.length_singleton, List.getElem?_cons_succ, List.getElem?_append_right (Nat.le_refl _), Nat.sub_self]; rfl
        have il : ixOf (-1) ((r0 :: (ini ++ [la])).map rnV).length = some (ini ++ [la]).length := by
          rw [List.length_map, List.length_cons]; unfold ixOf; rw [if_neg (by decide), if_pos (by lia)]; exact congrArg some (by lia)
        have hlk : rnOk la := hr la (.tail _ (List.mem_append_right _ (.head _)))
        have hll := hlk.1
        have zl : (la.map piV).length ≤ 1000000 := by rw [List.length_map]; lia
        refine ⟨zt, zR, _, _, il, gl, zl, ?_⟩
        have hQ : Q (.bool (decide (a + la.length ≤ t.length) && stdB la (t.drop (t.length - la.length)))) := hQ
        refine ⟨fun g => ?_, fun g => ?_⟩
        · have g : (a : Int) ≤ (t.length : Int) - ((la.map piV).length : Int) := of_decide_eq_true g
          rw [List.length_map] at g
          have e9 : (t.length : Int) - ((la.map piV).length : Int) = ((t.length - la.length : Nat) : Int) := by rw [List.length_map]; lia
          rw [decide_eq_true (show a + la.length ≤ t.length by lia), Bool.true_and] at hQ
          refine ⟨zR, _, _, il, gl, by rw [e9]; lia, zt, la, t.drop (t.length - la.length), ?_, hlk.1, by rw [List.length_drop]; lia, fun c h => hc c (List.mem_of_mem_drop h), hlk.2, hQ⟩
          show [rnV la, V.str (sliceL t (some ((t.length : Int) - ((la.map piV).length : Int))) none)] = _
          rw [e9, sl_from]; rfl
        · have g : ¬ (a : Int) ≤ (t.length : Int) - ((la.map piV).length : Int) := fun q => g (decide_eq_true q)
          rw [List.length_map] at g
          rw [decide_eq_false (show ¬ a + la.length ≤ t.length by lia), Bool.false_and] at hQ
          have e : decide ((a : Int) ≤ (t.length : Int) - ((la.map piV).length : Int)) = false := by rw [List.length_map]; exact decide_eq_false g
          show Q (.bool (decide ((a : Int) ≤ (t.length : Int) - ((la.map piV).length : Int))))
          rw [e]; exact hQ

abbrev FMODE : List V → (V → Prop) → Prop := fun ds Q => ∃ m, ds = [.int m] ∧ Q (.str (fmode m))
abbrev IFMT : List V → (V → Prop) → Prop := fun ds Q => ∃ i, ds = [.int i] ∧ Q (.int (Builtin.bitAnd i 61440))
abbrev IMODE : List V → (V → Prop) → Prop := fun ds Q => ∃ i, ds = [.int i] ∧ Q (.int (Builtin.bitAnd i 4095))
def l_law : List String := ["script", "drawn", "number", "len", "modes", "texts", "mode", "filemode", "range", "k", "pattern", "tests", "stars", "n", "care", "value", "_law_test", "_law_written", "runs", "_law_runs", "translate", "classes", "c", "due", "_law_fits", "kind", "S_IFMT", "_law_takes", "S_IMODE"]
def k_law : Kd := [(0, .local), (1, .local), (2, .local), (3, .globalImplicit), (4, .cell), (5, .local), (7, .globalImplicit), (8, .globalImplicit), (9, .local), (10, .local), (11, .local), (12, .local), (13, .cell), (14, .local), (15, .local), (16, .globalImplicit), (17, .globalImplicit), (18, .local), (19, .globalImplicit), (20, .globalImplicit), (21, .local), (23, .local), (24, .globalImplicit), (25, .local), (26, .globalImplicit), (27, .globalImplicit), (28, .globalImplicit)]
def X_law_1 : Xp := (x_sq (x_asg 2 (pw (w_item (pw (w_x 1)) (pw (w_bin .Mod (pw (w_bin .Add (pw (w_x 9)) (pw (w_x 13)))) (pw (w_len (pw (w_x 1))))))))) (x_sq (x_unp [14, 15] (pw (w_call TST [(pw (w_x 2))]))) (x_sq (x_app 11 (pw (w_tup [(pw (w_x 14)), (pw (w_x 15))]))) (x_sq (x_app 12 (w_cmp .Eq (pw (w_bin .Mod (pw (w_bin .FloorDiv (pw (w_x 2)) (pw (w_c (.int 256))))) (pw (w_c (.int 2))))) (pw (w_c (.int 0))))) (x_sq (x_aug 10 .Add (pw (w_bin .Add (w_if (pw (w_item (pw (w_x 12)) (pw (w_x 13)))) (pw (w_c (.str [42]))) (pw (w_c (.str [])))) (pw (w_call WRT [(pw (w_x 14)), (pw (w_x 15))]))))) (x_keep [1, 4, 5, 9, 10, 11, 12] x_nil))))))
def X_law_2 : Xp := (x_sq (x_if (w_cmp .NotEq (pw (w_call TKS [(pw (w_x 18)), (pw (w_call FMODE [(pw (w_bin .BitOr (pw (w_call IFMT [(pw (w_item (pw (w_x 4)) (pw (w_x 9))))])) (pw (w_call IMODE [(pw (w_item (pw (w_x 4)) (pw (w_x 13))))]))))]))])) (pw (w_x 23))) (x_sq (x_ret (pw (w_c (.bool false)))) x_nil) x_nil) (x_keep [1, 4, 5, 9, 11, 12, 18] x_nil))
def X_law_3 : Xp := (x_sq (x_if (w_cmp .NotEq (pw (w_call TKS [(pw (w_x 18)), (pw (w_item (pw (w_x 5)) (pw (w_x 13))))])) (w_bool true [(pw (w_x 23)), (pw (w_x 25))])) (x_sq (x_ret (pw (w_c (.bool false)))) x_nil) x_nil) X_law_2)
def X_law_4 : Xp := (x_sq (x_asg 23 (pw (w_call (FTS 4) [(pw (w_x 11)), (pw (w_x 12)), (pw (w_x 21))]))) (x_sq (x_asg 25 (w_bool false [(w_cmp .NotIn (pw (w_bin .Mod (pw (w_bin .FloorDiv (pw (w_item (pw (w_x 4)) (pw (w_x 9)))) (pw (w_c (.int 4096))))) (pw (w_c (.int 16))))) (pw (w_tup [(pw (w_c (.int 1))), (pw (w_c (.int 2))), (pw (w_c (.int 4))), (pw (w_c (.int 6))), (pw (w_c (.int 8))), (pw (w_c (.int 10))), (pw (w_c (.int 12)))]))), (w_cmp .Eq (pw (w_call IFMT [(pw (w_item (pw (w_x 4)) (pw (w_x 13))))])) (pw (w_call IFMT [(pw (w_item (pw (w_x 4)) (pw (w_x 9))))])))])) X_law_3))
def X_law_5 : Xp := (x_sq (x_asgC 21 [22] [4, 13] (w_r1 (pw (w_c (.int 3)))) none (pw (w_bin .Add (pw (w_bin .Mod (pw (w_bin .FloorDiv (pw (w_item (pw (w_x 4)) (pw (w_x 13)))) (pw (w_bin .Pow (pw (w_c (.int 8))) (pw (w_bin .Sub (pw (w_c (.int 2))) (pw (w_x 22)))))))) (pw (w_c (.int 8))))) (pw (w_bin .Mult (pw (w_bin .Mod (pw (w_bin .FloorDiv (pw (w_item (pw (w_x 4)) (pw (w_x 13)))) (pw (w_bin .Pow (pw (w_c (.int 2))) (pw (w_bin .Sub (pw (w_c (.int 11))) (pw (w_x 22)))))))) (pw (w_c (.int 2))))) (pw (w_c (.int 8)))))))) (x_frz 21 X_law_4))
def X_law_6 : Xp := (x_sq (x_for [13] true (w_r1 (pw (w_len (pw (w_x 4))))) X_law_5 x_nil) (x_keep [1, 4, 5] x_nil))
def X_law_7 : Xp := (x_sq (x_asg 18 (pw (w_call RNS [(pw (w_call TRL [(pw (w_x 10))]))]))) (x_sq (x_if (w_cmp .Eq (pw (w_x 18)) (pw (w_lst []))) (x_sq (x_ret (pw (w_c (.bool false)))) x_nil) x_nil) (x_keep [1, 4, 5, 9, 11, 12, 18] X_law_6)))
def X_law_8 : Xp := (x_sq (x_app 12 (w_cmp .Eq (pw (w_bin .Mod (pw (w_bin .FloorDiv (pw (w_item (pw (w_x 1)) (pw (w_x 9)))) (pw (w_c (.int 512))))) (pw (w_c (.int 2))))) (pw (w_c (.int 0))))) (x_sq (x_aug 10 .Add (w_if (pw (w_item (pw (w_x 12)) (pw (w_un .USub (pw (w_c (.int 1))))))) (pw (w_c (.str [42]))) (pw (w_c (.str []))))) (x_frz 11 (x_frz 12 X_law_7))))
def X_law_9 : Xp := (x_sq (x_three 10 11 12 (pw (w_item (pw (w_item (pw (w_x 5)) (pw (w_x 9)))) (pw (w_c (.int 0)))))) (x_sq (x_for [13] true (w_r1 (pw (w_bin .Add (pw (w_c (.int 1))) (pw (w_bin .Mod (pw (w_bin .Add (pw (w_bin .FloorDiv (pw (w_item (pw (w_x 1)) (pw (w_x 9)))) (pw (w_c (.int 1024))))) (pw (w_x 9)))) (pw (w_c (.int 3)))))))) X_law_1 x_nil) (x_keep [1, 4, 5, 9, 10, 11, 12] X_law_8)))
def X_law_10 : Xp := (x_sq (x_for [9] true (w_r1 (pw (w_len (pw (w_x 1))))) X_law_9 x_nil) (x_sq (x_ret (pw (w_c (.bool true)))) x_nil))
def X_law_11 : Xp := (x_sq (x_asg 4 (pw (w_comp [2] [] (w_v (pw (w_x 1))) none (pw (w_bin .Mod (pw (w_x 2)) (pw (w_c (.int 262144)))))))) (x_sq (x_asgC 5 [6] [] (w_v (pw (w_x 4))) none (pw (w_call FMODE [(pw (w_x 6))]))) (x_frz 5 (x_keep [1, 4, 5] X_law_10))))
def X_law : Xp := (x_mid (x_asg 1 (pw (w_bin .Add (pw (w_comp [2] [] (w_v (pw (w_sl (pw (w_x 0)) w_no ((pw (w_c (.int 5))) false)))) none (pw (w_bin .Mod (pw (w_x 2)) (pw (w_c (.int 16777216))))))) (w_if (w_cmp .Lt (pw (w_len (pw (w_x 0)))) (pw (w_c (.int 3)))) (pw (w_lst [(pw (w_c (.int 33002))), (pw (w_c (.int 17396))), (pw (w_c (.int 42118)))])) (pw (w_lst [])))))) X_law_11)
theorem sl_law {C : Cx} (hf__law_test : FnAt C "_law_test" 1 TST) (hf__law_written : FnAt C "_law_written" 1 WRT) (hf__law_runs : FnAt C "_law_runs" 2 RNS) (hf_translate : FnAt C "translate" 3 TRL) (hf__law_fits : FnAt C "_law_fits" 4 (FTS 4)) (hf_S_IFMT : FnAt C "S_IFMT" 1 IFMT) (hf_S_IMODE : FnAt C "S_IMODE" 1 IMODE) (hf__law_takes : FnAt C "_law_takes" 2 TKS) (hf_filemode : FnAt C "filemode" 2 FMODE) (O : Ok C (Nn l_law noEc)) : SL C (Nn l_law noEc) 4 k_law (fnB PW 42) X_law :=
    (.mid (s_asg 1 (s_bin (s_comp O [2] [] [(2, .local)] (s_v (s_sl (s_x O 0) s_no (s_at s_int))) (.one rfl) (by decide +kernel) .none (s_bin (s_x O 2) s_int)) (s_if (s_cmp (s_len O (n := 3) rfl rfl (s_x O 0)) s_int) (s_lst (.cons s_int (.cons s_int (.cons s_int .nil))) rfl) (s_lst .nil rfl))) rfl rfl)
    (.cons (s_asgX 4 (s_comp O [2] [] [(2, .local)] (s_v (s_x O 1)) (.one rfl) (by decide +kernel) .none (s_bin (s_x O 2) s_int)) rfl)
    (.cons (s_asgC O 5 [6] [] [(6, .local), (7, .globalImplicit)] (s_v (s_x O 4)) (.one rfl) (by decide +kernel) .none (s_call O 7 hf_filemode rfl (.cons (s_x O 6) .nil)) rfl rfl (by decide +kernel))
    (.frz 5 (.keep [1, 4, 5] (.cons (s_for [9] (s_r1 O (n := 8) rfl rfl (s_len O (n := 3) rfl rfl (s_x O 1))) (.one rfl) (.cons (s_three 10 11 12 (s_item (s_item (s_x O 5) (s_x O 9)) s_int) rfl rfl rfl rfl rfl (by show nth _ _ ≠ nth _ _; decide +kernel) (by show nth _ _ ≠ nth _ _; decide +kernel) (by show nth _ _ ≠ nth _ _; decide +kernel))
    (.cons (s_for [13] (s_r1 O (n := 8) rfl rfl (s_bin s_int (s_bin (s_bin (s_bin (s_item (s_x O 1) (s_x O 9)) s_int) (s_x O 9)) s_int))) (.one rfl) (.cons (s_asg 2 (s_item (s_x O 1) (s_bin (s_bin (s_x O 9) (s_x O 13)) (s_len O (n := 3) rfl rfl (s_x O 1)))) rfl rfl)
    (.cons (s_unp 14 15 (s_call O 16 hf__law_test rfl (.cons (s_x O 2) .nil)) (.two rfl rfl (by show nth _ _ ≠ nth _ _; decide +kernel)) rfl rfl)
    (.cons (s_app O 11 (s_tup (.cons (s_x O 14) (.cons (s_x O 15) .nil)) rfl) rfl)
    (.cons (s_app O 12 (s_cmp (s_bin (s_bin (s_x O 2) s_int) s_int) s_int) rfl)
    (.cons (s_aug 10 (s_bin (s_if (s_item (s_x O 12) (s_x O 13)) (s_str [42] (by decide +kernel)) (s_str [] (by decide +kernel))) (s_call O 17 hf__law_written rfl (.cons (s_x O 14) (.cons (s_x O 15) .nil)))))
    (.keep [1, 4, 5, 9, 10, 11, 12] .nil)))))) .nil)
    (.keep [1, 4, 5, 9, 10, 11, 12] (.cons (s_app O 12 (s_cmp (s_bin (s_bin (s_item (s_x O 1) (s_x O 9)) s_int) s_int) s_int) rfl)
    (.cons (s_aug 10 (s_if (s_item (s_x O 12) (s_neg s_int)) (s_str [42] (by decide +kernel)) (s_str [] (by decide +kernel))))
    (.frz 11 (.frz 12 (.cons (s_asg 18 (s_call O 19 hf__law_runs rfl (.cons (s_call O 20 hf_translate rfl (.cons (s_x O 10) .nil)) .nil)) rfl rfl)
    (.cons (s_ifs (s_cmp (s_x O 18) (s_lst .nil rfl)) (.cons (s_ret s_bool)
    .nil) .nil)
    (.keep [1, 4, 5, 9, 11, 12, 18] (.cons (s_for [13] (s_r1 O (n := 8) rfl rfl (s_len O (n := 3) rfl rfl (s_x O 4))) (.one rfl) (.cons (s_asgC O 21 [22] [4, 13] [(4, .free), (13, .free), (22, .local)] (s_r1 O (n := 8) rfl rfl s_int) (.one rfl) (by decide +kernel) .none (s_bin (s_bin (s_bin (s_item (s_x O 4) (s_x O 13)) (s_bin s_int (s_bin s_int (s_x O 22)))) s_int) (s_bin (s_bin (s_bin (s_item (s_x O 4) (s_x O 13)) (s_bin s_int (s_bin s_int (s_x O 22)))) s_int) s_int)) rfl rfl (by decide +kernel))
    (.frz 21 (.cons (s_asg 23 (s_call O 24 hf__law_fits rfl (.cons (s_x O 11) (.cons (s_x O 12) (.cons (s_x O 21) .nil)))) rfl rfl)
    (.cons (s_asg 25 (s_or (.cons (s_cmp (s_bin (s_bin (s_item (s_x O 4) (s_x O 9)) s_int) s_int) (s_tup (.cons s_int (.cons s_int (.cons s_int (.cons s_int (.cons s_int (.cons s_int (.cons s_int .nil))))))) rfl)) (.cons (s_cmp (s_call O 26 hf_S_IFMT rfl (.cons (s_item (s_x O 4) (s_x O 13)) .nil)) (s_call O 26 hf_S_IFMT rfl (.cons (s_item (s_x O 4) (s_x O 9)) .nil))) .nil))) rfl rfl)
    (.cons (s_ifs (s_cmp (s_call O 27 hf__law_takes rfl (.cons (s_x O 18) (.cons (s_item (s_x O 5) (s_x O 13)) .nil))) (s_and (.cons (s_x O 23) (.cons (s_x O 25) .nil)))) (.cons (s_ret s_bool)
    .nil) .nil)
    (.cons (s_ifs (s_cmp (s_call O 27 hf__law_takes rfl (.cons (s_x O 18) (.cons (s_call O 7 hf_filemode rfl (.cons (s_bin (s_call O 26 hf_S_IFMT rfl (.cons (s_item (s_x O 4) (s_x O 9)) .nil)) (s_call O 28 hf_S_IMODE rfl (.cons (s_item (s_x O 4) (s_x O 13)) .nil))) .nil)) .nil))) (s_x O 23)) (.cons (s_ret s_bool)
    .nil) .nil)
    (.keep [1, 4, 5, 9, 11, 12, 18] .nil))))))) .nil)
    (.keep [1, 4, 5] .nil)))))))))))) .nil)
    (.cons (s_ret s_bool)
    .nil)))))))

/-! # A mode's text: the kind, and three signs for each class -/
theorem bAnd (a b : Nat) : Builtin.bitAnd (a : Int) (b : Int) = ((a &&& b : Nat) : Int) := by
  unfold Builtin.bitAnd
  rw [decide_eq_true (Int.natCast_nonneg a), decide_eq_true (Int.natCast_nonneg b)]; rfl
theorem land2 (n i : Nat) : n &&& 2 ^ i = (n.testBit i).toNat * 2 ^ i := by
  refine Nat.eq_of_testBit_eq fun j => ?_
  rw [Nat.testBit_and, Nat.testBit_two_pow]
  by_cases e : i = j
  · subst e
    cases h : n.testBit i with
    | false => rw [show Bool.toNat false = 0 from rfl, Nat.zero_mul, Nat.zero_testBit]; rfl
    | true => rw [show Bool.toNat true = 1 from rfl, Nat.one_mul, Nat.testBit_two_pow, decide_eq_true rfl]; rfl
  · rw [decide_eq_false e, Bool.and_false]
    cases h : n.testBit i with
    | false => rw [show Bool.toNat false = 0 from rfl, Nat.zero_mul, Nat.zero_testBit]
    | true => rw [show Bool.toNat true = 1 from rfl, Nat.one_mul, Nat.testBit_two_pow, decide_eq_false e]
theorem fmT1 (m i p : Nat) : fmT m (p + 1) ((2 ^ i : Nat) : Int) = m.testBit i := by
  show decide (Builtin.bitAnd (m : Int) ((2 ^ i : Nat) : Int) = ((2 ^ i : Nat) : Int)) = _
  rw [bAnd, land2]
  have h0 : ¬ (0 = 2 ^ i) := Nat.ne_of_lt (Nat.two_pow_pos i)
  cases m.testBit i
  · rw [show Bool.toNat false = 0 from rfl, Nat.zero_mul]; exact decide_eq_false fun e => h0 (Int.ofNat.inj e)
  · rw [show Bool.toNat true = 1 from rfl, Nat.one_mul]; exact decide_eq_true rfl
def sg1 (c : Nat) (u : Bool) : Nat := if u then c else 45
def sg2 (x S s : Nat) (u v : Bool) : Nat := if u && v then s else if v then S else sg1 x u
theorem one_bit (m i p c : Nat) : fmP m (p + 1) [(((2 ^ i : Nat) : Int), c)] = sg1 c (m.testBit i) := by
  unfold fmP
  rw [List.find?_cons, fmT1]
  cases m.testBit i <;> rfl
theorem two_bits {m i j p x S s : Nat} {b : Int} (hb : b = ((2 ^ i ||| 2 ^ j : Nat) : Int)) (hij : ∀ u v : Bool, ((u.toNat * 2 ^ i ||| v.toNat * 2 ^ j : Nat) = (2 ^ i ||| 2 ^ j : Nat)) ↔ (u = true ∧ v = true)) :
    fmP m (p + 1) [(b, s), (((2 ^ j : Nat) : Int), S), (((2 ^ i : Nat) : Int), x)] = sg2 x S s (m.testBit i) (m.testBit j) := by
  subst hb
  have h : fmT m (p + 1) ((2 ^ i ||| 2 ^ j : Nat) : Int) = (m.testBit i && m.testBit j) := by
    show decide (Builtin.bitAnd (m : Int) ((2 ^ i ||| 2 ^ j : Nat) : Int) = ((2 ^ i ||| 2 ^ j : Nat) : Int)) = _
    rw [bAnd, Nat.and_or_distrib_left, land2, land2, Bool.eq_iff_iff, decide_eq_true_iff, Bool.and_eq_true_iff, ← hij]
    exact Int.ofNat_inj
  unfold fmP
  rw [List.find?_cons, h, List.find?_cons, fmT1, List.find?_cons, fmT1]
  cases m.testBit i <;> cases m.testBit j <;> rfl
def kdT : List Nat := [63, 112, 99, 63, 100, 63, 98, 63, 45, 63, 108, 63, 115, 63, 63, 63]
def kd (m : Nat) : Nat := kdT.getD (m / 4096 % 16) 0
theorem and_kind (m : Nat) : m &&& 61440 = m / 4096 % 16 * 4096 := by
  refine Nat.eq_of_testBit_eq fun j => ?_
  rw [Nat.testBit_and, show (61440 : Nat) = (2 ^ 4 - 1) * 2 ^ 12 from rfl, show (4096 : Nat) = 2 ^ 12 from rfl, show (16 : Nat) = 2 ^ 4 from rfl, Nat.testBit_mul_two_pow, Nat.testBit_mul_two_pow, Nat.testBit_mod_two_pow, Nat.testBit_two_pow_sub_one]
  by_cases h : 12 ≤ j
  · rw [decide_eq_true h, Bool.true_and, Bool.true_and, ← Nat.shiftRight_eq_div_pow, Nat.testBit_shiftRight, Nat.add_sub_cancel' h, Bool.and_comm]
  · rw [decide_eq_false h, Bool.false_and, Bool.false_and, Bool.and_false]
theorem kind_sign (m : Nat) : fmP m 0 (fmTab.headD []) = kd m := by
  have h : ∀ k, k < 16 → (match (fmTab.headD []).find? (fun p => decide (((k * 4096 : Nat) : Int) = p.1)) with | some p => p.2 | none => 63) = kdT.getD k 0 := by decide
  unfold kd
  rw [← h (m / 4096 % 16) (Nat.mod_lt _ (by decide)), ← and_kind]
  unfold fmP
  have e : (fun p : Int × Nat => fmT m 0 p.1) = fun p => decide (((m &&& 61440 : Nat) : Int) = p.1) := funext fun p => by
    show decide (Builtin.bitAnd (m : Int) 61440 = p.1) = _
    rw [show (61440 : Int) = ((61440 : Nat) : Int) from rfl, bAnd]
  rw [e]; rfl
/-- the signs of a figure; true: of the others' -/
def tr (c : Nat × Bool) : List Nat := [sg1 114 (c.1.testBit 2), sg1 119 (c.1.testBit 1), bif c.2 then sg2 120 84 116 (c.1.testBit 0) (c.1.testBit 3) else sg2 120 83 115 (c.1.testBit 0) (c.1.testBit 3)]
def cl (m i j : Nat) : Nat := m / 2 ^ i % 8 + m / 2 ^ j % 2 * 8
theorem tb (x k : Nat) : x.testBit k = decide (x / 2 ^ k % 2 = 1) := Nat.testBit_eq_decide_div_mod_eq
theorem cl_bits (m i j : Nat) : (cl m i j).testBit 2 = m.testBit (i + 2) ∧ (cl m i j).testBit 1 = m.testBit (i + 1) ∧ (cl m i j).testBit 0 = m.testBit i ∧ (cl m i j).testBit 3 = m.testBit j := by
  unfold cl
  rw [tb, tb, tb, tb, tb, tb, tb, tb, Nat.pow_add, Nat.pow_add, ← Nat.div_div_eq_div_mul, ← Nat.div_div_eq_div_mul]
  generalize m / 2 ^ i = q
  generalize m / 2 ^ j = h
  exact ⟨decide_eq_decide.mpr (by lia), decide_eq_decide.mpr (by lia), decide_eq_decide.mpr (by lia), decide_eq_decide.mpr (by lia)⟩
def cls (m : Nat) : List (Nat × Bool) := [(cl m 6 11, false), (cl m 3 10, false), (cl m 0 9, true)]
theorem cl_lt (m i j : Nat) : cl m i j < 16 := by unfold cl; lia
theorem tr_cl (m i j : Nat) : tr (cl m i j, false) = [sg1 114 (m.testBit (i + 2)), sg1 119 (m.testBit (i + 1)), sg2 120 83 115 (m.testBit i) (m.testBit j)] ∧ tr (cl m i j, true) = [sg1 114 (m.testBit (i + 2)), sg1 119 (m.testBit (i + 1)), sg2 120 84 116 (m.testBit i) (m.testBit j)] := by
  obtain ⟨h1, h2, h3, h4⟩ := cl_bits m i j
  unfold tr
  dsimp only
  rw [h1, h2, h3, h4]
  exact ⟨rfl, rfl⟩
theorem fmode_eq (m : Nat) : fmode m = kd m :: (cls m).flatMap tr := by
  have t3 : fmP m 3 [(2112, 115), (2048, 83), (64, 120)] = _ := two_bits (i := 6) (j := 11) (p := 2) rfl (by decide)
  have t6 : fmP m 6 [(1032, 115), (1024, 83), (8, 120)] = _ := two_bits (i := 3) (j := 10) (p := 5) rfl (by decide)
  have t9 : fmP m 9 [(513, 116), (512, 84), (1, 120)] = _ := two_bits (i := 0) (j := 9) (p := 8) rfl (by decide)
  have t1 : fmP m 1 [(256, 114)] = _ := one_bit m 8 0 114
  have t2 : fmP m 2 [(128, 119)] = _ := one_bit m 7 1 119
  have t4 : fmP m 4 [(32, 114)] = _ := one_bit m 5 3 114
  have t5 : fmP m 5 [(16, 119)] = _ := one_bit m 4 4 119
  have t7 : fmP m 7 [(4, 114)] = _ := one_bit m 2 6 114
  have t8 : fmP m 8 [(2, 119)] = _ := one_bit m 1 7 119
  show fmP m 0 (fmTab.headD []) :: fmP m 1 [(256, 114)] :: fmP m 2 [(128, 119)] :: fmP m 3 [(2112, 115), (2048, 83), (64, 120)] :: fmP m 4 [(32, 114)] :: fmP m 5 [(16, 119)] :: fmP m 6 [(1032, 115), (1024, 83), (8, 120)] :: fmP m 7 [(4, 114)] :: fmP m 8 [(2, 119)] :: fmP m 9 [(513, 116), (512, 84), (1, 120)] :: [] = kd m :: (tr (cl m 6 11, false) ++ (tr (cl m 3 10, false) ++ (tr (cl m 0 9, true) ++ [])))
  rw [t1, t2, t3, t4, t5, t6, t7, t8, t9, kind_sign, (tr_cl m 6 11).1, (tr_cl m 3 10).1, (tr_cl m 0 9).2]
  rfl
/-- S_IFMT of one, S_IMODE of the other -/
theorem mix (a b : Nat) : ∃ m : Nat, Builtin.bitOr (Builtin.bitAnd (a : Int) 61440) (Builtin.bitAnd (b : Int) 4095) = (m : Int) ∧ kd m = kd a ∧ cls m = cls b := by
  have e1 : Builtin.bitAnd (a : Int) 61440 = ((2 ^ 12 * (a / 4096 % 16) : Nat) : Int) := by rw [show (61440 : Int) = ((61440 : Nat) : Int) from rfl, bAnd, and_kind, Nat.mul_comm]
  have e2 : Builtin.bitAnd (b : Int) 4095 = ((b % 4096 : Nat) : Int) := by rw [show (4095 : Int) = ((2 ^ 12 - 1 : Nat) : Int) from rfl, bAnd, Nat.and_two_pow_sub_one_eq_mod]
  have e3 : ∀ x y : Nat, Builtin.bitOr (x : Int) (y : Int) = ((x ||| y : Nat) : Int) := fun x y => by
    unfold Builtin.bitOr Builtin.bitAnd
    have hn : ∀ n : Nat, Builtin.bitNot (n : Int) = -(n : Int) - 1 := fun n => by unfold Builtin.bitNot; lia
    have h1 : ∀ n : Nat, ¬ 0 ≤ Builtin.bitNot (n : Int) := fun n => by rw [hn]; lia
    rw [decide_eq_false (h1 x), decide_eq_false (h1 y)]
    have e : ∀ n : Nat, (Builtin.bitNot (Builtin.bitNot (n : Int))).toNat = n := fun n => by unfold Builtin.bitNot; lia
    dsimp only
    rw [e, e]
    unfold Builtin.bitNot; lia
  refine ⟨2 ^ 12 * (a / 4096 % 16) + b % 4096, ?_, ?_, ?_⟩
  · rw [e1, e2, e3, Nat.two_pow_add_eq_or_of_lt (Nat.mod_lt _ (by decide))]
  · unfold kd
    rw [show (2 ^ 12 * (a / 4096 % 16) + b % 4096) / 4096 % 16 = a / 4096 % 16 from by
      show (4096 * (a / 4096 % 16) + b % 4096) / 4096 % 16 = _
      rw [Nat.mul_add_div (by decide), Nat.div_eq_of_lt (Nat.mod_lt _ (by decide)), Nat.add_zero, Nat.mod_mod]]
  · have h : ∀ i j, i + 3 ≤ 12 → j + 1 ≤ 12 → cl (2 ^ 12 * (a / 4096 % 16) + b % 4096) i j = cl b i j := fun i j hi hj => by
      have hb : ∀ k, k < 12 → (2 ^ 12 * (a / 4096 % 16) + b % 4096).testBit k = b.testBit k := fun k hk => by
        rw [show (4096 : Nat) = 2 ^ 12 from rfl, Nat.testBit_two_pow_mul_add _ (Nat.mod_lt _ (by decide)), if_pos hk, Nat.testBit_mod_two_pow, decide_eq_true hk, Bool.true_and]
      obtain ⟨a1, a2, a3, a4⟩ := cl_bits (2 ^ 12 * (a / 4096 % 16) + b % 4096) i j
      obtain ⟨b1, b2, b3, b4⟩ := cl_bits b i j
      have l1 := cl_lt (2 ^ 12 * (a / 4096 % 16) + b % 4096) i j
      have l2 := cl_lt b i j
      refine Nat.eq_of_testBit_eq fun k => ?_
      match k with
      | 0 => rw [a3, b3, hb _ (by lia)]
      | 1 => rw [a2, b2, hb _ (by lia)]
      | 2 => rw [a1, b1, hb _ (by lia)]
      | 3 => rw [a4, b4, hb _ (by lia)]
      | k + 4 => rw [Nat.testBit_lt_two_pow (Nat.lt_of_lt_of_le l1 (Nat.pow_le_pow_right (n := 2) (by decide) (Nat.le_add_left 4 k))), Nat.testBit_lt_two_pow (Nat.lt_of_lt_of_le l2 (Nat.pow_le_pow_right (n := 2) (by decide) (Nat.le_add_left 4 k)))]
    unfold cls
    rw [h 6 11 (by decide) (by decide), h 3 10 (by decide) (by decide), h 0 9 (by decide) (by decide)]

/-! # Runs, laid one behind the other -/
section
variable {α β : Type} {f : α → β → Bool}
def Mp (f : α → β → Bool) : List α → List β → (List β → Prop) → Prop
  | [], cs, k => k cs
  | x :: a, cs, k => ∃ c r, cs = c :: r ∧ f x c = true ∧ Mp f a r k
def Mg (f : α → β → Bool) : List (List α) → List β → Prop
  | [], cs => cs = []
  | g :: gs, cs => ∃ n, Mp f g (cs.drop n) (Mg f gs)
theorem Mp_iff (f : α → β → Bool) : ∀ (a : List α) (cs : List β) {k k' : List β → Prop}, (∀ n, k (cs.drop n) ↔ k' (cs.drop n)) → (Mp f a cs k ↔ Mp f a cs k')
  | [], cs, k, k', h => h 0
  | x :: a, cs, k, k', h => by
    constructor
    · rintro ⟨c, r, rfl, h1, h2⟩; exact ⟨c, r, rfl, h1, (Mp_iff f a r fun n => h (n + 1)).mp h2⟩
    · rintro ⟨c, r, rfl, h1, h2⟩; exact ⟨c, r, rfl, h1, (Mp_iff f a r fun n => h (n + 1)).mpr h2⟩
theorem Mg_drop {g : List α} {gs : List (List α)} {cs : List β} (n : Nat) (h : Mg f (g :: gs) (cs.drop n)) : Mg f (g :: gs) cs := by
  obtain ⟨m, h⟩ := h
  rw [List.drop_drop] at h
  exact ⟨n + m, h⟩
end
/-- a run stands ahead, and the rest goes on -/
theorem std_Mp {k : List Nat → Prop} : ∀ (r : Rn) (t : List Nat), Mp piB r t k ↔ (stdB r (t.take r.length) = true ∧ k (t.drop r.length))
  | [], t => ⟨fun h => ⟨rfl, h⟩, fun h => h.2⟩
  | x :: r, [] => ⟨fun ⟨_, _, e, _⟩ => (nomatch e), fun h => (nomatch h.1)⟩
  | x :: r, c :: t => by
    have e : stdB (x :: r) ((c :: t).take (x :: r).length) = (piB x c && stdB r (t.take r.length)) := by
      unfold stdB
      rw [List.length_cons, List.take_succ_cons, List.length_cons, List.zip_cons_cons, List.all_cons, show decide (r.length + 1 = (t.take r.length).length + 1) = decide (r.length = (t.take r.length).length) from decide_eq_decide.mpr Nat.succ_inj]
      cases decide (r.length = (t.take r.length).length) <;> cases piB x c <;> rfl
    rw [e, show (c :: t).drop (x :: r).length = t.drop r.length from rfl, Bool.and_eq_true, and_assoc, ← std_Mp r t]
    exact ⟨fun ⟨c', r', e, h1, h2⟩ => by obtain ⟨rfl, rfl⟩ := List.cons.inj e; exact ⟨h1, h2⟩, fun ⟨h1, h2⟩ => ⟨c, t, rfl, h1, h2⟩⟩
theorem std_len {r : Rn} {t : List Nat} (h : stdB r t = true) : r.length = t.length := of_decide_eq_true (Bool.and_eq_true_iff.mp h).1
theorem std_le {r : Rn} {t : List Nat} {p : Nat} (h : stdB r ((t.drop p).take r.length) = true) : r.length ≤ t.length - p := by
  have := std_len h
  rw [List.length_take, List.length_drop] at this
  lia
theorem head_filter {p : Nat → Bool} : ∀ {n a : Nat}, (∀ x, ((List.range' a n).filter p).head? = some x → a ≤ x ∧ x < a + n ∧ p x = true ∧ ∀ y, a ≤ y → y < x → p y = false) ∧ (((List.range' a n).filter p).head? = none → ∀ y, a ≤ y → y < a + n → p y = false)
  | 0, a => ⟨fun x h => (nomatch h), fun _ y h1 h2 => by lia⟩
  | n + 1, a => by
    obtain ⟨i1, i2⟩ := head_filter (p := p) (n := n) (a := a + 1)
    rw [List.range'_succ, List.filter_cons]
    cases h : p a with
    | true => exact ⟨fun x e => by cases e; exact ⟨Nat.le_refl _, by lia, h, fun y h1 h2 => by lia⟩, fun e => (nomatch e)⟩
    | false =>
      refine ⟨fun x e => ?_, fun e y h1 h2 => ?_⟩
      · obtain ⟨j1, j2, j3, j4⟩ := i1 x e
        exact ⟨by lia, by lia, j3, fun y h1 h2 => (Nat.eq_or_lt_of_le h1).elim (fun e => e ▸ h) fun g => j4 y g h2⟩
      · exact (Nat.eq_or_lt_of_le h1).elim (fun e => e ▸ h) fun g => i2 e y g (by lia)
def lastB (rs : List Rn) (t : List Nat) (a : Nat) : Bool := decide (a + (rs.getLastD []).length ≤ t.length) && stdB (rs.getLastD []) (t.drop (t.length - (rs.getLastD []).length))
theorem mid_Mg (t : List Nat) : ∀ (r : Rn) (rs : List Rn) (a : Nat), (∀ g ∈ (r :: rs).dropLast, g ≠ []) → a ≤ t.length → (((midB t (r :: rs).dropLast a).any fun a => lastB (r :: rs) t a) = true ↔ Mg piB (r :: rs) (t.drop a))
  | r, [], a, _, ha => by
    show (decide (a + r.length ≤ t.length) && stdB r (t.drop (t.length - r.length))) = true ↔ ∃ n, Mp piB r ((t.drop a).drop n) fun cs => cs = []
    rw [Bool.and_eq_true, decide_eq_true_iff]
    constructor
    · rintro ⟨h1, h2⟩
      refine ⟨t.length - r.length - a, ?_⟩
      rw [List.drop_drop, Nat.add_sub_cancel' (by lia), std_Mp]
      exact ⟨by rw [List.take_of_length_le (by rw [List.length_drop]; lia)]; exact h2, by rw [List.drop_drop]; exact List.drop_of_length_le (by lia)⟩
    · rintro ⟨n, h⟩
      rw [List.drop_drop, std_Mp, List.drop_drop] at h
      have h1 := std_le h.1
      have h2 := List.drop_eq_nil_iff.mp h.2
      refine ⟨by lia, ?_⟩
      by_cases h0 : r = []
      · subst h0; rw [List.length_nil, Nat.sub_zero, List.drop_length]; rfl
      · have := List.length_pos_iff.mpr h0
        have e : a + n = t.length - r.length := by lia
        have h3 := h.1
        rwa [e, List.take_of_length_le (by rw [List.length_drop]; lia)] at h3
  | r, q :: rs, a, hg, ha => by
    have hr : r ≠ [] := hg r (.head _)
    have hp := List.length_pos_iff.mpr hr
    show (((firstAt r t a).bind fun p => midB t (q :: rs).dropLast (p + r.length)).any fun a => lastB (q :: rs) t a) = true ↔ _
    obtain ⟨f1, f2⟩ := head_filter (p := fun p => stdB r ((t.drop p).take r.length)) (n := t.length - a) (a := a)
    have up : Mg piB (r :: q :: rs) (t.drop a) ↔ ∃ n, stdB r ((t.drop (a + n)).take r.length) = true ∧ Mg piB (q :: rs) (t.drop (a + n + r.length)) := by
      constructor
      · rintro ⟨n, h⟩; rw [List.drop_drop, std_Mp, List.drop_drop] at h; exact ⟨n, h⟩
      · rintro ⟨n, h⟩; refine ⟨n, ?_⟩; rw [List.drop_drop, std_Mp, List.drop_drop]; exact h
    rw [up]
    cases h : firstAt r t a with
    | none =>
      refine ⟨fun h => (nomatch h), fun ⟨n, h1, _⟩ => ?_⟩
      have := std_le h1
      have := f2 h (a + n) (Nat.le_add_right _ _) (by lia)
      rw [this] at h1; cases h1
    | some p =>
      obtain ⟨j1, j2, j3, j4⟩ := f1 p h
      have := std_le j3
      rw [Option.bind_some, mid_Mg t q rs (p + r.length) (fun g h => hg g (.tail _ h)) (by lia)]
      refine ⟨fun h => ⟨p - a, by rw [Nat.add_sub_cancel' j1]; exact ⟨j3, h⟩⟩, fun ⟨n, h1, h2⟩ => ?_⟩
      have hle : p ≤ a + n := Nat.le_of_not_lt fun hlt => by rw [j4 _ (Nat.le_add_right _ _) hlt] at h1; cases h1
      rw [show a + n + r.length = p + r.length + (a + n - p) by lia, ← List.drop_drop] at h2
      exact Mg_drop _ h2
theorem tkB_M (r0 : Rn) (rs : List Rn) (t : List Nat) (hg : ∀ g ∈ rs.dropLast, g ≠ []) : tkB r0 rs t = true ↔ Mp piB r0 t (Mg piB rs) := by
  rw [std_Mp]
  unfold tkB
  rw [Bool.and_eq_true]
  refine and_congr_right fun h => ?_
  have hl := std_len h
  rw [List.length_take] at hl
  cases rs with
  | nil =>
    rw [if_pos rfl, decide_eq_true_iff]
    show _ ↔ t.drop r0.length = []
    rw [List.drop_eq_nil_iff]
    lia
  | cons r rs => rw [if_neg (List.cons_ne_nil _ _)]; exact mid_Mg t r rs r0.length hg (by lia)

/-! # From signs to classes -/
def wIt (c v r s : Nat) : It := if an c r = 0 then .q else .c (if an v r ≠ 0 then s else 45)
def wBr (c v : Nat) : It := if (rb c v).length = 4 then .q else .b (rb c v).flatten
def i3 (t : Nat × Nat) : List It := [wIt t.1 t.2 4 114, wIt t.1 t.2 2 119, wBr t.1 t.2]
def tOk (t : Nat × Nat) : Prop := t.1 < 16 ∧ t.2 < 16 ∧ an t.2 t.1 ≠ 0
def p3 (t : Nat × Nat) : List (Bool × List Nat) := (i3 t).map pi
def hitC (t : Nat × Nat) (c : Nat × Bool) : Bool := hit t c.1
theorem hit_c : ∀ v : Nat, v < 16 → ∀ c : Nat, c < 16 → ∀ f : Nat, f < 16 → ∀ b : Bool, stdB (p3 (c, v)) (tr (f, b)) = hitC (c, v) (f, b) := by decide +kernel
def farB (a b c : Bool × List Nat) : Bool := a == (false, [114]) || b == (false, [119]) || (!c.1 && !c.2.elem 45 && !c.2.elem 114 && !c.2.elem 119)
theorem far_c : ∀ v : Nat, v < 16 → ∀ c : Nat, c < 16 → (decide (an v c = 0) || farB (pi (wIt c v 4 114)) (pi (wIt c v 2 119)) (pi (wBr c v))) = true := by decide +kernel
theorem Mp_cons {α β : Type} {f : α → β → Bool} {x : α} {a : List α} {c : β} {cs : List β} {k : List β → Prop} : Mp f (x :: a) (c :: cs) k ↔ (f x c = true ∧ Mp f a cs k) :=
  ⟨fun ⟨c', r, e, h⟩ => by obtain ⟨rfl, rfl⟩ := List.cons.inj e; exact h, fun h => ⟨c, cs, rfl, h⟩⟩
theorem p3_tr {t : Nat × Nat} (ht : tOk t) {c : Nat × Bool} (hc : c.1 < 16) {F : List (Bool × List Nat)} {G : List Nat} {k : List Nat → Prop} : Mp piB (p3 t ++ F) (tr c ++ G) k ↔ (hitC t c = true ∧ Mp piB F G k) := by
  rw [← hit_c t.2 ht.2.1 t.1 ht.1 c.1 hc c.2]
  show Mp piB (_ :: _ :: _ :: F) (_ :: _ :: _ :: G) k ↔ ((_ && (_ && (_ && true))) = true ∧ _)
  rw [Mp_cons, Mp_cons, Mp_cons, Bool.and_true, Bool.and_eq_true, Bool.and_eq_true, and_assoc, and_assoc]
theorem Mp3 : ∀ (a : List (Nat × Nat)) (cs : List (Nat × Bool)) {k : List Nat → Prop}, (∀ t ∈ a, tOk t) → (∀ c ∈ cs, c.1 < 16) → (Mp piB (a.flatMap p3) (cs.flatMap tr) k ↔ Mp hitC a cs fun r => k (r.flatMap tr))
  | [], _, _, _, _ => Iff.rfl
  | t :: a, [], _, _, _ => ⟨fun ⟨_, _, e, _⟩ => (nomatch e), fun ⟨_, _, e, _⟩ => (nomatch e)⟩
  | t :: a, c :: cs, k, ht, hc => by
    rw [List.flatMap_cons, List.flatMap_cons, p3_tr (ht t (.head _)) (hc c (.head _)), Mp_cons, Mp3 a cs (fun t h => ht t (.tail _ h)) fun c h => hc c (.tail _ h)]
theorem far_1 {x y z : Bool × List Nat} (h : farB x y z = true) {u v w : Nat} (h1 : piB x u = true) (h2 : piB y v = true) (h3 : piB z w = true) : u = 114 ∨ v = 119 ∨ (w ≠ 45 ∧ w ≠ 114 ∧ w ≠ 119) := by
  unfold farB at h
  rw [Bool.or_eq_true, Bool.or_eq_true, beq_iff_eq, beq_iff_eq] at h
  rcases h with (rfl | rfl) | h
  · exact .inl (List.mem_singleton.mp (of_decide_eq_true h1))
  · exact .inr (.inl (List.mem_singleton.mp (of_decide_eq_true h2)))
  · rw [Bool.and_eq_true, Bool.and_eq_true, Bool.and_eq_true] at h
    obtain ⟨⟨⟨a1, a2⟩, a3⟩, a4⟩ := h
    have hz : z.1 = false := by cases e : z.1 with | false => rfl | true => rw [e] at a1; cases a1
    have hw : w ∈ z.2 := by unfold piB at h3; rw [hz, Bool.false_or] at h3; exact of_decide_eq_true h3
    have no : ∀ d, (!z.2.elem d) = true → w ≠ d := fun d hd e => by
      subst e
      rw [List.elem_eq_mem, decide_eq_true hw] at hd; cases hd
    exact .inr (.inr ⟨no _ a2, no _ a3, no _ a4⟩)
theorem trC (c : Nat × Bool) : ∃ u v w, tr c = [u, v, w] ∧ (u = 114 ∨ u = 45) ∧ (v = 119 ∨ v = 45) ∧ w ≠ 114 ∧ w ≠ 119 := by
  have h1 : ∀ d b, sg1 d b = d ∨ sg1 d b = 45 := fun d b => by cases b; exact .inr rfl; exact .inl rfl
  refine ⟨_, _, _, rfl, h1 _ _, h1 _ _, ?_⟩
  cases c.2 <;> cases c.1.testBit 0 <;> cases c.1.testBit 3 <;> decide
theorem far {t : Nat × Nat} (ht : tOk t) {F : List (Bool × List Nat)} {k : List Nat → Prop} : ∀ (cs : List (Nat × Bool)) (n : Nat), n % 3 ≠ 0 → ¬ Mp piB (p3 t ++ F) ((cs.flatMap tr).drop n) k
  | [], n, _, h => by
    rw [List.flatMap_nil, List.drop_nil] at h
    obtain ⟨_, _, e, _⟩ := h
    cases e
  | c :: cs, n, hn, h => by
    obtain ⟨u, v, w, e, hu, hv, hw⟩ := trC c
    rw [List.flatMap_cons, e] at h
    have hf : farB (pi (wIt t.1 t.2 4 114)) (pi (wIt t.1 t.2 2 119)) (pi (wBr t.1 t.2)) = true := by
      have := far_c t.2 ht.2.1 t.1 ht.1
      rwa [decide_eq_false ht.2.2, Bool.false_or] at this
    match n, hn, h with
    | 0, hn, _ => exact hn rfl
    | 1, _, h =>
      obtain ⟨c1, r1, e1, h1, c2, r2, e2, h2, c3, r3, e3, h3, _⟩ := h
      obtain ⟨rfl, rfl⟩ := List.cons.inj (show v :: w :: cs.flatMap tr = c1 :: r1 from e1)
      obtain ⟨rfl, rfl⟩ := List.cons.inj e2
      cases cs with
      | nil => cases e3
      | cons d cs =>
        obtain ⟨u', v', w', e', hu', _⟩ := trC d
        rw [List.flatMap_cons, e'] at e3
        obtain ⟨rfl, _⟩ := List.cons.inj (show u' :: v' :: w' :: cs.flatMap tr = c3 :: r3 from e3)
        rcases far_1 hf h1 h2 h3 with g | g | g
        · rcases hv with q | q <;> rw [q] at g <;> cases g
        · exact hw.2 g
        · rcases hu' with q | q
          · exact g.2.1 q
          · exact g.1 q
    | 2, _, h =>
      obtain ⟨c1, r1, e1, h1, c2, r2, e2, h2, c3, r3, e3, h3, _⟩ := h
      obtain ⟨rfl, rfl⟩ := List.cons.inj (show w :: cs.flatMap tr = c1 :: r1 from e1)
      cases cs with
      | nil => cases e2
      | cons d cs =>
        obtain ⟨u', v', w', e', hu', hv', _⟩ := trC d
        rw [List.flatMap_cons, e'] at e2
        obtain ⟨rfl, rfl⟩ := List.cons.inj (show u' :: v' :: w' :: cs.flatMap tr = c2 :: r2 from e2)
        obtain ⟨rfl, _⟩ := List.cons.inj e3
        rcases far_1 hf h1 h2 h3 with g | g | g
        · exact hw.1 g
        · rcases hu' with q | q <;> rw [q] at g <;> cases g
        · rcases hv' with q | q
          · exact g.2.2 q
          · exact g.1 q
    | n + 3, hn, h => exact far ht cs n (by lia) h
def gd3 : List (List (Nat × Nat)) → Prop
  | [] => True
  | g :: gs => (gs = [] ∨ g ≠ []) ∧ (∀ t ∈ g, tOk t) ∧ gd3 gs
theorem drop3 : ∀ (cs : List (Nat × Bool)) (m : Nat), (cs.flatMap tr).drop (3 * m) = (cs.drop m).flatMap tr
  | cs, 0 => rfl
  | [], m + 1 => List.drop_nil
  | c :: cs, m + 1 => drop3 cs m
theorem Mg3 : ∀ (gs : List (List (Nat × Nat))) (cs : List (Nat × Bool)), gd3 gs → (∀ c ∈ cs, c.1 < 16) → (Mg piB (gs.map (List.flatMap p3)) (cs.flatMap tr) ↔ Mg hitC gs cs)
  | [], [], _, _ => ⟨fun _ => rfl, fun _ => rfl⟩
  | [], c :: cs, _, _ => ⟨fun h => (nomatch (show _ :: _ = [] from h)), fun h => (nomatch h)⟩
  | g :: gs, cs, hg, hc => by
    have hd : ∀ n, ∀ c ∈ cs.drop n, c.1 < 16 := fun n c h => hc c (List.mem_of_mem_drop h)
    have key : ∀ m, Mp piB (g.flatMap p3) ((cs.flatMap tr).drop (3 * m)) (Mg piB (gs.map (List.flatMap p3))) ↔ Mp hitC g (cs.drop m) (Mg hitC gs) := fun m => by
      rw [drop3, Mp3 g (cs.drop m) hg.2.1 (hd m)]
      exact Mp_iff _ g _ fun n => Mg3 gs _ hg.2.2 fun c h => hd m c (List.mem_of_mem_drop h)
    constructor
    · rintro ⟨n, h⟩
      by_cases h0 : g = []
      · subst h0
        have hgs : gs = [] := hg.1.resolve_right fun h => h rfl
        subst hgs
        exact ⟨cs.length, List.drop_length⟩
      by_cases hn : n % 3 = 0
      · have e : n = 3 * (n / 3) := by lia
        rw [e] at h
        exact ⟨n / 3, (key _).mp h⟩
      · cases g with
        | nil => exact absurd rfl h0
        | cons t g => exact absurd h (far (hg.2.1 t (.head _)) cs n hn)
    · rintro ⟨m, h⟩
      exact ⟨3 * m, (key m).mpr h⟩

/-! # The tests' groups, and how they fit -/
def grp (s : Bool) : List ((Nat × Nat) × Bool) → List (Nat × Nat) × List (List (Nat × Nat))
  | [] => ([], bif s then [[]] else [])
  | p :: l => bif p.2 then ([], (p.1 :: (grp s l).1) :: (grp s l).2) else (p.1 :: (grp s l).1, (grp s l).2)
theorem gs_s (s : Bool) (cs : List (Nat × Bool)) : Mg hitC (bif s then [[]] else []) cs ↔ (s || cs.isEmpty) = true := by
  cases s with
  | true => exact ⟨fun _ => rfl, fun _ => ⟨cs.length, List.drop_length⟩⟩
  | false => exact List.isEmpty_iff.symm
theorem fits_M (s : Bool) : ∀ (cs : List (Nat × Bool)) (l : List ((Nat × Nat) × Bool)), fitsB (cs.map (·.1)) (l.map (·.1)) (l.map (·.2) ++ [s]) = true ↔ Mp hitC (grp s l).1 cs (Mg hitC (grp s l).2)
  | [], [] => (show true = true ↔ _ from ((gs_s s []).trans (by rw [List.isEmpty_nil, Bool.or_true])).symm)
  | c :: cs, [] => (by rw [show (c :: cs).isEmpty = false from rfl, Bool.or_false] : s = true ↔ (s || (c :: cs).isEmpty) = true).trans (gs_s s (c :: cs)).symm
  | [], (t, b) :: l => by
    refine ⟨fun h => (nomatch h), fun h => ?_⟩
    cases b with
    | false => obtain ⟨_, _, e, _⟩ := h; cases e
    | true => obtain ⟨n, h⟩ := h; rw [List.drop_nil] at h; obtain ⟨_, _, e, _⟩ := h; cases e
  | c :: cs, (t, b) :: l => by
    have h1 := fits_M s cs l
    have h2 := fits_M s cs ((t, b) :: l)
    show ((hit t c.1 && fitsB (cs.map (·.1)) (l.map (·.1)) (l.map (·.2) ++ [s])) || (b && fitsB (cs.map (·.1)) (((t, b) :: l).map (·.1)) (((t, b) :: l).map (·.2) ++ [s]))) = true ↔ _
    rw [Bool.or_eq_true, Bool.and_eq_true, Bool.and_eq_true, h1, h2]
    cases b with
    | false => exact ⟨fun h => h.elim (fun h => Mp_cons.mpr h) fun h => (nomatch h.1), fun h => .inl (Mp_cons.mp h)⟩
    | true =>
      refine ⟨fun h => h.elim (fun h => ⟨0, Mp_cons.mpr h⟩) fun ⟨_, n, h⟩ => ⟨n + 1, h⟩, fun ⟨n, h⟩ => ?_⟩
      cases n with
      | zero => exact .inl (Mp_cons.mp h)
      | succ n => exact .inr ⟨rfl, n, h⟩
theorem grp_gd (s : Bool) : ∀ l : List ((Nat × Nat) × Bool), (∀ p ∈ l, tOk p.1) → (∀ t ∈ (grp s l).1, tOk t) ∧ gd3 (grp s l).2
  | [], _ => by cases s; exact ⟨fun _ h => (nomatch h), trivial⟩; exact ⟨fun _ h => (nomatch h), .inl rfl, fun _ h => (nomatch h), trivial⟩
  | (t, b) :: l, h => by
    obtain ⟨h1, h2⟩ := grp_gd s l fun p hp => h p (.tail _ hp)
    have h3 : ∀ x ∈ t :: (grp s l).1, tOk x := fun x hx => (List.mem_cons.mp hx).elim (fun e => e ▸ h _ (.head _)) (h1 x)
    cases b with
    | false => exact ⟨h3, h2⟩
    | true => exact ⟨fun _ h => (nomatch h), .inr (List.cons_ne_nil _ _), h3, h2⟩

/-! # What translate is given, and what is read from its text -/
def kit (K : Nat) : It := if K = 63 then .q else .c K
/-- an item that all functions take -/
def itB : It → Bool
  | .q => true
  | .c x => x == 45 || CL.elem x
  | .b L => L.all (fun c => c == 45 || BC.elem c) && decide (L.length ≤ 8) && (!L.isEmpty && !L.tail.elem 45)
  | .st => false
theorem bc_gd : ∀ c : Nat, (c == 45 || BC.elem c) = true → (c = 45 ∨ c ∈ BC) ∧ gd c ∧ c ≠ 33 ∧ c ≠ 94 ∧ c ≠ 91 := fun c h => by
  have h : c = 45 ∨ c ∈ BC := by
    rw [Bool.or_eq_true, beq_iff_eq, List.elem_eq_mem, decide_eq_true_iff] at h; exact h
  exact ⟨h, (by decide +kernel : ∀ d ∈ 45 :: BC, (d < 128 ∧ d ≠ 92 ∧ d ≠ 93 ∧ noAmp d = true) ∧ d ≠ 33 ∧ d ≠ 94 ∧ d ≠ 91) c (List.mem_cons.mpr h)⟩
theorem it_ok {p : It} (h : itB p = true) : iok p ∧ p.ok ∧ p ≠ .st ∧ p.out.length ≤ 18 ∧ ∀ c ∈ p.out, c < 128 := by
  cases p with
  | q => exact ⟨trivial, trivial, fun e => (nomatch e), (by decide : [46].length ≤ 18), (by decide : ∀ c ∈ [46], c < 128)⟩
  | c x =>
    have h : x ∈ 45 :: CL := by
      unfold itB at h
      rw [Bool.or_eq_true, beq_iff_eq, List.elem_eq_mem, decide_eq_true_iff] at h; exact List.mem_cons.mpr h
    obtain ⟨h1, h2, h3, h4⟩ := (by decide +kernel : ∀ x ∈ 45 :: CL, (x < 128 ∧ x ≠ 42 ∧ x ≠ 63 ∧ x ≠ 91) ∧ (escL x).length ≤ 18 ∧ (∀ c ∈ escL x, c < 128) ∧ (x = 45 ∨ x ∈ CL)) x h
    exact ⟨h4, h1, fun e => (nomatch e), h2, h3⟩
  | b L =>
    unfold itB at h
    rw [Bool.and_eq_true, Bool.and_eq_true, decide_eq_true_iff] at h
    obtain ⟨⟨h1, h2⟩, h3⟩ := h
    have h1 := fun c hc => bc_gd c (List.all_eq_true.mp h1 c hc)
    cases L with
    | nil => cases h3
    | cons d t =>
      have hd := (h1 d (.head _)).2.2
      have hz := replw_len (z := [92, 45]) 45 (by decide) (by decide) (d :: t)
      have h3 : (!t.elem 45) = true := h3
      have h45 : 45 ∉ t := fun e => by
        rw [List.elem_eq_mem, decide_eq_true e] at h3; cases h3
      refine ⟨⟨fun c hc => (h1 c hc).1, Nat.le_trans h2 (by decide)⟩, ⟨d, t, rfl, hd.1, hd.2.1, hd.2.2, h45, Nat.le_trans h2 (by decide), fun c hc => (h1 c hc).2.1⟩, fun e => (nomatch e), ?_, fun c hc => ?_⟩
      · show ([91] ++ replw 45 [92, 45] (d :: t) ++ [93]).length ≤ 18
        rw [List.length_append, List.length_append]
        show 1 + _ + 1 ≤ 18
        lia
      · rcases List.mem_append.mp hc with hc | hc
        · rcases List.mem_append.mp hc with hc | hc
          · rw [List.mem_singleton.mp hc]; decide
          · rcases esL_mem hc with hc | rfl | rfl
            · exact (h1 c hc).2.1.1
            · decide
            · decide
        · rw [List.mem_singleton.mp hc]; decide
  | st => cases h
theorem i3_ok : ∀ v : Nat, v < 16 → ∀ c : Nat, c < 16 → (i3 (c, v)).all itB = true := by decide +kernel
theorem wrt_txt (t : Nat × Nat) : wrtL t.1 t.2 = txts (i3 t) := by
  have h : ∀ c v r s, rs c v r s = (wIt c v r s).txt := fun c v r s => by unfold rs wIt; split <;> (try split) <;> rfl
  unfold wrtL
  rw [h, h]
  show _ = (wIt t.1 t.2 4 114).txt ++ ((wIt t.1 t.2 2 119).txt ++ ((wBr t.1 t.2).txt ++ []))
  rw [List.append_nil, List.append_assoc]
  refine congrArg _ (congrArg _ ?_)
  unfold wBr
  split
  · rfl
  · exact List.append_assoc _ _ _
def kds (m : Nat) : Nat := kdT.getD m 0
theorem kit_c : ∀ k : Nat, k < 16 → itB (kit (kds k)) = true ∧ (kit (kds k)).txt = [kds k] ∧ ∀ j : Nat, j < 16 → piB (pi (kit (kds k))) (kds j) = (!([1, 2, 4, 6, 8, 10, 12].any fun x => x == k) || k == j) := by decide +kernel
theorem kit_ok (m : Nat) : itB (kit (kd m)) = true ∧ (kit (kd m)).txt = [kd m] ∧ ∀ n, piB (pi (kit (kd m))) (kd n) = (!([1, 2, 4, 6, 8, 10, 12].any fun x => x == m / 4096 % 16) || m / 4096 % 16 == n / 4096 % 16) :=
  have h := kit_c (m / 4096 % 16) (Nat.mod_lt _ (by decide))
  ⟨h.1, h.2.1, fun n => h.2.2 (n / 4096 % 16) (Nat.mod_lt _ (by decide))⟩
section
variable (m : Nat) (s : Bool) (l : List ((Nat × Nat) × Bool))
def gA : List It := kit (kd m) :: (grp s l).1.flatMap i3
def gG : List (List It) := (grp s l).2.map (List.flatMap i3)
def strS (b : Bool) : List Nat := bif b then [42] else []
def patT : List Nat := [kd m] ++ (l.map fun p => strS p.2 ++ wrtL p.1.1 p.1.2).flatten
end
theorem patT_snoc (m : Nat) (l : List ((Nat × Nat) × Bool)) (p : (Nat × Nat) × Bool) : patT m (l ++ [p]) = patT m l ++ (strS p.2 ++ wrtL p.1.1 p.1.2) := by
  unfold patT
  rw [List.map_append, List.flatten_append, ← List.append_assoc]
  show _ ++ (_ ++ []) = _
  rw [List.append_nil]
theorem txts_cons (p : It) (l : List It) : txts (p :: l) = p.txt ++ txts l := rfl
theorem pat_grp (s : Bool) : ∀ l : List ((Nat × Nat) × Bool), txts ((grp s l).1.flatMap i3 ++ (((grp s l).2.map (List.flatMap i3)).map fun g => It.st :: g).flatten) = (l.map fun p => strS p.2 ++ wrtL p.1.1 p.1.2).flatten ++ strS s
  | [] => by cases s <;> rfl
  | (t, b) :: l => by
    have ih := pat_grp s l
    rw [List.map_cons, List.flatten_cons, wrt_txt t, List.append_assoc, ← ih]
    cases b with
    | false =>
      show txts ((i3 t ++ (grp s l).1.flatMap i3) ++ _) = ([] ++ txts (i3 t)) ++ _
      rw [List.append_assoc, txts_append]; rfl
    | true =>
      show txts (It.st :: ((i3 t ++ (grp s l).1.flatMap i3) ++ _)) = ([42] ++ txts (i3 t)) ++ _
      rw [txts_cons, List.append_assoc, txts_append, List.append_assoc]; rfl
theorem pat_txt (m : Nat) (s : Bool) (l : List ((Nat × Nat) × Bool)) : txts (psOf (gA m s l) (gG s l)) = patT m l ++ strS s := by
  unfold patT
  rw [List.append_assoc, ← pat_grp s l, ← (kit_ok m).2.1]
  rfl

/-! ## the tokens -/
def tks : List (List It) → List Tk
  | [] => []
  | g :: gs => if gs = [] then .la :: g.map .it else .op :: (g.map .it ++ .sh :: tks gs)
def its (g : List It) : V := .list (g.map fun p => piV (pi p))
theorem okks_its {r : List Tk} : ∀ (g : List It) (s : Ts), (∀ p ∈ g, iok p) → s.1 ≤ 3 → s.1 ≠ 2 → (okks (s.1, s.2.1, s.2.2 ++ g.map fun p => piV (pi p)) r → okks s (g.map .it ++ r)) ∧ (g.map Tk.it ++ r).foldl stp s = r.foldl stp (s.1, s.2.1, s.2.2 ++ g.map fun p => piV (pi p))
  | [], s, _, _, _ => by rw [List.map_nil, List.append_nil]; exact ⟨id, rfl⟩
  | p :: g, s, h, h1, h2 => by
    obtain ⟨i1, i2⟩ := okks_its (r := r) g (stp s (.it p)) (fun q hq => h q (.tail _ hq)) h1 h2
    have e : (stp s (.it p)).2.2 ++ (g.map fun p => piV (pi p)) = s.2.2 ++ (p :: g).map fun p => piV (pi p) := List.append_assoc _ _ _
    rw [e] at i1 i2
    exact ⟨fun hr => ⟨⟨h p (.head _), h1, h2⟩, i1 hr⟩, i2⟩
theorem tks_ok : ∀ (gs : List (List It)) (w : Nat) (fs ls : List V), (∀ g ∈ gs, ∀ p ∈ g, iok p) → (w = 0 ∨ w = 2 ∧ gs ≠ []) → okks (w, fs, ls) (tks gs) ∧ ((tks gs).foldl stp (w, fs, ls)).2.1 ++ [.list ((tks gs).foldl stp (w, fs, ls)).2.2] = fs ++ .list ls :: gs.map its
  | [], w, fs, ls, _, hw => ⟨hw.elim .inl fun h => absurd rfl h.2, rfl⟩
  | g :: gs, w, fs, ls, hg, hw => by
    have hw' : w = 0 ∨ w = 2 := hw.imp id And.left
    have ih := tks_ok gs 2 (fs ++ [.list ls]) (g.map fun p => piV (pi p)) (fun g h => hg g (.tail _ h))
    unfold tks
    by_cases h : gs = []
    · subst h
      rw [if_pos rfl]
      obtain ⟨i1, i2⟩ := okks_its (r := []) g (3, fs ++ [.list ls], []) (hg g (.head _)) (Nat.le_refl 3) (fun e => (nomatch (show (3 : Nat) = 2 from e)))
      rw [List.append_nil] at i1 i2
      refine ⟨⟨hw', i1 (.inr rfl)⟩, ?_⟩
      show (((g.map Tk.it).foldl stp (3, fs ++ [.list ls], [])).2.1 ++ [V.list ((g.map Tk.it).foldl stp (3, fs ++ [.list ls], [])).2.2]) = _
      rw [i2]
      exact List.append_assoc _ _ _
    · rw [if_neg h]
      obtain ⟨i1, i2⟩ := okks_its (r := .sh :: tks gs) g (1, fs ++ [.list ls], []) (hg g (.head _)) (show 1 ≤ 3 from by decide) (fun e => (nomatch (show (1 : Nat) = 2 from e)))
      obtain ⟨j1, j2⟩ := ih (.inr ⟨rfl, h⟩)
      refine ⟨⟨hw', i1 ⟨rfl, j1⟩⟩, ?_⟩
      show (((g.map Tk.it ++ .sh :: tks gs).foldl stp (1, fs ++ [.list ls], [])).2.1 ++ [V.list ((g.map Tk.it ++ .sh :: tks gs).foldl stp (1, fs ++ [.list ls], [])).2.2]) = _
      rw [i2]
      refine Eq.trans j2 ?_
      rw [List.append_assoc]; rfl
theorem tT_app (a b : List Tk) : tT (a ++ b) = tT a ++ tT b := by unfold tT; rw [List.map_append, List.flatten_append]
theorem tT_its (g : List It) : tT (g.map .it) = (g.map It.out).flatten := by unfold tT; rw [List.map_map]; rfl
theorem tT_tks : ∀ gs : List (List It), tT (tks gs) = jT (ogs gs)
  | [] => rfl
  | g :: gs => by
    unfold tks
    by_cases h : gs = []
    · subst h
      rw [if_pos rfl, tT_cons, tT_its]; rfl
    · have e : jT (ogs (g :: gs)) = [40, 63, 62, 46, 42, 63] ++ (g.map It.out).flatten ++ [41] ++ jT (ogs gs) := if_neg fun e => h (List.map_eq_nil_iff.mp e)
      rw [if_neg h, e, tT_cons, tT_app, tT_its, tT_cons, tT_tks gs, List.append_assoc, List.append_assoc]; rfl

/-! ## how great it all is -/
abbrev Tl := List ((Nat × Nat) × Bool)
theorem grp_len (s : Bool) : ∀ l : Tl, (grp s l).1.length ≤ l.length ∧ (grp s l).2.length ≤ l.length + 1 ∧ ∀ g ∈ (grp s l).2, g.length ≤ l.length
  | [] => by cases s <;> exact ⟨Nat.le_refl _, by decide, by decide⟩
  | (t, b) :: l => by
    obtain ⟨h1, h2, h3⟩ := grp_len s l
    have h1' : ((t :: (grp s l).1).length) ≤ ((t, b) :: l).length := Nat.succ_le_succ h1
    cases b with
    | false => exact ⟨h1', Nat.le_succ_of_le h2, fun g h => Nat.le_succ_of_le (h3 g h)⟩
    | true => exact ⟨Nat.zero_le _, Nat.succ_le_succ h2, fun g h => (List.mem_cons.mp h).elim (fun e => e ▸ h1') fun h => Nat.le_succ_of_le (h3 g h)⟩
theorem i3_len (a : List (Nat × Nat)) : (a.flatMap i3).length = 3 * a.length := by
  induction a with
  | nil => rfl
  | cons t a ih => rw [List.flatMap_cons, List.length_append, ih]; show 3 + _ = 3 * (a.length + 1); lia
theorem i3_it {a : List (Nat × Nat)} (h : ∀ t ∈ a, tOk t) : ∀ p ∈ a.flatMap i3, itB p = true := fun p hp => by
  obtain ⟨t, ht, hp⟩ := List.mem_flatMap.mp hp
  exact List.all_eq_true.mp (i3_ok t.2 (h t ht).2.1 t.1 (h t ht).1) p hp
theorem gd3_all : ∀ gs, gd3 gs → ∀ g ∈ gs, ∀ t ∈ g, tOk t
  | [], _, _, h => nomatch h
  | g :: gs, ⟨_, h2, h3⟩, g', h => (List.mem_cons.mp h).elim (fun e => e ▸ h2) (gd3_all gs h3 g')
def gOk (g : List It) : Prop := g.length ≤ 10 ∧ ∀ p ∈ g, itB p = true
theorem g_ok (m : Nat) (s : Bool) {l : Tl} (hl : l.length ≤ 3) (ht : ∀ p ∈ l, tOk p.1) : gOk (gA m s l) ∧ (gG s l).length ≤ 4 ∧ ∀ g ∈ gG s l, gOk g := by
  obtain ⟨h1, h2, h3⟩ := grp_len s l
  obtain ⟨h4, h5⟩ := grp_gd s l ht
  refine ⟨⟨?_, ?_⟩, ?_, ?_⟩
  · unfold gA; rw [List.length_cons, i3_len]; lia
  · exact fun p hp => (List.mem_cons.mp hp).elim (fun e => e ▸ (kit_ok m).1) (i3_it h4 p)
  · unfold gG; rw [List.length_map]; lia
  · intro g hg
    obtain ⟨a, ha, rfl⟩ := List.mem_map.mp hg
    exact ⟨by rw [i3_len]; have := h3 a ha; lia, i3_it (gd3_all _ h5 a ha)⟩
theorem sum_le {α : Type} (f : α → Nat) (k : Nat) : ∀ l : List α, (∀ x ∈ l, f x ≤ k) → (l.map f).sum ≤ k * l.length
  | [], _ => Nat.le_refl _
  | x :: l, h => by
    have := sum_le f k l fun y hy => h y (.tail _ hy)
    have := h x (.head _)
    rw [List.map_cons, List.sum_cons, List.length_cons, Nat.mul_succ]
    lia
theorem grpOk_of {g : List It} (h : gOk g) : grpOk g := by
  have h1 := sum_le (fun p : It => p.out.length) 18 g fun p hp => (it_ok (h.2 p hp)).2.2.2.1
  have := h.1
  refine ⟨fun p hp => ⟨(it_ok (h.2 p hp)).2.1, (it_ok (h.2 p hp)).2.2.1⟩, ?_⟩
  rw [List.map_map]
  show (g.map fun p => p.out.length).sum + _ ≤ _
  lia
theorem gsOk_of : ∀ gs : List (List (Nat × Nat)), gd3 gs → (∀ g ∈ gs.map (List.flatMap i3), gOk g) → gsOk (gs.map (List.flatMap i3))
  | [], _, _ => trivial
  | g :: gs, ⟨h1, _, h3⟩, h => ⟨h1.imp (fun e => by rw [e]; rfl) fun e e' => e (by cases g with | nil => rfl | cons t g => cases e'), grpOk_of (h _ (.head _)), gsOk_of gs h3 fun g hg => h g (.tail _ hg)⟩
def tkO : Tk → Prop
  | .it p => itB p = true
  | _ => True
theorem tk_ok {t : Tk} (h : tkO t) : t.txt.length ≤ 18 ∧ ∀ c ∈ t.txt, c < 128 := by
  cases t with
  | it p => exact (it_ok h).2.2.2
  | op => exact ⟨by decide, by decide⟩
  | sh => exact ⟨by decide, by decide⟩
  | la => exact ⟨by decide, by decide⟩
theorem tks_o : ∀ gs : List (List It), (∀ g ∈ gs, gOk g) → (tks gs).length ≤ 12 * gs.length ∧ ∀ t ∈ tks gs, tkO t
  | [], _ => ⟨Nat.le_refl _, fun _ h => (nomatch h)⟩
  | g :: gs, h => by
    obtain ⟨i1, i2⟩ := tks_o gs fun g hg => h g (.tail _ hg)
    obtain ⟨h1, h2⟩ := h g (.head _)
    have hm : ∀ t ∈ g.map Tk.it, tkO t := fun t ht => by obtain ⟨p, hp, rfl⟩ := List.mem_map.mp ht; exact h2 p hp
    unfold tks
    split
    · exact ⟨by rw [List.length_cons, List.length_map, List.length_cons]; lia, fun t ht => (List.mem_cons.mp ht).elim (fun e => e ▸ trivial) (hm t)⟩
    · refine ⟨by rw [List.length_cons, List.length_append, List.length_map, List.length_cons, List.length_cons]; lia, fun t ht => (List.mem_cons.mp ht).elim (fun e => e ▸ trivial) fun ht => (List.mem_append.mp ht).elim (hm t) fun ht => (List.mem_cons.mp ht).elim (fun e => e ▸ trivial) (i2 t)⟩
theorem tT_ok : ∀ l : List Tk, (∀ t ∈ l, tkO t) → (tT l).length ≤ 18 * l.length ∧ ∀ c ∈ tT l, c < 128
  | [], _ => ⟨Nat.le_refl _, fun _ h => (nomatch h)⟩
  | t :: l, h => by
    obtain ⟨i1, i2⟩ := tT_ok l fun t ht => h t (.tail _ ht)
    obtain ⟨h1, h2⟩ := tk_ok (h t (.head _))
    rw [tT_cons]
    exact ⟨by rw [List.length_append, List.length_cons]; lia, fun c hc => (List.mem_append.mp hc).elim (h2 c) (i2 c)⟩
theorem ps_len : ∀ gs : List (List It), (∀ g ∈ gs, gOk g) → (gs.map fun g => It.st :: g).flatten.length ≤ 11 * gs.length
  | [], _ => Nat.le_refl _
  | g :: gs, h => by
    have := ps_len gs fun g hg => h g (.tail _ hg)
    have := (h g (.head _)).1
    rw [List.map_cons, List.flatten_cons, List.length_append, List.length_cons, List.length_cons]
    lia
/-- the runs of a question -/
def runA (m : Nat) (s : Bool) (l : Tl) : Rn := (gA m s l).map pi
def runG (s : Bool) (l : Tl) : List Rn := (gG s l).map fun g => g.map pi
theorem its_rn (g : List It) : its g = rnV (g.map pi) := by unfold its rnV; rw [List.map_map]; rfl
theorem runs_v (m : Nat) (s : Bool) (l : Tl) : (gA m s l :: gG s l).map its = (runA m s l :: runG s l).map rnV := by
  unfold runA runG
  rw [List.map_cons, List.map_cons, List.map_map, its_rn]
  exact congrArg _ (List.map_congr_left fun g _ => its_rn g)
/-- what translate and _law_runs ask of a question -/
theorem ask_ok (m : Nat) (s : Bool) {l : Tl} (hl : l.length ≤ 3) (ht : ∀ p ∈ l, tOk p.1) {Q : V → Prop} (hQ : Q (.list ((runA m s l :: runG s l).map rnV))) :
    TRL [.str (patT m l ++ strS s)] fun d => RNS [d] Q := by
  obtain ⟨h1, h2, h3⟩ := g_ok m s hl ht
  have hp := ps_len _ h3
  have hk := tks_o _ h3
  have a1 := h1.1
  have htk : ∀ t ∈ (gA m s l).map Tk.it ++ tks (gG s l), tkO t := fun t h => (List.mem_append.mp h).elim (fun h => by obtain ⟨p, hp, rfl⟩ := List.mem_map.mp h; exact h1.2 p hp) (hk.2 t)
  obtain ⟨t1, t2⟩ := tT_ok _ htk
  have hlen : ((gA m s l).map Tk.it ++ tks (gG s l)).length ≤ 100 := by rw [List.length_append, List.length_map]; lia
  have htx : ∀ g : List It, (∀ p ∈ g, p.txt.length ≤ 20) → (txts g).length ≤ 20 * g.length := fun g h => by
    unfold txts
    rw [List.length_flatten, List.map_map]
    exact sum_le (fun p : It => p.txt.length) 20 g h
  have hps : (psOf (gA m s l) (gG s l)).length ≤ 100 := by unfold psOf; rw [List.length_append]; lia
  have itx : ∀ p, itB p = true → p.txt.length ≤ 20 := fun p h => by
    cases p with
    | b L =>
      unfold itB at h
      rw [Bool.and_eq_true, Bool.and_eq_true, decide_eq_true_iff] at h
      have := h.1.2
      show (91 :: (L ++ [93])).length ≤ _
      rw [List.length_cons, List.length_append, List.length_singleton]; lia
    | _ => exact Nat.le_of_ble_eq_true rfl
  have hmem : ∀ p ∈ psOf (gA m s l) (gG s l), p.txt.length ≤ 20 := fun p h => by
    rcases List.mem_append.mp h with h | h
    · exact itx p (h1.2 p h)
    · obtain ⟨g', hg', h⟩ := List.mem_flatten.mp h
      obtain ⟨g, hg, rfl⟩ := List.mem_map.mp hg'
      rcases List.mem_cons.mp h with rfl | h
      · decide
      · exact itx p ((h3 g hg).2 p h)
  have hz := htx _ hmem
  obtain ⟨k1, k2⟩ := okks_its (r := tks (gG s l)) (gA m s l) (0, [], []) (fun p h => (it_ok (h1.2 p h)).1) (Nat.zero_le 3) (fun e => (nomatch (show (0 : Nat) = 2 from e)))
  obtain ⟨j1, j2⟩ := tks_ok (gG s l) 0 [] ((gA m s l).map fun p => piV (pi p)) (fun g hg p hp => (it_ok ((h3 g hg).2 p hp)).1) (.inl rfl)
  refine ⟨gA m s l, gG s l, by rw [pat_txt], grpOk_of h1, gsOk_of _ (grp_gd s l ht).2 h3, by lia, by lia, by lia, (gA m s l).map .it ++ tks (gG s l), ?_, k1 j1, by lia, by lia, t2, ?_⟩
  · unfold ftext
    rw [tT_app, tT_its, tT_tks]
    simp only [List.append_assoc]
  · rw [k2]
    refine (congrArg Q ?_).mpr hQ
    rw [← runs_v]
    exact congrArg V.list j2
theorem pi_ok {p : It} (h : itB p = true) : (pi p).2.length ≤ 1000 ∧ ∀ q ∈ (pi p).2, q < 128 := by
  have h' := it_ok h
  cases p with
  | q => exact ⟨Nat.zero_le _, fun _ h => (nomatch h)⟩
  | c x => exact ⟨Nat.le_of_ble_eq_true rfl, fun q hq => List.mem_singleton.mp hq ▸ h'.2.1.1⟩
  | b L => obtain ⟨d, t, B⟩ := h'.2.1; exact ⟨Nat.le_trans B.len (by decide), fun q hq => (B.gd q hq).1⟩
  | st => cases h
theorem rn_ok {g : List It} (h : gOk g) : rnOk (g.map pi) := by
  have := h.1
  refine ⟨by rw [List.length_map]; lia, fun x hx => ?_⟩
  obtain ⟨p, hp, rfl⟩ := List.mem_map.mp hx
  exact pi_ok (h.2 p hp)
theorem run_ok (m : Nat) (s : Bool) {l : Tl} (hl : l.length ≤ 3) (ht : ∀ p ∈ l, tOk p.1) : (runG s l).length ≤ 100 ∧ ∀ r ∈ runA m s l :: runG s l, rnOk r := by
  obtain ⟨h1, h2, h3⟩ := g_ok m s hl ht
  refine ⟨by unfold runG; rw [List.length_map]; lia, fun r hr => (List.mem_cons.mp hr).elim (fun e => e ▸ rn_ok h1) fun hr => ?_⟩
  obtain ⟨g, hg, rfl⟩ := List.mem_map.mp hr
  exact rn_ok (h3 g hg)
theorem gd3_ne : ∀ gs : List (List (Nat × Nat)), gd3 gs → ∀ g ∈ (gs.map (List.flatMap p3)).dropLast, g ≠ []
  | [], _, _, h => nomatch h
  | [g], _, _, h => nomatch h
  | g :: q :: gs, h, x, hx => by
    rcases List.mem_cons.mp (show x ∈ g.flatMap p3 :: ((q :: gs).map (List.flatMap p3)).dropLast from hx) with rfl | hx
    · have h0 := h.1.resolve_left fun e => (nomatch e)
      cases g with
      | nil => exact absurd rfl h0
      | cons t g => exact fun e => (nomatch e)
    · exact gd3_ne (q :: gs) h.2.2 x hx
theorem map_i3 (a : List (Nat × Nat)) : (a.flatMap i3).map pi = a.flatMap p3 := by rw [List.map_flatMap]; rfl
def fg (n : Nat) : List Nat := (cls n).map (·.1)
theorem cls_lt (n : Nat) : ∀ c ∈ cls n, c.1 < 16 := fun c hc => by
  unfold cls at hc
  rw [List.mem_cons, List.mem_cons, List.mem_singleton] at hc
  rcases hc with rfl | rfl | rfl <;> exact cl_lt _ _ _
theorem takes (m n : Nat) (s : Bool) {l : Tl} (ht : ∀ p ∈ l, tOk p.1) :
    tkB (runA m s l) (runG s l) (fmode n) = (piB (pi (kit (kd m))) (kd n) && fitsB (fg n) (l.map (·.1)) (l.map (·.2) ++ [s])) := by
  obtain ⟨h1, h2⟩ := grp_gd s l ht
  have e1 : runA m s l = pi (kit (kd m)) :: (grp s l).1.flatMap p3 := congrArg _ (map_i3 _)
  have e2 : runG s l = (grp s l).2.map (List.flatMap p3) := by unfold runG gG; rw [List.map_map]; exact List.map_congr_left fun a _ => map_i3 a
  rw [e1, e2, Bool.eq_iff_iff, tkB_M _ _ _ (gd3_ne _ h2), fmode_eq, Mp_cons, Bool.and_eq_true]
  refine and_congr_right fun _ => ?_
  rw [Mp3 _ _ h1 (cls_lt n)]
  refine Iff.trans (Mp_iff _ _ _ fun k => ?_) (fits_M s (cls n) l).symm
  exact Mg3 _ _ h2 fun c hc => cls_lt n c (List.mem_of_mem_drop hc)
def kdB (m n : Nat) : Bool := !([1, 2, 4, 6, 8, 10, 12].any fun x => x == m / 4096 % 16) || m / 4096 % 16 == n / 4096 % 16
theorem takes_1 (m n : Nat) (s : Bool) {l : Tl} (ht : ∀ p ∈ l, tOk p.1) : tkB (runA m s l) (runG s l) (fmode n) = (kdB m n && fitsB (fg n) (l.map (·.1)) (l.map (·.2) ++ [s])) := by
  rw [takes m n s ht, (kit_ok m).2.2]; rfl
/-- the text of the kind of one, the rights of the other -/
theorem takes_2 (m n : Nat) (s : Bool) {l : Tl} (ht : ∀ p ∈ l, tOk p.1) : ∃ x : Nat, Builtin.bitOr (Builtin.bitAnd (m : Int) 61440) (Builtin.bitAnd (n : Int) 4095) = (x : Int) ∧ tkB (runA m s l) (runG s l) (fmode x) = fitsB (fg n) (l.map (·.1)) (l.map (·.2) ++ [s]) := by
  obtain ⟨x, e, h1, h2⟩ := mix m n
  refine ⟨x, e, ?_⟩
  rw [takes m x s ht, h1, (kit_ok m).2.2, show fg x = fg n from congrArg (List.map fun c : Nat × Bool => c.1) h2, beq_self_eq_true, Bool.or_true, Bool.true_and]
theorem fmode_ok (n : Nat) : (fmode n).length = 10 ∧ ∀ c ∈ fmode n, c < 128 := by
  rw [fmode_eq]
  refine ⟨rfl, fun c hc => ?_⟩
  rcases List.mem_cons.mp hc with rfl | hc
  · exact (by decide : ∀ k : Nat, k < 16 → kdT.getD k 0 < 128) _ (Nat.mod_lt _ (by decide))
  · obtain ⟨a, _, hc⟩ := List.mem_flatMap.mp hc
    have h : ∀ d b, d < 128 → sg1 d b < 128 := fun d b h => by cases b; exact (by decide : 45 < 128); exact h
    unfold tr at hc
    rw [List.mem_cons, List.mem_cons, List.mem_singleton] at hc
    rcases hc with rfl | rfl | rfl
    · exact h _ _ (by decide)
    · exact h _ _ (by decide)
    · cases a.2 <;> cases a.1.testBit 0 <;> cases a.1.testBit 3 <;> decide
def txV (m : Nat) : V := .str (fmode m)
def mdM (D : List Nat) : List Nat := D.map fun d => d % 262144
def stV (s : Bool) (l : Tl) : V := .list ((l.map (·.2) ++ [s]).map .bool)
def tsV (l : Tl) : V := .list ((l.map (·.1)).map tV)
def rnsV (a : Nat) (s : Bool) (l : Tl) : V := .list ((runA a s l :: runG s l).map rnV)
theorem ne_self {x : Bool} {P Q : Prop} (h : Q) : ((!decide (x = x)) = true → P) ∧ ((!decide (x = x)) = false → Q) := ⟨fun e => (by rw [decide_eq_true rfl] at e; cases e), fun _ => h⟩
section
variable {D : List Nat} {k n a b : Nat} {s due : Bool} {l : Tl} {K : Kt} {C R : V}
abbrev bσ2 (D : List Nat) (k a : Nat) (s : Bool) (l : Tl) (σ : St) : St := (1, .val (.list (D.map toI))) :: (4, .val (.list ((mdM D).map toI))) :: (5, .val (.list ((mdM D).map txV))) :: (9, .val (toI k)) :: (12, .val (stV s l)) :: (11, .val (tsV l)) :: (18, .val (rnsV a s l)) :: σ
theorem law_2 (hD : D.length ≤ 100) (hk : (mdM D)[k]? = some a) (hn : (mdM D)[n]? = some b) (hl : l.length ≤ 3) (ht : ∀ p ∈ l, tOk p.1) (hd : due = fitsB (fg b) (l.map (·.1)) (l.map (·.2) ++ [s])) (hK : K .next (bσ2 D k a s l [])) :
    X_law_2 (bσ2 D k a s l [(13, .val (toI n)), (21, .val C), (23, .val (.bool due)), (25, .val R)]) K := by
  have zM : ((mdM D).map toI).length ≤ 1000000 := by unfold mdM; rw [List.length_map, List.length_map]; lia
  have gk : ((mdM D).map toI)[k]? = some (toI a) := by rw [List.getElem?_map, hk]; rfl
  have gn : ((mdM D).map toI)[n]? = some (toI b) := by rw [List.getElem?_map, hn]; rfl
  obtain ⟨x, ex, etk⟩ := takes_2 a b s ht
  obtain ⟨r1, r2⟩ := run_ok a s hl ht
  obtain ⟨f1, f2⟩ := fmode_ok x
  refine ⟨zM, k, _, ixOf_get gk, gk, a, rfl, zM, n, _, ixOf_get gn, gn, b, rfl, x, congrArg (fun i => [V.int i]) ex, runA a s l, runG s l, fmode x, rfl, r1, r2, by lia, f2, ?_⟩
  rw [etk, hd]
  exact ne_self hK
theorem law_3 (hD : D.length ≤ 100) (hk : (mdM D)[k]? = some a) (hn : (mdM D)[n]? = some b) (hl : l.length ≤ 3) (ht : ∀ p ∈ l, tOk p.1) (hK : K .next (bσ2 D k a s l [])) :
    X_law_3 (bσ2 D k a s l [(13, .val (toI n)), (21, .val C), (23, .val (.bool (fitsB (fg b) (l.map (·.1)) (l.map (·.2) ++ [s])))), (25, .val (.bool (kdB a b)))]) K := by
  have zT : ((mdM D).map txV).length ≤ 1000000 := by unfold mdM; rw [List.length_map, List.length_map]; lia
  have gn : ((mdM D).map txV)[n]? = some (txV b) := by rw [List.getElem?_map, hn]; rfl
  obtain ⟨r1, r2⟩ := run_ok a s hl ht
  obtain ⟨f1, f2⟩ := fmode_ok b
  have go := law_2 (C := C) (R := .bool (kdB a b)) hD hk hn hl ht rfl hK
  refine ⟨zT, n, _, ixOf_get gn, gn, runA a s l, runG s l, fmode b, rfl, r1, r2, by lia, f2, ?_⟩
  rw [takes_1 a b s ht]
  generalize fitsB (fg b) (l.map (·.1)) (l.map (·.2) ++ [s]) = due at go ⊢
  generalize kdB a b = kind at go ⊢
  cases due with
  | true => exact ⟨fun _ => by cases kind <;> exact ne_self go, fun h => absurd rfl h⟩
  | false => exact ⟨fun h => (nomatch h), fun _ => by cases kind <;> exact ne_self go⟩
theorem any_toI (l : List Nat) (k : Nat) : ((l.map toI).any fun y => veq y (.int (k : Int))) = l.any fun x => x == k := by
  induction l with
  | nil => rfl
  | cons n l ih =>
    rw [List.map_cons, List.any_cons, ih, List.any_cons]
    have h : veq (toI n) (.int (k : Int)) = (n == k) := by
      show decide ((n : Int) = (k : Int)) = decide (n = k)
      exact decide_eq_decide.mpr Int.ofNat_inj
    rw [h]
theorem law_4 (hD : D.length ≤ 100) (hk : (mdM D)[k]? = some a) (hn : (mdM D)[n]? = some b) (hl : l.length ≤ 3) (ht : ∀ p ∈ l, tOk p.1) (hK : K .next (bσ2 D k a s l [])) :
    X_law_4 (bσ2 D k a s l [(13, .val (toI n)), (21, .val (.list ((fg b).map toI)))]) K := by
  have zM : ((mdM D).map toI).length ≤ 1000000 := by unfold mdM; rw [List.length_map, List.length_map]; lia
  have gk : ((mdM D).map toI)[k]? = some (toI a) := by rw [List.getElem?_map, hk]; rfl
  have gn : ((mdM D).map toI)[n]? = some (toI b) := by rw [List.getElem?_map, hn]; rfl
  have go := law_3 (C := .list ((fg b).map toI)) hD hk hn hl ht hK
  refine ⟨l.map (·.1), l.map (·.2) ++ [s], fg b, rfl, Nat.le_refl 3, by rw [List.length_map]; lia, by rw [List.length_append, List.length_map, List.length_map]; rfl, fun t h => ?_, fun c h => ?_, by decide, ?_⟩
  · obtain ⟨p, hp, rfl⟩ := List.mem_map.mp h
    exact ⟨(ht p hp).1, (ht p hp).2.1⟩
  · obtain ⟨q, hq, rfl⟩ := List.mem_map.mp h
    exact cls_lt b q hq
  refine ⟨zM, k, _, ixOf_get gk, gk, ?_⟩
  have e1 : ((a : Int).fdiv 4096).fmod 16 = ((a / 4096 % 16 : Nat) : Int) := by rw [show (4096 : Int) = ((4096 : Nat) : Int) from rfl, fdN, show (16 : Int) = ((16 : Nat) : Int) from rfl, fmN]
  refine ⟨by decide, by decide, by decide, ?_⟩
  rw [e1]
  have e2 : ([V.int 1, .int 2, .int 4, .int 6, .int 8, .int 10, .int 12].any fun y => veq y (.int ((a / 4096 % 16 : Nat) : Int))) = [1, 2, 4, 6, 8, 10, 12].any fun x => x == a / 4096 % 16 := any_toI [1, 2, 4, 6, 8, 10, 12] _
  have e3 : ∀ x y : Nat, decide (Builtin.bitAnd (x : Int) 61440 = Builtin.bitAnd (y : Int) 61440) = (y / 4096 % 16 == x / 4096 % 16) := fun x y => by
    rw [show (61440 : Int) = ((61440 : Nat) : Int) from rfl, bAnd, bAnd, and_kind, and_kind]
    exact decide_eq_decide.mpr (by lia)
  have ek : kdB a b = (!([1, 2, 4, 6, 8, 10, 12].any fun x => x == a / 4096 % 16) || a / 4096 % 16 == b / 4096 % 16) := rfl
  refine ⟨rfl, rfl, fun h => ?_, fun h => ?_⟩
  · refine ⟨zM, n, _, ixOf_get gn, gn, b, rfl, zM, k, _, ixOf_get gk, gk, a, rfl, ?_⟩
    have h := (congrArg (!·) e2).symm.trans h
    rw [ek, h, Bool.false_or, ← e3] at go
    exact go
  · have h := fun e => h ((congrArg (!·) e2).trans e)
    rw [ek, eq_true_of_ne_false h, Bool.true_or] at go
    exact (show (!_) = true from (congrArg (!·) e2).trans (eq_true_of_ne_false h)) ▸ go
def clF (b : Nat) : V → Option V := fun d => match d with | .int i => some (toI ((fg b).getD i.toNat 0)) | _ => none
theorem law_5 (hD : D.length ≤ 100) (hk : (mdM D)[k]? = some a) (hn : (mdM D)[n]? = some b) (hl : l.length ≤ 3) (ht : ∀ p ∈ l, tOk p.1) (hK : K .next (bσ2 D k a s l [])) :
    X_law_5 (bσ2 D k a s l [(13, .val (toI n))]) K := by
  have zM : ((mdM D).map toI).length ≤ 1000000 := by unfold mdM; rw [List.length_map, List.length_map]; lia
  have gn : ((mdM D).map toI)[n]? = some (toI b) := by rw [List.getElem?_map, hn]; rfl
  have go := law_4 hD hk hn hl ht hK
  have hr : (rangeL 0 3 1).map V.int = [.int 0, .int 1, .int 2] := rfl
  have key : ∀ i j : Nat, ((b : Int).fdiv ((2 ^ i : Nat) : Int)).fmod 8 + ((b : Int).fdiv ((2 ^ j : Nat) : Int)).fmod 2 * 8 = ((cl b i j : Nat) : Int) := fun i j => by
    rw [fdN, fdN, show (8 : Int) = ((8 : Nat) : Int) from rfl, fmN, show (2 : Int) = ((2 : Nat) : Int) from rfl, fmN]; rfl
  refine ⟨rfl, rfl, by decide, by decide, by decide, by decide, by decide, clF b, fun d hd => ?_, ?_⟩
  · have hd : d ∈ [V.int 0, .int 1, .int 2] := hr ▸ hd
    rw [List.mem_cons, List.mem_cons, List.mem_singleton] at hd
    refine ⟨fun _ => ?_, fun h => (nomatch h)⟩
    rcases hd with rfl | rfl | rfl
    · exact ⟨zM, n, _, ixOf_get gn, gn, by decide, by decide, by decide, by decide, by decide, by decide, zM, n, _, ixOf_get gn, gn, by decide, by decide, by decide, by decide, by decide, by decide, .inr (by decide), congrArg (fun x => some (V.int x)) (key 6 11).symm⟩
    · exact ⟨zM, n, _, ixOf_get gn, gn, by decide, by decide, by decide, by decide, by decide, by decide, zM, n, _, ixOf_get gn, gn, by decide, by decide, by decide, by decide, by decide, by decide, .inr (by decide), congrArg (fun x => some (V.int x)) (key 3 10).symm⟩
    · exact ⟨zM, n, _, ixOf_get gn, gn, by decide, by decide, by decide, by decide, by decide, by decide, zM, n, _, ixOf_get gn, gn, by decide, by decide, by decide, by decide, by decide, by decide, .inr (by decide), congrArg (fun x => some (V.int x)) (key 0 9).symm⟩
  · rw [hr]
    exact go
end
theorem rng_n {N : Nat} {b : Int} (h : b = (N : Int)) (hN : N ≤ 1000) : b.natAbs < 2 ^ 28 ∧ (rangeL 0 b 1).length ≤ 1000000 ∧ ∀ i d, ((rangeL 0 b 1).map V.int)[i]? = some d → d = toI i ∧ i < N := by
  subst h
  refine ⟨by lia, by rw [show (rangeL 0 (N : Int) 1).length = _ from (List.length_map ..).symm.trans (rng_len 0 _)]; lia, fun i d hd => ?_⟩
  obtain ⟨e, hlt⟩ := rng_get (a := 0) hd
  rw [Nat.zero_add] at e hlt
  exact ⟨e, by lia⟩
theorem ix_last {α : Type} (L : List α) (x : α) : ixOf (-1) (L ++ [x]).length = some L.length := by
  unfold ixOf
  rw [if_neg (by decide), List.length_append, List.length_singleton, if_pos (by lia)]
  exact congrArg some (by lia)
theorem gN {α : Type} {L : List α} {n : Nat} {y : α} (h : L.length = n) : (L ++ [y])[n]? = some y := h ▸ getA L y []
theorem wrt_len : ∀ c : Nat, c < 16 → ∀ v : Nat, v < 16 → (wrtL c v).length ≤ 12 := by decide +kernel
section
variable {D : List Nat} {k n a b : Nat} {s : Bool} {l : Tl} {K : Kt}
abbrev oσ (D : List Nat) (σ : St) : St := (1, .val (.list (D.map toI))) :: (4, .val (.list ((mdM D).map toI))) :: (5, .val (.list ((mdM D).map txV))) :: σ
theorem law_6 (hD : D.length ≤ 100) (hk : (mdM D)[k]? = some a) (hl : l.length ≤ 3) (ht : ∀ p ∈ l, tOk p.1) (hK : K .next (oσ D [])) : X_law_6 (bσ2 D k a s l []) K := by
  have lM : ((mdM D).map toI).length = D.length := by unfold mdM; rw [List.length_map, List.length_map]
  obtain ⟨b1, b2, b3⟩ := rng_n (congrArg Int.ofNat lM) (by lia)
  refine ⟨by lia, by decide, by decide, b1, by decide, b2, fun _ σ => σ = bσ2 D k a s l [], rfl, ?_, ?_⟩
  · rintro i d σ hd rfl
    obtain ⟨rfl, hi⟩ := b3 i d hd
    have hn : (mdM D)[i]? = some ((mdM D)[i]'(by unfold mdM; rw [List.length_map]; exact hi)) := List.getElem?_eq_getElem _
    exact law_5 hD hk hn hl ht rfl
  · rintro σ rfl
    exact hK
theorem vok_rnV {r : Rn} (h : rnOk r) : vok 7 (rnV r) = true := by
  refine List.all_eq_true.mpr fun d hd => ?_
  obtain ⟨p, hp, rfl⟩ := List.mem_map.mp hd
  have hq := (h.2 p hp).2
  have : (p.2.map sg).all (vok 4) = true := List.all_eq_true.mpr fun d hd => by
    obtain ⟨c, hc, rfl⟩ := List.mem_map.mp hd
    exact sokc (hq c hc)
  show (true && (((p.2.map sg).all (vok 4)) && true)) = true
  rw [this]; rfl
theorem law_7 (hD : D.length ≤ 100) (hk : (mdM D)[k]? = some a) (hl : l.length ≤ 3) (ht : ∀ p ∈ l, tOk p.1) (hK : K .next (oσ D [])) :
    X_law_7 (oσ D [(9, .val (toI k)), (12, .val (stV s l)), (11, .val (tsV l)), (10, .val (.str (patT a l ++ strS s)))]) K := by
  refine ask_ok a s hl ht ?_
  have hr := (run_ok a s hl ht).2
  refine ⟨?_, rfl, fun h => (nomatch h), fun _ => law_6 hD hk hl ht hK⟩
  refine List.all_eq_true.mpr fun d hd => ?_
  obtain ⟨r, h, rfl⟩ := List.mem_map.mp hd
  exact vok_rnV (hr r h)
abbrev aσ (D : List Nat) (k a : Nat) (l : Tl) (σ : St) : St := oσ D ((9, .val (toI k)) :: (12, .own ((l.map (·.2)).map .bool)) :: (11, .own ((l.map (·.1)).map tV)) :: (10, .val (.str (patT a l))) :: σ)
theorem pat_len (a : Nat) {l : Tl} (hl : l.length ≤ 3) (ht : ∀ p ∈ l, tOk p.1) : (patT a l).length ≤ 100 := by
  have h : ∀ p ∈ l, (strS p.2 ++ wrtL p.1.1 p.1.2).length ≤ 30 := fun p hp => by
    have := wrt_len _ (ht p hp).1 _ (ht p hp).2.1
    rw [List.length_append]
    have : (strS p.2).length ≤ 1 := by cases p.2 <;> decide
    lia
  have := sum_le (fun p : (Nat × Nat) × Bool => (strS p.2 ++ wrtL p.1.1 p.1.2).length) 30 l h
  unfold patT
  rw [List.length_append, List.length_flatten, List.map_map, List.length_singleton]
  show 1 + (l.map fun p => (strS p.2 ++ wrtL p.1.1 p.1.2).length).sum ≤ _
  lia
theorem law_8 {d : Nat} (hD : D.length ≤ 100) (hd : D[k]? = some d) (hk : (mdM D)[k]? = some a) (hl : l.length ≤ 3) (ht : ∀ p ∈ l, tOk p.1) (hK : K .next (oσ D [])) : X_law_8 (aσ D k a l []) K := by
  have zD : (D.map toI).length ≤ 1000000 := by rw [List.length_map]; lia
  have gd : (D.map toI)[k]? = some (toI d) := by rw [List.getElem?_map, hd]; rfl
  have zs : ((l.map (·.2)).map V.bool).length ≤ 3 := by rw [List.length_map, List.length_map]; exact hl
  have go := law_7 (s := decide (((d : Int).fdiv 512).fmod 2 = 0)) hD hk hl ht hK
  have hp := pat_len a hl ht
  refine ⟨Nat.le_trans zs (by decide), zD, k, _, ixOf_get gd, gd, by decide, by decide, by decide, ?_⟩
  conv => whnf
  generalize decide (((d : Int).fdiv 512).fmod 2 = 0) = s at go ⊢
  refine ⟨rfl, by rw [List.length_append, List.length_singleton]; lia, _, _, ix_last _ _, getA _ _ [], ?_⟩
  unfold stV tsV at go
  rw [List.map_append] at go
  conv => whnf
  cases s with
  | true => exact ⟨fun _ => ⟨rfl, by show _ + 1 ≤ _; lia, go⟩, fun h => (nomatch h)⟩
  | false => exact ⟨fun h => (nomatch h), fun _ => ⟨rfl, by show _ + 0 ≤ _; lia, go⟩⟩
theorem tst_t (x : Nat) : tOk (tstN x) := tst_ok _ (Nat.mod_lt _ (by decide)) _ (Nat.mod_lt _ (by decide))
theorem law_1 {x : Nat} (hD : D.length ≤ 100) (hx : D[(k + n) % D.length]? = some x) (hl : l.length = n) (hn : n < 3) (ht : ∀ p ∈ l, tOk p.1) (hK : ∀ b, K .next (aσ D k a (l ++ [(tstN x, b)]) [])) : X_law_1 (aσ D k a l [(13, .val (toI n))]) K := by
  have zD : (D.map toI).length ≤ 1000000 := by rw [List.length_map]; lia
  have gx : (D.map toI)[(k + n) % D.length]? = some (toI x) := by rw [List.getElem?_map, hx]; rfl
  have zs : ((l.map (·.2)).map V.bool).length = n := by rw [List.length_map, List.length_map]; exact hl
  have zt : ((l.map (·.1)).map tV).length = n := by rw [List.length_map, List.length_map]; exact hl
  have h0 : D.length ≠ 0 := fun e => by rw [List.eq_nil_of_length_eq_zero e] at hx; cases hx
  have em : ((k : Int) + (n : Int)).fmod ((D.map toI).length : Int) = (((k + n) % D.length : Nat) : Int) := by rw [List.length_map]; exact fmN (k + n) D.length
  have hp := pat_len a (by lia) ht
  obtain ⟨t1, t2, _⟩ := tst_t x
  have hw := wrt_len _ t1 _ t2
  refine ⟨zD, by rw [List.length_map]; lia, ?_⟩
  conv => whnf
  rw [em]
  refine ⟨zD, _, _, ixOf_get gx, gx, x, rfl, by lia, by lia, by decide, by decide, by decide, rfl, ?_⟩
  conv => whnf
  refine ⟨by rw [List.length_append, zs, List.length_singleton]; lia, _, _, ixOf_get (gN zs), gN zs, ?_⟩
  conv => whnf
  generalize decide (((x : Int).fdiv 256).fmod 2 = 0) = b
  have e := hK b
  unfold aσ at e
  rw [List.map_append, List.map_append, List.map_append, List.map_append, patT_snoc] at e
  cases b with
  | true => exact ⟨fun _ => ⟨_, _, rfl, t1, t2, by show 1 + _ ≤ _; lia, rfl, by show _ + ([42] ++ wrtL _ _).length ≤ _; rw [List.length_append]; show _ + (1 + _) ≤ _; lia, e⟩, fun h => (nomatch h)⟩
  | false => exact ⟨fun h => (nomatch h), fun _ => ⟨_, _, rfl, t1, t2, by show 0 + _ ≤ _; lia, rfl, by show _ + ([] ++ wrtL _ _).length ≤ _; rw [List.nil_append]; lia, e⟩⟩
theorem law_9 (hD : D.length ≤ 100) (h0 : 0 < D.length) {d : Nat} (hd : D[k]? = some d) (hk : (mdM D)[k]? = some a) (hK : K .next (oσ D [])) : X_law_9 (oσ D [(9, .val (toI k))]) K := by
  have zD : (D.map toI).length ≤ 1000000 := by rw [List.length_map]; lia
  have zT : ((mdM D).map txV).length ≤ 1000000 := by unfold mdM; rw [List.length_map, List.length_map]; lia
  have gd : (D.map toI)[k]? = some (toI d) := by rw [List.getElem?_map, hd]; rfl
  have gk : ((mdM D).map txV)[k]? = some (txV a) := by rw [List.getElem?_map, hk]; rfl
  have g0 : (fmode a)[0]? = some (kd a) := by rw [fmode_eq]; rfl
  obtain ⟨f1, f2⟩ := fmode_ok a
  have eN : 1 + ((d : Int).fdiv 1024 + (k : Int)).fmod 3 = ((1 + (d / 1024 + k) % 3 : Nat) : Int) := by
    rw [show (1024 : Int) = ((1024 : Nat) : Int) from rfl, fdN]
    exact congrArg (1 + ·) (fmN (d / 1024 + k) 3)
  obtain ⟨b1, b2, b3⟩ := rng_n eN (by lia)
  refine ⟨rfl, rfl, zT, k, _, ixOf_get gk, gk, by lia, 0, _, ixOf_get (k := 0) g0, g0, ?_⟩
  refine ⟨zD, k, _, ixOf_get gd, gd, by decide, by decide, by decide, by decide, by decide, b1, by decide, b2, fun n σ => ∃ l : Tl, σ = aσ D k a l [] ∧ l.length = n ∧ ∀ p ∈ l, tOk p.1, ⟨[], rfl, rfl, fun _ h => (nomatch h)⟩, ?_, ?_⟩
  · rintro n q σ hq ⟨l, rfl, hl, ht⟩
    obtain ⟨rfl, hn⟩ := b3 n q hq
    obtain ⟨x, hx⟩ : ∃ x, D[(k + n) % D.length]? = some x := ⟨_, List.getElem?_eq_getElem (Nat.mod_lt _ h0)⟩
    refine law_1 hD hx hl (by lia) ht fun b => ⟨_, rfl, by rw [List.length_append, hl]; rfl, fun p hp => ?_⟩
    rcases List.mem_append.mp hp with hp | hp
    · exact ht p hp
    · rw [List.mem_singleton.mp hp]; exact tst_t x
  · rintro σ ⟨l, rfl, hl, ht⟩
    rw [rng_len, eN] at hl
    exact law_8 hD hd hk (by lia) ht hK
theorem law_10 (hD : D.length ≤ 100) (h0 : 0 < D.length) {Q : V → Prop} (hQ : Q (.bool true)) : X_law_10 (oσ D []) (retK Q) := by
  have lD : (D.map toI).length = D.length := List.length_map ..
  obtain ⟨b1, b2, b3⟩ := rng_n (congrArg Int.ofNat lD) (by lia)
  refine ⟨by lia, by decide, by decide, b1, by decide, b2, fun _ σ => σ = oσ D [], rfl, ?_, ?_⟩
  · rintro i d σ hd rfl
    obtain ⟨rfl, hi⟩ := b3 i d hd
    have g : D[i]? = some D[i] := List.getElem?_eq_getElem hi
    have gm : (mdM D)[i]? = some (D[i] % 262144) := by unfold mdM; rw [List.getElem?_map, g]; rfl
    exact law_9 hD h0 g gm rfl
  · rintro σ rfl
    exact hQ
end
def lstI (l : List Int) : V := .list (l.map .int)
def mmF (d : V) : Option V := match d with | .int i => some (.int (i.fmod 262144)) | _ => none
theorem mmF_map : ∀ l : List Nat, (l.map toI).filterMap mmF = (mdM l).map toI
  | [] => rfl
  | a :: l => by rw [List.map_cons, List.filterMap_cons, show mmF (toI a) = some (toI (a % 262144)) from congrArg (fun x => some (V.int x)) (fmN a 262144)]; exact congrArg (_ :: ·) (mmF_map l)
def txF (d : V) : Option V := match d with | .int i => some (.str (fmode i)) | _ => none
theorem txF_map : ∀ l : List Nat, (l.map toI).filterMap txF = l.map txV
  | [] => rfl
  | a :: l => by rw [List.map_cons, List.filterMap_cons, show txF (toI a) = some (txV a) from rfl]; exact congrArg (_ :: ·) (txF_map l)
theorem law_11 {D : List Nat} {sc : V} (hD : D.length ≤ 100) (h0 : 0 < D.length) {Q : V → Prop} (hQ : Q (.bool true)) : X_law_11 [(0, .val sc), (1, .val (.list (D.map toI)))] (retK Q) := by
  refine ⟨rfl, by rw [List.length_map]; lia, mmF, fun d hd => ?_, ?_⟩
  · obtain ⟨m, _, rfl⟩ := List.mem_map.mp hd
    exact ⟨fun _ => ⟨by decide, rfl⟩, fun h => (nomatch h)⟩
  rw [mmF_map]
  refine ⟨rfl, rfl, by unfold mdM; rw [List.length_map, List.length_map]; lia, txF, fun d hd => ?_, ?_⟩
  · obtain ⟨m, _, rfl⟩ := List.mem_map.mp hd
    exact ⟨fun _ => ⟨m, rfl, rfl⟩, fun h => (nomatch h)⟩
  rw [txF_map]
  exact law_10 hD h0 hQ
def drN (ns : List Int) : List Nat := (ns.take 5).map fun i => (i.fmod 16777216).toNat
def drF (d : V) : Option V := match d with | .int i => some (.int (i.fmod 16777216)) | _ => none
theorem dr_ok (i : Int) : i.fmod 16777216 = ((i.fmod 16777216).toNat : Int) := by
  have h1 := Int.fmod_nonneg_of_pos i (show (0 : Int) < 16777216 by decide)
  lia
theorem drF_map : ∀ l : List Int, (l.map V.int).filterMap drF = (l.map fun i => (i.fmod 16777216).toNat).map toI
  | [] => rfl
  | a :: l => by
    rw [List.map_cons, List.filterMap_cons, show drF (.int a) = some (toI (a.fmod 16777216).toNat) from congrArg (fun x => some (V.int x)) (dr_ok a)]
    exact congrArg (_ :: ·) (drF_map l)
abbrev LAW : List V → (V → Prop) → Prop := fun ds Q => ∃ ns : List Int, ds = [.list (ns.map .int)] ∧ ns.length ≤ 63 ∧ Q (.bool true)
theorem f_law {C : Cx} {x : Addr} (hf__law_test : FnAt C "_law_test" 1 TST) (hf__law_written : FnAt C "_law_written" 1 WRT) (hf__law_runs : FnAt C "_law_runs" 2 RNS) (hf_translate : FnAt C "translate" 3 TRL) (hf__law_fits : FnAt C "_law_fits" 4 (FTS 4)) (hf_S_IFMT : FnAt C "S_IFMT" 1 IFMT) (hf_S_IMODE : FnAt C "S_IMODE" 1 IMODE) (hf__law_takes : FnAt C "_law_takes" 2 TKS) (hf_filemode : FnAt C "filemode" 2 FMODE)
    (O : Ok C (Nn l_law noEc)) (D : FnD C x ([0].map (nth l_law)) (fnSc PW 42) (fnB PW 42)) : Fn C x 5 LAW :=
  Fn.of_body (vn := Nn l_law noEc) (ps := [0]) D (sl_law hf__law_test hf__law_written hf__law_runs hf_translate hf__law_fits hf_S_IFMT hf_S_IMODE hf__law_takes hf_filemode O) (by decide +kernel) (by decide +kernel) rfl (by decide) (fun _ _ _ _ _ => trivial) fun ds Q ⟨ns, e, hn, hQ⟩ => by
    subst e
    have hz : (ns.map V.int).length ≤ 1000000 := by rw [List.length_map]; lia
    have e5 : sliceL (ns.map V.int) none (some (5 : Int)) = (ns.take 5).map V.int := by rw [List.map_take]; exact sl_to _ 5
    have hl : (drN ns).length = min 5 ns.length := by unfold drN; rw [List.length_map, List.length_take]
    refine ⟨rfl, fun σ => ∃ D : List Nat, σ = [(0, .val (.list (ns.map .int))), (1, .val (.list (D.map toI)))] ∧ 0 < D.length ∧ D.length ≤ 100, ⟨rfl, by decide, hz, ?_⟩, ?_⟩
    · rw [e5]
      refine ⟨by rw [List.length_map, List.length_take]; lia, drF, fun d hd => ?_, ?_⟩
      · obtain ⟨i, _, rfl⟩ := List.mem_map.mp hd
        exact ⟨fun _ => ⟨by decide, rfl⟩, fun h => (nomatch h)⟩
      rw [drF_map]
      refine ⟨hz, fun h => ?_, fun h => ?_⟩
      · exact ⟨by rw [List.length_map, List.length_map, List.length_take]; show _ + 3 ≤ _; lia, drN ns ++ [33002, 17396, 42118], by rw [List.map_append]; rfl, by rw [List.length_append]; exact Nat.le_add_left 1 _, by rw [List.length_append, hl]; show _ + 3 ≤ _; lia⟩
      · have h : ¬ ((ns.map V.int).length : Int) < 3 := of_decide_eq_false h
        rw [List.length_map] at h
        exact ⟨by rw [List.length_map, List.length_map, List.length_take]; show _ + 0 ≤ _; lia, drN ns, by rw [List.append_nil]; rfl, by rw [hl]; lia, by rw [hl]; lia⟩
    · rintro σ ⟨D, rfl, h0, h1⟩
      exact law_11 h1 h0 hQ

/-! # What is looked at behind the top -/
def refOf : Value → Option Addr
  | .ref a => some a
  | _ => none
def tySome (n : String) : Value → Bool
  | .type m => m == n
  | _ => false
def seqOf : Data → Option (Array Value × Nat)
  | .seq vs n => some (vs, n)
  | _ => none
theorem refOf_inv {v : Value} {a : Addr} (h : refOf v = some a) : v = .ref a := by cases v <;> cases h; rfl
theorem tySome_inv {n : String} {v : Value} (h : tySome n v = true) : v = .type n := by
  cases v <;> first | cases h; done | exact congrArg _ (beq_iff_eq.mp h)
theorem seqOf_inv {d : Data} {p : Array Value × Nat} (h : seqOf d = some p) : d = .seq p.1 p.2 := by cases d <;> cases h; rfl
/-- the places of a plain tuple -/
def tupAt (h : Heap) (v : Value) : Option (List Value) := (refOf v).bind fun a => (h.get? a).bind fun o =>
  if tySome "tuple" o.cls && o.dict.isNone && o.slots.size == 0 then (seqOf o.data).map fun p => p.1.toList else none
theorem tupAt_inv {h : Heap} {v : Value} {vs : List Value} (e : tupAt h v = some vs) : ∃ a n, v = .ref a ∧ h.get? a = some (tupObj vs n) := by
  obtain ⟨a, ea, e⟩ := Option.bind_eq_some_iff.mp e
  obtain ⟨o, eo, e⟩ := Option.bind_eq_some_iff.mp e
  split at e
  · rename_i hc
    obtain ⟨hc, hs⟩ := Bool.and_eq_true_iff.mp hc
    obtain ⟨hc, hd⟩ := Bool.and_eq_true_iff.mp hc
    obtain ⟨p, ep, rfl⟩ := Option.map_eq_some_iff.mp e
    refine ⟨a, p.2, refOf_inv ea, eo.trans ?_⟩
    obtain ⟨c, d, dt, sl⟩ := o
    have h1 : c = .type "tuple" := tySome_inv hc
    have h2 : d = none := Option.isNone_iff_eq_none.mp hd
    have h3 : sl = #[] := Array.eq_empty_of_size_eq_zero (beq_iff_eq.mp hs)
    have h4 : dt = .seq p.1 p.2 := seqOf_inv ep
    subst h1 h2 h3 h4
    show some (Obj.mk _ _ _ _) = some (Obj.mk _ _ _ _)
    rw [Array.toArray_toList]
  · cases e
def all2 {α β : Type} (f : α → β → Bool) : List α → List β → Bool
  | [], [] => true
  | a :: as, b :: bs => f a b && all2 f as bs
  | _, _ => false
theorem all2_rep {α : Type} {F : Fz} {f : α → Value → Bool} {g : α → V} (hf : ∀ a v, f a v = true → Rep F v (g a)) : ∀ {as : List α} {vs : List Value}, all2 f as vs = true → RepL F vs (as.map g)
  | [], [], _ => .nil
  | a :: as, v :: vs, h => let ⟨h1, h2⟩ := Bool.and_eq_true_iff.mp h; .cons (hf a v h1) (all2_rep hf h2)
def rowB {α : Type} (f : α → Value → Bool) (h : Heap) (ds : List α) (v : Value) : Bool := (tupAt h v).any fun vs => all2 f ds vs
theorem rowB_rep {α : Type} {h : Heap} {F : Fz} {f : α → Value → Bool} {g : α → V} (hF : ∀ a vs n, h.get? a = some (tupObj vs n) → F a (tupObj vs n)) (hf : ∀ a v, f a v = true → Rep F v (g a)) {ds : List α} {v : Value} (e : rowB f h ds v = true) :
    Rep F v (.tuple (ds.map g)) := by
  obtain ⟨vs, e1, e2⟩ := (Option.any_eq_true _ _).mp e
  obtain ⟨a, n, rfl, e3⟩ := tupAt_inv e1
  exact .tuple (hF _ _ _ e3) (all2_rep hf e2)
def leafB : V → Value → Bool
  | .int i, v => Value.isInt i v
  | .str l, v => Value.isStrOf (mkS l) v
  | _, _ => false
theorem leafB_rep {F : Fz} (d : V) (v : Value) (h : leafB d v = true) : Rep F v d := by
  cases d with
  | int i => obtain ⟨t, rfl⟩ := Value.isInt_shape (k := i) h; exact .int _ _
  | str l => obtain ⟨t, rfl⟩ := Value.isStrOf_shape (x := mkS l) h; exact .str _ _
  | _ => cases h
def pairB (h : Heap) (p : Int × Nat) (v : Value) : Bool := rowB leafB h [.int p.1, .str [p.2]] v
/-- the table of filemode -/
def fmB (h : Heap) : Bool := (h.nsMap mainGlobals "_filemode_table").any (rowB (rowB (pairB h) h) h fmTab)
theorem fmB_rep {h : Heap} {F : Fz} (hF : ∀ a vs n, h.get? a = some (tupObj vs n) → F a (tupObj vs n)) (e : fmB h = true) : ∃ v, h.nsMap mainGlobals "_filemode_table" = some v ∧ Rep F v (.tuple (fmTab.map tabV)) := by
  obtain ⟨v, e1, e2⟩ := (Option.any_eq_true _ _).mp e
  refine ⟨v, e1, rowB_rep (g := tabV) hF (fun t v h1 => rowB_rep (g := fun p : Int × Nat => V.tuple [.int p.1, .str [p.2]]) hF (fun p v h2 => ?_) h1) e2⟩
  have := rowB_rep (g := fun d => d) hF leafB_rep h2
  rwa [List.map_id'] at this
/-- the table of special signs -/
def spD : List (PyData × PyData) := spcl.map fun c : Nat => (.int (c : Nat), .str (mkS [92, (c : Nat)]))
def spB (h : Heap) : Bool := h.tabIntOk "_special_chars_map" spD
/-- the pattern's code, and the pattern -/
def patVs : List Value := cde.toList.map fun c : Nat => .int (c : Int) 0
def patO : Obj := { cls := .type "re.Pattern", data := .fields #[.str (Str.ofString "([&~|])") 285, .int 32 320, .int 1 0, .none, .none, .ref 35, .int 0 0] }
def seeT (s : Shared) : Bool := fmB s.heap && spB s.heap && (s.heap.nsMap mainGlobals "_twin_re_1").any fun v => refOf v == some 36
def obsT (s : Shared) : Option Obj × Option Obj := (s.heap.get? 36, s.heap.get? 35)
def valT : Option Obj × Option Obj := (some patO, some (tupObj patVs 0))
structure Obs (mg : Str → Option Value) (h : Heap) : Prop where
  fm : ∀ F : Fz, (∀ a vs n, h.get? a = some (tupObj vs n) → F a (tupObj vs n)) → ∃ v, mg "_filemode_table" = some v ∧ Rep F v (.tuple (fmTab.map tabV))
  sp : ∀ prog w, ∃ a, mg "_special_chars_map" = some (.ref a) ∧ IntTab prog w h a spD
  pt : mg "_twin_re_1" = some (.ref 36)
theorem Obs.of {s : Shared} (e : seeT s = true) : Obs (s.heap.nsMap mainGlobals) s.heap := by
  obtain ⟨e, e3⟩ := Bool.and_eq_true_iff.mp e
  obtain ⟨e1, e2⟩ := Bool.and_eq_true_iff.mp e
  obtain ⟨v, e4, e5⟩ := (Option.any_eq_true _ _).mp e3
  exact ⟨fun F hF => fmB_rep hF e1, fun prog w => tabInt_of_ok e2, e4.trans (congrArg some (refOf_inv (beq_iff_eq.mp e5)))⟩
theorem Obs.keeps (mg : Str → Option Value) (h h' : Heap) (x : Obs mg h) (hk : ∀ b o, h.get? b = some o → h'.get? b = some o) : Obs mg h' :=
  ⟨fun F hF => x.fm F fun a vs n e => hF a vs n (hk _ _ e), fun prog w => let ⟨a, b, c, kvs, d, f⟩ := x.sp prog w; ⟨a, b, c, kvs, d.keep hk, f⟩, x.pt⟩
def PatAt (h : Heap) : Prop := h.get? 36 = some patO ∧ h.get? 35 = some (tupObj patVs 0)

def QV : Program := view PW [0, 3, 6, 8, 9, 11, 12, 33, 35, 36, 37, 38, 39, 40, 41, 42]
def looseT : List Str := ["S_IFDIR", "S_IFCHR", "S_IFBLK", "S_IFREG", "S_IFIFO", "S_IFLNK", "S_IFSOCK", "S_ISUID", "S_ISGID", "S_ISVTX", "S_IRUSR", "S_IWUSR", "S_IXUSR", "S_IRGRP", "S_IWGRP", "S_IXGRP", "S_IROTH", "S_IWOTH", "S_IXOTH", "_filemode_table", "_twin_re_1", "_special_chars_map"]
/-- two rows of the world are asked by the top -/
theorem left_of_rows {P : World → Prop} (r1 r2 : String) (h : ∀ (a b : Bool) (w : World), P ((w.withFollow r1 a).withFollow r2 b)) (w : World) : P w := by
  have := h (w.params.followText r1) (w.params.followText r2) w
  rwa [World.withFollow_self, World.withFollow_self] at this
def wRows (w : World) (a b : Bool) : World := (w.withFollow "comprehension-iter-twice" a).withFollow "special-get-raises" b
abbrev Lft (w : World) : Prop := (openEnds treeTable PW w 4532).map (fun s => (openSeen QV looseT (importedModules PW.main.body) seeT true s, obsT s)) = some (openGood QV looseT, valT)
theorem left_ff (w : World) : Lft (wRows w false false) := by kernel_rfl
theorem left_ft (w : World) : Lft (wRows w false true) := by kernel_rfl
theorem left_tf (w : World) : Lft (wRows w true false) := by kernel_rfl
theorem left_tt (w : World) : Lft (wRows w true true) := by kernel_rfl
theorem left : LeftO PW QV looseT seeT obsT (fun _ => valT) 4532 :=
  left_of_rows (P := Lft) "comprehension-iter-twice" "special-get-raises" fun a b w => by
    cases a <;> cases b
    · exact left_ff w
    · exact left_ft w
    · exact left_tf w
    · exact left_tt w
/-! # The functions behind the top -/
def fnP (p : Program) (k : Nat) : Arguments := match p.main.body[k]? with | some s => (match s with | .FunctionDef _ a .. => a | _ => ⟨[], [], none, [], [], none, []⟩) | none => ⟨[], [], none, [], [], none, []⟩
def fnQ (p : Program) (k : Nat) : Pos := match p.main.body[k]? with | some s => (match s with | .FunctionDef _ _ _ _ _ _ _ _ _ q => q | _ => ⟨0, 0, 0, 0⟩) | none => ⟨0, 0, 0, 0⟩
abbrev fd (x : Str) (k : Nat) : DefRec := ⟨x, fnP PW k, fnB PW k, fnSc PW k, fnQ PW k⟩
theorem recsV : recsOf QV = [fd "translate" 3, fd "escape" 6, fd "_translate" 8, fd "_join_translated_parts" 9, fd "S_IMODE" 11, fd "S_IFMT" 12, fd "filemode" 33, fd "_law_test" 35, fd "_law_written" 36, fd "_law_fits" 37, fd "_law_sign" 38, fd "_law_runs" 39, fd "_law_stands" 40, fd "_law_takes" 41, fd "law" 42] := by kernel_rfl
/-- the parameters of a plain def take their places -/
def Binds (x : Str) (k : Nat) (ps : List Str) : Prop := ∀ pm cd doc (vals : List Value), vals.length = ps.length → bindArgs (Calls.docDef x (fnP PW k) (fnB PW k) (fnSc PW k) pm cd doc) ⟨vals, []⟩ = pure (ps.zip vals)
theorem len2 {α : Type} {l : List α} (h : l.length = 2) : ∃ a b, l = [a, b] := by
  cases l with
  | nil => cases h
  | cons a l =>
    obtain ⟨b, rfl⟩ := List.length_eq_one_iff.mp (Nat.succ.inj h)
    exact ⟨a, b, rfl⟩
theorem len3 {α : Type} {l : List α} (h : l.length = 3) : ∃ a b c, l = [a, b, c] := by
  cases l with
  | nil => cases h
  | cons a l =>
    obtain ⟨b, c, rfl⟩ := len2 (Nat.succ.inj h)
    exact ⟨a, b, c, rfl⟩
theorem binds1 {x : Str} {k : Nat} {p : Str} (h : ∀ pm cd doc a, bindArgs (Calls.docDef x (fnP PW k) (fnB PW k) (fnSc PW k) pm cd doc) ⟨[a], []⟩ = pure [(p, a)]) : Binds x k [p] := fun pm cd doc vals hl => by
  obtain ⟨a, rfl⟩ := List.length_eq_one_iff.mp hl
  exact h pm cd doc a
theorem binds2 {x : Str} {k : Nat} {p q : Str} (h : ∀ pm cd doc a b, bindArgs (Calls.docDef x (fnP PW k) (fnB PW k) (fnSc PW k) pm cd doc) ⟨[a, b], []⟩ = pure [(p, a), (q, b)]) : Binds x k [p, q] := fun pm cd doc vals hl => by
  obtain ⟨a, b, rfl⟩ := len2 hl
  exact h pm cd doc a b
theorem binds3 {x : Str} {k : Nat} {p q r : Str} (h : ∀ pm cd doc a b c, bindArgs (Calls.docDef x (fnP PW k) (fnB PW k) (fnSc PW k) pm cd doc) ⟨[a, b, c], []⟩ = pure [(p, a), (q, b), (r, c)]) : Binds x k [p, q, r] := fun pm cd doc vals hl => by
  obtain ⟨a, b, c, rfl⟩ := len3 hl
  exact h pm cd doc a b c

/-- what stands behind the top -/
structure Std (C : Cx) (h : Heap) : Prop where
  T : ∃ mean, Top QV (looseW QV looseT) mean C.mg C.mb h
  K : ∀ a o, C.K a o ↔ h.get? a = some o ∧ a ≠ C.P
  P : ∃ o, h.get? C.P = some o ∧ o.data = .fields #[]
theorem Std.cls {C : Cx} {h : Heap} (S : Std C h) {a : Addr} {o : Obj} (e : h.get? a = some o) (hd : o.data ≠ .fields #[]) : C.K a o := (S.K a o).mpr ⟨e, fun q => by
  obtain ⟨o', e', d'⟩ := S.P
  rw [← q, e] at e'
  cases e'
  exact hd d'⟩
theorem FnAt.of {C : Cx} {h : Heap} (S : Std C h) {x : Str} {k : Nat} {ps : List Str} (hm : fd x k ∈ recsOf QV) (hb : Binds x k ps) {q : Nat} {w : List V → (V → Prop) → Prop}
    (hf : ∀ a, C.mg x = some (.ref a) → FnD C a ps (fnSc PW k) (fnB PW k) → Fn C a q w) : FnAt C x q w := by
  obtain ⟨mean, T⟩ := S.T
  obtain ⟨a, o, pm, cd, doc, h1, h2, h3, c, oc, vs, t, hc, h4, h5, h6⟩ := T.fn _ hm
  have hK : C.K a o := S.cls h2 (by rw [h3]; exact fun h => nomatch h)
  have hKc : C.K c oc := S.cls h4 (by rw [h5]; rintro ⟨⟩; cases h6)
  exact ⟨a, o, _, h1, hK, h3, hf a h1 ⟨o, _, hK, h3, rfl, rfl, rfl, rfl, rfl, hb pm cd doc, c, oc, vs, t, hc, hKc, h5, h6⟩⟩
theorem b_translate : Binds "translate" 3 ["pat"] := binds1 fun _ _ _ _ => by kernel_rfl
theorem b_escape : Binds "escape" 6 ["pattern"] := binds1 fun _ _ _ _ => by kernel_rfl
theorem b__translate : Binds "_translate" 8 ["pat", "STAR", "QUESTION_MARK"] := binds3 fun _ _ _ _ _ _ => by kernel_rfl
theorem b__join_translated_parts : Binds "_join_translated_parts" 9 ["inp", "STAR"] := binds2 fun _ _ _ _ _ => by kernel_rfl
theorem b_S_IMODE : Binds "S_IMODE" 11 ["mode"] := binds1 fun _ _ _ _ => by kernel_rfl
theorem b_S_IFMT : Binds "S_IFMT" 12 ["mode"] := binds1 fun _ _ _ _ => by kernel_rfl
theorem b_filemode : Binds "filemode" 33 ["mode"] := binds1 fun _ _ _ _ => by kernel_rfl
theorem b__law_test : Binds "_law_test" 35 ["number"] := binds1 fun _ _ _ _ => by kernel_rfl
theorem b__law_written : Binds "_law_written" 36 ["care", "value"] := binds2 fun _ _ _ _ _ => by kernel_rfl
theorem b__law_fits : Binds "_law_fits" 37 ["tests", "stars", "classes"] := binds3 fun _ _ _ _ _ _ => by kernel_rfl
theorem b__law_sign : Binds "_law_sign" 38 ["text", "at"] := binds2 fun _ _ _ _ _ => by kernel_rfl
theorem b__law_runs : Binds "_law_runs" 39 ["text"] := binds1 fun _ _ _ _ => by kernel_rfl
theorem b__law_stands : Binds "_law_stands" 40 ["run", "piece"] := binds2 fun _ _ _ _ _ => by kernel_rfl
theorem b__law_takes : Binds "_law_takes" 41 ["runs", "text"] := binds2 fun _ _ _ _ _ => by kernel_rfl
theorem b_law : Binds "law" 42 ["script"] := binds1 fun _ _ _ _ => by kernel_rfl
abbrev RW := PySem.Challenge.rw_mq0282_02

/-! # The argument -/
theorem items_int : ∀ {xs : List WData}, WShape.hasItems [] xs .int = true → ∃ ns : List Int, xs = ns.map .int
  | [], _ => ⟨[], rfl⟩
  | x :: xs, h => by
    rw [WShape.hasItems] at h
    obtain ⟨h1, h2⟩ := Bool.and_eq_true_iff.mp h
    obtain ⟨i, rfl⟩ := hasW_int h1
    obtain ⟨ns, rfl⟩ := items_int h2
    exact ⟨i :: ns, rfl⟩
theorem args_of {args : List WData} (h : RW.row.toRowW.claim.pre args = true) : ∃ ns : List Int, args = [.list (ns.map .int)] ∧ ns.length ≤ 63 := by
  obtain ⟨h1, h2⟩ := pre_splitW h
  obtain ⟨d, r, rfl, h6, h3⟩ := hasAllW_cons (R := []) (e := .list .int) (es := []) h1
  obtain rfl := hasAllW_nil h3
  obtain ⟨xs, rfl, h7⟩ := hasW_list h6
  obtain ⟨ns, rfl⟩ := items_int h7
  refine ⟨ns, rfl, ?_⟩
  have h4 := (holds_andW (R := []) (a := .not (.lt (.lit (.int 63)) (.len (.arg 0)))) (b := .lit (.bool true)) h2).1
  have h5 : (!decide ((63 : Int) < ((ns.map WData.int).length : Int))) = true := condW_of h4 (by rfl)
  rw [List.length_map] at h5
  have := of_decide_eq_false (by simpa using h5 : decide ((63 : Int) < (ns.length : Int)) = false)
  omega
theorem post_of (args : List WData) : RW.row.toRowW.claim.post args (.bool true) args = true := by kernel_rfl
theorem well_int {P : Params} {h : Heap} {v : Value} {i : Int} {F : Fz} (x : Well P h v (.int i)) : Rep F v (.int i) := by cases x; exact .int _ _
theorem wellAll_cons {P : Params} {h : Heap} {vs : List Value} {d : WData} {ds : List WData} (x : WellAll P h vs (d :: ds)) : ∃ v r, vs = v :: r ∧ Well P h v d ∧ WellAll P h r ds := by cases x; exact ⟨_, _, rfl, ‹_›, ‹_›⟩
theorem wellAll_nil {P : Params} {h : Heap} {vs : List Value} (x : WellAll P h vs []) : vs = [] := by cases x; rfl
theorem repInts {P : Params} {h : Heap} {F : Fz} (ns : List Int) : ∀ (vs : List Value), WellAll P h vs (ns.map .int) → RepL F vs (ns.map .int) := by
  induction ns with
  | nil => intro vs x; rw [wellAll_nil x]; exact .nil
  | cons n ns ih =>
    intro vs x
    obtain ⟨v, r, rfl, x1, x2⟩ := wellAll_cons x
    exact .cons (well_int x1) (ih r x2)
theorem well_list {P : Params} {h : Heap} {v : Value} {xs : List WData} (x : Well P h v (.list xs)) : ∃ a vs, v = .ref a ∧ h.get? a = some (lstObj vs 0) ∧ WellAll P h vs xs := by cases x; exact ⟨_, _, rfl, ‹_›, ‹_›⟩
theorem memV {d : DefRec} (h : d ∈ [fd "translate" 3, fd "escape" 6, fd "_translate" 8, fd "_join_translated_parts" 9, fd "S_IMODE" 11, fd "S_IFMT" 12, fd "filemode" 33, fd "_law_test" 35, fd "_law_written" 36, fd "_law_fits" 37, fd "_law_sign" 38, fd "_law_runs" 39, fd "_law_stands" 40, fd "_law_takes" 41, fd "law" 42]) : d ∈ recsOf QV := recsV ▸ h
theorem free_ok : (biNames.all fun x => !startupNames.contains x && !(looseW QV looseT).contains x && !((recsOf QV).map (·.name)).contains x && !((litsOf QV).map (·.1)).contains x && !((clssOf QV (looseW QV looseT)).map (·.name)).contains x) = true := by kernel_rfl
theorem not_mem {x : Str} {l : List Str} (h : (!l.contains x) = true) : x ∉ l := fun hm => by rw [List.contains_iff_mem.mpr hm] at h; cases h
theorem bi_none {C : Cx} {h : Heap} (S : Std C h) : ∀ x ∈ biNames, C.mg x = none := fun x hx => by
  obtain ⟨mean, T⟩ := S.T
  have e := List.all_eq_true.mp free_ok x hx
  obtain ⟨e, e5⟩ := Bool.and_eq_true_iff.mp e
  obtain ⟨e, e4⟩ := Bool.and_eq_true_iff.mp e
  obtain ⟨e, e3⟩ := Bool.and_eq_true_iff.mp e
  obtain ⟨e1, e2⟩ := Bool.and_eq_true_iff.mp e
  exact T.free x (not_mem e1) (not_mem e2) (not_mem e3) (not_mem e4) (not_mem e5)
theorem okN {C : Cx} {h : Heap} (S : Std C h) {l : List String} (hd : (l.all fun s => Str.ofString s != "__debug__") = true) : Ok C (Nn l noEc) := Ok.of (bi_none S) (fun _ _ _ _ _ => trivial) hd
theorem okT {C : Cx} {h : Heap} (S : Std C h) {l : List String} (hd : (l.all fun s => Str.ofString s != "__debug__") = true) : Ok C (Nn l (ecC C)) := Ok.of (bi_none S) (fun _ _ _ _ e => e) hd

theorem flat_cons {kvs : List (Int × Value)} {k : Int} {e : PyData} {D : List (PyData × PyData)} (f : PyProof.V.FlatPairs PyData.int kvs ((.int k, e) :: D)) : ∃ v r, kvs = (k, v) :: r ∧ PyProof.V.Flat v e ∧ PyProof.V.FlatPairs PyData.int r D := by
  cases f with
  | cons hv f => exact ⟨_, _, rfl, hv, f⟩
theorem valueAt_sp : ∀ {l : List Nat} {kvs : List (Int × Value)}, PyProof.V.FlatPairs PyData.int kvs (l.map fun c : Nat => (.int (c : Nat), .str (mkS [92, (c : Nat)]))) → ∀ c : Nat, (valueAt kvs (c : Int) = none ∧ c ∉ l) ∨ ∃ t, valueAt kvs (c : Int) = some (.str (mkS [92, c]) t) ∧ c ∈ l
  | [], _, f, c => by cases f; exact .inl ⟨rfl, fun h => nomatch h⟩
  | d :: l, _, f, c => by
    obtain ⟨v, kvs, rfl, hv, f⟩ := flat_cons f
    have ih := valueAt_sp f c
    obtain ⟨t, rfl⟩ : ∃ t, v = .str (mkS [92, d]) t := by cases hv {}; exact ⟨_, rfl⟩
    unfold valueAt at ih ⊢
    by_cases e : d = c
    · subst e
      rw [List.find?_cons_of_pos (by simp)]
      exact .inr ⟨t, rfl, .head _⟩
    · rw [List.find?_cons_of_neg (by simp; omega)]
      rcases ih with ⟨i1, i2⟩ | ⟨t', i1, i2⟩
      · exact .inl ⟨i1, fun h => (List.mem_cons.mp h).elim (fun q => e q.symm) i2⟩
      · exact .inr ⟨t', i1, .tail _ i2⟩
theorem spMap {C : Cx} {h : Heap} (S : Std C h) (X : Obs C.mg h) : SpMap C "_special_chars_map" := by
  obtain ⟨a, h1, h2, kvs, ⟨o, es, ep, h3, hx, hd, r⟩, h4⟩ := X.sp C.prog C.w
  exact ⟨a, o, kvs, h1, h2, S.cls h3 (by rw [hd]; exact fun h => nomatch h), ⟨es, ep, hx, hd, r⟩, valueAt_sp h4⟩
theorem spPat {C : Cx} {h : Heap} (S : Std C h) (X : Obs C.mg h) (Y : PatAt h) : SpPat C "_twin_re_1" :=
  ⟨36, X.pt, patO, 35, tupObj patVs 0, patVs, 320, _, 0, S.cls Y.1 (fun h => nomatch h), rfl, rfl, rfl, S.cls Y.2 (fun h => nomatch h), rfl, by kernel_rfl⟩
theorem fmGl {C : Cx} {h : Heap} (S : Std C h) (X : Obs C.mg h) : Gl C "_filemode_table" (.tuple (fmTab.map tabV)) := X.fm C.K fun a vs n e => S.cls e (fun h => nomatch h)

theorem law_at {C : Cx} {h : Heap} (S : Std C h) (X : Obs C.mg h) (Y : PatAt h) (hc : ∀ x o fd, C.mg "_translate" = some (.ref x) → h.get? x = some o → o.data = .func fd → fd.code = .ref C.c) : FnAt C "law" 5 LAW := by
  have aIMODE : FnAt C "S_IMODE" 1 IMODE := FnAt.of S (memV (.tail _ (.tail _ (.tail _ (.tail _ (.head _)))))) b_S_IMODE fun a ha D => f_S_IMODE (okN S (by decide +kernel)) D
  have aIFMT : FnAt C "S_IFMT" 1 IFMT := FnAt.of S (memV (.tail _ (.tail _ (.tail _ (.tail _ (.tail _ (.head _))))))) b_S_IFMT fun a ha D => f_S_IFMT (okN S (by decide +kernel)) D
  have aFM : FnAt C "filemode" 2 FMODE := FnAt.of S (memV (.tail _ (.tail _ (.tail _ (.tail _ (.tail _ (.tail _ (.head _)))))))) b_filemode fun a ha D => f_filemode (qf := 1) aIFMT (fmGl S X) (okN S (by decide +kernel)) D
  have aESC : FnAt C "escape" 1 ESC := FnAt.of S (memV (.tail _ (.head _))) b_escape fun a ha D => f_esc (spMap S X) (okN S (by decide +kernel)) D
  have aTR : FnAt C "_translate" 2 TRANS := FnAt.of S (memV (.tail _ (.tail _ (.head _)))) b__translate fun a ha D => f_tr aESC (spPat S X Y) (fun o fd L hK hd => hc a o fd ha ((S.K _ _).mp hK).1 hd) (okT S (by decide +kernel)) D (by decide +kernel) (by decide +kernel)
  have aJOIN : FnAt C "_join_translated_parts" 1 JOIN := FnAt.of S (memV (.tail _ (.tail _ (.tail _ (.head _))))) b__join_translated_parts fun a ha D => f_join (okN S (by decide +kernel)) D
  have aTRL : FnAt C "translate" 3 TRL := FnAt.of S (memV (.head _)) b_translate fun a ha D => f_trl aTR aJOIN (okN S (by decide +kernel)) D
  have aTST : FnAt C "_law_test" 1 TST := FnAt.of S (memV (.tail _ (.tail _ (.tail _ (.tail _ (.tail _ (.tail _ (.tail _ (.head _))))))))) b__law_test fun a ha D => f_tst (okN S (by decide +kernel)) D
  have aWRT : FnAt C "_law_written" 1 WRT := FnAt.of S (memV (.tail _ (.tail _ (.tail _ (.tail _ (.tail _ (.tail _ (.tail _ (.tail _ (.head _)))))))))) b__law_written fun a ha D => f_wrt (okN S (by decide +kernel)) D
  have aSIGN : FnAt C "_law_sign" 1 SIGN := FnAt.of S (memV (.tail _ (.tail _ (.tail _ (.tail _ (.tail _ (.tail _ (.tail _ (.tail _ (.tail _ (.tail _ (.head _)))))))))))) b__law_sign fun a ha D => f_sign (okN S (by decide +kernel)) D
  have aRNS : FnAt C "_law_runs" 2 RNS := FnAt.of S (memV (.tail _ (.tail _ (.tail _ (.tail _ (.tail _ (.tail _ (.tail _ (.tail _ (.tail _ (.tail _ (.tail _ (.head _))))))))))))) b__law_runs fun a ha D => f_rns aSIGN (okN S (by decide +kernel)) D
  have aSTD : FnAt C "_law_stands" 1 STD := FnAt.of S (memV (.tail _ (.tail _ (.tail _ (.tail _ (.tail _ (.tail _ (.tail _ (.tail _ (.tail _ (.tail _ (.tail _ (.tail _ (.head _)))))))))))))) b__law_stands fun a ha D => f_std (okN S (by decide +kernel)) D
  have aTKS : FnAt C "_law_takes" 2 TKS := FnAt.of S (memV (.tail _ (.tail _ (.tail _ (.tail _ (.tail _ (.tail _ (.tail _ (.tail _ (.tail _ (.tail _ (.tail _ (.tail _ (.tail _ (.head _))))))))))))))) b__law_takes fun a ha D => f_tks aSTD (okN S (by decide +kernel)) D
  have aFTS : ∀ n, FnAt C "_law_fits" n (FTS n) := fun n => by
    induction n with
    | zero => exact FnAt.of S (memV (.tail _ (.tail _ (.tail _ (.tail _ (.tail _ (.tail _ (.tail _ (.tail _ (.tail _ (.head _))))))))))) b__law_fits fun a _ D _ _ _ _ _ _ _ _ _ _ h => h.elim
    | succ n ih => exact FnAt.of S (memV (.tail _ (.tail _ (.tail _ (.tail _ (.tail _ (.tail _ (.tail _ (.tail _ (.tail _ (.head _))))))))))) b__law_fits fun a _ D => f_fts ih (okN S (by decide +kernel)) D
  exact FnAt.of S (memV (.tail _ (.tail _ (.tail _ (.tail _ (.tail _ (.tail _ (.tail _ (.tail _ (.tail _ (.tail _ (.tail _ (.tail _ (.tail _ (.tail _ (.head _)))))))))))))))) b_law fun a _ D => f_law aTST aWRT aRNS aTRL (aFTS 4) aIFMT aIMODE aTKS aFM (okN S (by decide +kernel)) D

theorem old_of {C : Cx} {s s' : Shared} (t : s.heap.TableAt C.c C.P #[]) (I' : Inv C s') (k : Kp C s s') : OldK s.heap s'.heap := by
  obtain ⟨ps, _, g, _⟩ := I'.tab
  refine ⟨fun b o e => ?_, fun b o e => ?_⟩
  · by_cases hb : b = C.P
    · subst hb
      cases t.2.symm.trans e
      exact .inr (.inl ⟨t.isCodeTable, rfl, #[], ps, rfl, by rw [Array.empty_append]; exact g⟩)
    · exact .inl (k b o hb e)
  · by_cases hb : b = C.P
    · exact ⟨_, hb ▸ g⟩
    · exact ⟨_, k b o hb e⟩
theorem inv_of {C : Cx} {s₀ s : Shared} {R : WRecords} (G : Ground QV looseT R Obs C.w s₀ C.mg C.mb s.heap) (hg : s.gens = #[]) (ho : s.os = C.os) (t5 : s.heap.IsCode C.c C.P #[]) (t6 : s.heap.TableAt C.c C.P #[]) (S : Std C s.heap) : Inv C s := by
  obtain ⟨bm, ob, m1, m2, m3, m4, m5, m6⟩ := G.T.bmain
  refine ⟨G.T.g, G.T.b, G.T.builtins, G.T.nolimit, ⟨#[], t5, t6.2, t6⟩, .of_eq hg, ho, trivial, fun a o e => (S.K a o).mp e, bm, ob, m1, m2, fun q => ?_, m3, m4, m5, m6⟩
  have h := t6.2
  rw [← q, m3] at h
  cases h
  cases m4
theorem walk : WalkO QV looseT Obs (fun _ h => PatAt h) RW.row.toRowW (fd "law" 42) [] (fun f vs => PySem.call f vs) := by
  intro w s₀ s₁ mg mb G Y a o pm cd doc dV kV ho hd hcd hD hmg hg args vals as hpre hlay hrd hwl hlo
  refine of_hid fun Z hZ => ?_
  obtain ⟨ns, rfl, hn⟩ := args_of hpre
  obtain ⟨a2, o2, fdd, c, P, t1, t2, t3, t4, t5, t6⟩ := G.T.tab (fd "_translate" 8) (memV (.tail _ (.tail _ (.head _))))
  have hP : s₁.heap.get? P = some (tabObj #[]) := t6.2
  have S : Std ⟨PW, w, mg, mb, fun a o => s₁.heap.get? a = some o ∧ a ≠ P, c, P, s₁.os⟩ s₁.heap := ⟨⟨_, G.T⟩, fun _ _ => Iff.rfl, _, hP, rfl⟩
  generalize hC : (⟨PW, w, mg, mb, fun a o => s₁.heap.get? a = some o ∧ a ≠ P, c, P, s₁.os⟩ : Cx) = C at S
  have hat := law_at S (by rw [← hC]; exact G.X) Y (fun x o fd e1 e2 e3 => by
    rw [← hC] at e1 ⊢
    cases t1.symm.trans e1
    cases t2.symm.trans e2
    cases t3.symm.trans e3
    exact t4)
  obtain ⟨a3, o3, fd3, l1, l2, l3, hfn⟩ := hat
  have l1' : mg "law" = some (.ref a3) := by rw [← hC] at l1; exact l1
  cases hmg.symm.trans l1'
  obtain ⟨v, r, rfl, hw, hwn⟩ := wellAll_cons hwl
  obtain rfl := wellAll_nil hwn
  obtain ⟨b, vs, rfl, hb, hvs⟩ := well_list hw
  have I : Inv C s₁ := by
    subst hC
    exact inv_of G hg rfl t5 t6 S
  have hF : FzOk C C.K s₁.heap := by rw [← hC]; exact ⟨fun _ _ e => e, fun _ _ e => e⟩
  have rl := RepL.cons (Rep.list (F := C.K) (n := 0) (S.cls hb (fun h => nomatch h)) (repInts _ _ hvs)) .nil
  refine hZ ?_
  have hrun := hfn callerA s₁ C.K _ _ (fun d => d = .bool true) ⟨rfl, by decide, by decide⟩ I hF rl ⟨ns, rfl, hn, rfl⟩
  have hm : model C.prog C.w = model RW.row.toRowW.prog w := by rw [← hC]; rfl
  unfold TrV Tr at hrun
  rw [hm] at hrun
  refine wpAny_mono hrun (fun v s' h => ?_) fun _ _ h => h.elim
  refine of_hid fun Z hZ => ?_
  obtain ⟨I', k, F', fx, d, rv, rfl⟩ := h
  cases rv
  refine hZ ?_
  subst hC
  exact ⟨.inl ⟨_, _, [], rfl, fun _ => rfl, .bool true, post_of _, fun _ => ⟨List.nodup_nil, fun _ h => nomatch h⟩⟩, old_of t6 I' k, I'.os, I'.gens⟩
theorem holds : RW.Holds :=
  holds_law (by kernel_rfl) fun said => holds_open (r := RW.row) (q := QV) (loose := looseT) (Xt := seeT) (XP := Obs) (Yf := obsT) (Ya := fun _ => valT) (YP := fun _ h => PatAt h) (d := fd "law" 42) (kwd := []) (N := 4532)
    left (fun w s e => ⟨congrArg Prod.fst e, congrArg Prod.snd e⟩) (fun w h h' x hk => ⟨hk _ _ x.1, hk _ _ x.2⟩) (fun s e => Obs.of e) Obs.keeps (by kernel_rfl) (by kernel_rfl) (by kernel_rfl) (fun _ _ => recFacts_nil rfl) rfl said (by kernel_rfl) ⟨rfl, rfl, rfl, rfl, rfl, by decide +kernel⟩ (by w_witness2) walk
end Mine
theorem PySem.Challenge.cw_mq0282_02_holds : PySem.Challenge.rw_mq0282_02.Holds := by
  exact Mine.holds
