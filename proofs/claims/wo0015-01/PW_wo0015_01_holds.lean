import PyProof.Rows.All
import Wide.All
import OpenK.AllK
import Wide.FinOn
import Lean
import PySem.Challenge.RW_wo0015_01
set_option Elab.async false
set_option maxRecDepth 100000
set_option linter.unusedVariables false
set_option maxHeartbeats 4000000
set_option bootstrap.genMatcherCode false
set_option genSizeOf false
namespace BZ
theorem nS.{u} {α : Type u} {a : α} {p : Prop} (h : (none : Option α) = some a) : p := by cases h
theorem nN.{u} {α : Type u} {a : α} {p : Prop} (h : some a = (none : Option α)) : p := by cases h
theorem nF {p : Prop} (h : false = true) : p := by cases h
theorem nT {p : Prop} (h : true = false) : p := by cases h
local macro_rules | `(tactic| cases $h:ident) => `(tactic| first | with_reducible exact nS $h | with_reducible exact nN $h | with_reducible exact nF $h | with_reducible exact nT $h | rcases $h:ident with ⟨⟩)
local macro_rules | `(tactic| omega) => `(tactic| first | exact Nat.le_trans (by assumption) (by decide) | exact Nat.le_trans (Nat.add_le_add_right (by assumption) _) (by decide) | exact Nat.lt_of_le_of_lt (by assumption) (by decide) | exact Nat.le_trans (Nat.le_of_lt (by assumption)) (by decide) | decide | lia | omega (config := {}))
open PySem PySem.W PyProof.Rows PySem.Calls
section
theorem wpQ {M : Model} {A : Around} {α : Type} {x : Sem α} {Q : α -> Shared -> Prop} {E : Value -> Shared -> Prop} {s : Shared} (h : ∀ Q' E', (∀ a t, Q a t -> Q' a t) -> (∀ a t, E a t -> E' a t) -> wpAny M A x Q' E' s) : wpAny M A x Q E s := h Q E (fun _ _ h => h) fun _ _ h => h
theorem wpR {M : Model} {A : Around} {α : Type} {x : Sem α} {Q : α -> Shared -> Prop} {E : Value -> Shared -> Prop} {s : Shared} (h : ∀ Q', (∀ a t, Q a t -> Q' a t) -> wpAny M A x Q' E s) : wpAny M A x Q E s := h Q fun _ _ h => h
theorem keep {p : Prop} (h : p) : p := h
theorem nG {p : Prop} (h : ¬p -> False) : p := Classical.byContradiction h
noncomputable abbrev PH := Addr -> Option Obj
noncomputable def PH.le (F G : PH) : Prop := ∀ a o, F a = some o -> G a = some o
theorem PH.le.refl (F : PH) : PH.le F F := fun _ _ e => e
theorem PH.le.trans {F G H : PH} (x : PH.le F G) (y : PH.le G H) : PH.le F H := fun a o e => y a o (x a o e)
inductive PV where
 | none
 | bool (b : Bool)
 | int (i : Int)
 | str (s : List Nat)
 | bytes (s : List UInt8)
 | list (xs : List PV)
 | tup (xs : List PV)
 | ref (a : Addr)
 | rng (a b : Int)
mutual
inductive Rep (F : PH) : PV -> Value -> Prop
 | none : Rep F .none .none
 | bool (b : Bool) : Rep F (.bool b) (.bool b)
 | int (i : Int) (t : Tok) : Rep F (.int i) (.int i t)
 | str (s : List Nat) (t : Tok) : Rep F (.str s) (.str ⟨s.toArray⟩ t)
 | bytes (s : List UInt8) (t : Tok) : Rep F (.bytes s) (.bytes s.toArray t)
 | list {xs : List PV} {vs : List Value} {a : Addr} {n : Nat} : F a = some { cls := .type "list", data := .seq vs.toArray n } -> vs.length <= 2 ^ 20 -> RepL F xs vs -> Rep F (.list xs) (.ref a)
 | tup {xs : List PV} {vs : List Value} {a : Addr} {n : Nat} : F a = some { cls := .type "tuple", data := .seq vs.toArray n } -> vs.length <= 2 ^ 20 -> RepL F xs vs -> Rep F (.tup xs) (.ref a)
 | ref (a : Addr) : Rep F (.ref a) (.ref a)
 | rng {a b : Int} {r : Addr} {t u v : Tok} : F r = some { cls := .type "range", dict := none, data := .fields #[.int a t, .int b u, .int 1 v], slots := #[] } -> Rep F (.rng a b) (.ref r)
inductive RepL (F : PH) : List PV -> List Value -> Prop
 | nil : RepL F [] []
 | cons {x : PV} {v : Value} {xs : List PV} {vs : List Value} : Rep F x v -> RepL F xs vs -> RepL F (x :: xs) (v :: vs)
end
mutual
theorem Rep.mono {F G : PH} (h : PH.le F G) {x : PV} {v : Value} : Rep F x v -> Rep G x v
 | .none => .none
 | .bool b => .bool b
 | .int i t => .int i t
 | .str s t => .str s t
 | .bytes s t => .bytes s t
 | .list a d e => .list (h _ _ a) d (RepL.mono h e)
 | .tup a d e => .tup (h _ _ a) d (RepL.mono h e)
 | .ref a => .ref a
 | .rng a => .rng (h _ _ a)
theorem RepL.mono {F G : PH} (h : PH.le F G) {xs : List PV} {vs : List Value} : RepL F xs vs -> RepL G xs vs
 | .nil => .nil
 | .cons a b => .cons (Rep.mono h a) (RepL.mono h b)
end
theorem RepL.length {F : PH} : ∀ {xs : List PV} {vs : List Value}, RepL F xs vs -> vs.length = xs.length
 | _, _, .nil => rfl
 | _, _, .cons _ r => by simp [r.length]
theorem RepL.get {F : PH} : ∀ {xs : List PV} {vs : List Value}, RepL F xs vs -> ∀ {i : Nat} {x : PV}, xs[i]? = some x -> ∃ v, vs[i]? = some v /\ Rep F x v
 | _, _, .nil, _, _, e => by simp at e
 | _, _, .cons (v := v) a r, 0, x, e => by simp at e; subst e; exact ⟨v, rfl, a⟩
 | _, _, .cons a r, i + 1, x, e => by simp at e; obtain ⟨v, h1, h2⟩ := r.get e; exact ⟨v, by simpa using h1, h2⟩
theorem RepL.append {F : PH} : ∀ {xs ys : List PV} {vs us : List Value}, RepL F xs vs -> RepL F ys us -> RepL F (xs ++ ys) (vs ++ us)
 | _, _, _, _, .nil, h => h
 | _, _, _, _, .cons a r, h => .cons a (r.append h)
theorem RepL.get_none {F : PH} {xs : List PV} {vs : List Value} (h : RepL F xs vs) {i : Nat} (e : xs[i]? = none) : vs[i]? = none := by
 rw [List.getElem?_eq_none_iff] at e ⊢; rw [h.length]; exact e
inductive AV where
 | imm (p : PV)
 | obj (i : Nat)
noncomputable def AVRep (F : PH) (ρ : Nat -> Addr) : AV -> Value -> Prop
 | .imm p, v => Rep F p v
 | .obj i, v => v = .ref (ρ i)
theorem AVRep.mono {F G : PH} {ρ : Nat -> Addr} (h : PH.le F G) {a : AV} {v : Value} (x : AVRep F ρ a v) : AVRep G ρ a v := by
 cases a with
 | imm p => exact Rep.mono h x
 | obj i => exact x
inductive zA where
 | dead
 | frozen (p : PV)
 | lst (xs : List PV)
 | cell (v : Option AV)
 | frame (vals : List (Option AV))
 | attrs (vals : List (Option AV))
 | fit (ended : Bool) (f x : Addr)
 | tab (ps : Option (Array Value))
noncomputable def zA.live : zA -> Bool
 | .dead => false
 | .frozen _ => false
 | _ => true
noncomputable def FrameOK (F : PH) (ρ : Nat -> Addr) (names : List Str) (vals : List (Option AV)) (m : Str -> Option Value) : Prop :=
 names.Nodup /\ ∀ (k : Nat) (x : Str) (v : AV), names[k]? = some x -> vals[k]? = some (some v) -> ∃ V, m x = some V /\ AVRep F ρ v V
inductive OLst (F : PH) (xs : List PV) (a : Addr) (h : Heap) : Prop where
 | mk (vs : List Value) (h1 : h.PlainList a (List.toArray vs)) (h2 : vs.length <= 2 ^ 20) (h3 : RepL F xs vs) : OLst F xs a h
inductive OCell (F : PH) (ρ : Nat -> Addr) (v : Option AV) (a : Addr) (h : Heap) : Prop where
 | mk (V : Option Value) (h1 : h.IsCell a V) (h2 : ∀ u, v = some u -> ∃ W, V = some W /\ AVRep F ρ u W) : OCell F ρ v a h
inductive OFrame (F : PH) (ρ : Nat -> Addr) (names : List Str) (vals : List (Option AV)) (a : Addr) (h : Heap) : Prop where
 | mk (m : Str -> Option Value) (h1 : h.Ns a m) (h2 : FrameOK F ρ names vals m) : OFrame F ρ names vals a h
inductive OAttrs (F : PH) (ρ : Nat -> Addr) (names : List Str) (vals : List (Option AV)) (a : Addr) (h : Heap) : Prop where
 | mk (m : Str -> Option Value) (h1 : h.Ns1 a m) (h2 : ∀ y, m y ≠ none -> y ∈ names) (h3 : FrameOK F ρ names vals m) : OAttrs F ρ names vals a h
inductive OFit (F : PH) (e : Bool) (f x a : Addr) (h : Heap) : Prop where
 | mk (V W : Value) (h1 : h.get? a = some { cls := .type "callable_iterator", data := .fields #[V, W, .bool e] }) (h2 : e = false -> ∃ b t, V = .ref b /\ W = .str ⟨#[]⟩ t /\ F b = some { cls := .type "method", data := .fields #[.ref f, .ref x] }) : OFit F e f x a h
inductive OTab (ps : Option (Array Value)) (a : Addr) (h : Heap) : Prop where
 | mk (qs : Array Value) (h1 : h.get? a = some { cls := .none, data := .fields qs }) (h2 : ∀ p, ps = some p -> qs = p) : OTab ps a h
noncomputable def ObjOK (F : PH) (ρ : Nat -> Addr) (names : List Str) (o : zA) (a : Addr) (h : Heap) : Prop :=
 match o with
 | .dead => True
 | .frozen p => Rep F p (.ref a)
 | .lst xs => OLst F xs a h
 | .cell v => OCell F ρ v a h
 | .frame vals => OFrame F ρ names vals a h
 | .attrs vals => OAttrs F ρ names vals a h
 | .fit e f x => OFit F e f x a h
 | .tab ps => OTab ps a h
set_option genInjectivity false in
structure Cx where
 prog : Program
 w : World
 P0 : PH
 mg : Str -> Option Value
 mb : Str -> Option Value
 ns : ∀ h : Heap, PH.le P0 h.get? -> h.Ns mainGlobals mg
 bns : ∀ h : Heap, PH.le P0 h.get? -> h.Ns builtinsNs mb
 lim : ∀ h : Heap, PH.le P0 h.get? -> h.NoLimit
 blt : ∀ x v, x ≠ ("__name__" : Str) -> bootBuiltins x = some v -> mb x = some v
noncomputable def Cx.M (C : Cx) : Model := model C.prog C.w
structure AL (n : Nat) (A : Around) : Prop where
 handled : A.handled = none
 depth : A.depth <= 400 + n * 10
 units : A.units <= 1000 + n * 100
theorem AL.mono {n m : Nat} {A : Around} (x : AL n A) (h : n <= m) : AL m A := ⟨x.handled, Nat.le_trans x.depth (by omega), Nat.le_trans x.units (by omega)⟩
theorem AL.in1 {n : Nat} {A : Around} (x : AL n A) : AL (n + 1) A.in1 := ⟨x.handled, by have := x.depth; show A.depth <= _; omega, by have := x.units; show A.units + 1 <= _; omega⟩
theorem AL.deeper {n : Nat} {A : Around} {env : Env} (x : AL n A) : AL (n + 1) (A.deeper env) :=
 ⟨x.handled, by have := x.depth; show A.depth + 1 <= _; omega, by have := x.units; show A.units + 3 <= _; omega⟩
theorem AL.room {n : Nat} {A : Around} (x : AL n A) (hn : n <= 40) : A.depth < recursionLimit := by have := x.depth; show A.depth < 1000; omega
noncomputable def Alive (h : Heap) (a : Addr) : Prop := ∃ o, h.get? a = some o
noncomputable def Keeps (h h' : Heap) : Prop := ∀ b o, h.get? b = some o -> h'.get? b = some o
structure GX (s s' : Shared) : Prop where
 os : s'.os = s.os
 old : ∀ g, g < s.gens.size -> s'.gens[g]? = s.gens[g]?
 size : s.gens.size <= s'.gens.size
 bare : AllBare s.gens -> AllBare s'.gens
theorem GX.refl (s : Shared) : GX s s := ⟨rfl, fun _ _ => rfl, Nat.le_refl _, id⟩
theorem GX.trans {s s' s'' : Shared} (x : GX s s') (y : GX s' s'') : GX s s'' :=
 ⟨y.os.trans x.os, fun g hg => (y.old g (Nat.lt_of_lt_of_le hg x.size)).trans (x.old g hg), Nat.le_trans x.size y.size, fun h => y.bare (x.bare h)⟩
theorem GX.of {s : Shared} {h : Heap} {t : Nat} : GX s { s with heap := h, toks := t } := ⟨rfl, fun _ _ => rfl, Nat.le_refl _, id⟩
theorem GX.ofh {s : Shared} {h : Heap} : GX s { s with heap := h } := ⟨rfl, fun _ _ => rfl, Nat.le_refl _, id⟩
theorem GX.oft {s : Shared} {t : Nat} : GX s { s with toks := t } := ⟨rfl, fun _ _ => rfl, Nat.le_refl _, id⟩
noncomputable def Off (σ : List zA) (ρ : Nat -> Addr) (a : Addr) : Prop := ∀ j y, σ[j]? = some y -> y.live = true -> ρ j ≠ a
structure zb (C : Cx) (N : Nat -> List Str) (F P : PH) (ρ : Nat -> Addr) (σ : List zA) (h : Heap) : Prop where
 f : PH.le F h.get?
 p : PH.le P h.get?
 top : PH.le C.P0 P
 ob : ∀ i o, σ[i]? = some o -> ObjOK F ρ (N i) o (ρ i) h
 fr : ∀ i o, σ[i]? = some o -> o.live = true -> F (ρ i) = none /\ P (ρ i) = none
 inj : ∀ i j o o', σ[i]? = some o -> σ[j]? = some o' -> o.live = true -> o'.live = true -> ρ i = ρ j -> i = j
theorem FrameOK.mono {F G : PH} {ρ : Nat -> Addr} {names : List Str} {vals : List (Option AV)} {m : Str -> Option Value} (h : PH.le F G) (x : FrameOK F ρ names vals m) : FrameOK G ρ names vals m :=
 ⟨x.1, fun k n v h1 h2 => let ⟨V, a, b⟩ := x.2 k n v h1 h2; ⟨V, a, b.mono h⟩⟩
theorem plain_keeps {h h' : Heap} {a : Addr} {items : Array Value} (x : h.PlainList a items) (k : ∀ o, h.get? a = some o -> h'.get? a = some o) : h'.PlainList a items :=
 let ⟨n, ho⟩ := x; ⟨n, k _ ho⟩
theorem isCell_keeps {h h' : Heap} {a : Addr} {v : Option Value} (x : h.IsCell a v) (k : ∀ o, h.get? a = some o -> h'.get? a = some o) : h'.IsCell a v :=
 let ⟨o, ho, r⟩ := x; ⟨o, k o ho, r⟩
theorem ns_keeps {h h' : Heap} {a : Addr} {m : Str -> Option Value} (x : h.Ns a m) (k : ∀ o, h.get? a = some o -> h'.get? a = some o) : h'.Ns a m :=
 let ⟨o, es, ep, ho, r⟩ := x; ⟨o, es, ep, k o ho, r⟩
theorem ObjOK.mono {F G : PH} {ρ : Nat -> Addr} {names : List Str} {o : zA} {a : Addr} {h h' : Heap} (x : ObjOK F ρ names o a h) (hF : PH.le F G) (k : ∀ o, h.get? a = some o -> h'.get? a = some o) : ObjOK G ρ names o a h' := by
 cases o with
 | dead => trivial
 | frozen p => exact Rep.mono hF x
 | lst xs => obtain ⟨vs, a, b, c⟩ := x; exact ⟨vs, plain_keeps a k, b, c.mono hF⟩
 | cell v => obtain ⟨V, a, b⟩ := x; exact ⟨V, isCell_keeps a k, fun u e => let ⟨W, p, q⟩ := b u e; ⟨W, p, q.mono hF⟩⟩
 | frame v => obtain ⟨m, a, b⟩ := x; exact ⟨m, ns_keeps a k, b.mono hF⟩
 | attrs v => obtain ⟨m, a, c, b⟩ := x; exact ⟨m, a.at k, c, b.mono hF⟩
 | tab ps => obtain ⟨qs, a, b⟩ := x; exact ⟨qs, k _ a, b⟩
 | fit e f y => obtain ⟨V, W, a, b⟩ := x; exact ⟨V, W, k _ a, fun q => let ⟨c, t, p1, p2, p3⟩ := b q; ⟨c, t, p1, p2, hF _ _ p3⟩⟩
theorem ObjOK.alive {F : PH} {ρ : Nat -> Addr} {names : List Str} {o : zA} {a : Addr} {h : Heap} (x : ObjOK F ρ names o a h) (l : o.live = true) : Alive h a := by
 cases o with
 | dead => cases l
 | frozen p => cases l
 | lst xs => obtain ⟨vs, ⟨n, ho⟩, _⟩ := x; exact ⟨_, ho⟩
 | cell v => obtain ⟨V, ⟨o, ho, _⟩, _⟩ := x; exact ⟨o, ho⟩
 | frame v => obtain ⟨m, ⟨o, _, _, ho, _⟩, _⟩ := x; exact ⟨o, ho⟩
 | attrs v => obtain ⟨m, ⟨o, _, _, ho, _⟩, _⟩ := x; exact ⟨o, ho⟩
 | fit e f y => obtain ⟨V, W, a, b⟩ := x; exact ⟨_, a⟩
 | tab ps => obtain ⟨qs, a, b⟩ := x; exact ⟨_, a⟩
theorem ObjOK.still {F : PH} {ρ : Nat -> Addr} {names : List Str} {o : zA} {a : Addr} {h h' : Heap} (x : ObjOK F ρ names o a h) (l : ¬ o.live = true) : ObjOK F ρ names o a h' := by
 cases o with
 | dead => trivial
 | frozen p => exact x
 | lst xs => exact absurd rfl l
 | cell v => exact absurd rfl l
 | frame v => exact absurd rfl l
 | attrs v => exact absurd rfl l
 | fit e f y => exact absurd rfl l
 | tab ps => exact absurd rfl l
theorem zb.keeps {C : Cx} {N : Nat -> List Str} {F P : PH} {ρ : Nat -> Addr} {σ : List zA} {h h' : Heap} {F' : PH} (I : zb C N F P ρ σ h) (k : Keeps h h') (hF : PH.le F F') (hF' : PH.le F' h'.get?) (ag : ∀ a, Alive h a -> F' a = F a) : zb C N F' P ρ σ h' := by
 refine ⟨hF', fun a o e => k a o (I.p a o e), I.top, fun i o e => (I.ob i o e).mono hF (fun o' e' => k _ _ e'), fun i o e l => ?_, I.inj⟩
 have := I.fr i o e l
 exact ⟨(ag _ ((I.ob i o e).alive l)).trans this.1, this.2⟩
theorem zb.kept {C : Cx} {N : Nat -> List Str} {F P : PH} {ρ : Nat -> Addr} {σ : List zA} {h h' : Heap} (I : zb C N F P ρ σ h) (k : Keeps h h') : zb C N F P ρ σ h' :=
 I.keeps k (PH.le.refl F) (fun a o e => k a o (I.f a o e)) fun _ _ => rfl
theorem zb.ns {C : Cx} {N : Nat -> List Str} {F P : PH} {ρ : Nat -> Addr} {σ : List zA} {h : Heap} (I : zb C N F P ρ σ h) : h.Ns mainGlobals C.mg := C.ns h (I.top.trans I.p)
theorem zb.bns {C : Cx} {N : Nat -> List Str} {F P : PH} {ρ : Nat -> Addr} {σ : List zA} {h : Heap} (I : zb C N F P ρ σ h) : h.Ns builtinsNs C.mb := C.bns h (I.top.trans I.p)
theorem zb.lim {C : Cx} {N : Nat -> List Str} {F P : PH} {ρ : Nat -> Addr} {σ : List zA} {h : Heap} (I : zb C N F P ρ σ h) : h.NoLimit := C.lim h (I.top.trans I.p)
structure Pu (F P : PH) (s : Shared) (F' : PH) (s' : Shared) : Prop where
 gx : GX s s'
 le : PH.le F F'
 ag : ∀ a, P a ≠ none -> F' a = F a
theorem Pu.refl {F P : PH} {s : Shared} : Pu F P s F s := ⟨.refl s, .refl F, fun _ _ => rfl⟩
theorem Pu.trans {F P : PH} {s : Shared} {F' : PH} {s' : Shared} {F'' : PH} {s'' : Shared} (x : Pu F P s F' s') (y : Pu F' P s' F'' s'') : Pu F P s F'' s'' :=
 ⟨x.gx.trans y.gx, x.le.trans y.le, fun a h => (y.ag a h).trans (x.ag a h)⟩
set_option genInjectivity false in
structure zj where
 n : Nat
 fi : Nat
 N : Nat -> List Str
 cells : List (Str × Nat)
 scope : Scope
 tmp : List Nat
 own : List Nat
 pins : List (Nat × Addr) := []
structure zZ (X : zj) (ρ : Nat -> Addr) (env : Env) : Prop where
 scope : env.scope = X.scope
 kind : X.scope.kind = .function
 loc : env.locals = ρ X.fi
 glob : env.globals = mainGlobals
 blt : env.builtins = builtinsNs
 cells : ∀ x i, X.cells.lookup x = some i -> env.cells.lookup x = some (ρ i)
 fit : X.fi ∉ X.tmp
 fio : X.fi ∉ X.own
 cit : ∀ x i, X.cells.lookup x = some i -> i ∉ X.tmp
 cio : ∀ x i, X.cells.lookup x = some i -> i ∉ X.own
 pin : ∀ i a, (i, a) ∈ X.pins -> ρ i = a /\ i ∉ X.tmp /\ i ∉ X.own
theorem zZ.next {X : zj} {ρ ρ' : Nat -> Addr} {env : Env} (x : zZ X ρ env) (h : ∀ i, i ∉ X.tmp -> i ∉ X.own -> ρ' i = ρ i) : zZ X ρ' env :=
 ⟨x.scope, x.kind, x.loc.trans (h _ x.fit x.fio).symm, x.glob, x.blt, fun n i e => (x.cells n i e).trans (by rw [h i (x.cit n i e) (x.cio n i e)]), x.fit, x.fio, x.cit, x.cio, fun i a m => ⟨(h i (x.pin i a m).2.1 (x.pin i a m).2.2).trans (x.pin i a m).1, (x.pin i a m).2⟩⟩
noncomputable abbrev CC (α : Type) := List zA -> Option (α × List zA)
structure Nx (C : Cx) (X : zj) (F P : PH) (ρ : Nat -> Addr) (s : Shared) (F' : PH) (ρ' : Nat -> Addr) (σ' : List zA) (s' : Shared) : Prop where
 inv : zb C X.N F' P ρ' σ' s'.heap
 pu : Pu F P s F' s'
 rho : ∀ i, i ∉ X.tmp -> ρ' i = ρ i
theorem Nx.env {C : Cx} {X : zj} {F P : PH} {ρ : Nat -> Addr} {s : Shared} {F' : PH} {ρ' : Nat -> Addr} {σ' : List zA} {s' : Shared} {env : Env} (x : Nx C X F P ρ s F' ρ' σ' s') (e : zZ X ρ env) : zZ X ρ' env :=
 e.next fun i h _ => x.rho i h
theorem Nx.trans {C : Cx} {X : zj} {F P : PH} {ρ : Nat -> Addr} {s : Shared} {F' : PH} {ρ' : Nat -> Addr} {σ' : List zA} {s' : Shared} {F'' : PH} {ρ'' : Nat -> Addr} {σ'' : List zA} {s'' : Shared}
  (x : Nx C X F P ρ s F' ρ' σ' s') (y : Nx C X F' P ρ' s' F'' ρ'' σ'' s'') : Nx C X F P ρ s F'' ρ'' σ'' s'' :=
 ⟨y.inv, x.pu.trans y.pu, fun i h => (y.rho i h).trans (x.rho i h)⟩
inductive PoA (C : Cx) (X : zj) (F P : PH) (ρ : Nat -> Addr) (s : Shared) (σ' : List zA) (v : AV) (V : Value) (s' : Shared) : Prop where
 | mk (F' : PH) (ρ' : Nat -> Addr) (n : Nx C X F P ρ s F' ρ' σ' s') (r : AVRep F' ρ' v V) : PoA C X F P ρ s σ' v V s'
inductive PoV (C : Cx) (X : zj) (F P : PH) (ρ : Nat -> Addr) (s : Shared) (σ' : List zA) (v : PV) (V : Value) (s' : Shared) : Prop where
 | mk (F' : PH) (ρ' : Nat -> Addr) (n : Nx C X F P ρ s F' ρ' σ' s') (r : Rep F' v V) : PoV C X F P ρ s σ' v V s'
inductive PoL (C : Cx) (X : zj) (F P : PH) (ρ : Nat -> Addr) (s : Shared) (σ' : List zA) (v : List PV) (V : List Value) (s' : Shared) : Prop where
 | mk (F' : PH) (ρ' : Nat -> Addr) (n : Nx C X F P ρ s F' ρ' σ' s') (r : RepL F' v V) : PoL C X F P ρ s σ' v V s'
inductive PoX (C : Cx) (X : zj) (F P : PH) (ρ : Nat -> Addr) (s : Shared) (σ' : List zA) (s' : Shared) : Prop where
 | mk (F' : PH) (ρ' : Nat -> Addr) (n : Nx C X F P ρ s F' ρ' σ' s') : PoX C X F P ρ s σ' s'
noncomputable def PoB (C : Cx) (X : zj) (F P : PH) (ρ : Nat -> Addr) (s : Shared) (σ' : List zA) (v b : Bool) (s' : Shared) : Prop := b = v /\ PoX C X F P ρ s σ' s'
noncomputable def EvOK (C : Cx) (X : zj) (e : Expr) (f : CC AV) : Prop :=
 ∀ A env F P ρ σ s v σ', AL X.n A -> zZ X ρ env -> zb C X.N F P ρ σ s.heap -> f σ = some (v, σ') ->
  wpAny C.M A (eval e env) (PoA C X F P ρ s σ' v) (fun _ _ => False) s
noncomputable def TsOK (C : Cx) (X : zj) (e : Expr) (f : CC Bool) : Prop :=
 ∀ A env F P ρ σ s v σ', AL X.n A -> zZ X ρ env -> zb C X.N F P ρ σ s.heap -> f σ = some (v, σ') ->
  wpAny C.M A (isTrue e env (eval e env)) (PoB C X F P ρ s σ' v) (fun _ _ => False) s
inductive PRx (F : PH) (s : Shared) (c : PV) (U : Value) (s' : Shared) : Prop where
 | mk (F' : PH) (h1 : PH.le F F') (h2 : PH.le F' s'.heap.get?) (h3 : ∀ a, Alive s.heap a -> F' a = F a) (r : Rep F' c U) : PRx F s c U s'
structure PR (F : PH) (s : Shared) (c : PV) (U : Value) (s' : Shared) : Prop where
 keeps : Keeps s.heap s'.heap
 gx : GX s s'
 ex : PRx F s c U s'
theorem PR.same {F : PH} {s : Shared} {c : PV} {U : Value} {s' : Shared} (hF : PH.le F s.heap.get?) (hh : s'.heap = s.heap) (g : GX s s') (r : Rep F c U) : PR F s c U s' :=
 ⟨fun b o e => by rw [hh]; exact e, g, F, .refl F, by rw [hh]; exact hF, fun _ _ => rfl, r⟩
theorem PR.kept {F : PH} {s : Shared} {c : PV} {U : Value} {s' : Shared} (hF : PH.le F s.heap.get?) (k : Keeps s.heap s'.heap) (g : GX s s') (r : Rep F c U) : PR F s c U s' :=
 ⟨k, g, F, .refl F, fun a o e => k a o (hF a o e), fun _ _ => rfl, r⟩
theorem PR.next {C : Cx} {X : zj} {F P : PH} {ρ : Nat -> Addr} {σ : List zA} {s : Shared} {c : PV} {U : Value} {s' : Shared} (I : zb C X.N F P ρ σ s.heap) (x : PR F s c U s') :
  ∃ F', Nx C X F P ρ s F' ρ σ s' /\ Rep F' c U := by
 refine nG fun ng => ?_
 obtain ⟨k, g, F', a, b, d, r⟩ := x
 refine ng ?_
 clear ng
 exact ⟨F', ⟨I.keeps k a b d, ⟨g, a, fun q hq => d q (by
  cases e : P q with
  | none => exact absurd e hq
  | some o => exact ⟨o, I.p q o e⟩)⟩, fun _ _ => rfl⟩, r⟩
noncomputable def Op1 (C : Cx) (n : Nat) (t : Value -> Sem Value) (h : PV -> Option PV) : Prop :=
 ∀ A F s a V c, AL n A -> PH.le F s.heap.get? -> PH.le C.P0 s.heap.get? -> Rep F a V -> h a = some c -> wpAny C.M A (t V) (PR F s c) (fun _ _ => False) s
noncomputable def Op2 (C : Cx) (n : Nat) (t : Value -> Value -> Sem Value) (h : PV -> PV -> Option PV) : Prop :=
 ∀ A F s a V b W c, AL n A -> PH.le F s.heap.get? -> PH.le C.P0 s.heap.get? -> Rep F a V -> Rep F b W -> h a b = some c -> wpAny C.M A (t V W) (PR F s c) (fun _ _ => False) s
noncomputable def OpN (C : Cx) (n : Nat) (t : List Value -> Sem Value) (h : List PV -> Option PV) : Prop :=
 ∀ A F s as Vs c, AL n A -> PH.le F s.heap.get? -> PH.le C.P0 s.heap.get? -> RepL F as Vs -> h as = some c -> wpAny C.M A (t Vs) (PR F s c) (fun _ _ => False) s
end
section
variable {C : Cx} {X : zj}
theorem lt4 {i : Nat} (h : i < 4) : i = 0 \/ i = 1 \/ i = 2 \/ i = 3 := (by decide : ∀ i, i < 4 -> (i = 0 \/ i = 1 \/ i = 2 \/ i = 3)) i h
theorem lt5 {i : Nat} (h : i < 5) : i = 0 \/ i = 1 \/ i = 2 \/ i = 3 \/ i = 4 := (by decide : ∀ i, i < 5 -> (i = 0 \/ i = 1 \/ i = 2 \/ i = 3 \/ i = 4)) i h
theorem lt8 {x : Nat} (h : x < 8) : 65 + x < 1114112 := Nat.lt_trans (Nat.add_lt_add_left h 65) (by decide)
theorem all_ls {P : Nat -> Prop} {n : Nat} (h : ∀ k, k < n -> P k) (p : P n) : ∀ k, k < n + 1 -> P k := fun k hk => (Nat.lt_succ_iff_lt_or_eq.mp hk).elim (h k) (fun e => e ▸ p)
theorem i1 {γ : Type} {p : Prop} [Decidable p] {a : Option γ} {r : γ} {G : Prop} (h : (if p then a else none) = some r) (c : p -> a = some r -> G) : G := by
 by_cases q : p
 ·rw [if_pos q] at h; exact c q h
 ·refine nG fun ng => ?_
  rw [if_neg q] at h; cases h
@[elab_as_elim] theorem pf {α β : Type} {a b : α} {c d : β} {G : α -> β -> Prop} (h : some (a, c) = some (b, d)) (g : G a c) : G b d := by cases h; exact g
@[elab_as_elim] theorem pe {α : Type} {a b : α} {G : α -> Prop} (h : some a = some b) (g : G a) : G b := by cases h; exact g
theorem ivII {γ : Type} {r : γ} {G : Prop} {p q : PV} {k : Int -> Int -> Option γ} (h : (match p, q with | .int a, .int b => k a b | _, _ => none) = some r) (c : ∀ a b, p = .int a -> q = .int b -> k a b = some r -> G) : G := by
 refine nG fun ng => ?_
 split at h
 ·refine ng ?_
  clear ng
  exact c _ _ rfl rfl h
 ·cases h
theorem iv1i {γ : Type} {r : γ} {G : Prop} {o : List PV} {k : Int -> Option γ} (h : (match o with | [.int a] => k a | _ => none) = some r) (c : ∀ a, o = [.int a] -> k a = some r -> G) : G := by
 refine nG fun ng => ?_
 split at h
 ·refine ng ?_
  clear ng
  exact c _ rfl h
 ·cases h
theorem iv1l {γ : Type} {r : γ} {G : Prop} {o : List PV} {k : List PV -> Option γ} (h : (match o with | [.list a] => k a | _ => none) = some r) (c : ∀ a, o = [.list a] -> k a = some r -> G) : G := by
 refine nG fun ng => ?_
 split at h
 ·refine ng ?_
  clear ng
  exact c _ rfl h
 ·cases h
theorem ivP {γ : Type} {r : γ} {G : Prop} {o : Option (PV × List zA)} {k : PV -> List zA -> Option γ} (h : (match o with | some (p, σ) => k p σ | none => none) = some r) (c : ∀ p σ, o = some (p, σ) -> k p σ = some r -> G) : G := by
 cases o with
 | none => cases h
 | some x => exact c x.1 x.2 rfl h
theorem ivL {γ : Type} {r : γ} {G : Prop} {o : Option (List PV × List zA)} {k : List PV -> List zA -> Option γ} (h : (match o with | some (p, σ) => k p σ | none => none) = some r) (c : ∀ p σ, o = some (p, σ) -> k p σ = some r -> G) : G := by
 cases o with
 | none => cases h
 | some x => exact c x.1 x.2 rfl h
theorem ivA {γ : Type} {r : γ} {G : Prop} {o : Option (AV × List zA)} {k : AV -> List zA -> Option γ} (h : (match o with | some (p, σ) => k p σ | none => none) = some r) (c : ∀ p σ, o = some (p, σ) -> k p σ = some r -> G) : G := by
 cases o with
 | none => cases h
 | some x => exact c x.1 x.2 rfl h
theorem ivS {γ : Type} {r : γ} {G : Prop} {o : Option (List zA)} {k : List zA -> Option γ} (h : (match o with | some σ => k σ | none => none) = some r) (c : ∀ σ, o = some σ -> k σ = some r -> G) : G := by
 cases o with
 | none => cases h
 | some x => exact c x rfl h
theorem ivV {γ : Type} {r : γ} {G : Prop} {o : Option PV} {k : PV -> Option γ} (h : (match o with | some p => k p | none => none) = some r) (c : ∀ p, o = some p -> k p = some r -> G) : G := by
 cases o with
 | none => cases h
 | some x => exact c x rfl h
theorem ivI {γ : Type} {r : γ} {G : Prop} {o : Option (List Int)} {k : List Int -> Option γ} (h : (match o with | some l => k l | none => none) = some r) (c : ∀ l, o = some l -> k l = some r -> G) : G := by
 cases o with
 | none => cases h
 | some x => exact c x rfl h
theorem ivPL {γ : Type} {r : γ} {G : Prop} {o : Option (List PV)} {k : List PV -> Option γ} (h : (match o with | some l => k l | none => none) = some r) (c : ∀ l, o = some l -> k l = some r -> G) : G := by
 cases o with
 | none => cases h
 | some x => exact c x rfl h
theorem ivFr {γ : Type} {r : γ} {G : Prop} {o : Option zA} {k : List (Option AV) -> Option γ} (h : (match o with | some (.frame vs) => k vs | _ => none) = some r) (c : ∀ vs, o = some (.frame vs) -> k vs = some r -> G) : G := by
 cases o with
 | none => cases h
 | some x => cases x <;> first | exact c _ rfl h | cases h
theorem ivAt {γ : Type} {r : γ} {G : Prop} {o : Option zA} {k : List (Option AV) -> Option γ} (h : (match o with | some (.attrs vs) => k vs | _ => none) = some r) (c : ∀ vs, o = some (.attrs vs) -> k vs = some r -> G) : G := by
 cases o with
 | none => cases h
 | some x => cases x <;> first | exact c _ rfl h | cases h
theorem ivCe {γ : Type} {r : γ} {G : Prop} {o : Option zA} {k : Option AV -> Option γ} (h : (match o with | some (.cell v) => k v | _ => none) = some r) (c : ∀ v, o = some (.cell v) -> k v = some r -> G) : G := by
 cases o with
 | none => cases h
 | some x => cases x <;> first | exact c _ rfl h | cases h
theorem ivLst {γ : Type} {r : γ} {G : Prop} {o : Option zA} {k : List PV -> Option γ} (h : (match o with | some (.lst v) => k v | _ => none) = some r) (c : ∀ v, o = some (.lst v) -> k v = some r -> G) : G := by
 cases o with
 | none => cases h
 | some x => cases x <;> first | exact c _ rfl h | cases h
theorem ivO {γ : Type} {r : γ} {G : Prop} {o : Option (AV × List zA)} {k : Nat -> List zA -> Option γ} (h : (match o with | some (.obj i, σ) => k i σ | _ => none) = some r) (c : ∀ i σ, o = some (.obj i, σ) -> k i σ = some r -> G) : G := by
 refine nG fun ng => ?_
 rcases o with _ | ⟨_ | _, _⟩
 ·cases h
 ·cases h
 ·refine ng ?_
  clear ng
  exact c _ _ rfl h
theorem ivAr {γ : Type} {r : γ} {G : Prop} {o : Option (AV × List zA)} {k : Addr -> List zA -> Option γ} (h : (match o with | some (.imm (.ref a), σ) => k a σ | _ => none) = some r) (c : ∀ a σ, o = some (.imm (.ref a), σ) -> k a σ = some r -> G) : G := by
 refine nG fun ng => ?_
 rcases o with _ | ⟨_ | _, _⟩
 ·cases h
 ·refine ng ?_
  clear ng
  rename_i p; cases p <;> first | exact c _ _ rfl h | cases h
 ·cases h
theorem ivOV {γ : Type} {r : γ} {G : Prop} {o : Option (Option AV)} {k : AV -> Option γ} (h : (match o with | some (some v) => k v | _ => none) = some r) (c : ∀ v, o = some (some v) -> k v = some r -> G) : G := by
 refine nG fun ng => ?_
 rcases o with _ | ⟨_ | _⟩
 ·cases h
 ·cases h
 ·refine ng ?_
  clear ng
  exact c _ rfl h
noncomputable def zC (fi j : Nat) : CC AV := fun σ => match σ[fi]? with
 | some (.frame vs) => (match vs[j]? with | some (some v) => some (v, σ) | _ => none)
 | _ => none
noncomputable def zK (i : Nat) : CC AV := fun σ => match σ[i]? with
 | some (.cell (some v)) => some (v, σ)
 | _ => none
noncomputable def cP (p : PV) : CC AV := fun σ => some (.imm p, σ)
theorem Nx.refl {F P : PH} {ρ : Nat -> Addr} {σ : List zA} {s : Shared} (I : zb C X.N F P ρ σ s.heap) : Nx C X F P ρ s F ρ σ s := ⟨I, .refl, fun _ _ => rfl⟩
theorem Nx.toks {F P : PH} {ρ : Nat -> Addr} {s : Shared} {F' : PH} {ρ' : Nat -> Addr} {σ' : List zA} {s' : Shared} {t : Nat} (x : Nx C X F P ρ s F' ρ' σ' s') : Nx C X F P ρ s F' ρ' σ' { s' with toks := t } :=
 ⟨x.inv, x.pu.trans ⟨.oft, .refl _, fun _ _ => rfl⟩, x.rho⟩
theorem cLoc_eq {fi j : Nat} {σ σ' : List zA} {v : AV} (h : zC fi j σ = some (v, σ')) : σ' = σ /\ ∃ vs, σ[fi]? = some (.frame vs) /\ vs[j]? = some (some v) := by
 unfold zC at h
 refine nG fun ng => ?_
 refine ivFr h ?_; clear h; intro vs e h
 refine ivOV h ?_; clear h; intro w e' h
 refine ng ?_
 clear ng
 cases h; exact ⟨rfl, vs, e, e'⟩
theorem cCell_eq {i : Nat} {σ σ' : List zA} {v : AV} (h : zK i σ = some (v, σ')) : σ' = σ /\ σ[i]? = some (.cell (some v)) := by
 unfold zK at h
 refine nG fun ng => ?_
 split at h
 ·refine ng ?_
  clear ng
  rename_i w e; cases h; exact ⟨rfl, e⟩
 ·cases h
theorem load_loc {A : Around} {env : Env} {x : Str} {j : Nat} {F P : PH} {ρ : Nat -> Addr} {σ σ' : List zA} {s : Shared} {v : AV} {Q : Value -> Shared -> Prop}
  (hk : X.scope.names.lookup x = some .local) (hj : (X.N X.fi)[j]? = some x) (E : zZ X ρ env) (I : zb C X.N F P ρ σ s.heap) (hf : zC X.fi j σ = some (v, σ')) (h : ∀ V, σ' = σ -> AVRep F ρ v V -> Q V s) :
  wpAny C.M A (loadName env x) Q (fun _ _ => False) s := by
 refine nG fun ng => ?_
 obtain ⟨rfl, vs, e1, e2⟩ := cLoc_eq hf
 obtain ⟨m, hn, hfr⟩ := I.ob _ _ e1
 obtain ⟨V, hm, hr⟩ := hfr.2 j x v hj e2
 refine ng ?_
 clear ng
 refine wpAny_loadName_local (by rw [E.scope]; exact E.kind) (by show env.scope.names.lookup x = _; rw [E.scope]; exact hk) (E.loc ▸ hn) hm (h V rfl hr)
theorem load_cell {A : Around} {env : Env} {x : Str} {i : Nat} {F P : PH} {ρ : Nat -> Addr} {σ σ' : List zA} {s : Shared} {v : AV} {Q : Value -> Shared -> Prop}
  (hk : X.scope.names.lookup x = some .cell \/ X.scope.names.lookup x = some .free) (hj : X.cells.lookup x = some i) (hn : (x == ("__classdict__" : Str)) = false) (E : zZ X ρ env) (I : zb C X.N F P ρ σ s.heap) (hf : zK i σ = some (v, σ')) (h : ∀ V, σ' = σ -> AVRep F ρ v V -> Q V s) :
  wpAny C.M A (loadName env x) Q (fun _ _ => False) s := by
 refine nG fun ng => ?_
 obtain ⟨rfl, e1⟩ := cCell_eq hf
 obtain ⟨V, hc, hr⟩ := I.ob _ _ e1
 obtain ⟨W, rfl, hr'⟩ := hr _ rfl
 rcases hk with hk | hk
 ·refine ng ?_
  clear ng
  exact wpAny_loadName_cell (by rw [E.scope]; exact E.kind) (by show env.scope.names.lookup x = _; rw [E.scope]; exact hk) (E.cells _ _ hj) hc (h W rfl hr')
 ·refine ng ?_
  clear ng
  exact wpAny_loadName_free (by rw [E.scope]; exact E.kind) (by show env.scope.names.lookup x = _; rw [E.scope]; exact hk) (E.cells _ _ hj) hc (h W rfl hr') hn
theorem ev_loc {x : Str} {pos : Pos} (j : Nat) (hk : X.scope.names.lookup x = some .local := by rfl) (hj : (X.N X.fi)[j]? = some x := by rfl) (hd : (x == ("__debug__" : Str)) = false := by decide +kernel) :
  EvOK C X (.Name x pos) (zC X.fi j) := by
 intro A env F P ρ σ s v σ' hA E I hf
 exact wpAny_Name (load_loc hk hj E I hf fun V e hr => by subst e; exact ⟨F, ρ, .refl I, hr⟩) hd
theorem ev_cell {x : Str} {pos : Pos} (i : Nat) (hk : X.scope.names.lookup x = some .cell \/ X.scope.names.lookup x = some .free := by first | exact .inl rfl | exact .inr rfl) (hj : X.cells.lookup x = some i := by rfl) (hd : (x == ("__debug__" : Str)) = false := by decide +kernel)
  (hn : (x == ("__classdict__" : Str)) = false := by decide +kernel) : EvOK C X (.Name x pos) (zK i) := by
 intro A env F P ρ σ s v σ' hA E I hf
 exact wpAny_Name (load_cell hk hj hn E I hf fun V e hr => by subst e; exact ⟨F, ρ, .refl I, hr⟩) hd
theorem load_glob {A : Around} {env : Env} {x : Str} {F P : PH} {ρ : Nat -> Addr} {σ : List zA} {s : Shared} {V : Value} {Q : Value -> Shared -> Prop}
  (hk : X.scope.names.lookup x = some .globalImplicit) (hg : C.mg x = some V) (E : zZ X ρ env) (I : zb C X.N F P ρ σ s.heap) (h : Q V s) : wpAny C.M A (loadName env x) Q (fun _ _ => False) s := by
 rw [loadName_read (by rw [E.scope]; exact E.kind) (by show env.scope.names.lookup x = _; rw [E.scope]; exact hk)]
 exact loadGlobal_global (E.glob ▸ I.ns) hg h
theorem load_blt {A : Around} {env : Env} {x : Str} {F P : PH} {ρ : Nat -> Addr} {σ : List zA} {s : Shared} {V : Value} {Q : Value -> Shared -> Prop}
  (hk : X.scope.names.lookup x = some .globalImplicit) (hg : C.mg x = none) (hb : bootBuiltins x = some V) (hx : x ≠ ("__name__" : Str)) (E : zZ X ρ env) (I : zb C X.N F P ρ σ s.heap) (h : Q V s) : wpAny C.M A (loadName env x) Q (fun _ _ => False) s := by
 rw [loadName_read (by rw [E.scope]; exact E.kind) (by show env.scope.names.lookup x = _; rw [E.scope]; exact hk)]
 exact loadGlobal_builtin (E.glob ▸ I.ns) hg (E.blt ▸ I.bns) (C.blt _ _ hx hb) h
theorem ev_glob {x : Str} {pos : Pos} {V : Value} {p : PV} (hg : C.mg x = some V) (hr : ∀ F, Rep F p V) (hk : X.scope.names.lookup x = some .globalImplicit := by rfl) (hd : (x == ("__debug__" : Str)) = false := by decide +kernel) :
  EvOK C X (.Name x pos) (cP p) := by
 intro A env F P ρ σ s v σ' hA E I hf
 refine nG fun ng => ?_
 cases hf
 refine ng ?_
 clear ng
 exact wpAny_Name (load_glob hk hg E I ⟨F, ρ, .refl I, hr F⟩) hd
theorem ev_int {i : Int} {k : Nat} {pos : Pos} : EvOK C X (.Constant (.int i) k pos) (cP (.int i)) := by
 intro A env F P ρ σ s v σ' hA E I hf
 refine nG fun ng => ?_
 cases hf
 refine ng ?_
 clear ng
 exact wpAny_Constant_int ⟨F, ρ, (Nx.refl I).toks, .int _ _⟩
theorem ev_none {k : Nat} {pos : Pos} : EvOK C X (.Constant .none k pos) (cP .none) := by
 intro A env F P ρ σ s v σ' hA E I hf
 refine nG fun ng => ?_
 cases hf
 refine ng ?_
 clear ng
 exact wpAny_Constant_none ⟨F, ρ, Nx.refl I, .none⟩
theorem ev_bool {b : Bool} {k : Nat} {pos : Pos} : EvOK C X (.Constant (.bool b) k pos) (cP (.bool b)) := by
 intro A env F P ρ σ s v σ' hA E I hf
 refine nG fun ng => ?_
 cases hf
 refine ng ?_
 clear ng
 exact wpAny_Constant_bool ⟨F, ρ, Nx.refl I, .bool b⟩
theorem ev_str {x : Str} {k : Nat} {pos : Pos} (l : List Nat) (hl : x = ⟨l.toArray⟩ := by decide +kernel) : EvOK C X (.Constant (.str x) k pos) (cP (.str l)) := by
 intro A env F P ρ σ s v σ' hA E I hf
 refine nG fun ng => ?_
 cases hf
 subst hl
 refine ng ?_
 clear ng
 exact wpAny_Constant_str ⟨F, ρ, (Nx.refl I).toks, .str _ _⟩
theorem ev_bytes {b : List UInt8} {k : Nat} {pos : Pos} : EvOK C X (.Constant (.bytes b) k pos) (cP (.bytes b)) := by
 intro A env F P ρ σ s v σ' hA E I hf
 refine nG fun ng => ?_
 cases hf
 refine ng ?_
 clear ng
 show wpAny C.M A (mkTextBytes b.toArray) _ _ s
 exact wpAny_bind (wpAny_fresh (wpAny_pure ⟨F, ρ, (Nx.refl I).toks, .bytes _ _⟩))
noncomputable def EvP (C : Cx) (X : zj) (e : Expr) (f : CC PV) : Prop :=
 ∀ A env F P ρ σ s v σ', AL X.n A -> zZ X ρ env -> zb C X.N F P ρ σ s.heap -> f σ = some (v, σ') ->
  wpAny C.M A (eval e env) (PoV C X F P ρ s σ' v) (fun _ _ => False) s
theorem zb.freeze {N : Nat -> List Str} {F P : PH} {ρ : Nat -> Addr} {σ : List zA} {h : Heap} {i : Nat} {xs : List PV} (I : zb C N F P ρ σ h) (e : σ[i]? = some (.lst xs)) :
  ∃ F', zb C N F' P ρ (σ.set i (.frozen (.list xs))) h /\ PH.le F F' /\ (∀ a, P a ≠ none -> F' a = F a) /\ Rep F' (.list xs) (.ref (ρ i)) := by
 have hfr := I.fr i _ e rfl
 refine nG fun ng => ?_
 obtain ⟨vs, ⟨n, ho⟩, hl, hr⟩ := I.ob i _ e
 generalize ho' : ({ cls := .type "list", data := .seq vs.toArray n } : Obj) = o at ho
 have il : i < σ.length := (List.getElem?_eq_some_iff.mp e).1
 refine ng ?_
 clear ng
 let F' : PH := fun a => if a = ρ i then some o else F a
 have le : PH.le F F' := fun a o' e' => by
  show (if a = ρ i then some o else F a) = _
  by_cases q : a = ρ i
  ·rw [q, hfr.1] at e'; cases e'
  ·rw [if_neg q]; exact e'
 have at' : F' (ρ i) = some o := if_pos rfl
 have off : ∀ a, a ≠ ρ i -> F' a = F a := fun a q => if_neg q
 refine ⟨F', ⟨fun a o' e' => ?_, I.p, I.top, fun j o' e' => ?_, fun j o' e' l => ?_, fun j k o' o'' e' e'' l l' q => ?_⟩, le, fun a q => off a fun z => ?_, .list (at'.trans (congrArg some ho'.symm)) hl (hr.mono le)⟩
 ·by_cases q : a = ρ i
  ·subst q; rw [at'] at e'; cases e'; exact ho
  ·rw [off a q] at e'; exact I.f a o' e'
 ·by_cases q : i = j
  ·subst q; rw [List.getElem?_set_self il] at e'; cases e'; exact .list (at'.trans (congrArg some ho'.symm)) hl (hr.mono le)
  ·rw [List.getElem?_set_ne q] at e'; exact (I.ob j o' e').mono le fun _ x => x
 ·by_cases q : i = j
  ·refine nG fun ng => ?_
   subst q; rw [List.getElem?_set_self il] at e'; cases e'; cases l
  ·rw [List.getElem?_set_ne q] at e'
   have := I.fr j o' e' l
   exact ⟨(off _ fun z => q (I.inj _ _ _ _ e' e l rfl z).symm).trans this.1, this.2⟩
 ·have g : ∀ (j : Nat) (o' : zA), (σ.set i (.frozen (.list xs)))[j]? = some o' -> o'.live = true -> σ[j]? = some o' := fun j o' e' l => by
   by_cases q : i = j
   ·subst q; rw [List.getElem?_set_self il] at e'; cases e'; cases l
   ·rw [List.getElem?_set_ne q] at e'; exact e'
  exact I.inj j k o' o'' (g _ _ e' l) (g _ _ e'' l') l l' q
 ·exact q (z ▸ hfr.2)
theorem zb.view {N : Nat -> List Str} {F P : PH} {ρ : Nat -> Addr} {σ : List zA} {h : Heap} {i : Nat} {xs : List PV} (I : zb C N F P ρ σ h) (e : σ[i]? = some (.lst xs)) :
  ∃ F', PH.le F F' /\ PH.le F' h.get? /\ Rep F' (.list xs) (.ref (ρ i)) :=
 let ⟨F', I', a, _, c⟩ := I.freeze e; ⟨F', a, I'.f, c⟩
noncomputable def frz (a : AV) (σ : List zA) : Option (PV × List zA) := match a with
 | .imm p => some (p, σ)
 | .obj i => (match σ[i]? with | some (.lst xs) => some (.list xs, σ.set i (.frozen (.list xs))) | some (.frozen p) => some (p, σ) | _ => none)
noncomputable def zE (f : CC AV) : CC PV := fun σ => match f σ with | some (a, σ') => frz a σ' | none => none
theorem frz_ok {F P : PH} {ρ : Nat -> Addr} {s : Shared} {F' : PH} {ρ' : Nat -> Addr} {σ' σ'' : List zA} {s' : Shared} {a : AV} {V : Value} {p : PV} (n : Nx C X F P ρ s F' ρ' σ' s') (r : AVRep F' ρ' a V) (h : frz a σ' = some (p, σ'')) :
  ∃ F'', Nx C X F P ρ s F'' ρ' σ'' s' /\ Rep F'' p V := by
 cases a with
 | imm q => cases h; exact ⟨F', n, r⟩
 | obj i =>
  unfold frz at h
  dsimp only at h
  refine nG fun ng => ?_
  split at h
  ·rename_i xs e
   cases h
   have hV : V = .ref (ρ' i) := r
   subst hV
   obtain ⟨F'', I, le, ag, rr⟩ := n.inv.freeze e
   refine ng ?_
   clear ng
   exact ⟨F'', ⟨I, n.pu.trans ⟨.refl _, le, ag⟩, n.rho⟩, rr⟩
  ·rename_i q e
   cases h
   have hV : V = .ref (ρ' i) := r
   subst hV
   refine ng ?_
   clear ng
   exact ⟨F', n, n.inv.ob _ _ e⟩
  ·cases h
theorem evp {e : Expr} {f : CC AV} (h : EvOK C X e f) : EvP C X e (zE f) := by
 intro A env F P ρ σ s v σ' hA E I hf
 unfold zE at hf
 refine nG fun ng => ?_
 refine ivA hf ?_; clear hf; intro a σ1 e1 hf
 refine ng ?_
 clear ng
 exact wpAny_mono (h A env F P ρ σ s a σ1 hA E I e1) (fun V s' ⟨F', ρ', n, r⟩ => let ⟨F'', n', r'⟩ := frz_ok n r hf; ⟨F'', ρ', n', r'⟩) fun _ _ x => x
noncomputable def zX (f : CC PV) : CC AV := fun σ => match f σ with | some (p, σ') => some (.imm p, σ') | none => none
theorem cImm_eq {f : CC PV} {σ σ' : List zA} {v : AV} (h : zX f σ = some (v, σ')) : ∃ p, v = .imm p /\ f σ = some (p, σ') := by
 unfold zX at h
 refine nG fun ng => ?_
 refine ivP h ?_; clear h; intro p σ1 e h
 refine ng ?_
 clear ng
 cases h; exact ⟨p, rfl, e⟩
theorem yC {e : Expr} {f : CC PV} (h : EvP C X e f) : EvOK C X e (zX f) := by
 intro A env F P ρ σ s v σ' hA E I hf
 refine nG fun ng => ?_
 obtain ⟨p, rfl, hf'⟩ := cImm_eq hf
 refine ng ?_
 clear ng
 exact wpAny_mono (h A env F P ρ σ s p σ' hA E I hf') (fun V s' ⟨F1, ρ1, n₁, r₁⟩ => ⟨F1, ρ1, n₁, r₁⟩) fun _ _ x => x
noncomputable def zh (h : PV -> PV -> Option PV) (f g : CC PV) : CC PV := fun σ => match f σ with
 | some (a, σ1) => (match g σ1 with
  | some (b, σ₂) => (match h a b with | some c => some (c, σ₂) | none => none)
  | none => none)
 | none => none
theorem cBin_eq {h : PV -> PV -> Option PV} {f g : CC PV} {σ σ' : List zA} {c : PV} (e : zh h f g σ = some (c, σ')) : ∃ a b σ1, f σ = some (a, σ1) /\ g σ1 = some (b, σ') /\ h a b = some c := by
 unfold zh at e
 refine nG fun ng => ?_
 refine ivP e ?_; clear e; intro a σ1 e1 e
 refine ivP e ?_; clear e; intro b σ₂ e2 e
 refine ivV e ?_; clear e; intro c' e3 e
 refine ng ?_
 clear ng
 cases e; exact ⟨a, b, σ1, e1, e2, e3⟩
theorem evp_bin {l r : Expr} {op : Operator} {pos : Pos} {f g : CC PV} {h : PV -> PV -> Option PV} (ho : Op2 C X.n (binaryOp op) h) (hl : EvP C X l f) (hr : EvP C X r g) : EvP C X (.BinOp l op r pos) (zh h f g) := by
 intro A env F P ρ σ s v σ' hA E I hf
 refine nG fun ng => ?_
 obtain ⟨a, b, σ1, e1, e2, e3⟩ := cBin_eq hf
 refine ng ?_
 clear ng
 refine wpAny_BinOp (wpAny_mono (hl A env F P ρ σ s a σ1 hA E I e1) (fun V s₁ zq => ?_) fun _ _ x => x)
 obtain ⟨F1, ρ1, n₁, r₁⟩ := zq
 refine wpAny_mono (hr A env F1 P ρ1 σ1 s₁ b σ' hA (n₁.env E) n₁.inv e2) (fun W s₂ zq => ?_) fun _ _ x => x
 obtain ⟨F2, ρ₂, n₂, r₂⟩ := zq
 refine wpAny_mono (ho A F2 s₂ a V b W v hA n₂.inv.f (n₂.inv.top.trans n₂.inv.p) (r₁.mono n₂.pu.le) r₂ e3) (fun U s₃ pr => ?_) fun _ _ x => x
 refine nG fun ng => ?_
 obtain ⟨F3, n₃, r₃⟩ := pr.next n₂.inv
 refine ng ?_
 clear ng
 exact ⟨F3, ρ₂, (n₁.trans n₂).trans n₃, r₃⟩
noncomputable def cUn (h : PV -> Option PV) (f : CC PV) : CC PV := fun σ => match f σ with
 | some (a, σ1) => (match h a with | some c => some (c, σ1) | none => none)
 | none => none
theorem cUn_eq {h : PV -> Option PV} {f : CC PV} {σ σ' : List zA} {c : PV} (e : cUn h f σ = some (c, σ')) : ∃ a, f σ = some (a, σ') /\ h a = some c := by
 unfold cUn at e
 refine nG fun ng => ?_
 refine ivP e ?_; clear e; intro a σ1 e1 e
 refine ivV e ?_; clear e; intro c' e3 e
 refine ng ?_
 clear ng
 cases e; exact ⟨a, e1, e3⟩
theorem evp_un {x : Expr} {op : UnaryOp} {pos : Pos} {f : CC PV} {h : PV -> Option PV} (ho : Op1 C X.n (unaryOp op) h) (hl : EvP C X x f) : EvP C X (.UnaryOp op x pos) (cUn h f) := by
 intro A env F P ρ σ s v σ' hA E I hf
 refine nG fun ng => ?_
 obtain ⟨a, e1, e3⟩ := cUn_eq hf
 refine ng ?_
 clear ng
 refine wpAny_UnaryOp (wpAny_mono (hl A env F P ρ σ s a σ' hA E I e1) (fun V s₂ zq => ?_) fun _ _ x => x)
 obtain ⟨F2, ρ₂, n₂, r₂⟩ := zq
 refine wpAny_mono (ho A F2 s₂ a V v hA n₂.inv.f (n₂.inv.top.trans n₂.inv.p) r₂ e3) (fun U s₃ pr => ?_) fun _ _ x => x
 refine nG fun ng => ?_
 obtain ⟨F3, n₃, r₃⟩ := pr.next n₂.inv
 refine ng ?_
 clear ng
 exact ⟨F3, ρ₂, n₂.trans n₃, r₃⟩
noncomputable def PV.flat : PV -> Bool
 | .int _ => true
 | .bool _ => true
 | .none => true
 | .str _ => true
 | .bytes _ => true
 | _ => false
theorem Rep.ofFlat {F G : PH} {p : PV} {V : Value} (r : Rep F p V) (h : p.flat = true) : Rep G p V := by
 cases r <;> first | (cases h; done) | exact .none | exact .bool _ | exact .int _ _ | exact .str _ _ | exact .bytes _ _
noncomputable def look (a : AV) (σ : List zA) : Option PV := match a with
 | .imm p => some p
 | .obj i => (match σ[i]? with | some (.lst xs) => some (.list xs) | some (.frozen p) => some p | _ => none)
theorem look_ok {N : Nat -> List Str} {F P : PH} {ρ : Nat -> Addr} {σ : List zA} {h : Heap} {a : AV} {V : Value} {p : PV} (I : zb C N F P ρ σ h) (r : AVRep F ρ a V) (e : look a σ = some p) : ∃ F', PH.le F F' /\ PH.le F' h.get? /\ Rep F' p V := by
 cases a with
 | imm q => cases e; exact ⟨F, .refl F, I.f, r⟩
 | obj i =>
  unfold look at e
  dsimp only at e
  refine nG fun ng => ?_
  split at e
  ·rename_i xs e1
   cases e
   have hV : V = .ref (ρ i) := r
   subst hV
   refine ng ?_
   clear ng
   exact I.view e1
  ·rename_i q e1
   cases e
   have hV : V = .ref (ρ i) := r
   subst hV
   refine ng ?_
   clear ng
   exact ⟨F, .refl F, I.f, I.ob _ _ e1⟩
  ·cases e
theorem PR.flatNext {F F₀ P : PH} {ρ : Nat -> Addr} {σ : List zA} {s : Shared} {c : PV} {U : Value} {s' : Shared} (I : zb C X.N F₀ P ρ σ s.heap) (x : PR F s c U s') (hc : c.flat = true) : Nx C X F₀ P ρ s F₀ ρ σ s' /\ Rep F₀ c U := by
 refine nG fun ng => ?_
 obtain ⟨k, g, F', a, b, d, r⟩ := x
 refine ng ?_
 clear ng
 exact ⟨⟨I.kept k, ⟨g, .refl _, fun _ _ => rfl⟩, fun _ _ => rfl⟩, r.ofFlat hc⟩
noncomputable def zM (h : PV -> PV -> Option PV) (f : CC PV) (g : CC AV) : CC PV := fun σ => match f σ with
 | some (a, σ1) => (match g σ1 with
  | some (b, σ₂) => (match look b σ₂ with
   | some b' => (match h a b' with | some c => if c.flat then some (c, σ₂) else none | none => none)
   | none => none)
  | none => none)
 | none => none
inductive BinVE (h : PV -> PV -> Option PV) (f : CC PV) (g : CC AV) (σ σ' : List zA) (c : PV) : Prop where
 | mk (a : PV) (b : AV) (σ1 : List zA) (b' : PV) (h1 : f σ = some (a, σ1)) (h2 : g σ1 = some (b, σ')) (h3 : look b σ' = some b') (h4 : h a b' = some c) (h5 : c.flat = true) : BinVE h f g σ σ' c
theorem cBinV_eq {h : PV -> PV -> Option PV} {f : CC PV} {g : CC AV} {σ σ' : List zA} {c : PV} (e : zM h f g σ = some (c, σ')) : BinVE h f g σ σ' c := by
 unfold zM at e
 refine nG fun ng => ?_
 refine ivP e ?_; clear e; intro a σ1 e1 e
 refine ivA e ?_; clear e; intro b σ₂ e2 e
 refine ivV e ?_; clear e; intro b' e3 e
 refine ivV e ?_; clear e; intro c' e4 e
 refine i1 e ?_; clear e; intro hc e
 refine ng ?_
 clear ng
 cases e; exact ⟨a, b, σ1, b', e1, e2, e3, e4, hc⟩
theorem evp_cmp {l r : Expr} {op : CmpOp} {pos : Pos} {f : CC PV} {g : CC AV} {h : PV -> PV -> Option PV} (ho : Op2 C X.n (compareOp op) h) (hl : EvP C X l f) (hr : EvOK C X r g) (hm : behindInMarks op r = false := by with_unfolding_all rfl) :
  EvP C X (.Compare l [op] [r] pos) (zM h f g) := by
 intro A env F P ρ σ s v σ' hA E I hf
 refine nG fun ng => ?_
 obtain ⟨a, b, σ1, b', e1, e2, e3, e4, hc⟩ := cBinV_eq hf
 refine ng ?_
 clear ng
 refine wpAny_Compare1 (wpAny_mono (hl A env F P ρ σ s a σ1 hA E I e1) (fun V s₁ zq => ?_) fun _ _ x => x) hm
 obtain ⟨F1, ρ1, n₁, r₁⟩ := zq
 refine wpAny_mono (hr A env F1 P ρ1 σ1 s₁ b σ' hA (n₁.env E) n₁.inv e2) (fun W s₂ zq => ?_) fun _ _ x => x
 refine nG fun ng => ?_
 obtain ⟨F2, ρ₂, n₂, r₂⟩ := zq
 obtain ⟨F', le, le', rb⟩ := look_ok n₂.inv r₂ e3
 refine ng ?_
 clear ng
 refine wpAny_mono (ho A F' s₂ a V b' W v hA le' (n₂.inv.top.trans n₂.inv.p) ((r₁.mono n₂.pu.le).mono le) rb e4) (fun U s₃ pr => ?_) fun _ _ x => x
 refine nG fun ng => ?_
 obtain ⟨n₃, r₃⟩ := pr.flatNext n₂.inv hc
 refine ng ?_
 clear ng
 exact ⟨F2, ρ₂, (n₁.trans n₂).trans n₃, r₃⟩
noncomputable def zP (f : CC PV) : CC Bool := fun σ => match f σ with | some (.bool b, σ') => some (b, σ') | _ => none
theorem cTest_eq {f : CC PV} {σ σ' : List zA} {b : Bool} (h : zP f σ = some (b, σ')) : f σ = some (.bool b, σ') := by
 unfold zP at h
 refine nG fun ng => ?_
 split at h
 ·refine ng ?_
  clear ng
  rename_i b' σ1 e; cases h; exact e
 ·cases h
theorem ts_cmp {l r : Expr} {op : CmpOp} {pos : Pos} {f : CC PV} {g : CC AV} {h : PV -> PV -> Option PV} (ho : Op2 C X.n (compareOp op) h) (hl : EvP C X l f) (hr : EvOK C X r g) (hm : behindInMarks op r = false := by with_unfolding_all rfl) :
  TsOK C X (.Compare l [op] [r] pos) (zP (zM h f g)) := by
 intro A env F P ρ σ s v σ' hA E I hf
 refine nG fun ng => ?_
 obtain ⟨a, b, σ1, b', e1, e2, e3, e4, hc⟩ := cBinV_eq (cTest_eq hf)
 refine ng ?_
 clear ng
 refine wpAny_isTrue_Compare1 (wpAny_mono (hl A env F P ρ σ s a σ1 hA E I e1) (fun V s₁ zq => ?_) fun _ _ x => x) hm
 obtain ⟨F1, ρ1, n₁, r₁⟩ := zq
 refine wpAny_mono (hr A env F1 P ρ1 σ1 s₁ b σ' hA (n₁.env E) n₁.inv e2) (fun W s₂ zq => ?_) fun _ _ x => x
 refine nG fun ng => ?_
 obtain ⟨F2, ρ₂, n₂, r₂⟩ := zq
 obtain ⟨F', le, le', rb⟩ := look_ok n₂.inv r₂ e3
 refine ng ?_
 clear ng
 refine wpAny_mono (ho A F' s₂ a V b' W (.bool v) hA le' (n₂.inv.top.trans n₂.inv.p) ((r₁.mono n₂.pu.le).mono le) rb e4) (fun U s₃ pr => ?_) fun _ _ x => x
 refine nG fun ng => ?_
 obtain ⟨n₃, r₃⟩ := pr.flatNext n₂.inv hc
 cases r₃
 refine ng ?_
 clear ng
 exact wpAny_truthy_bool ⟨rfl, F2, ρ₂, (n₁.trans n₂).trans n₃⟩
noncomputable def cNot (f : CC Bool) : CC Bool := fun σ => match f σ with | some (b, σ') => some (!b, σ') | none => none
theorem ts_not {x : Expr} {pos : Pos} {f : CC Bool} (h : TsOK C X x f) : TsOK C X (.UnaryOp .Not x pos) (cNot f) := by
 intro A env F P ρ σ s v σ' hA E I hf
 unfold cNot at hf
 refine nG fun ng => ?_
 split at hf
 ·rename_i b σ1 e
  cases hf
  refine ng ?_
  clear ng
  exact wpAny_isTrue_Not (wpAny_mono (h A env F P ρ σ s b σ' hA E I e) (fun b' s' ⟨e, r⟩ => ⟨by rw [e], r⟩) fun _ _ x => x)
 ·cases hf
noncomputable def cAnd (f g : CC Bool) : CC Bool := fun σ => match f σ with | some (true, σ') => g σ' | some (false, σ') => some (false, σ') | none => none
noncomputable def cOr (f g : CC Bool) : CC Bool := fun σ => match f σ with | some (false, σ') => g σ' | some (true, σ') => some (true, σ') | none => none
theorem ts_and {x y : Expr} {pos : Pos} {f g : CC Bool} (h : TsOK C X x f) (h' : TsOK C X y g) : TsOK C X (.BoolOp .And [x, y] pos) (cAnd f g) := by
 intro A env F P ρ σ s v σ' hA E I hf
 unfold cAnd at hf
 refine wpAny_isTrue_BoolOp (wpAny_allTrue_And_cons ?_)
 refine nG fun ng => ?_
 split at hf
 ·rename_i σ1 e
  refine ng ?_
  clear ng
  refine wpAny_mono (h A env F P ρ σ s true σ1 hA E I e) (fun b' s' zq => ?_) fun _ _ x => x
  refine nG fun ng => ?_
  obtain ⟨e, F1, ρ1, n₁⟩ := zq
  subst e
  refine ng ?_
  clear ng
  refine wpAny_allTrue_And_cons (wpAny_mono (h' A env F1 P ρ1 σ1 s' v σ' hA (n₁.env E) n₁.inv hf) (fun b'' s'' zq => ?_) fun _ _ x => x)
  refine nG fun ng => ?_
  obtain ⟨e', F2, ρ₂, n₂⟩ := zq
  subst e'
  refine ng ?_
  clear ng
  cases b'' with
  | false => exact ⟨rfl, F2, ρ₂, n₁.trans n₂⟩
  | true => exact wpAny_allTrue_And_nil ⟨rfl, F2, ρ₂, n₁.trans n₂⟩
 ·rename_i σ1 e
  cases hf
  refine ng ?_
  clear ng
  refine wpAny_mono (h A env F P ρ σ s false σ' hA E I e) (fun b' s' zq => ?_) fun _ _ x => x
  refine nG fun ng => ?_
  obtain ⟨e, F1, ρ1, n₁⟩ := zq
  subst e
  refine ng ?_
  clear ng
  exact ⟨rfl, F1, ρ1, n₁⟩
 ·cases hf
theorem ts_or {x y : Expr} {pos : Pos} {f g : CC Bool} (h : TsOK C X x f) (h' : TsOK C X y g) : TsOK C X (.BoolOp .Or [x, y] pos) (cOr f g) := by
 intro A env F P ρ σ s v σ' hA E I hf
 unfold cOr at hf
 refine wpAny_isTrue_BoolOp (wpAny_allTrue_Or_cons ?_)
 refine nG fun ng => ?_
 split at hf
 ·rename_i σ1 e
  refine ng ?_
  clear ng
  refine wpAny_mono (h A env F P ρ σ s false σ1 hA E I e) (fun b' s' zq => ?_) fun _ _ x => x
  refine nG fun ng => ?_
  obtain ⟨e, F1, ρ1, n₁⟩ := zq
  subst e
  refine ng ?_
  clear ng
  refine wpAny_allTrue_Or_cons (wpAny_mono (h' A env F1 P ρ1 σ1 s' v σ' hA (n₁.env E) n₁.inv hf) (fun b'' s'' zq => ?_) fun _ _ x => x)
  refine nG fun ng => ?_
  obtain ⟨e', F2, ρ₂, n₂⟩ := zq
  subst e'
  refine ng ?_
  clear ng
  cases b'' with
  | true => exact ⟨rfl, F2, ρ₂, n₁.trans n₂⟩
  | false => exact wpAny_allTrue_Or_nil ⟨rfl, F2, ρ₂, n₁.trans n₂⟩
 ·rename_i σ1 e
  cases hf
  refine ng ?_
  clear ng
  refine wpAny_mono (h A env F P ρ σ s true σ' hA E I e) (fun b' s' zq => ?_) fun _ _ x => x
  refine nG fun ng => ?_
  obtain ⟨e, F1, ρ1, n₁⟩ := zq
  subst e
  refine ng ?_
  clear ng
  exact ⟨rfl, F1, ρ1, n₁⟩
 ·cases hf
noncomputable def cIf {α : Type} (t : CC Bool) (f g : CC α) : CC α := fun σ => match t σ with | some (true, σ') => f σ' | some (false, σ') => g σ' | none => none
theorem evp_if {t b o : Expr} {pos : Pos} {ft : CC Bool} {f g : CC PV} (ht : TsOK C X t ft) (hb : EvP C X b f) (ho : EvP C X o g) : EvP C X (.IfExp t b o pos) (cIf ft f g) := by
 intro A env F P ρ σ s v σ' hA E I hf
 unfold cIf at hf
 refine nG fun ng => ?_
 split at hf
 ·rename_i σ1 e
  refine ng ?_
  clear ng
  refine wpAny_IfExp (wpAny_mono (ht A env F P ρ σ s true σ1 hA E I e) (fun b' s' zq => ?_) fun _ _ x => x)
  refine nG fun ng => ?_
  obtain ⟨e, F1, ρ1, n₁⟩ := zq
  subst e
  refine ng ?_
  clear ng
  exact wpAny_mono (hb A env F1 P ρ1 σ1 s' v σ' hA (n₁.env E) n₁.inv hf) (fun V s'' ⟨F2, ρ₂, n₂, r⟩ => ⟨F2, ρ₂, n₁.trans n₂, r⟩) fun _ _ x => x
 ·rename_i σ1 e
  refine ng ?_
  clear ng
  refine wpAny_IfExp (wpAny_mono (ht A env F P ρ σ s false σ1 hA E I e) (fun b' s' zq => ?_) fun _ _ x => x)
  refine nG fun ng => ?_
  obtain ⟨e, F1, ρ1, n₁⟩ := zq
  subst e
  refine ng ?_
  clear ng
  exact wpAny_mono (ho A env F1 P ρ1 σ1 s' v σ' hA (n₁.env E) n₁.inv hf) (fun V s'' ⟨F2, ρ₂, n₂, r⟩ => ⟨F2, ρ₂, n₁.trans n₂, r⟩) fun _ _ x => x
 ·cases hf
noncomputable def EvsP (C : Cx) (X : zj) (es : List Expr) (f : CC (List PV)) : Prop :=
 ∀ A env F P ρ σ s v σ' pos, AL X.n A -> zZ X ρ env -> zb C X.N F P ρ σ s.heap -> f σ = some (v, σ') ->
  wpAny C.M A (spliced (backTo pos (starEach es env))) (PoL C X F P ρ s σ' v) (fun _ _ => False) s
noncomputable def zG : CC (List PV) := fun σ => some ([], σ)
noncomputable def zB (f : CC PV) (g : CC (List PV)) : CC (List PV) := fun σ => match f σ with
 | some (a, σ1) => (match g σ1 with | some (as, σ₂) => some (a :: as, σ₂) | none => none)
 | none => none
theorem evs_nil : EvsP C X [] zG := by
 intro A env F P ρ σ s v σ' pos hA E I hf
 refine nG fun ng => ?_
 cases hf
 refine ng ?_
 clear ng
 exact wpAny_items_nil ⟨F, ρ, .refl I, .nil⟩
noncomputable def zW : Expr -> Bool
 | .Starred .. => false
 | _ => true
theorem zR {e : Expr} {rest : List Expr} {env : Env} (h : zW e = true) : starEach (e :: rest) env = (false, eval e env) :: starEach rest env := by
 cases e <;> first | rfl | cases h
theorem evs_cons {e : Expr} {es : List Expr} {f : CC PV} {g : CC (List PV)} (h : EvP C X e f) (hs : EvsP C X es g) (he : zW e = true := by rfl) : EvsP C X (e :: es) (zB f g) := by
 intro A env F P ρ σ s v σ' pos hA E I hf
 unfold zB at hf
 refine nG fun ng => ?_
 refine ivP hf ?_; clear hf; intro a σ1 e1 hf
 refine ivL hf ?_; clear hf; intro as σ₂ e2 hf
 obtain ⟨rfl, rfl⟩ := Prod.mk.inj (Option.some.inj hf)
 refine ng ?_
 clear ng
 refine wpAny_items_cons (wpAny_mono (h A env F P ρ σ s a σ1 hA E I e1) (fun V s₁ zq => ?_) fun _ _ x => x) (zR he)
 obtain ⟨F1, ρ1, n₁, r₁⟩ := zq
 exact wpAny_mono (hs A env F1 P ρ1 σ1 s₁ as σ₂ pos hA (n₁.env E) n₁.inv e2) (fun Vs s₂ ⟨F2, ρ₂, n₂, r₂⟩ => ⟨F2, ρ₂, n₁.trans n₂, .cons (r₁.mono n₂.pu.le) r₂⟩) fun _ _ x => x
theorem PR.newObj {F : PH} {s : Shared} {o : Obj} {c : PV} (hF : PH.le F s.heap.get?) (hfree : o.isFreed = false) (r : ∀ F', PH.le F F' -> F' s.heap.objs.size = some o -> Rep F' c (.ref s.heap.objs.size)) :
  PR F s c (.ref s.heap.objs.size) { s with heap := s.heap.push o } := by
 have hn : F s.heap.objs.size = none := by
  cases q : F s.heap.objs.size with
  | none => rfl
  | some o' => exact absurd (Heap.lt_size (hF _ _ q)) (Nat.lt_irrefl _)
 let F' : PH := fun a => if a = s.heap.objs.size then some o else F a
 have le : PH.le F F' := fun a o' e' => by
  show (if a = s.heap.objs.size then some o else F a) = _
  by_cases q : a = s.heap.objs.size
  ·rw [q, hn] at e'; cases e'
  ·rw [if_neg q]; exact e'
 refine ⟨fun b o' e => Heap.get?_push_of_some o e, .ofh, F', le, fun a o' e => ?_, fun a ha => ?_, r F' le (if_pos rfl)⟩
 ·have e' : (if a = s.heap.objs.size then some o else F a) = some o' := e
  by_cases q : a = s.heap.objs.size
  ·rw [if_pos q] at e'; cases e'; subst q; exact Heap.get?_push_size _ hfree
  ·rw [if_neg q] at e'; exact Heap.get?_push_of_some o (hF a o' e')
 ·refine nG fun ng => ?_
  obtain ⟨o', ho⟩ := ha
  refine ng ?_
  clear ng
  exact if_neg (Nat.ne_of_lt (Heap.lt_size ho))
theorem size_ok {vs : List Value} (h : vs.length <= 2 ^ 20) : sizeOk (.seq vs.toArray) := by
 show vs.toArray.size <= sizeLine
 rw [List.size_toArray, sizeLine_eq]; omega
noncomputable def z5 (f : CC (List PV)) : CC PV := fun σ => match f σ with | some (xs, σ') => if xs.length <= 4096 then some (.list xs, σ') else none | none => none
noncomputable def cTup (f : CC (List PV)) : CC PV := fun σ => match f σ with | some (xs, σ') => if xs.length <= 4096 then some (.tup xs, σ') else none | none => none
theorem evp_list {es : List Expr} {pos : Pos} {f : CC (List PV)} (h : EvsP C X es f) : EvP C X (.List es pos) (z5 f) := by
 intro A env F P ρ σ s v σ' hA E I hf
 unfold z5 at hf
 refine nG fun ng => ?_
 refine ivL hf ?_; clear hf; intro xs σ1 e hf
 refine i1 hf ?_; clear hf; intro hl hf
 cases hf
 refine ng ?_
 clear ng
 refine List_ (wpAny_mono (h A env F P ρ σ s xs σ' pos hA E I e) (fun Vs s₁ zq => ?_) fun _ _ x => x)
 obtain ⟨F1, ρ1, n₁, r₁⟩ := zq
 have hl' : Vs.length <= 2 ^ 20 := by rw [r₁.length]; omega
 refine wpAny_newObj_type ?_ (size_ok hl')
 have pr : PR F1 s₁ (.list xs) _ _ := PR.newObj (o := { cls := .type "list", data := .seq Vs.toArray }) n₁.inv.f rfl fun F' le e' => .list e' hl' (r₁.mono le)
 refine nG fun ng => ?_
 obtain ⟨F2, n₂, r₂⟩ := pr.next n₁.inv
 refine ng ?_
 clear ng
 exact ⟨F2, ρ1, n₁.trans n₂, r₂⟩
theorem evp_tup {es : List Expr} {k : Nat} {pos : Pos} {f : CC (List PV)} (h : EvsP C X es f) : EvP C X (.Tuple es k pos) (cTup f) := by
 intro A env F P ρ σ s v σ' hA E I hf
 unfold cTup at hf
 refine nG fun ng => ?_
 refine ivL hf ?_; clear hf; intro xs σ1 e hf
 refine i1 hf ?_; clear hf; intro hl hf
 cases hf
 refine ng ?_
 clear ng
 refine Tuple_ (wpAny_mono (h A env F P ρ σ s xs σ' pos hA E I e) (fun Vs s₁ zq => ?_) fun _ _ x => x)
 obtain ⟨F1, ρ1, n₁, r₁⟩ := zq
 have hl' : Vs.length <= 2 ^ 20 := by rw [r₁.length]; omega
 refine wpAny_newObj_type ?_ (size_ok hl')
 have pr : PR F1 s₁ (.tup xs) _ _ := PR.newObj (o := { cls := .type "tuple", data := .seq Vs.toArray }) n₁.inv.f rfl fun F' le e' => .tup e' hl' (r₁.mono le)
 refine nG fun ng => ?_
 obtain ⟨F2, n₂, r₂⟩ := pr.next n₁.inv
 refine ng ?_
 clear ng
 exact ⟨F2, ρ1, n₁.trans n₂, r₂⟩
end
section
variable {C : Cx} {X : zj}
set_option genInjectivity false in
inductive Fl where
 | next | brk | cont
 | ret (p : PV)
noncomputable def FlRep (F : PH) : Fl -> Flow -> Prop
 | .next, fl => fl = .next
 | .brk, fl => fl = .brk
 | .cont, fl => fl = .cont
 | .ret p, fl => ∃ V, fl = .ret V /\ Rep F p V
structure Sx (C : Cx) (X : zj) (F P : PH) (ρ : Nat -> Addr) (s : Shared) (F' : PH) (ρ' : Nat -> Addr) (σ' : List zA) (s' : Shared) : Prop where
 inv : zb C X.N F' P ρ' σ' s'.heap
 pu : Pu F P s F' s'
 rho : ∀ i, i ∉ X.tmp -> i ∉ X.own -> ρ' i = ρ i
theorem Nx.sx {F P : PH} {ρ : Nat -> Addr} {s : Shared} {F' : PH} {ρ' : Nat -> Addr} {σ' : List zA} {s' : Shared} (x : Nx C X F P ρ s F' ρ' σ' s') : Sx C X F P ρ s F' ρ' σ' s' := ⟨x.inv, x.pu, fun i h _ => x.rho i h⟩
theorem Sx.env {F P : PH} {ρ : Nat -> Addr} {s : Shared} {F' : PH} {ρ' : Nat -> Addr} {σ' : List zA} {s' : Shared} {env : Env} (x : Sx C X F P ρ s F' ρ' σ' s') (e : zZ X ρ env) : zZ X ρ' env := e.next x.rho
theorem Sx.trans {F P : PH} {ρ : Nat -> Addr} {s : Shared} {F' : PH} {ρ' : Nat -> Addr} {σ' : List zA} {s' : Shared} {F'' : PH} {ρ'' : Nat -> Addr} {σ'' : List zA} {s'' : Shared}
  (x : Sx C X F P ρ s F' ρ' σ' s') (y : Sx C X F' P ρ' s' F'' ρ'' σ'' s'') : Sx C X F P ρ s F'' ρ'' σ'' s'' :=
 ⟨y.inv, x.pu.trans y.pu, fun i h h' => (y.rho i h h').trans (x.rho i h h')⟩
theorem Sx.refl {F P : PH} {ρ : Nat -> Addr} {σ : List zA} {s : Shared} (I : zb C X.N F P ρ σ s.heap) : Sx C X F P ρ s F ρ σ s := (Nx.refl I).sx
inductive PoF (C : Cx) (X : zj) (F P : PH) (ρ : Nat -> Addr) (s : Shared) (σ' : List zA) (v : Fl) (fl : Flow) (s' : Shared) : Prop where
 | mk (F' : PH) (ρ' : Nat -> Addr) (n : Sx C X F P ρ s F' ρ' σ' s') (r : FlRep F' v fl) : PoF C X F P ρ s σ' v fl s'
noncomputable def StOK (C : Cx) (X : zj) (st : Stmt) (f : CC Fl) : Prop :=
 ∀ A env F P ρ σ s v σ', AL X.n A -> zZ X ρ env -> zb C X.N F P ρ σ s.heap -> f σ = some (v, σ') ->
  wpAny C.M A (exec st env) (PoF C X F P ρ s σ' v) (fun _ _ => False) s
noncomputable def zi (C : Cx) (X : zj) (st : List Stmt) (f : CC Fl) : Prop :=
 ∀ A env F P ρ σ s v σ', AL X.n A -> zZ X ρ env -> zb C X.N F P ρ σ s.heap -> f σ = some (v, σ') ->
  wpAny C.M A (execs st env) (PoF C X F P ρ s σ' v) (fun _ _ => False) s
noncomputable def zL (v : Fl) : CC Fl := fun σ => some (v, σ)
noncomputable def zJ (f g : CC Fl) : CC Fl := fun σ => match f σ with
 | some (.next, σ') => g σ'
 | r => r
theorem zd : zi C X [] (zL .next) := by
 intro A env F P ρ σ s v σ' hA E I hf
 refine pf hf ?_; clear hf
 exact wpAny_execs_nil ⟨F, ρ, .refl I, rfl⟩
theorem zT {st : Stmt} {rest : List Stmt} {f g : CC Fl} (h : StOK C X st f) (hs : zi C X rest g) : zi C X (st :: rest) (zJ f g) := by
 intro A env F P ρ σ s v σ' hA E I hf
 unfold zJ at hf
 refine wpAny_execs_cons ?_
 refine nG fun ng => ?_
 split at hf
 ·rename_i σ1 e
  refine ng ?_
  clear ng
  refine wpAny_mono (h A env F P ρ σ s .next σ1 hA E I e) (fun fl s₁ zq => ?_) fun _ _ x => x
  refine nG fun ng => ?_
  obtain ⟨F1, ρ1, n₁, r₁⟩ := zq
  have r1' : fl = .next := r₁
  subst r1'
  refine ng ?_
  clear ng
  exact wpAny_mono (hs A env F1 P ρ1 σ1 s₁ v σ' hA (n₁.env E) n₁.inv hf) (fun fl s₂ ⟨F2, ρ₂, n₂, r₂⟩ => ⟨F2, ρ₂, n₁.trans n₂, r₂⟩) fun _ _ x => x
 ·rename_i hne
  refine ng ?_
  clear ng
  refine wpAny_mono (h A env F P ρ σ s v σ' hA E I hf) (fun fl s₁ zq => ?_) fun _ _ x => x
  obtain ⟨F1, ρ1, n₁, r₁⟩ := zq
  cases v with
  | next => exact absurd hf (hne _)
  | brk => have r1' : fl = .brk := r₁; subst r1'; exact ⟨F1, ρ1, n₁, r₁⟩
  | cont => have r1' : fl = .cont := r₁; subst r1'; exact ⟨F1, ρ1, n₁, r₁⟩
  | ret p => obtain ⟨V, r1', q⟩ := r₁; subst r1'; exact ⟨F1, ρ1, n₁, V, rfl, q⟩
noncomputable def cRet (f : CC PV) : CC Fl := fun σ => match f σ with | some (p, σ') => some (.ret p, σ') | none => none
theorem st_ret {e : Expr} {pos : Pos} {f : CC PV} (h : EvP C X e f) : StOK C X (.Return (some e) pos) (cRet f) := by
 intro A env F P ρ σ s v σ' hA E I hf
 unfold cRet at hf
 refine nG fun ng => ?_
 refine ivP hf ?_; clear hf; intro p σ1 e1 hf
 obtain ⟨rfl, rfl⟩ := Prod.mk.inj (Option.some.inj hf)
 refine ng ?_
 clear ng
 exact wpAny_Return_some (wpAny_mono (h A env F P ρ σ s p σ1 hA E I e1) (fun V s₁ ⟨F1, ρ1, n₁, r₁⟩ => ⟨F1, ρ1, n₁.sx, V, rfl, r₁⟩) fun _ _ x => x)
theorem st_brk {pos : Pos} : StOK C X (.Break pos) (zL .brk) := by
 intro A env F P ρ σ s v σ' hA E I hf
 refine pf hf ?_; clear hf
 exact wpAny_Break ⟨F, ρ, .refl I, rfl⟩
theorem st_cont {pos : Pos} : StOK C X (.Continue pos) (zL .cont) := by
 intro A env F P ρ σ s v σ' hA E I hf
 refine pf hf ?_; clear hf
 exact wpAny_Continue ⟨F, ρ, .refl I, rfl⟩
theorem st_if {t : Expr} {b o : List Stmt} {pos : Pos} {ft : CC Bool} {f g : CC Fl} (ht : TsOK C X t ft) (hb : zi C X b f) (ho : zi C X o g) : StOK C X (.If t b o pos) (cIf ft f g) := by
 intro A env F P ρ σ s v σ' hA E I hf
 unfold cIf at hf
 refine nG fun ng => ?_
 split at hf
 ·rename_i σ1 e
  refine ng ?_
  clear ng
  refine wpAny_If (wpAny_mono (ht A env F P ρ σ s true σ1 hA E I e) (fun b' s' zq => ?_) fun _ _ x => x)
  refine nG fun ng => ?_
  obtain ⟨e, F1, ρ1, n₁⟩ := zq
  subst e
  refine ng ?_
  clear ng
  exact wpAny_mono (hb A env F1 P ρ1 σ1 s' v σ' hA (n₁.env E) n₁.inv hf) (fun V s'' ⟨F2, ρ₂, n₂, r⟩ => ⟨F2, ρ₂, n₁.sx.trans n₂, r⟩) fun _ _ x => x
 ·rename_i σ1 e
  refine ng ?_
  clear ng
  refine wpAny_If (wpAny_mono (ht A env F P ρ σ s false σ1 hA E I e) (fun b' s' zq => ?_) fun _ _ x => x)
  refine nG fun ng => ?_
  obtain ⟨e, F1, ρ1, n₁⟩ := zq
  subst e
  refine ng ?_
  clear ng
  exact wpAny_mono (ho A env F1 P ρ1 σ1 s' v σ' hA (n₁.env E) n₁.inv hf) (fun V s'' ⟨F2, ρ₂, n₂, r⟩ => ⟨F2, ρ₂, n₁.sx.trans n₂, r⟩) fun _ _ x => x
 ·cases hf
theorem zb.mut {N : Nat -> List Str} {F P : PH} {ρ : Nat -> Addr} {σ : List zA} {h h' : Heap} {i : Nat} {o o' : zA} (I : zb C N F P ρ σ h) (e : σ[i]? = some o) (l : o.live = true) (hs : Heap.SameBut (ρ i) h h')
  (ok : ObjOK F ρ (N i) o' (ρ i) h') : zb C N F P ρ (σ.set i o') h' := by
 have il : i < σ.length := (List.getElem?_eq_some_iff.mp e).1
 have hfr := I.fr i o e l
 have off : ∀ (G : PH), G (ρ i) = none -> PH.le G h.get? -> PH.le G h'.get? := fun G g k a x ex => (hs.2 a fun q => by rw [q, g] at ex; cases ex).trans (k a x ex)
 have g : ∀ (j : Nat) (x : zA), (σ.set i o')[j]? = some x -> x.live = true -> ∃ y, σ[j]? = some y /\ y.live = true := fun j x ex lx => by
  by_cases q : i = j
  ·subst q; exact ⟨o, e, l⟩
  ·rw [List.getElem?_set_ne q] at ex; exact ⟨x, ex, lx⟩
 refine ⟨off F hfr.1 I.f, off P hfr.2 I.p, I.top, fun j x ex => ?_, fun j x ex lx => ?_, fun j k x y ex ey lx ly q => ?_⟩
 ·by_cases q : i = j
  ·subst q; rw [List.getElem?_set_self il] at ex; cases ex; exact ok
  ·rw [List.getElem?_set_ne q] at ex
   by_cases lx : x.live = true
   ·exact (I.ob j x ex).mono (.refl F) fun z ez => (hs.2 _ fun w => q (I.inj _ _ _ _ ex e lx l w).symm).trans ez
   ·exact (I.ob j x ex).still lx
 ·refine nG fun ng => ?_
  obtain ⟨y, ey, ly⟩ := g j x ex lx
  refine ng ?_
  clear ng
  exact I.fr j y ey ly
 ·refine nG fun ng => ?_
  obtain ⟨x', ex', lx'⟩ := g j x ex lx
  obtain ⟨y', ey', ly'⟩ := g k y ey ly
  refine ng ?_
  clear ng
  exact I.inj j k x' y' ex' ey' lx' ly' q
noncomputable def sLoc (fi j : Nat) (v : AV) (σ : List zA) : Option (List zA) := match σ[fi]? with
 | some (.frame vs) => if j < vs.length then some (σ.set fi (.frame (vs.set j (some v)))) else none
 | _ => none
noncomputable def sCell (i : Nat) (v : AV) (σ : List zA) : Option (List zA) := match σ[i]? with
 | some (.cell _) => some (σ.set i (.cell (some v)))
 | _ => none
theorem FrameOK.set {F : PH} {ρ : Nat -> Addr} {names : List Str} {vals : List (Option AV)} {m : Str -> Option Value} {j : Nat} {x : Str} {v : AV} {V : Value} (h : FrameOK F ρ names vals m) (hj : names[j]? = some x) (r : AVRep F ρ v V) :
  FrameOK F ρ names (vals.set j (some v)) (fun y => if y = x then some V else m y) := by
 refine ⟨h.1, fun k y u hk hv => ?_⟩
 by_cases q : j = k
 ·refine nG fun ng => ?_
  subst q
  rw [hj] at hk; cases hk
  have hl : j < vals.length := by
   have := (List.getElem?_eq_some_iff.mp hv).1
   simpa using this
  rw [List.getElem?_set_self hl] at hv
  cases hv
  refine ng ?_
  clear ng
  exact ⟨V, if_pos rfl, r⟩
 ·rw [List.getElem?_set_ne q] at hv
  refine nG fun ng => ?_
  obtain ⟨W, a, b⟩ := h.2 k y u hk hv
  refine ng ?_
  clear ng
  refine ⟨W, ?_, b⟩
  have hne : y ≠ x := fun z => by
   subst z
   exact q ((List.getElem?_inj (List.getElem?_eq_some_iff.mp hj).1 h.1).mp (hj.trans hk.symm))
  show (if y = x then some V else m y) = some W
  rw [if_neg hne]; exact a
set_option genInjectivity false in
inductive Pl where
 | loc (j : Nat)
 | cell (i : Nat)
noncomputable def Pl.set (fi : Nat) : Pl -> AV -> List zA -> Option (List zA)
 | .loc j => sLoc fi j
 | .cell i => sCell i
noncomputable def PlOK (X : zj) (x : Str) : Pl -> Prop
 | .loc j => X.scope.names.lookup x = some .local /\ (X.N X.fi)[j]? = some x
 | .cell i => X.scope.names.lookup x = some .cell /\ X.cells.lookup x = some i
theorem store_ok {A : Around} {env : Env} {x : Str} {p : Pl} {F P : PH} {ρ : Nat -> Addr} {σ σ' : List zA} {s : Shared} {v : AV} {V : Value}
  (hp : PlOK X x p) (E : zZ X ρ env) (I : zb C X.N F P ρ σ s.heap) (r : AVRep F ρ v V) (hf : p.set X.fi v σ = some σ') :
  wpAny C.M A (storeName env x V) (fun _ s' => Sx C X F P ρ s F ρ σ' s') (fun _ _ => False) s := by
 cases p with
 | loc j =>
  have hf' : sLoc X.fi j v σ = some σ' := hf
  unfold sLoc at hf'
  refine nG fun ng => ?_
  refine ivFr hf' ?_; clear hf'; intro vs e hf'
  split at hf'
  ·refine ng ?_
   clear ng
   refine pe hf' ?_; clear hf'
   refine nG fun ng => ?_
   obtain ⟨m, hn, hfr⟩ := I.ob _ _ e
   refine ng ?_
   clear ng
   refine wpAny_storeName_local (by show env.scope.names.lookup x = _; rw [E.scope]; exact hp.1) (E.loc ▸ hn) (fun h' hn' hs => ?_) (by rw [E.scope, E.kind]; rfl)
   exact ⟨I.mut e rfl (E.loc ▸ hs) ⟨_, E.loc ▸ hn', hfr.set hp.2 r⟩, ⟨.of, .refl _, fun _ _ => rfl⟩, fun _ _ _ => rfl⟩
  ·cases hf'
 | cell i =>
  have hf' : sCell i v σ = some σ' := hf
  unfold sCell at hf'
  refine nG fun ng => ?_
  refine ivCe hf' ?_; clear hf'; intro u e hf'
  refine ng ?_
  clear ng
  refine pe hf' ?_; clear hf'
  refine nG fun ng => ?_
  obtain ⟨W, hc, hr⟩ := I.ob _ _ e
  refine ng ?_
  clear ng
  refine wpAny_storeName_cell (by rw [E.scope]; exact E.kind) (by show env.scope.names.lookup x = _; rw [E.scope]; exact hp.1) (E.cells _ _ hp.2) hc (fun h' hc' hs => ?_)
  exact ⟨I.mut e rfl hs ⟨_, hc', fun u' e' => ⟨V, rfl, by cases e'; exact r⟩⟩, ⟨.ofh, .refl _, fun _ _ => rfl⟩, fun _ _ _ => rfl⟩
noncomputable def zl (fi : Nat) (p : Pl) (f : CC PV) : CC Fl := fun σ => match f σ with
 | some (v, σ1) => (match p.set fi (.imm v) σ1 with | some σ₂ => some (.next, σ₂) | none => none)
 | none => none
noncomputable def noComp : Expr -> Bool
 | .ListComp .. => false
 | .SetComp .. => false
 | .DictComp .. => false
 | _ => true
theorem swaps_no {value : Expr} {t : Option Expr} {l : Nat} {env : Env} (h : noComp value = true) : swapsWith value t l env = pure false := by
 cases value <;> first | rfl | cases h
theorem st_asg {x : Str} {pos' pos : Pos} {value : Expr} {f : CC PV} (p : Pl) (hv : EvP C X value f) (hp : PlOK X x p) (hn : noComp value = true := by rfl) : StOK C X (.Assign [.Name x pos'] value pos) (zl X.fi p f) := by
 intro A env F P ρ σ s v σ' hA E I hf
 unfold zl at hf
 refine nG fun ng => ?_
 refine ivP hf ?_; clear hf; intro a σ1 e1 hf
 refine ivS hf ?_; clear hf; intro σ₂ e2 hf
 refine ng ?_
 clear ng
 refine pf hf ?_; clear hf
 refine wpAny_Assign_Name (wpAny_mono (hv A env F P ρ σ s a σ1 hA E I e1) (fun V s₁ zq => ?_) fun _ _ x => x) (swaps_no hn)
 obtain ⟨F1, ρ1, n₁, r₁⟩ := zq
 exact wpAny_mono (store_ok hp (n₁.env E) n₁.inv (v := .imm a) r₁ e2) (fun _ s₂ n₂ => ⟨F1, ρ1, n₁.sx.trans n₂, rfl⟩) fun _ _ x => x
theorem st_asgc {x : Str} {pos' pos : Pos} {value : Expr} {f : CC PV} (i : Nat) (hv : EvP C X value f) (hp : PlOK X x (.cell i)) : StOK C X (.Assign [.Name x pos'] value pos) (zl X.fi (.cell i) f) := by
 intro A env F P ρ σ s v σ' hA E I hf
 unfold zl at hf
 refine nG fun ng => ?_
 refine ivP hf ?_; clear hf; intro a σ1 e1 hf
 refine ivS hf ?_; clear hf; intro σ₂ e2 hf
 refine ng ?_
 clear ng
 refine pf hf ?_; clear hf
 have hs : swapsWith value (some (.Name x pos')) pos.line env = pure false := by
  have hk : env.kindOf x = some .cell := by show env.scope.names.lookup x = _; rw [E.scope]; exact hp.1
  cases value <;> first | rfl | (show (pure (((_ && (env.kindOf x == some NameKind.local)) && _) && _) : Sem Bool) = pure false; rw [hk, show ((some NameKind.cell : Option NameKind) == some NameKind.local) = false from by decide, Bool.and_false, Bool.false_and, Bool.false_and])
 refine wpAny_Assign_Name (wpAny_mono (hv A env F P ρ σ s a σ1 hA E I e1) (fun V s₁ zq => ?_) fun _ _ x => x) hs
 obtain ⟨F1, ρ1, n₁, r₁⟩ := zq
 exact wpAny_mono (store_ok hp (n₁.env E) n₁.inv (v := .imm a) r₁ e2) (fun _ s₂ n₂ => ⟨F1, ρ1, n₁.sx.trans n₂, rfl⟩) fun _ _ x => x
noncomputable def clrV (i : Nat) (v : Option AV) : Option AV := match v with
 | some (.obj j) => if j = i then none else some (.obj j)
 | v => v
noncomputable def clr (i : Nat) : zA -> zA
 | .cell v => .cell (clrV i v)
 | .frame vs => .frame (vs.map (clrV i))
 | .attrs vs => .attrs (vs.map (clrV i))
 | o => o
noncomputable def newOwn (i : Nat) (o : zA) (σ : List zA) : List zA := (σ.map (clr i)).set i o
noncomputable def upd (ρ : Nat -> Addr) (i : Nat) (a : Addr) : Nat -> Addr := fun j => if j = i then a else ρ j
theorem clrV_rep {F : PH} {ρ : Nat -> Addr} {i : Nat} {a : Addr} {v : Option AV} {u : AV} {V : Value} (h : clrV i v = some u) (r : ∀ w, v = some w -> AVRep F ρ w V) : AVRep F (upd ρ i a) u V := by
 unfold clrV at h
 refine nG fun ng => ?_
 split at h
 ·rename_i j
  split at h
  ·cases h
  ·rename_i q
   refine ng ?_
   clear ng
   refine pe h ?_; clear h
   have := r _ rfl
   show V = .ref (if j = i then a else ρ j)
   rw [if_neg q]; exact this
 ·cases h
  have := r _ rfl
  refine ng ?_
  clear ng
  cases u with
  | imm p => exact this
  | obj j => rename_i q; exact absurd rfl (q j)
theorem clr_live (i : Nat) (o : zA) : (clr i o).live = o.live := by cases o <;> rfl
theorem ObjOK.clr {F : PH} {ρ : Nat -> Addr} {names : List Str} {o : zA} {b : Addr} {h : Heap} (i : Nat) (a : Addr) (x : ObjOK F ρ names o b h) : ObjOK F (upd ρ i a) names (clr i o) b h := by
 cases o with
 | dead => trivial
 | frozen p => exact x
 | lst xs => exact x
 | fit e f y => exact x
 | tab ps => exact x
 | cell v => obtain ⟨V, c, d⟩ := x; exact ⟨V, c, fun u e => by
   cases v with
   | none => cases e
   | some w =>
    obtain ⟨W, e1, r⟩ := d w rfl
    exact ⟨W, e1, clrV_rep e fun z ez => by cases ez; exact r⟩⟩
 | frame vs =>
  refine nG fun ng => ?_
  obtain ⟨m, hn, hnd, hv⟩ := x
  refine ng ?_
  clear ng
  refine ⟨m, hn, hnd, fun k y u hk hu => ?_⟩
  rw [List.getElem?_map] at hu
  cases q : vs[k]? with
  | none => rw [q] at hu; cases hu
  | some w =>
   rw [q] at hu
   have hu' : clrV i w = some u := Option.some.inj hu
   cases w with
   | none => cases hu'
   | some w =>
    refine nG fun ng => ?_
    obtain ⟨V, e1, r⟩ := hv k y w hk q
    refine ng ?_
    clear ng
    exact ⟨V, e1, clrV_rep hu' fun z ez => by cases ez; exact r⟩
 | attrs vs =>
  refine nG fun ng => ?_
  obtain ⟨m, hn, hin, hnd, hv⟩ := x
  refine ng ?_
  clear ng
  refine ⟨m, hn, hin, hnd, fun k y u hk hu => ?_⟩
  rw [List.getElem?_map] at hu
  cases q : vs[k]? with
  | none => rw [q] at hu; cases hu
  | some w =>
   rw [q] at hu
   have hu' : clrV i w = some u := Option.some.inj hu
   cases w with
   | none => cases hu'
   | some w =>
    refine nG fun ng => ?_
    obtain ⟨V, e1, r⟩ := hv k y w hk q
    refine ng ?_
    clear ng
    exact ⟨V, e1, clrV_rep hu' fun z ez => by cases ez; exact r⟩
theorem zb.newOwn {N : Nat -> List Str} {F P : PH} {ρ : Nat -> Addr} {σ : List zA} {h : Heap} {i : Nat} {a : Addr} {o' : zA} (I : zb C N F P ρ σ h) (il : i < σ.length) (hF : F a = none) (hP : P a = none)
  (hne : Off σ ρ a) (ok : ObjOK F (upd ρ i a) (N i) o' a h) : zb C N F P (upd ρ i a) (newOwn i o' σ) h := by
 have il' : i < (σ.map (BZ.clr i)).length := by simpa using il
 have ui : upd ρ i a i = a := if_pos rfl
 have uo : ∀ j, i ≠ j -> upd ρ i a j = ρ j := fun j q => if_neg fun z => q z.symm
 have g : ∀ (j : Nat) (x : zA), i ≠ j -> (BZ.newOwn i o' σ)[j]? = some x -> ∃ y, σ[j]? = some y /\ x = BZ.clr i y := fun j x q ex => by
  unfold BZ.newOwn at ex
  rw [List.getElem?_set_ne q, List.getElem?_map] at ex
  cases w : σ[j]? with
  | none => rw [w] at ex; cases ex
  | some y => rw [w] at ex; exact ⟨y, rfl, (Option.some.inj ex).symm⟩
 have gi : ∀ x, (BZ.newOwn i o' σ)[i]? = some x -> x = o' := fun x ex => by
  unfold BZ.newOwn at ex
  rw [List.getElem?_set_self il'] at ex; exact (Option.some.inj ex).symm
 refine ⟨I.f, I.p, I.top, fun j x ex => ?_, fun j x ex lx => ?_, fun j k x y ex ey lx ly q => ?_⟩
 ·by_cases q : i = j
  ·subst q; rw [gi x ex, ui]; exact ok
  ·refine nG fun ng => ?_
   obtain ⟨y, ey, rfl⟩ := g j x q ex
   refine ng ?_
   clear ng
   rw [uo j q]; exact (I.ob j y ey).clr i a
 ·by_cases q : i = j
  ·subst q; rw [ui]; exact ⟨hF, hP⟩
  ·refine nG fun ng => ?_
   obtain ⟨y, ey, rfl⟩ := g j x q ex
   refine ng ?_
   clear ng
   rw [uo j q]; exact I.fr j y ey (by rw [<- clr_live i]; exact lx)
 ·by_cases qj : i = j
  ·by_cases qk : i = k
   ·exact qj.symm.trans qk
   ·refine nG fun ng => ?_
    obtain ⟨y', ey', rfl⟩ := g k y qk ey
    subst qj
    rw [ui, uo k qk] at q
    refine ng ?_
    clear ng
    exact absurd q.symm (hne k y' ey' (by rw [<- clr_live i]; exact ly))
  ·refine nG fun ng => ?_
   obtain ⟨x', ex', rfl⟩ := g j x qj ex
   refine ng ?_
   clear ng
   by_cases qk : i = k
   ·refine nG fun ng => ?_
    subst qk
    rw [ui, uo j qj] at q
    refine ng ?_
    clear ng
    exact absurd q (hne j x' ex' (by rw [<- clr_live i]; exact lx))
   ·refine nG fun ng => ?_
    obtain ⟨y', ey', rfl⟩ := g k y qk ey
    rw [uo j qj, uo k qk] at q
    refine ng ?_
    clear ng
    exact I.inj j k x' y' ex' ey' (by rw [<- clr_live i]; exact lx) (by rw [<- clr_live i]; exact ly) q
theorem zb.fresh {N : Nat -> List Str} {F P : PH} {ρ : Nat -> Addr} {σ : List zA} {h : Heap} (I : zb C N F P ρ σ h) {a : Addr} (ha : ∀ o, h.get? a ≠ some o) : F a = none /\ P a = none /\ Off σ ρ a := by
 refine ⟨?_, ?_, fun j o e l q => ?_⟩
 ·cases q : F a with
  | none => rfl
  | some o => exact absurd (I.f a o q) (ha o)
 ·cases q : P a with
  | none => rfl
  | some o => exact absurd (I.p a o q) (ha o)
 ·refine nG fun ng => ?_
  obtain ⟨o', ho⟩ := (I.ob j o e).alive l
  refine ng ?_
  clear ng
  exact ha o' (q ▸ ho)
theorem size_fresh {h : Heap} (o : Obj) : h.get? h.objs.size ≠ some o := fun e => Nat.lt_irrefl _ (Heap.lt_size e)
noncomputable def cOwn (fi : Nat) (p : Pl) (i : Nat) (f : CC (List PV)) : CC Fl := fun σ => match f σ with
 | some (xs, σ1) => if xs.length <= 4096 /\ i < σ1.length then (match p.set fi (.obj i) (newOwn i (.lst xs) σ1) with | some σ₂ => some (.next, σ₂) | none => none) else none
 | none => none
theorem st_own {x : Str} {pos' lpos pos : Pos} {es : List Expr} {f : CC (List PV)} (p : Pl) (i : Nat) (hv : EvsP C X es f) (hp : PlOK X x p) (hi : i ∈ X.own) : StOK C X (.Assign [.Name x pos'] (.List es lpos) pos) (cOwn X.fi p i f) := by
 intro A env F P ρ σ s v σ' hA E I hf
 unfold cOwn at hf
 refine nG fun ng => ?_
 refine ivL hf ?_; clear hf; intro xs σ1 e1 hf
 refine i1 hf ?_; clear hf; intro hl hf
 refine ivS hf ?_; clear hf; intro σ₂ e2 hf
 obtain ⟨rfl, rfl⟩ := Prod.mk.inj (Option.some.inj hf)
 refine ng ?_
 clear ng
 refine wpAny_Assign_Name (List_ (wpAny_mono (hv A env F P ρ σ s xs σ1 lpos hA E I e1) (fun Vs s₁ zq => ?_) fun _ _ x => x)) (swaps_no rfl)
 obtain ⟨F1, ρ1, n₁, r₁⟩ := zq
 have hl' : Vs.length <= 2 ^ 20 := by rw [r₁.length]; omega
 refine wpAny_newObj_type ?_ (size_ok hl')
 refine nG fun ng => ?_
 obtain ⟨q1, q2, q3⟩ := n₁.inv.fresh (a := s₁.heap.objs.size) size_fresh
 have I' : zb C X.N F1 P ρ1 σ1 (s₁.heap.push { cls := .type "list", data := .seq Vs.toArray }) := n₁.inv.kept fun b o e => Heap.get?_push_of_some _ e
 have I'' := I'.newOwn (o' := .lst xs) hl.2 q1 q2 q3 ⟨Vs, ⟨_, Heap.get?_push_size _ rfl⟩, hl', r₁⟩
 have n₂ : Sx C X F1 P ρ1 s₁ F1 (upd ρ1 i s₁.heap.objs.size) (newOwn i (.lst xs) σ1) { s₁ with heap := s₁.heap.push { cls := .type "list", data := .seq Vs.toArray } } :=
  ⟨I'', ⟨.ofh, .refl _, fun _ _ => rfl⟩, fun j _ h => if_neg fun (z : j = i) => h (z ▸ hi)⟩
 have n12 := n₁.sx.trans n₂
 refine ng ?_
 clear ng
 exact wpAny_mono (store_ok hp (n12.env E) n₂.inv (v := .obj i) (by show _ = Value.ref (upd _ _ _ _); rw [show upd ρ1 i s₁.heap.objs.size i = s₁.heap.objs.size from if_pos rfl]) e2) (fun _ s₃ n₃ => ⟨F1, _, n12.trans n₃, rfl⟩) fun _ _ x => x
noncomputable def cWhile (t : CC Bool) (b : CC Fl) : Nat -> CC Fl
 | 0 => fun _ => none
 | n + 1 => fun σ => match t σ with
  | some (false, σ1) => some (.next, σ1)
  | some (true, σ1) => (match b σ1 with
   | some (.next, σ₂) => cWhile t b n σ₂
   | some (.cont, σ₂) => cWhile t b n σ₂
   | some (.brk, σ₂) => some (.next, σ₂)
   | some (.ret p, σ₂) => some (.ret p, σ₂)
   | none => none)
  | none => none
theorem cWhile_s {t : CC Bool} {b : CC Fl} {n : Nat} {σ : List zA} : cWhile t b (n + 1) σ = (match t σ with
  | some (false, σ1) => some (.next, σ1)
  | some (true, σ1) => (match b σ1 with
   | some (.next, σ₂) => cWhile t b n σ₂
   | some (.cont, σ₂) => cWhile t b n σ₂
   | some (.brk, σ₂) => some (.next, σ₂)
   | some (.ret p, σ₂) => some (.ret p, σ₂)
   | none => none)
  | none => none) := rfl
theorem body_ok {body : List Stmt} {b : CC Fl} (hb : zi C X body b) {A : Around} {env : Env} {F P : PH} {ρ : Nat -> Addr} {σ σ' : List zA} {s : Shared} {v : Fl} {K : List zA -> Option (Fl × List zA)} {Q : Flow -> Shared -> Prop} {Ex : Value -> Shared -> Prop}
  (hA : AL X.n A) (E : zZ X ρ env) (I : zb C X.N F P ρ σ s.heap)
  (hw : (match b σ with | some (.next, σ₂) => K σ₂ | some (.cont, σ₂) => K σ₂ | some (.brk, σ₂) => some (.next, σ₂) | some (.ret p, σ₂) => some (.ret p, σ₂) | none => none) = some (v, σ'))
  (hgo : ∀ F3 ρ3 σ3 s₃, Sx C X F P ρ s F3 ρ3 σ3 s₃ -> K σ3 = some (v, σ') -> Q .next s₃ /\ Q .cont s₃) (hbr : ∀ F3 ρ3 s₃, Sx C X F P ρ s F3 ρ3 σ' s₃ -> v = .next -> Q .brk s₃)
  (hrt : ∀ V F3 ρ3 s₃, Sx C X F P ρ s F3 ρ3 σ' s₃ -> FlRep F3 v (.ret V) -> Q (.ret V) s₃) : wpAny C.M A (execs body env) Q Ex s := by
 refine nG fun ng => ?_
 split at hw
 ·rename_i σ3 e3
  refine ng ?_
  clear ng
  refine wpAny_mono (hb A env F P ρ σ s .next σ3 hA E I e3) (fun fl s₃ zq => ?_) fun _ _ x => x.elim
  refine nG fun ng => ?_
  obtain ⟨F3, ρ3, n₃, r₃⟩ := zq
  have r' : fl = .next := r₃
  subst r'
  refine ng ?_
  clear ng
  exact (hgo F3 ρ3 σ3 s₃ n₃ hw).1
 ·rename_i σ3 e3
  refine ng ?_
  clear ng
  refine wpAny_mono (hb A env F P ρ σ s .cont σ3 hA E I e3) (fun fl s₃ zq => ?_) fun _ _ x => x.elim
  refine nG fun ng => ?_
  obtain ⟨F3, ρ3, n₃, r₃⟩ := zq
  have r' : fl = .cont := r₃
  subst r'
  refine ng ?_
  clear ng
  exact (hgo F3 ρ3 σ3 s₃ n₃ hw).2
 ·rename_i σ3 e3
  cases hw
  refine ng ?_
  clear ng
  refine wpAny_mono (hb A env F P ρ σ s .brk σ' hA E I e3) (fun fl s₃ zq => ?_) fun _ _ x => x.elim
  refine nG fun ng => ?_
  obtain ⟨F3, ρ3, n₃, r₃⟩ := zq
  have r' : fl = .brk := r₃
  subst r'
  refine ng ?_
  clear ng
  exact hbr F3 ρ3 s₃ n₃ rfl
 ·rename_i p σ3 e3
  cases hw
  refine ng ?_
  clear ng
  refine wpAny_mono (hb A env F P ρ σ s (.ret p) σ' hA E I e3) (fun fl s₃ zq => ?_) fun _ _ x => x.elim
  refine nG fun ng => ?_
  obtain ⟨F3, ρ3, n₃, V, r', q⟩ := zq
  subst r'
  refine ng ?_
  clear ng
  exact hrt V F3 ρ3 s₃ n₃ ⟨V, rfl, q⟩
 ·cases hw
inductive LoopJ (C : Cx) (X : zj) (F P : PH) (ρ : Nat -> Addr) (s : Shared) (g : Nat -> CC Fl) (r : Fl × List zA) (n : Nat) (s₁ : Shared) : Prop where
 | mk (F1 : PH) (ρ1 : Nat -> Addr) (σ1 : List zA) (n₁ : Sx C X F P ρ s F1 ρ1 σ1 s₁) (hw : g n σ1 = some r) : LoopJ C X F P ρ s g r n s₁
theorem st_while {t : Expr} {b : List Stmt} {pos : Pos} {ft : CC Bool} {f : CC Fl} (fuel : Nat) (ht : TsOK C X t ft) (hb : zi C X b f) : StOK C X (.While t b [] pos) (cWhile ft f fuel) := by
 intro A env F P ρ σ s v σ' hA E I hf
 refine wpAny_While ?_
 refine codeAny_mono (codeAny_whileLoop (R := fun r s' => match r with | .ok fl => PoF C X F P ρ s σ' v fl s' | .error _ => False)
  (LoopJ C X F P ρ s (cWhile ft f) (v, σ')) (fun n s₁ hI => ?_) fuel ⟨F, ρ, σ, .refl I, hf⟩) (fun r s' h => by cases r with | ok fl => exact h | error e => exact h.elim)
 refine wpQ fun Q Ex hQ _ => ?_
 refine nG fun ng => ?_
 obtain ⟨F1, ρ1, σ1, n₁, hw⟩ := hI
 refine ng ?_
 clear ng
 cases n with
 | zero => cases hw
 | succ n =>
  dsimp only [cWhile] at hw
  refine nG fun ng => ?_
  split at hw
  ·rename_i σ₂ e
   cases hw
   refine ng ?_
   clear ng
   refine wpAny_mono (ht A env F1 P ρ1 σ1 s₁ false σ' hA (n₁.env E) n₁.inv e) (fun b' s₂ zq => ?_) fun _ _ x => x.elim
   refine nG fun ng => ?_
   obtain ⟨eb, F2, ρ₂, n₂⟩ := zq
   subst eb
   refine ng ?_
   clear ng
   refine hQ _ _ ?_
   exact wpAny_execs_nil ⟨F2, ρ₂, n₁.trans n₂.sx, rfl⟩
  ·rename_i σ₂ e
   refine ng ?_
   clear ng
   refine wpAny_mono (ht A env F1 P ρ1 σ1 s₁ true σ₂ hA (n₁.env E) n₁.inv e) (fun b' s₂ zq => ?_) fun _ _ x => x.elim
   refine nG fun ng => ?_
   obtain ⟨eb, F2, ρ₂, n₂⟩ := zq
   subst eb
   have n12 := n₁.trans n₂.sx
   refine ng ?_
   clear ng
   refine hQ _ _ ?_
   refine body_ok hb hA (n12.env E) n₂.inv hw (fun F3 ρ3 σ3 s₃ n₃ k => ?_) (fun F3 ρ3 s₃ n₃ q => ?_) (fun V F3 ρ3 s₃ n₃ q => ?_)
   ·exact ⟨⟨n, Nat.lt_succ_self n, F3, ρ3, σ3, n12.trans n₃, k⟩, ⟨n, Nat.lt_succ_self n, F3, ρ3, σ3, n12.trans n₃, k⟩⟩
   ·subst q; exact ⟨F3, ρ3, n12.trans n₃, rfl⟩
   ·exact ⟨F3, ρ3, n12.trans n₃, q⟩
  ·cases hw
end
section
variable {C : Cx} {X : zj}
noncomputable def PH.add (P : PH) (a : Addr) (o : Obj) : PH := fun b => if b = a then some o else P b
theorem PH.add_self (P : PH) (a : Addr) (o : Obj) : P.add a o a = some o := if_pos rfl
theorem PH.add_off (P : PH) {a b : Addr} (o : Obj) (h : b ≠ a) : P.add a o b = P b := if_neg h
theorem PH.le_add {P : PH} {a : Addr} {o : Obj} (h : P a = none) : PH.le P (P.add a o) := fun b x e => by
 by_cases q : b = a
 ·rw [q, h] at e; cases e
 ·rw [PH.add_off P o q]; exact e
theorem zb.addP {N : Nat -> List Str} {F P : PH} {ρ : Nat -> Addr} {σ : List zA} {h : Heap} {a : Addr} {o : Obj} (I : zb C N F P ρ σ h) (hP : P a = none) (ho : h.get? a = some o) (hne : Off σ ρ a) : zb C N F (P.add a o) ρ σ h := by
 refine ⟨I.f, fun b x e => ?_, I.top.trans (PH.le_add hP), I.ob, fun i x e l => ⟨(I.fr i x e l).1, ?_⟩, I.inj⟩
 ·by_cases q : b = a
  ·have q := q.symm; subst q; rw [PH.add_self] at e; cases e; exact ho
  ·rw [PH.add_off P o q] at e; exact I.p b x e
 ·rw [PH.add_off P o (hne i x e l)]; exact (I.fr i x e l).2
theorem zb.dropP {N : Nat -> List Str} {F P P' : PH} {ρ : Nat -> Addr} {σ : List zA} {h : Heap} (I : zb C N F P' ρ σ h) (le : PH.le P P') (top : PH.le C.P0 P) : zb C N F P ρ σ h := by
 refine ⟨I.f, le.trans I.p, top, I.ob, fun i x e l => ⟨(I.fr i x e l).1, ?_⟩, I.inj⟩
 cases q : P (ρ i) with
 | none => rfl
 | some y => exact absurd (le _ _ q) (by rw [(I.fr i x e l).2]; exact nofun)
theorem zb.offA {N : Nat -> List Str} {F P : PH} {ρ : Nat -> Addr} {σ : List zA} {h h' : Heap} {a : Addr} (I : zb C N F P ρ σ h) (k : ∀ b o, b ≠ a -> h.get? b = some o -> h'.get? b = some o) (hF : F a = none) (hP : P a = none)
  (hne : Off σ ρ a) : zb C N F P ρ σ h' := by
 refine ⟨fun b o e => k b o (fun q => by rw [q, hF] at e; cases e) (I.f b o e), fun b o e => k b o (fun q => by rw [q, hP] at e; cases e) (I.p b o e), I.top, fun i x e => ?_, I.fr, I.inj⟩
 by_cases l : x.live = true
 ·exact (I.ob i x e).mono (.refl F) fun o e' => k _ o (hne i x e l) e'
 ·exact (I.ob i x e).still l
inductive Itr (C : Cx) (F P₀ : PH) (xs : List PV) (I : Addr) (h : Heap) : Prop where
 | mk (fp : List Addr) (n : Nat) (P : Nat -> Value -> Prop) (St : Nat -> Heap -> Prop) (i : Nat)
  (W : ∀ A : Around, A.handled = none -> Walks C.prog C.w A I fp [I] n P St) (st : St i h) (e : i + xs.length = n) (hf : ∀ b ∈ fp, b = I \/ (∃ o, F b = some o) \/ ∃ o, P₀ b = some o)
  (hr : ∀ j v x, P (i + j) v -> xs[j]? = some x -> Rep F x v) (ha : ∀ i h, St i h -> ∃ o, h.get? I = some o) : Itr C F P₀ xs I h
theorem Itr.alive {F P₀ : PH} {xs : List PV} {I : Addr} {h : Heap} (x : Itr C F P₀ xs I h) : ∃ o, h.get? I = some o := by
 refine nG fun ng => ?_
 obtain ⟨fp, n, P, St, i, W, st, e, hf, hr, ha⟩ := x
 refine ng ?_
 clear ng
 exact ha _ _ st
theorem Itr.keep {F F' P₀ : PH} {xs : List PV} {I : Addr} {h h' : Heap} (x : Itr C F P₀ xs I h) (hF : PH.le F h.get?) (le : PH.le F F') (hF' : PH.le F' h'.get?) (hP : PH.le P₀ h.get?) (hP' : PH.le P₀ h'.get?) (k : ∀ o, h.get? I = some o -> h'.get? I = some o) : Itr C F' P₀ xs I h' := by
 refine nG fun ng => ?_
 obtain ⟨fp, n, P, St, i, W, st, e, hf, hr, ha⟩ := x
 refine ng ?_
 clear ng
 refine ⟨fp, n, P, St, i, W, (W { handled := none } rfl).frame _ _ _ st fun b hb o ho => ?_, e, fun b hb => ?_, fun j v x p q => (hr j v x p q).mono le, ha⟩
 ·refine nG fun ng => ?_
  rcases hf b hb with rfl | ⟨o', ho'⟩ | ⟨o', ho'⟩
  ·refine ng ?_
   clear ng
   exact k o ho
  ·have := hF _ _ ho'
   rw [ho] at this; cases this
   refine ng ?_
   clear ng
   exact hF' _ _ (le _ _ ho')
  ·have := hP _ _ ho'
   rw [ho] at this; cases this
   refine ng ?_
   clear ng
   exact hP' _ _ ho'
 ·refine nG fun ng => ?_
  rcases hf b hb with q | ⟨o', ho'⟩ | q
  ·refine ng ?_
   clear ng
   exact .inl q
  ·refine ng ?_
   clear ng
   exact .inr (.inl ⟨o', le _ _ ho'⟩)
  ·refine ng ?_
   clear ng
   exact .inr (.inr q)
noncomputable def NextPost (C : Cx) (F P₀ : PH) (s : Shared) (I : Addr) : List PV -> Option Value -> Shared -> Prop
 | [], r, s' => r = none /\ (∀ b o, b ≠ I -> s.heap.get? b = some o -> s'.heap.get? b = some o) /\ GX s s'
 | x :: rest, r, s' => (∃ V, r = some V /\ Rep F x V) /\ (∀ b o, b ≠ I -> s.heap.get? b = some o -> s'.heap.get? b = some o) /\ GX s s' /\ Itr C F P₀ rest I s'.heap
theorem Itr.next {A : Around} {n : Nat} {F P₀ : PH} {xs : List PV} {I : Addr} {s : Shared} (hA : AL n A) (x : Itr C F P₀ xs I s.heap) : wpAny C.M A (pyNext (.ref I)) (NextPost C F P₀ s I xs) (fun _ _ => False) s := by
 refine nG fun ng => ?_
 obtain ⟨fp, m, P, St, i, W, st, e, hf, hr, ha⟩ := x
 refine ng ?_
 clear ng
 cases xs with
 | nil =>
  have e' : i = m := by simpa using e
  refine nG fun ng => ?_
  subst e'
  refine ng ?_
  clear ng
  exact (W A hA.handled).done s _ _ st fun h' tk k => ⟨rfl, fun b o hb e => k b o (by simpa using hb) e, .of⟩
 | cons y rest =>
  have hi : i < m := by rw [<- e, List.length_cons]; omega
  refine (W A hA.handled).item i s _ _ hi st fun v h' tk p st' k => ⟨⟨v, rfl, hr 0 v y p rfl⟩, fun b o hb e => k b o (by simpa using hb) e, .of, fp, m, P, St, i + 1, W, st', ?_, hf, fun j v x p q => hr (j + 1) v x (by rw [Nat.add_assoc, Nat.add_comm 1 j] at p; exact p) (by simpa using q), ha⟩
  rw [<- e, List.length_cons]; omega
noncomputable def intsFrom (a : Int) (n : Nat) : List PV := (List.range n).map fun (k : Nat) => .int (a + (k : Int))
noncomputable def items : PV -> Option (List PV)
 | .list xs => some xs
 | .tup xs => some xs
 | .str s => some (s.map fun c => .str [c])
 | .bytes b => some (b.map fun c => .int (c.toNat : Int))
 | .rng a b => if -2147483648 < a /\ b < 2147483648 /\ -2147483648 < b /\ a < 2147483648 then some (intsFrom a (b - a).toNat) else none
 | _ => none
inductive IterPost (C : Cx) (F P₀ : PH) (s : Shared) (xs : List PV) (it : Value) (s' : Shared) : Prop where
 | mk (I : Addr) (e : it = .ref I) (itr : Itr C F P₀ xs I s'.heap) (k : Keeps s.heap s'.heap) (fr : ∀ o, s.heap.get? I ≠ some o) (gx : GX s s') : IterPost C F P₀ s xs it s'
theorem range_small {a b : Int} (h : -2147483648 < a /\ b < 2147483648 /\ -2147483648 < b /\ a < 2147483648) : Builtin.Range.small a b 1 = true := by
 have hs : Builtin.Range.rangeSize a b 1 = ((b - a).toNat : Int) := by unfold Builtin.Range.rangeSize; simp; omega
 unfold Builtin.Range.small
 rw [hs]
 have f : ∀ x : Int, -9223372036854775808 <= x -> x <= 9223372036854775807 -> Builtin.Range.rangeFitsLong x = true := fun x h1 h2 => by
  unfold Builtin.Range.rangeFitsLong
  simp only [Bool.and_eq_true, decide_eq_true_eq]
  omega
 rw [f a (by omega) (by omega), f b (by omega) (by omega), f 1 (by omega) (by omega), f _ (by omega) (by omega), if_pos (by decide), f _ (by omega) (by omega)]
 simp
theorem iter_ok {A : Around} {n : Nat} {F : PH} (P₀ : PH) {s : Shared} {p : PV} {V : Value} {xs : List PV} (_hA : AL n A) (hF : PH.le F s.heap.get?) (r : Rep F p V) (hi : items p = some xs) : wpAny C.M A (pyIter V) (IterPost C F P₀ s xs) (fun _ _ => False) s := by
 have push : ∀ o : Obj, Keeps s.heap (s.heap.push o) := fun o b x e => Heap.get?_push_of_some o e
 have fresh : ∀ o, s.heap.get? s.heap.objs.size ≠ some o := fun o => size_fresh o
 cases r with
 | none => cases hi
 | bool => cases hi
 | int => cases hi
 | ref => cases hi
 | str l t =>
  refine pe hi ?_; clear hi
  have hrep : ∀ j v x, SignAt ⟨l.toArray⟩ (0 + j) v -> (l.map fun c => PV.str [c])[j]? = some x -> Rep F x v := fun j v x p q => by
   obtain ⟨c, u, e1, rfl⟩ := p
   rw [Nat.zero_add] at e1
   have e1' : l[j]? = some c := by simpa using e1
   rw [List.getElem?_map, e1'] at q
   refine pe q ?_; clear q
   exact .str [c] u
  cases ha : (⟨l.toArray⟩ : PySem.Str).cps.all (· < 128) with
  | true =>
   refine wpAny_pyIter_ascii ha ?_
   exact ⟨_, rfl, ⟨[s.heap.objs.size], _, _, _, 0, fun A' hh => Walks.strAscii hh _ _ t, ⟨_, Heap.get?_push_size _ rfl, rfl, rfl⟩, by simp, fun b hb => .inl (by simpa using hb), hrep, fun i h st => by obtain ⟨o, ho, _⟩ := st; exact ⟨o, ho⟩⟩, push _, fresh, .ofh⟩
  | false =>
   refine wpAny_pyIter_wide ha ?_
   exact ⟨_, rfl, ⟨[s.heap.objs.size], _, _, _, 0, fun A' hh => Walks.strWide hh _ _ t, ⟨_, Heap.get?_push_size _ rfl, rfl, rfl⟩, by simp, fun b hb => .inl (by simpa using hb), hrep, fun i h st => by obtain ⟨o, ho, _⟩ := st; exact ⟨o, ho⟩⟩, push _, fresh, .ofh⟩
 | bytes l t =>
  refine pe hi ?_; clear hi
  refine KBw.pyIter_bytes ?_
  refine ⟨_, rfl, ⟨[s.heap.objs.size], _, _, _, 0, fun A' hh => KBw.walks hh _ _ t, ⟨_, Heap.get?_push_size _ rfl, rfl, rfl⟩, by simp, fun b hb => .inl (by simpa using hb), fun j v x p q => ?_, fun i h st => by obtain ⟨o, ho, _⟩ := st; exact ⟨o, ho⟩⟩, push _, fresh, .ofh⟩
  refine nG fun ng => ?_
  obtain ⟨c, u, e1, rfl⟩ := p
  rw [Nat.zero_add] at e1
  have e1' : l[j]? = some c := by simpa using e1
  rw [List.getElem?_map, e1'] at q
  refine ng ?_
  clear ng
  refine pe q ?_; clear q
  exact .int _ u
 | list ha hl hr =>
  rename_i ys vs a m
  refine pe hi ?_; clear hi
  have ho := hF _ _ ha
  refine wpAny_pyIter_list (items := vs.toArray) ⟨_, ho, rfl, m, rfl⟩ ?_
  have hne : a ≠ s.heap.objs.size := Nat.ne_of_lt (Heap.lt_size ho)
  refine ⟨_, rfl, ⟨[s.heap.objs.size, a], _, _, _, 0, fun A' hh => Walks.list hh _ a hne vs.toArray, ⟨⟨_, Heap.get?_push_size _ rfl, rfl, rfl⟩, ⟨_, Heap.get?_push_of_some _ ho, rfl, m, rfl⟩⟩, by simp [hr.length], fun b hb => ?_, fun j v x p q => ?_, fun i h st => by obtain ⟨o, ho, _⟩ := st.1; exact ⟨o, ho⟩⟩, push _, fresh, .ofh⟩
  ·simp at hb; rcases hb with rfl | rfl
   ·exact .inl rfl
   ·exact .inr (.inl ⟨_, ha⟩)
  ·rw [Nat.zero_add] at p
   refine nG fun ng => ?_
   obtain ⟨v', e1, e2⟩ := hr.get q
   have p' : vs[j]? = some v := by simpa using p
   refine ng ?_
   clear ng
   rw [e1] at p'; cases p'; exact e2
 | tup ha hl hr =>
  rename_i ys vs a m
  refine pe hi ?_; clear hi
  have ho := hF _ _ ha
  refine wpAny_pyIter_tuple (items := vs.toArray) ⟨_, ho, rfl, m, rfl⟩ ?_
  have hne : a ≠ s.heap.objs.size := Nat.ne_of_lt (Heap.lt_size ho)
  refine ⟨_, rfl, ⟨[s.heap.objs.size, a], _, _, _, 0, fun A' hh => Walks.tuple hh _ a hne vs.toArray, ⟨⟨_, Heap.get?_push_size _ rfl, rfl, rfl⟩, ⟨_, Heap.get?_push_of_some _ ho, rfl, m, rfl⟩⟩, by simp [hr.length], fun b hb => ?_, fun j v x p q => ?_, fun i h st => by obtain ⟨o, ho, _⟩ := st.1; exact ⟨o, ho⟩⟩, push _, fresh, .ofh⟩
  ·simp at hb; rcases hb with rfl | rfl
   ·exact .inl rfl
   ·exact .inr (.inl ⟨_, ha⟩)
  ·rw [Nat.zero_add] at p
   refine nG fun ng => ?_
   obtain ⟨v', e1, e2⟩ := hr.get q
   have p' : vs[j]? = some v := by simpa using p
   refine ng ?_
   clear ng
   rw [e1] at p'; cases p'; exact e2
 | rng ha =>
  rename_i a b r t u v
  have hi : (if -2147483648 < a /\ b < 2147483648 /\ -2147483648 < b /\ a < 2147483648 then some (intsFrom a (b - a).toNat) else none) = some xs := hi
  refine nG fun ng => ?_
  refine i1 hi ?_; clear hi; intro hb hi
  refine ng ?_
  clear ng
  refine pe hi ?_; clear hi
  have hsz : Builtin.Range.rangeSize a b 1 = ((b - a).toNat : Int) := by unfold Builtin.Range.rangeSize; simp; omega
  refine wpAny_pyIter_range (hF _ _ ha) (range_small hb) ?_
  refine ⟨_, rfl, ⟨[s.heap.objs.size], _, _, _, 0, fun A' hh => Walks.range hh _ a 1 (b - a).toNat, ?_, by simp [intsFrom], fun c hc => .inl (by simpa using hc), fun j v x p q => ?_, fun i h st => ⟨_, st⟩⟩, push _, fresh, .ofh⟩
  ·rw [hsz]
   show (s.heap.push _).get? _ = _
   rw [Heap.get?_push_size _ rfl]
   simp [rawInt]
  ·refine nG fun ng => ?_
   obtain ⟨t', rfl⟩ := p
   refine ng ?_
   clear ng
   rw [Nat.zero_add]
   unfold intsFrom at q
   rw [List.getElem?_map] at q
   cases hj : (List.range (b - a).toNat)[j]? with
   | none => rw [hj] at q; cases q
   | some k =>
    rw [hj] at q
    refine pe q ?_; clear q
    have : k = j := by
     have := List.getElem?_eq_some_iff.mp hj
     obtain ⟨_, e⟩ := this
     simpa using e.symm
    refine nG fun ng => ?_
    subst this
    refine ng ?_
    clear ng
    rw [Int.mul_one]
    exact .int _ _
noncomputable def cForL (fi : Nat) (p : Pl) (b : CC Fl) : List PV -> CC Fl
 | [] => fun σ => some (.next, σ)
 | x :: xs => fun σ => match p.set fi (.imm x) σ with
  | some σ1 => (match b σ1 with
   | some (.next, σ₂) => cForL fi p b xs σ₂
   | some (.cont, σ₂) => cForL fi p b xs σ₂
   | some (.brk, σ₂) => some (.next, σ₂)
   | some (.ret q, σ₂) => some (.ret q, σ₂)
   | none => none)
  | none => none
noncomputable def cFor (fi : Nat) (p : Pl) (f : CC PV) (b : CC Fl) : CC Fl := fun σ => match f σ with
 | some (v, σ1) => (match items v with | some xs => cForL fi p b xs σ1 | none => none)
 | none => none
theorem bind_ok {A : Around} {env : Env} {x : Str} {px : Pos} {p : Pl} {F P : PH} {ρ : Nat -> Addr} {σ σ' : List zA} {s : Shared} {v : AV} {V : Value}
  (hp : PlOK X x p) (E : zZ X ρ env) (I : zb C X.N F P ρ σ s.heap) (r : AVRep F ρ v V) (hf : p.set X.fi v σ = some σ') :
  wpAny C.M A (assign (.Name x px) env V) (fun _ s' => Sx C X F P ρ s F ρ σ' s') (fun _ _ => False) s :=
 wpAny_bind (m := standAt px) (f := fun _ => bindName env x V) (wpAny_standAt (wpAny_bindName (store_ok hp E I r hf)))
inductive ForJ (C : Cx) (X : zj) (F P : PH) (ρ : Nat -> Addr) (s : Shared) (σ' : List zA) (v : Fl) (p : Pl) (b : CC Fl) (I0 : Addr) (n : Nat) (s₃ : Shared) : Prop where
 | mk (F3 : PH) (ρ3 : Nat -> Addr) (σ3 : List zA) (ys : List PV) (n₃ : Sx C X F P ρ s F3 ρ3 σ3 s₃) (itr : Itr C F3 P ys I0 s₃.heap) (hF : F3 I0 = none) (hne : Off σ3 ρ3 I0) (hl : ys.length = n) (hw : cForL X.fi p b ys σ3 = some (v, σ')) : ForJ C X F P ρ s σ' v p b I0 n s₃
theorem st_for {x : Str} {px pos : Pos} {iter : Expr} {body : List Stmt} {f : CC PV} {b : CC Fl} (p : Pl) (hp : PlOK X x p) (hi : EvP C X iter f) (hb : zi C X body b)
  (hs : ∀ env v, foldedSetIterable iter env v = pure v := by intro _ _; rfl) : StOK C X (.For (.Name x px) iter body [] pos) (cFor X.fi p f b) := by
 intro A env F P ρ σ s v σ' hA E I hf
 unfold cFor at hf
 refine nG fun ng => ?_
 refine ivP hf ?_; clear hf; intro pv σ1 e1 hf
 refine ivPL hf ?_; clear hf; intro xs e2 hf
 refine ng ?_
 clear ng
 rw [exec_For]
 refine wpAny_bind (wpAny_standAt (wpAny_bind (wpAny_mono (hi A env F P ρ σ s pv σ1 hA E I e1) (fun V s₁ zq => ?_) fun _ _ x => x)))
 obtain ⟨F1, ρ1, n₁, r₁⟩ := zq
 refine wpAny_bind (wpAny_of_eq (hs env V) (wpAny_bind (wpAny_standAt (wpAny_bind (wpAny_holding (wpAny_mono (iter_ok P hA n₁.inv.f r₁ e2) (fun it s₂ h₂ => ?_) fun _ _ x => x))))))
 refine nG fun ng => ?_
 obtain ⟨I0, rfl, itr, kp, fr, gx⟩ := h₂
 obtain ⟨q1, q2, q3⟩ := n₁.inv.fresh fr
 have I₂ : zb C X.N F1 P ρ1 σ1 s₂.heap := n₁.inv.kept kp
 have n₂ : Sx C X F P ρ s F1 ρ1 σ1 s₂ := n₁.sx.trans ⟨I₂, ⟨gx, .refl _, fun _ _ => rfl⟩, fun _ _ _ => rfl⟩
 refine ng ?_
 clear ng
 refine wpAny_runOwn (codeAny_mono (codeAny_forLoop (R := fun r s' => match r with | .ok fl => PoF C X F P ρ s σ' v fl s' | .error _ => False) (ForJ C X F P ρ s σ' v p b I0) (fun n s₃ hI => ?_) xs.length
  ⟨F1, ρ1, σ1, xs, n₂, itr, q1, q3, rfl, hf⟩) (fun r s' h => by cases r with | ok fl => exact h | error e => exact h.elim))
 refine wpQ fun Q Ex hQ _ => ?_
 refine nG fun ng => ?_
 obtain ⟨F3, ρ3, σ3, ys, n₃, itr, hF3, hne, hl, hw⟩ := hI
 refine ng ?_
 clear ng
 refine wpAny_mono (itr.next hA) (fun r s₄ h₄ => ?_) fun _ _ x => x.elim
 cases ys with
 | nil =>
  refine nG fun ng => ?_
  obtain ⟨rfl, kp, gx⟩ := h₄
  cases hw
  refine ng ?_
  clear ng
  refine hQ _ _ ?_
  refine wpAny_execs_nil ?_
  exact ⟨F3, ρ3, n₃.trans ⟨n₃.inv.offA kp hF3 q2 hne, ⟨gx, .refl _, fun _ _ => rfl⟩, fun _ _ _ => rfl⟩, rfl⟩
 | cons y ys =>
  refine nG fun ng => ?_
  obtain ⟨⟨V, rfl, rv⟩, kp, gx, itr'⟩ := h₄
  obtain ⟨oI, hoI⟩ := itr'.alive
  have I₄ : zb C X.N F3 P ρ3 σ3 s₄.heap := n₃.inv.offA kp hF3 q2 hne
  have n₄ : Sx C X F P ρ s F3 ρ3 σ3 s₄ := n₃.trans ⟨I₄, ⟨gx, .refl _, fun _ _ => rfl⟩, fun _ _ _ => rfl⟩
  dsimp only [cForL] at hw
  refine ivS hw ?_; clear hw; intro σ5 e5 hw
  have I4' := I₄.addP q2 hoI hne
  refine ng ?_
  clear ng
  refine hQ _ _ ?_
  refine wpAny_mono (bind_ok hp (n₄.env E) I4' (v := .imm y) rv e5) (fun _ s₅ n₅ => ?_) fun _ _ x => x.elim
  refine wpQ fun Q2 Ex2 hQ2 _ => ?_
  have fin : ∀ {F6 ρ6 σ6 s₆}, Sx C X F3 (P.add I0 oI) ρ3 s₄ F6 ρ6 σ6 s₆ -> Sx C X F P ρ s F6 ρ6 σ6 s₆ /\ Itr C F6 P ys I0 s₆.heap /\ F6 I0 = none /\ Off σ6 ρ6 I0 := fun {F6 ρ6 σ6 s₆} n => by
   refine ⟨n₄.trans ⟨n.inv.dropP (PH.le_add q2) I.top, ⟨n.pu.gx, n.pu.le, fun a ha => n.pu.ag a (by
    intro z
    by_cases q : a = I0
    ·have q := q.symm; subst q; exact ha q2
    ·rw [PH.add_off P oI q] at z; exact ha z)⟩, n.rho⟩, itr'.keep I₄.f n.pu.le n.inv.f I₄.p ((PH.le_add q2).trans n.inv.p) (fun o ho => ?_), ?_, fun j x e l q => ?_⟩
   ·rw [hoI] at ho; cases ho
    exact n.inv.p _ _ (PH.add_self P I0 oI)
   ·rw [n.pu.ag I0 (by rw [PH.add_self]; exact nofun)]; exact hF3
   ·have := (n.inv.fr j x e l).2
    rw [q, PH.add_self] at this; cases this
  refine body_ok hb hA (n₄.env E) n₅.inv hw (fun F6 ρ6 σ6 s₆ n₆ k => ?_) (fun F6 ρ6 s₆ n₆ q => ?_) (fun V F6 ρ6 s₆ n₆ q => ?_)
  ·refine nG fun ng => ?_
   obtain ⟨w1, w2, w3, w4⟩ := fin (n₅.trans n₆)
   have z : ForJ C X F P ρ s σ' v p b I0 ys.length s₆ := ⟨F6, ρ6, σ6, ys, w1, w2, w3, w4, rfl, k⟩
   have hz : ys.length < n := by rw [<- hl]; exact Nat.lt_succ_self _
   refine ng ?_
   clear ng
   exact ⟨hQ2 _ _ ⟨_, hz, z⟩, hQ2 _ _ ⟨_, hz, z⟩⟩
  ·subst q; exact hQ2 _ _ ⟨F6, ρ6, (fin (n₅.trans n₆)).1, rfl⟩
  ·exact hQ2 _ _ ⟨F6, ρ6, (fin (n₅.trans n₆)).1, q⟩
end
section
variable {C : Cx} {X : zj}
noncomputable def layL : List (Str × NameKind) -> List Nat -> List (Str × Nat) -> List (Str × Nat)
 | [], _, acc => acc
 | (n, k) :: r, is, acc => if k == .cell then (match is with | i :: is => layL r is ((n, i) :: acc) | [] => acc) else layL r is acc
noncomputable def layS : List (Str × NameKind) -> List Nat -> List zA -> List zA
 | [], _, σ => σ
 | (_, k) :: r, is, σ => if k == .cell then (match is with | i :: is => layS r is (newOwn i (.cell none) σ) | [] => σ) else layS r is σ
noncomputable def nCells : List (Str × NameKind) -> Nat
 | [] => 0
 | (_, k) :: r => if k == .cell then nCells r + 1 else nCells r
theorem newOwn_length (i : Nat) (o : zA) (σ : List zA) : (newOwn i o σ).length = σ.length := by unfold newOwn; simp
noncomputable def clA (ρ : Nat -> Addr) (cl : List (Str × Nat)) : List (Str × Addr) := cl.map fun p => (p.1, ρ p.2)
theorem lay_ok {N : Nat -> List Str} {F P : PH} : ∀ (names : List (Str × NameKind)) (is : List Nat) (acc : List (Str × Nat)) (ρ : Nat -> Addr) (σ : List zA) (h : Heap), zb C N F P ρ σ h -> nCells names = is.length -> is.Nodup -> (∀ i ∈ is, i < σ.length) -> (∀ x ∈ acc, x.2 ∉ is) ->
  ∃ ρ', zb C N F P ρ' (layS names is σ) (pushCells h names) /\ cellsFrom h.objs.size names (clA ρ acc) = clA ρ' (layL names is acc) /\ (∀ i, i ∉ is -> ρ' i = ρ i) /\
   (∀ j y, (layS names is σ)[j]? = some y -> y.live = true -> (ρ' j = ρ j /\ ∃ z, σ[j]? = some z /\ z.live = true) \/ h.objs.size <= ρ' j) /\ h.objs.size <= (pushCells h names).objs.size
 | [], is, acc, ρ, σ, h, I, hn, hd, hl, ha => ⟨ρ, I, rfl, fun _ _ => rfl, fun j y e l => .inl ⟨rfl, y, e, l⟩, Nat.le_refl _⟩
 | (n, k) :: r, is, acc, ρ, σ, h, I, hn, hd, hl, ha => by
  dsimp only [layS, layL, pushCells, cellsFrom]
  cases hk : k == NameKind.cell with
  | false =>
   simp only [Bool.false_eq_true, if_false]
   dsimp only [nCells] at hn
   rw [hk] at hn
   exact lay_ok r is acc ρ σ h I hn hd hl ha
  | true =>
   simp only [if_true]
   dsimp only [nCells] at hn
   rw [hk] at hn
   cases is with
   | nil => cases hn
   | cons i is =>
    dsimp only
    have hn' : nCells r = is.length := Nat.succ.inj hn
    have hd' := List.nodup_cons.mp hd
    obtain ⟨q1, q2, q3⟩ := I.fresh (a := h.objs.size) size_fresh
    have I1 : zb C N F P ρ σ (h.push { cls := .type "cell", data := .cell none }) := I.kept fun b o e => Heap.get?_push_of_some _ e
    have I2 := I1.newOwn (o' := .cell none) (hl i List.mem_cons_self) q1 q2 q3 ⟨none, ⟨_, Heap.get?_push_size _ rfl, rfl⟩, nofun⟩
    obtain ⟨ρ', J, ec, hr, hlv, hsz⟩ := lay_ok r is ((n, i) :: acc) (upd ρ i h.objs.size) (newOwn i (.cell none) σ) _ I2 hn' hd'.2 (fun j hj => by rw [newOwn_length]; exact hl j (List.mem_cons_of_mem _ hj)) (fun x hx => by
     rcases List.mem_cons.mp hx with rfl | hx
     ·exact hd'.1
     ·exact fun q => ha x hx (List.mem_cons_of_mem _ q))
    refine ⟨ρ', J, ?_, fun j hj => ?_, fun j y e l => ?_, by rw [Heap.size_push] at hsz; omega⟩
    ·rw [<- ec, Heap.size_push]
     have e1 : clA (upd ρ i h.objs.size) ((n, i) :: acc) = (n, h.objs.size) :: clA ρ acc := by
      show (n, upd ρ i h.objs.size i) :: clA (upd ρ i h.objs.size) acc = _
      have e2 : clA (upd ρ i h.objs.size) acc = clA ρ acc := by
       unfold clA
       refine List.map_congr_left fun x hx => ?_
       have : upd ρ i h.objs.size x.2 = ρ x.2 := if_neg fun (q : x.2 = i) => ha x hx (q ▸ List.mem_cons_self)
       rw [this]
      rw [e2, show upd ρ i h.objs.size i = h.objs.size from if_pos rfl]
     rw [e1]
    ·rw [hr j fun q => hj (List.mem_cons_of_mem _ q)]
     exact if_neg fun (q : j = i) => hj (q ▸ List.mem_cons_self)
    ·rcases hlv j y e l with ⟨a, z, b, c⟩ | a
     ·by_cases q : i = j
      ·subst q
       right
       rw [a, show upd ρ i h.objs.size i = h.objs.size from if_pos rfl]
       exact Nat.le_refl _
      ·left
       unfold newOwn at b
       rw [List.getElem?_set_ne q, List.getElem?_map] at b
       cases w : σ[j]? with
       | none => rw [w] at b; cases b
       | some y' =>
        rw [w] at b; cases b
        exact ⟨a.trans (if_neg fun (z : j = i) => q z.symm), y', rfl, by rw [<- clr_live i]; exact c⟩
     ·right
      rw [Heap.size_push] at a
      omega
noncomputable def relX (scope o : Scope) : Scope :=
 { scope with names := scope.names.map fun (n, k) => if (k == .free && o.kind == .function && o.names.lookup n == some .cell) then (n, .cell) else (n, k) }
theorem relX_eq {scope : Scope} {env : Env} {o : Scope} (h : env.scope = o) : relabel scope env = relX scope o := by subst h; rfl
noncomputable abbrev ze (X : zj) (ci : Nat) (cl : List (Str × Nat)) (scope : Scope) (tmp' : List Nat) : zj :=
 { n := X.n, fi := ci, N := X.N, cells := cl, scope := relX scope X.scope, tmp := tmp', own := [], pins := X.pins }
noncomputable def closL (cells : List (Str × Nat)) : List (Str × NameKind) -> List (Str × Nat) -> Option (List (Str × Nat))
 | [], acc => some acc
 | (n, k) :: r, acc => if k == .free then (match cells.lookup n with | some i => closL cells r ((n, i) :: acc) | none => none) else closL cells r acc
theorem closL_ok {ρ : Nat -> Addr} {env : Env} (E : zZ X ρ env) {names : List (Str × NameKind)} {acc cl : List (Str × Nat)} (h : closL X.cells names acc = some cl) :
  (forIn names (clA ρ acc) fun x (cs : List (Str × Addr)) => match x with | (name, kind) => if (kind == NameKind.free) = true then (do let c <- cellOf env name; pure (ForInStep.yield ((name, c) :: cs))) else pure (ForInStep.yield cs)) = (pure (clA ρ cl) : Sem (List (Str × Addr))) := by
 induction names generalizing acc with
 | nil => cases h; rfl
 | cons y r ih =>
  refine nG fun ng => ?_
  obtain ⟨n, k⟩ := y
  refine ng ?_
  clear ng
  rw [List.forIn_cons]
  dsimp only [closL] at h
  refine nG fun ng => ?_
  split at h
  ·rename_i hk
   split at h
   ·rename_i i hi
    refine ng ?_
    clear ng
    simp only [hk, if_true]
    have : cellOf env n = pure (ρ i) := by unfold cellOf; rw [E.cells n i hi]
    rw [this]
    exact ih h
   ·cases h
  ·rename_i hk
   refine ng ?_
   clear ng
   simp only [hk, Bool.false_eq_true, if_false]
   exact ih h
theorem closure_ok {ρ : Nat -> Addr} {env : Env} (E : zZ X ρ env) {scope : Scope} {cl : List (Str × Nat)} (h : closL X.cells scope.names [] = some cl) : closureFor scope env = pure (clA ρ cl) := by
 have := closL_ok E (acc := []) h
 simp only [closureFor]
 exact (congrArg (fun t : Sem (List (Str × Addr)) => t >>= fun r => pure r) this)
noncomputable def TfOK (C : Cx) (X : zj) (ifs : List Expr) (f : CC Bool) : Prop :=
 ∀ A env F P ρ σ s v σ', AL X.n A -> zZ X ρ env -> zb C X.N F P ρ σ s.heap -> f σ = some (v, σ') ->
  wpAny C.M A (forIn ifs true fun c r => if r = true then do let ok <- isTrue c env (eval c env); pure (ForInStep.yield ok) else pure (ForInStep.yield r)) (PoB C X F P ρ s σ' v) (fun _ _ => False) s
noncomputable def zc : CC Bool := fun σ => some (true, σ)
theorem tf_nil : TfOK C X [] zc := by
 intro A env F P ρ σ s v σ' hA E I hf
 refine pf hf ?_; clear hf
 exact wpAny_tests_nil ⟨rfl, F, ρ, .refl I⟩
theorem tf_one {t : Expr} {f : CC Bool} (h : TsOK C X t f) : TfOK C X [t] f := by
 intro A env F P ρ σ s v σ' hA E I hf
 exact wpAny_tests_one (h A env F P ρ σ s v σ' hA E I hf)
noncomputable def cCompL (fi : Nat) (p : Pl) (t : CC Bool) (elt : CC PV) : List PV -> CC (List PV)
 | [] => fun σ => some ([], σ)
 | x :: xs => fun σ => match p.set fi (.imm x) σ with
  | some σ1 => (match t σ1 with
   | some (true, σ₂) => (match elt σ₂ with
    | some (y, σ3) => (match cCompL fi p t elt xs σ3 with | some (ys, σ4) => some (y :: ys, σ4) | none => none)
    | none => none)
   | some (false, σ₂) => cCompL fi p t elt xs σ₂
   | none => none)
  | none => none
theorem cCompL_s {fi : Nat} {p : Pl} {t : CC Bool} {elt : CC PV} {x : PV} {xs : List PV} {σ : List zA} : cCompL fi p t elt (x :: xs) σ = (match p.set fi (.imm x) σ with
  | some σ1 => (match t σ1 with
   | some (true, σ₂) => (match elt σ₂ with
    | some (y, σ3) => (match cCompL fi p t elt xs σ3 with | some (ys, σ4) => some (y :: ys, σ4) | none => none)
    | none => none)
   | some (false, σ₂) => cCompL fi p t elt xs σ₂
   | none => none)
  | none => none) := rfl
theorem PH.add_le {P : PH} {h : Heap} {a : Addr} {o : Obj} (hp : PH.le P h.get?) (ho : h.get? a = some o) : PH.le (P.add a o) h.get? := fun b x e => by
 by_cases q : b = a
 ·subst q; rw [PH.add_self] at e; cases e; exact ho
 ·rw [PH.add_off P o q] at e; exact hp b x e
inductive CompR (C : Cx) (X : zj) (F P : PH) (ρ : Nat -> Addr) (s : Shared) (σ' : List zA) (D : Addr) (ys : List PV) (s' : Shared) : Prop where
 | mk (F' : PH) (ρ' : Nat -> Addr) (vs : List Value) (n : Nx C X F P ρ s F' ρ' σ' s') (hL : s'.heap.PlainList D (List.toArray vs)) (hr : RepL F' ys vs) (hD : F' D = none) (of : Off σ' ρ' D) (hl : vs.length <= 1000000) : CompR C X F P ρ s σ' D ys s'
inductive CompJ (C : Cx) (X : zj) (F P : PH) (ρ : Nat -> Addr) (s : Shared) (σ' : List zA) (p : Pl) (t : CC Bool) (fe : CC PV) (I0 D : Addr) (ys : List PV) (n : Nat) (s₃ : Shared) : Prop where
 | mk (F3 : PH) (ρ3 : Nat -> Addr) (σ3 : List zA) (zs : List PV) (vs : List Value) (done rest : List PV) (n₃ : Nx C X F P ρ s F3 ρ3 σ3 s₃) (itr : Itr C F3 P zs I0 s₃.heap) (hL : s₃.heap.PlainList D (List.toArray vs)) (hr : RepL F3 done vs) (hF : F3 I0 = none) (hD : F3 D = none)
  (o1 : Off σ3 ρ3 I0) (o2 : Off σ3 ρ3 D) (hl : zs.length = n) (hw : cCompL X.fi p t fe zs σ3 = some (rest, σ')) (hy : ys = done ++ rest) (hs : vs.length + zs.length <= 1000000) : CompJ C X F P ρ s σ' p t fe I0 D ys n s₃
theorem comp_loop {A : Around} {cenv : Env} {elt iter : Expr} {x : Str} {px : Pos} {ifs : List Expr} {scope : Scope} {pos : Pos} {p : Pl} {t : CC Bool} {fe : CC PV} {F P : PH} {ρ : Nat -> Addr} {σ σ' : List zA} {s : Shared} {xs ys : List PV} {I0 D : Addr}
  (hp : PlOK X x p) (ht : TfOK C X ifs t) (he : EvP C X elt fe) (hA : AL X.n A) (E : zZ X ρ cenv) (I : zb C X.N F P ρ σ s.heap) (itr : Itr C F P xs I0 s.heap) (hD : s.heap.PlainList D #[])
  (hFI : F I0 = none) (hFD : F D = none) (hPI : P I0 = none) (hPD : P D = none) (hne : Off σ ρ I0) (hneD : Off σ ρ D) (hID : I0 ≠ D)
  (hf : cCompL X.fi p t fe xs σ = some (ys, σ')) (hl : xs.length <= 1000000) :
  codeAny C.M A (.compLoop (.ListComp elt [⟨.Name x px, iter, ifs, 0⟩] scope pos) 0 (.ref I0) (.ref D) cenv) (fun r s' => match r with
   | .ok _ => CompR C X F P ρ s σ' D ys s'
   | .error _ => False) s := by
 refine nG fun ng => ?_
 obtain ⟨R, hR⟩ : ∃ R : Result -> Shared -> Prop, R = fun r s' => match r with
   | .ok _ => CompR C X F P ρ s σ' D ys s'
   | .error _ => False := ⟨_, rfl⟩
 refine ng ?_
 clear ng
 refine codeAny_mono (codeAny_compLoop_tests (R := R) (CompJ C X F P ρ s σ' p t fe I0 D ys) (fun n s₃ hI => ?_) xs.length
  ⟨F, ρ, σ, xs, [], [], ys, .refl I, itr, hD, .nil, hFI, hFD, hne, hneD, rfl, hf, rfl, by simpa using hl⟩) (fun r s' h => by rw [hR] at h; exact h)
 refine wpQ fun Q Ex hQ _ => ?_
 refine nG fun ng => ?_
 obtain ⟨F3, ρ3, σ3, zs, vs, done, rest, n₃, itr, hL, hr, hF3, hF3D, hne3, hne3D, hlen, hw, hys, hsz⟩ := hI
 refine ng ?_
 clear ng
 refine wpAny_mono (itr.next hA) (fun r s₄ h₄ => ?_) fun _ _ x => x.elim
 cases zs with
 | nil =>
  refine nG fun ng => ?_
  obtain ⟨rfl, kp, gx⟩ := h₄
  cases hw
  rw [List.append_nil] at hys
  subst hys
  refine ng ?_
  clear ng
  refine hQ _ _ ?_
  rw [hR]
  exact ⟨F3, ρ3, vs, n₃.trans ⟨n₃.inv.offA kp hF3 hPI hne3, ⟨gx, .refl _, fun _ _ => rfl⟩, fun _ _ => rfl⟩, plain_keeps hL fun o e => kp _ _ (Ne.symm hID) e, hr, hF3D, hne3D, by simpa using hsz⟩
 | cons z zs =>
  refine nG fun ng => ?_
  obtain ⟨⟨V, rfl, rv⟩, kp, gx, itr'⟩ := h₄
  obtain ⟨oI, hoI⟩ := itr'.alive
  have I₄ : zb C X.N F3 P ρ3 σ3 s₄.heap := n₃.inv.offA kp hF3 hPI hne3
  have n₄ : Nx C X F P ρ s F3 ρ3 σ3 s₄ := n₃.trans ⟨I₄, ⟨gx, .refl _, fun _ _ => rfl⟩, fun _ _ => rfl⟩
  have hL4 : s₄.heap.PlainList D vs.toArray := plain_keeps hL fun o e => kp _ _ (Ne.symm hID) e
  obtain ⟨nD, hoD⟩ := id hL4
  generalize hoDe : ({ cls := .type "list", data := .seq vs.toArray nD } : Obj) = oD at hoD
  dsimp only [cCompL] at hw
  refine ivS hw ?_; clear hw; intro σ5 e5 hw
  have hPDI : (P.add I0 oI) D = none := by rw [PH.add_off P oI (Ne.symm hID)]; exact hPD
  have I4' := (I₄.addP hPI hoI hne3).addP hPDI hoD hne3D
  have hle : PH.le P ((P.add I0 oI).add D oD) := (PH.le_add hPI).trans (PH.le_add hPDI)
  have QI : ((P.add I0 oI).add D oD) I0 = some oI := by rw [PH.add_off _ oD hID]; exact PH.add_self P I0 oI
  have QD : ((P.add I0 oI).add D oD) D = some oD := PH.add_self _ D oD
  refine ng ?_
  clear ng
  refine hQ _ _ ?_
  refine wpAny_mono (bind_ok hp (n₄.env E) I4' (v := .imm z) rv e5) (fun _ s₅ n₅ => ?_) fun _ _ x => x.elim
  refine wpQ fun Q2 Ex2 hQ2 _ => ?_
  have n5' : Nx C X F3 ((P.add I0 oI).add D oD) ρ3 s₄ F3 ρ3 σ5 s₅ := ⟨n₅.inv, n₅.pu, fun _ _ => rfl⟩
  have fin : ∀ {F6 : PH} {ρ6 : Nat -> Addr} {σ6 : List zA} {s₆ : Shared}, Nx C X F3 ((P.add I0 oI).add D oD) ρ3 s₄ F6 ρ6 σ6 s₆ -> Nx C X F P ρ s F6 ρ6 σ6 s₆ /\ Itr C F6 P zs I0 s₆.heap /\ s₆.heap.PlainList D vs.toArray /\ RepL F6 done vs /\ F6 I0 = none /\ F6 D = none /\
    (Off σ6 ρ6 I0) /\ (Off σ6 ρ6 D) := fun {F6 ρ6 σ6 s₆} n => by
   refine ⟨n₄.trans ⟨n.inv.dropP hle I.top, ⟨n.pu.gx, n.pu.le, fun a ha => n.pu.ag a fun z => ?_⟩, n.rho⟩, itr'.keep I₄.f n.pu.le n.inv.f I₄.p (hle.trans n.inv.p) (fun o ho => ?_), plain_keeps hL4 fun o ho => ?_, hr.mono n.pu.le, ?_, ?_, fun j y e l q => ?_, fun j y e l q => ?_⟩
   ·cases q : P a with
    | none => exact ha q
    | some o => rw [hle a o q] at z; cases z
   ·rw [hoI] at ho; cases ho; exact n.inv.p _ _ QI
   ·rw [hoD] at ho; cases ho; exact n.inv.p _ _ QD
   ·rw [n.pu.ag I0 (by rw [QI]; exact nofun)]; exact hF3
   ·rw [n.pu.ag D (by rw [QD]; exact nofun)]; exact hF3D
   ·have := (n.inv.fr j y e l).2
    rw [q, QI] at this; cases this
   ·have := (n.inv.fr j y e l).2
    rw [q, QD] at this; cases this
  have E5 : zZ X ρ3 cenv := n₄.env E
  refine nG fun ng => ?_
  split at hw
  ·rename_i σ6 e6
   refine ng ?_
   clear ng
   refine wpAny_mono (ht A cenv F3 _ ρ3 σ5 s₅ true σ6 hA E5 n₅.inv e6) (fun ok s₆ zq => ?_) fun _ _ x => x.elim
   refine nG fun ng => ?_
   obtain ⟨e, F6, ρ6, n₆⟩ := zq
   subst e
   refine ng ?_
   clear ng
   refine hQ2 _ _ ?_
   rw [if_pos rfl]
   refine nG fun ng => ?_
   refine ivP hw ?_; clear hw; intro y σ7 e7 hw
   refine ivL hw ?_; clear hw; intro rest' σ8 e8 hw
   obtain ⟨rfl, rfl⟩ := Prod.mk.inj (Option.some.inj hw)
   refine ng ?_
   clear ng
   refine wpAny_mono (he A cenv F6 _ ρ6 σ6 s₆ y σ7 hA (n₆.env E5) n₆.inv e7) (fun W s₇ zq => ?_) fun _ _ x => x.elim
   refine nG fun ng => ?_
   obtain ⟨F7, ρ₇, n7, r7⟩ := zq
   obtain ⟨w1, w2, w3, w4, w5, w6, w7, w8⟩ := fin ((n5'.trans n₆).trans n7)
   have hvs : vs.length <= 1000000 := by omega
   refine ng ?_
   clear ng
   refine wpAny_list_append_plain w3 (fun h' hl' hs' => ?_) (by rw [List.size_toArray, sizeLine_eq]; omega)
   have e9 : vs.toArray.push W = (vs ++ [W]).toArray := by simp
   rw [e9] at hl'
   have I8 : zb C X.N F7 P ρ₇ σ7 h' := w1.inv.offA (fun b o hb e => (hs'.2 b hb).trans e) w6 hPD w8
   refine ⟨zs.length, by rw [<- hlen, List.length_cons]; omega, ?_⟩
   exact ⟨F7, ρ₇, σ7, zs, vs ++ [W], done ++ [y], rest', w1.trans ⟨I8, ⟨.ofh, .refl _, fun _ _ => rfl⟩, fun _ _ => rfl⟩, w2.keep w1.inv.f (.refl _) I8.f w1.inv.p I8.p (fun o ho => (hs'.2 _ hID).trans ho), hl', w4.append (.cons r7 .nil), w5, w6, w7, w8, rfl, e8, by rw [hys]; simp, by simp only [List.length_append, List.length_cons, List.length_nil] at hsz ⊢; omega⟩
  ·rename_i σ6 e6
   refine ng ?_
   clear ng
   refine wpAny_mono (ht A cenv F3 _ ρ3 σ5 s₅ false σ6 hA E5 n₅.inv e6) (fun ok s₆ zq => ?_) fun _ _ x => x.elim
   refine nG fun ng => ?_
   obtain ⟨e, F6, ρ6, n₆⟩ := zq
   subst e
   refine ng ?_
   clear ng
   refine hQ2 _ _ ?_
   rw [if_neg Bool.false_ne_true]
   refine nG fun ng => ?_
   obtain ⟨w1, w2, w3, w4, w5, w6, w7, w8⟩ := fin (n5'.trans n₆)
   refine ng ?_
   clear ng
   refine ⟨zs.length, by rw [<- hlen, List.length_cons]; omega, ?_⟩
   exact ⟨F6, ρ6, σ6, zs, vs, done, rest, w1, w2, w3, w4, w5, w6, w7, w8, rfl, hw, hys, by simp only [List.length_cons] at hsz; omega⟩
  ·cases hw
inductive CompEnd (C : Cx) (X : zj) (F P : PH) (ρ : Nat -> Addr) (s : Shared) (ci : Nat) (ys : List PV) (σ' : List zA) (acc : Value) (Cl : Addr) (s' : Shared) : Prop where
 | mk (D : Addr) (F' : PH) (ρ' : Nat -> Addr) (vs : List Value) (e : acc = .ref D) (n : Nx C X F P ρ s F' ρ' σ' s') (hL : s'.heap.PlainList D (List.toArray vs)) (hr : RepL F' ys vs) (hF : F' D = none) (hP : P D = none) (of : Off σ' ρ' D) (hl : vs.length <= 1000000) (hc : Cl = ρ' ci) (hD : D ≠ Cl) (vl : ∃ vl, σ'[ci]? = some (.frame vl)) : CompEnd C X F P ρ s ci ys σ' acc Cl s'
structure CompOK (X : zj) (ci : Nat) (is : List Nat) (clo cl : List (Str × Nat)) (scope : Scope) (tmp' : List Nat) : Prop where
 kind : scope.kind = .function
 cnt : nCells scope.names = is.length
 isnd : (ci :: is).Nodup
 ist : ∀ i ∈ is, i ∈ X.tmp /\ i ∉ tmp'
 lay : cl = layL scope.names is clo
 names : ∀ y ∈ scope.names, y.2 = .local -> scope.names.lookup y.1 = some .local
 clos : closL X.cells scope.names [] = some clo
 cloi : ∀ x ∈ clo, x.2 ∉ ci :: is
 hci : ci ∈ X.tmp
 hcit : ci ∉ tmp'
 sub : ∀ i ∈ tmp', i ∈ X.tmp
 clt : ∀ x i, cl.lookup x = some i -> i ∉ tmp'
 nd : (X.N ci).Nodup
theorem lookup_map {ρ : Nat -> Addr} : ∀ {cl : List (Str × Nat)} {x : Str} {i : Nat}, cl.lookup x = some i -> (clA ρ cl).lookup x = some (ρ i)
 | (n, k) :: r, x, i, h => by
  rw [List.lookup_cons] at h
  show ((n, ρ k) :: clA ρ r).lookup x = _
  rw [List.lookup_cons]
  cases q : x == n with
  | true => rw [q] at h; cases h; rfl
  | false => rw [q] at h; exact lookup_map h
theorem frame_new {F : PH} {ρ : Nat -> Addr} {names : List Str} (hn : names.Nodup) (k : Nat) (m : Str -> Option Value) : FrameOK F ρ names (List.replicate k none) m :=
 ⟨hn, fun j x v h1 h2 => by rw [List.getElem?_replicate] at h2; split at h2 <;> cases h2⟩
noncomputable def compIn (ci nv : Nat) (is : List Nat) (σ : List zA) : List zA := is.foldl (fun σ i => newOwn i (.cell none) σ) (newOwn ci (.frame (List.replicate nv none)) σ)
theorem layS_eq : ∀ (names : List (Str × NameKind)) (is : List Nat) (σ : List zA), nCells names = is.length -> layS names is σ = is.foldl (fun σ i => newOwn i (.cell none) σ) σ
 | [], [], _, _ => rfl
 | [], _ :: _, _, h => by cases h
 | (n, k) :: r, is, σ, h => by
  dsimp only [layS]
  dsimp only [nCells] at h
  cases hk : k == NameKind.cell with
  | false => simp only [hk, Bool.false_eq_true, if_false] at h ⊢; exact layS_eq r is σ h
  | true =>
   simp only [hk, if_true] at h ⊢
   cases is with
   | nil => cases h
   | cons i is => dsimp only; rw [layS_eq r is _ (Nat.succ.inj h)]; rfl
theorem wpAny_compEnv {M : Model} {A : Around} {E : Value -> Shared -> Prop} {s : Shared} {scope : Scope} {globals : Addr} {clo : List (Str × Addr)} {qual : Str} {env : Env} {Q : Env -> Shared -> Prop}
  (h : Q (newEnv scope s.heap.objs.size globals (cellsFrom (s.heap.objs.size + 1) scope.names clo) qual none .none (some env) builtinsNs) { s with heap := pushCells (s.heap.push { cls := .type "dict", data := .dict #[] }) scope.names }) :
  wpAny M A (newFunctionEnv scope globals clo [] qual none .none (some env)) Q E s := by
 simp only [newFunctionEnv, Option.isSome_some, if_true]
 refine wpAny_bind (wpAny_alloc ?_)
 refine wpAny_bind (wpAny_layCells _ (fun name kind cells => by cases kind == NameKind.cell <;> simp) _ _ _ _ ?_)
 rw [show ({ s with heap := s.heap.push { cls := .type "dict", data := .dict #[] } } : Shared).heap.objs.size = s.heap.objs.size + 1 from Heap.size_push ..]
 rw [List.forIn_nil]
 exact wpAny_bind (wpAny_pure (wpAny_pure h))
theorem comp_core {A : Around} {env : Env} {elt iter : Expr} {x : Str} {px : Pos} {ifs : List Expr} {scope : Scope} {pos : Pos} {p : Pl} {t : CC Bool} {fe : CC PV} {F P : PH} {ρ : Nat -> Addr} {σ σ' : List zA} {s : Shared} {xs ys : List PV} {I0 : Addr} {ci nv : Nat} {is : List Nat} {clo cl : List (Str × Nat)} {tmp' : List Nat}
  (K : CompOK X ci is clo cl scope tmp') (hp : PlOK (ze X ci cl scope tmp') x p) (ht : TfOK C (ze X ci cl scope tmp') ifs t) (he : EvP C (ze X ci cl scope tmp') elt fe)
  (hA : AL X.n A) (E : zZ X ρ env) (I : zb C X.N F P ρ σ s.heap) (itr : Itr C F P xs I0 s.heap) (hFI : F I0 = none) (hPI : P I0 = none) (hne : Off σ ρ I0)
  (hf : cCompL ci p t fe xs (compIn ci nv is σ) = some (ys, σ')) (hci : ∀ i ∈ ci :: is, i < σ.length) (hl : xs.length <= 1000000) (hfr : ∃ vl, σ'[ci]? = some (.frame vl)) :
  wpAny C.M A (newList []) (fun acc s₃ => wpAny C.M A (newFunctionEnv scope env.globals (clA ρ clo) [] env.qual none .none (some env)) (fun cenv s₄ =>
   codeAny C.M A (.compStart (.ListComp elt [⟨.Name x px, iter, ifs, 0⟩] scope pos) 0 (.ref I0) acc { cenv with scope := relabel scope env })
    (fun r s' => match r with | .ok _ => CompEnd C X F P ρ s ci ys σ' acc cenv.locals s' | .error _ => False) s₄) (fun _ _ => False) s₃) (fun _ _ => False) s := by
 refine nG fun ng => ?_
 obtain ⟨oI, hoI⟩ := itr.alive
 have ecomp : compIn ci nv is σ = layS scope.names is (newOwn ci (.frame (List.replicate nv none)) σ) := (layS_eq _ _ _ K.cnt).symm
 rw [ecomp] at hf
 refine ng ?_
 clear ng
 refine wpAny_newObj_type ?_ (size_ok (vs := []) (by simp))
 refine wpAny_compEnv ?_
 generalize hDd : s.heap.objs.size = D at *
 generalize hH : s.heap.push ({ cls := .type "list", data := .seq ([] : List Value).toArray } : Obj) = H1 at *
 have hD1 : H1.objs.size = D + 1 := by rw [<- hH, Heap.size_push, hDd]
 have k1 : Keeps s.heap H1 := fun b o e => by rw [<- hH]; exact Heap.get?_push_of_some _ e
 have hDo : H1.get? D = some { cls := .type "list", data := .seq ([] : List Value).toArray } := by rw [<- hH, <- hDd]; exact Heap.get?_push_size _ rfl
 dsimp only
 generalize hLd : H1.objs.size = L at *
 have hlive : ∀ b o, H1.get? b = some o -> b < L := fun b o e => by
  have := Heap.lt_size e
  rw [hLd] at this
  exact this
 generalize hH2 : H1.push ({ cls := .type "dict", data := .dict #[] } : Obj) = H2 at *
 have hH2s : H2.objs.size = L + 1 := by rw [<- hH2, Heap.size_push, hLd]
 have k2 : Keeps H1 H2 := fun b o e => by rw [<- hH2]; exact Heap.get?_push_of_some _ e
 have hns : H2.Ns L (fun _ => none) := by
  have := Heap.Ns.new H1 (.type "dict")
  rw [hH2, hLd] at this
  exact this
 have frD := I.fresh (a := D) (fun o e => by have := Heap.lt_size e; rw [hDd] at this; exact Nat.lt_irrefl _ this)
 have frL := I.fresh (a := L) (fun o e => Nat.lt_irrefl _ (hlive L o (k1 L o e)))
 have hDL : D < L := hlive _ _ hDo
 have I1 : zb C X.N F P ρ σ H2 := I.kept fun b o e => k2 b o (k1 b o e)
 have hci0 := hci ci List.mem_cons_self
 have I2 : zb C X.N F P (upd ρ ci L) (newOwn ci (.frame (List.replicate nv none)) σ) H2 := I1.newOwn hci0 frL.1 frL.2.1 frL.2.2 ⟨_, hns, frame_new K.nd _ _⟩
 have hnd := List.nodup_cons.mp K.isnd
 have eclo : clA (upd ρ ci L) clo = clA ρ clo := by
  unfold clA
  refine List.map_congr_left fun y hy => ?_
  have : upd ρ ci L y.2 = ρ y.2 := if_neg fun (q : y.2 = ci) => K.cloi y hy (q ▸ List.mem_cons_self)
  rw [this]
 refine nG fun ng => ?_
 obtain ⟨ρ', I3, ec, hr, hlv, hsz⟩ := lay_ok scope.names is clo (upd ρ ci L) _ H2 I2 K.cnt hnd.2 (fun i hi => by rw [newOwn_length]; exact hci i (List.mem_cons_of_mem _ hi)) (fun y hy q => K.cloi y hy (List.mem_cons_of_mem _ q))
 rw [hH2s, eclo, <- K.lay] at ec
 refine ng ?_
 clear ng
 rw [ec]
 generalize hh₁ : pushCells H2 scope.names = h₁ at *
 have k3 : Keeps H2 h₁ := fun b o e => by rw [<- hh₁]; exact pushCells_keeps _ _ b o e
 have k : Keeps s.heap h₁ := fun b o e => k3 b o (k2 b o (k1 b o e))
 have I1' : zb C X.N F P ρ σ h₁ := I1.kept k3
 have hIL : I0 < L := hlive I0 oI (k1 _ _ hoI)
 have hID : I0 ≠ D := fun q => by
  have := Heap.lt_size hoI
  rw [hDd, q] at this; exact Nat.lt_irrefl _ this
 have uL : ρ' ci = L := (hr ci hnd.1).trans (if_pos rfl)
 have uo : ∀ j, j ∉ X.tmp -> ρ' j = ρ j := fun j q => (hr j fun z => q (K.ist j z).1).trans (if_neg fun (z : j = ci) => q (z ▸ K.hci))
 have nlive : ∀ (a : Addr), a < L -> (Off σ ρ a) -> ∀ j y, (layS scope.names is (newOwn ci (.frame (List.replicate nv none)) σ))[j]? = some y -> y.live = true -> ρ' j ≠ a := fun a ha hh j y e l => by
  rcases hlv j y e l with ⟨b, z, c, d⟩ | b
  ·rw [b]
   by_cases q : j = ci
   ·subst q; rw [show upd ρ j L j = L from if_pos rfl]; exact Nat.ne_of_gt ha
   ·rw [show upd ρ ci L j = ρ j from if_neg q]
    unfold newOwn at c
    rw [List.getElem?_set_ne (fun z => q z.symm), List.getElem?_map] at c
    cases w : σ[j]? with
    | none => rw [w] at c; cases c
    | some y' => rw [w] at c; cases c; exact hh j y' w (by rw [<- clr_live ci]; exact d)
  ·rw [hH2s] at b
   exact fun (z : ρ' j = a) => absurd (z ▸ b) (Nat.not_le.mpr (Nat.lt_succ_of_lt ha))
 have E2 : zZ (ze X ci cl scope tmp') ρ' { (newEnv scope L env.globals (clA ρ' cl) env.qual none .none (some env) builtinsNs) with scope := relabel scope env } := by
  refine ⟨relX_eq E.scope, K.kind, uL.symm, E.glob, E.blt, fun y i hy => lookup_map hy, K.hcit, List.not_mem_nil, fun y i hy => K.clt y i hy, fun y i _ => List.not_mem_nil, fun i a m => ?_⟩
  have := E.pin i a m
  exact ⟨(uo i this.2.1).trans this.1, fun q => this.2.1 (K.sub i q), List.not_mem_nil⟩
 have itr1 : Itr C F P xs I0 h₁ := itr.keep I.f (.refl F) I1'.f I.p I1'.p fun o ho => k _ _ ho
 have body := comp_loop (C := C) (X := ze X ci cl scope tmp') (A := A) (elt := elt) (iter := iter) (x := x) (px := px) (ifs := ifs) (scope := scope) (pos := pos) (xs := xs) (ys := ys) (I0 := I0) (D := D) (σ' := σ')
  (cenv := { (newEnv scope L env.globals (clA ρ' cl) env.qual none .none (some env) builtinsNs) with scope := relabel scope env })
  (s := { s with heap := h₁ }) hp ht he hA E2 I3 itr1 ⟨0, k3 _ _ (k2 _ _ hDo)⟩ hFI frD.1 hPI frD.2.1 (nlive I0 hIL hne) (nlive D hDL frD.2.2) hID hf hl
 have fin : ∀ (r : Result) (s' : Shared), (match r with
   | .ok _ => CompR C (ze X ci cl scope tmp') F P ρ' { s with heap := h₁ } σ' D ys s'
   | .error _ => False) -> (match r with | .ok _ => CompEnd C X F P ρ s ci ys σ' (.ref D) L s' | .error _ => False) := fun r s' h => by
  cases r with
  | error e => exact h
  | ok fl =>
   obtain ⟨F', ρ'', vs, n, a, b, c, d, e⟩ := h
   refine ⟨D, F', ρ'', vs, rfl, ⟨n.inv, ⟨GX.ofh.trans n.pu.gx, n.pu.le, n.pu.ag⟩, fun i hi => ?_⟩, a, b, c, frD.2.1, d, e, ?_, Nat.ne_of_lt hDL, hfr⟩
   ·rw [n.rho i fun q => hi (K.sub i q), uo i hi]
   ·rw [n.rho ci K.hcit, uL]
 have start := codeAny_compStart_list (prog := C.prog) (w := C.w) (A := A) (R := fun r s' => match r with | .ok _ => CompEnd C X F P ρ s ci ys σ' (.ref D) L s' | .error _ => False) (elt := elt) (target := .Name x px) (iter := iter) (ifs := ifs) (rest := []) (scope := scope) (pos := pos) (it := .ref I0) (acc := .ref D)
  (env := { (newEnv scope L env.globals (clA ρ' cl) env.qual none .none (some env) builtinsNs) with scope := relabel scope env }) (s := { s with heap := h₁ }) (codeAny_mono body fin) ?_
 ·exact start
 ·refine nG fun ng => ?_
  obtain ⟨fp, n, P', St, i, W, st, e1, hf', hr, ha⟩ := itr1
  refine ng ?_
  clear ng
  exact (W A hA.handled).self i _ _ _ st (codeAny_mono body fin)
end
section
variable {C : Cx} {X : zj}
noncomputable def zy (p : Pl) (ci nv : Nat) (is : List Nat) (f : CC PV) (t : CC Bool) (fe : CC PV) : CC PV := fun σ => match f σ with
 | some (v, σ1) => (match items v with
  | some xs => if xs.length <= 4096 /\ (ci :: is).all (· < σ1.length) = true then (match cCompL ci p t fe xs (compIn ci nv is σ1) with
   | some (ys, σ₂) => (match σ₂[ci]? with
    | some (.frame _) => if ys.length <= 4096 then some (.list ys, σ₂.set ci .dead) else none
    | _ => none)
   | none => none) else none
  | none => none)
 | none => none
inductive CompE (p : Pl) (ci nv : Nat) (is : List Nat) (f : CC PV) (t : CC Bool) (fe : CC PV) (σ σ' : List zA) (v : PV) : Prop where
 | mk (u : PV) (σ1 : List zA) (xs ys : List PV) (σ₂ : List zA) (vl : List (Option AV)) (h1 : f σ = some (u, σ1)) (h2 : items u = some xs) (h3 : xs.length <= 4096) (h4 : (ci :: is).all (· < σ1.length) = true) (h5 : cCompL ci p t fe xs (compIn ci nv is σ1) = some (ys, σ₂)) (h6 : σ₂[ci]? = some (.frame vl)) (h7 : ys.length <= 4096) (h8 : v = .list ys) (h9 : σ' = σ₂.set ci .dead) : CompE p ci nv is f t fe σ σ' v
theorem cComp_eq {p : Pl} {ci nv : Nat} {is : List Nat} {f : CC PV} {t : CC Bool} {fe : CC PV} {σ σ' : List zA} {v : PV} (h : zy p ci nv is f t fe σ = some (v, σ')) :
  CompE p ci nv is f t fe σ σ' v := by
 unfold zy at h
 refine nG fun ng => ?_
 refine ivP h ?_; clear h; intro u σ1 e1 h
 refine ivPL h ?_; clear h; intro xs e2 h
 refine i1 h ?_; clear h; intro hc h
 refine ivL h ?_; clear h; intro ys σ₂ e3 h
 refine ivFr h ?_; clear h; intro vl e4 h
 refine i1 h ?_; clear h; intro hl h
 refine ng ?_
 clear ng
 refine pf h ?_; clear h
 exact ⟨u, σ1, xs, ys, σ₂, vl, e1, e2, hc.1, hc.2, e3, e4, hl, rfl, rfl⟩
theorem CompEnd.frozen {F P : PH} {ρ : Nat -> Addr} {s : Shared} {ci : Nat} {ys : List PV} {σ' : List zA} {acc : Value} {Cl : Addr} {s' : Shared} {h' : Heap} (x : CompEnd C X F P ρ s ci ys σ' acc Cl s') (hs : Heap.SameBut Cl s'.heap h') (hl : ys.length <= 4096) :
  PoV C X F P ρ s (σ'.set ci .dead) (.list ys) acc { s' with heap := h' } := by
 refine nG fun ng => ?_
 obtain ⟨D, F', ρ', vs, rfl, n, hL, hr, hFD, hPD, hne, _, rfl, hDC, vl, hvl⟩ := x
 have I1 : zb C X.N F' P ρ' (σ'.set ci .dead) h' := n.inv.mut hvl rfl hs trivial
 obtain ⟨m, ho⟩ := hL
 generalize hoe : ({ cls := .type "list", data := .seq vs.toArray m } : Obj) = o at ho
 have hoD : h'.get? D = some o := (hs.2 D hDC).trans ho
 refine ng ?_
 clear ng
 let G : PH := PH.add F' D o
 have le : PH.le F' G := PH.le_add hFD
 have hvl' : vs.length <= 2 ^ 20 := by rw [hr.length]; omega
 have ne' : ∀ j y, (σ'.set ci .dead)[j]? = some y -> y.live = true -> ρ' j ≠ D := fun j y e l => by
  by_cases q : ci = j
  ·subst q
   rw [List.getElem?_set_self (List.getElem?_eq_some_iff.mp hvl).1] at e; cases e; cases l
  ·rw [List.getElem?_set_ne q] at e; exact hne j y e l
 refine ⟨G, ρ', ⟨⟨PH.add_le I1.f hoD, I1.p, I1.top, fun i y e => (I1.ob i y e).mono le fun _ z => z, fun i y e l => ⟨?_, (I1.fr i y e l).2⟩, I1.inj⟩, n.pu.trans ⟨.ofh, le, fun a ha => PH.add_off F' o fun q => ha (q ▸ hPD)⟩, n.rho⟩, .list ((PH.add_self F' D o).trans (congrArg some hoe.symm)) hvl' (hr.mono le)⟩
 show F'.add D o (ρ' i) = none
 rw [PH.add_off F' o (ne' i y e l)]
 exact (I1.fr i y e l).1
theorem CompEnd.list {F P : PH} {ρ : Nat -> Addr} {s : Shared} {ci : Nat} {ys : List PV} {σ' : List zA} {acc : Value} {Cl : Addr} {s' : Shared} (x : CompEnd C X F P ρ s ci ys σ' acc Cl s') (hl : ys.length <= 4096) :
  ∃ F' ρ', Nx C X F P ρ s F' ρ' σ' s' /\ Rep F' (.list ys) acc /\ Cl = ρ' ci := by
 refine nG fun ng => ?_
 obtain ⟨D, F', ρ', vs, rfl, n, hL, hr, hFD, hPD, hne, _, rfl, hDC, vl, hvl⟩ := x
 obtain ⟨m, ho⟩ := hL
 generalize hoe : ({ cls := .type "list", data := .seq vs.toArray m } : Obj) = o at ho
 refine ng ?_
 clear ng
 let G : PH := PH.add F' D o
 have le : PH.le F' G := PH.le_add hFD
 have hvl' : vs.length <= 2 ^ 20 := by rw [hr.length]; omega
 refine ⟨G, ρ', ⟨⟨PH.add_le n.inv.f ho, n.inv.p, n.inv.top, fun i y e => (n.inv.ob i y e).mono le fun _ z => z, fun i y e l => ⟨?_, (n.inv.fr i y e l).2⟩, n.inv.inj⟩, n.pu.trans ⟨.refl _, le, fun a ha => PH.add_off F' o fun q => ha (q ▸ hPD)⟩, n.rho⟩, .list ((PH.add_self F' D o).trans (congrArg some hoe.symm)) hvl' (hr.mono le), rfl⟩
 show F'.add D o (ρ' i) = none
 rw [PH.add_off F' o (hne i y e l)]
 exact (n.inv.fr i y e l).1
theorem eval_comp (elt : Expr) (g : Comprehension) (scope : Scope) (pos : Pos) (env : Env) : eval (.ListComp elt [g] scope pos) env =
  comprehension (.ListComp elt [g] scope pos) scope env (firstIterPos [g] pos) (newList []) (firstAsync [g]) (firstIter [g] env) := rfl
theorem evp_comp {elt iter : Expr} {x : Str} {px : Pos} {ifs : List Expr} {scope : Scope} {pos : Pos} {f : CC PV} {t : CC Bool} {fe : CC PV} (ci nv : Nat) (is : List Nat) (clo cl : List (Str × Nat)) (tmp' : List Nat) (p : Pl)
  (hi : EvP C X iter f) (K : CompOK X ci is clo cl scope tmp') (hp : PlOK (ze X ci cl scope tmp') x p) (ht : TfOK C (ze X ci cl scope tmp') ifs t) (he : EvP C (ze X ci cl scope tmp') elt fe)
  (hs : ∀ env v, foldedSetIterable iter env v = pure v := by intro _ _; rfl) :
  EvP C X (.ListComp elt [⟨.Name x px, iter, ifs, 0⟩] scope pos) (zy p ci nv is f t fe) := by
 intro A env F P ρ σ s v σ' hA E I hf
 refine nG fun ng => ?_
 obtain ⟨u, σ1, xs, ys, σ₂, vl, e1, e2, hx, hci, e3, e4, hl, rfl, rfl⟩ := cComp_eq hf
 refine ng ?_
 clear ng
 rw [eval_comp]
 suffices H : wpAny C.M A (eval iter env) (fun xv s₁ => wpAny C.M A (pyIter xv) (fun it s₂ => wpAny C.M A (newList []) (fun acc s₃ =>
   wpAny C.M A (newFunctionEnv scope env.globals (clA ρ clo) [] env.qual none .none (some env)) (fun cenv s₄ =>
    codeAny C.M A (.compStart (.ListComp elt [⟨.Name x px, iter, ifs, 0⟩] scope pos) 0 it acc { cenv with scope := relabel scope env }) (compPost C.M A (fun _ _ => False) none (PoV C X F P ρ s (σ₂.set ci .dead) (.list ys)) acc cenv.locals) s₄) (fun _ _ => False) s₃) (fun _ _ => False) s₂) (fun _ _ => False) s₁) (fun _ _ => False) s by
  exact wpAny_comprehension_free (M := C.M) (A := A) (E := fun _ _ => False) (use := none) (first := eval iter env) rfl (hs env) (closure_ok E K.clos) K.kind K.names H
 refine wpAny_mono (hi A env F P ρ σ s u σ1 hA E I e1) (fun V s₁ zq => ?_) fun _ _ x => x
 obtain ⟨F1, ρ1, n₁, r₁⟩ := zq
 refine wpAny_mono (iter_ok P hA n₁.inv.f r₁ e2) (fun it s₂ h₂ => ?_) fun _ _ x => x
 refine nG fun ng => ?_
 obtain ⟨I0, rfl, itr, kp, fr, gx⟩ := h₂
 obtain ⟨q1, q2, q3⟩ := n₁.inv.fresh fr
 have I₂ : zb C X.N F1 P ρ1 σ1 s₂.heap := n₁.inv.kept kp
 have n₂ : Nx C X F P ρ s F1 ρ1 σ1 s₂ := n₁.trans ⟨I₂, ⟨gx, .refl _, fun _ _ => rfl⟩, fun _ _ => rfl⟩
 have E₂ : zZ X ρ1 env := n₁.env E
 have ecl : clA ρ clo = clA ρ1 clo := by
  have h1 := closure_ok E K.clos
  rw [closure_ok E₂ K.clos] at h1
  exact (Sem.pure.inj h1).symm
 refine ng ?_
 clear ng
 rw [ecl]
 refine wpAny_mono (comp_core K hp ht he hA E₂ I₂ itr q1 q2 q3 e3 (fun i hi => of_decide_eq_true (List.all_eq_true.mp hci i hi)) (by omega) ⟨vl, e4⟩) (fun acc s₃ h₃ => wpAny_mono h₃ (fun cenv s₄ h₄ => codeAny_mono h₄ fun r s' h => ?_) fun _ _ x => x) fun _ _ x => x
 cases r with
 | error e => exact h.elim
 | ok fl =>
  refine nG fun ng => ?_
  obtain ⟨m, hm⟩ : ∃ m, s'.heap.Ns cenv.locals m := by
   obtain ⟨D, F', ρ', vs, _, n, _, _, _, _, _, _, hC, _, vl, hvl⟩ := h
   obtain ⟨m, hm, _⟩ := n.inv.ob _ _ hvl
   exact ⟨m, hC ▸ hm⟩
  refine ng ?_
  clear ng
  refine ⟨m, hm, fun h' hs' => ?_⟩
  obtain ⟨F', ρ', n, r⟩ := h.frozen hs' hl
  exact ⟨F', ρ', n₂.trans n, r⟩
theorem comp_swap {elt : Expr} {g : Comprehension} {scope : Scope} {pos spos py : Pos} {y : Str} {ρ : Nat -> Addr} {env : Env} (E : zZ X ρ env) (hl : X.scope.names.lookup y = some .local) (hline : (py.line == pos.line) = true)
  (hno : (scope.names.any fun (n, k) => n == y && (k == .local || k == .cell)) = false) : swapsWith (.ListComp elt [g] scope pos) (some (.Name y py)) spos.line env = pure true := by
 have hk : env.kindOf y = some .local := by show env.scope.names.lookup y = _; rw [E.scope]; exact hl
 have hb : env.blockKind = .function := by unfold Env.blockKind; rw [E.scope, E.kind]; rfl
 show (pure ((((env.blockKind == .function) && (env.kindOf y == some NameKind.local)) && (py.line == pos.line)) && !(scope.names.any fun (n, k) => n == y && (k == .local || k == .cell))) : Sem Bool) = pure true
 rw [hk, hb, hline, hno]
 rfl
theorem exec_comp {elt iter : Expr} {x y : Str} {px py : Pos} {ifs : List Expr} {scope : Scope} {pos spos : Pos} {f : CC PV} {t : CC Bool} {fe : CC PV} {ci nv : Nat} {is : List Nat} {clo cl : List (Str × Nat)} {tmp' : List Nat} {p : Pl} {A : Around} {env : Env} {F P : PH} {ρ : Nat -> Addr} {σ : List zA} {s : Shared} {Q : Flow -> Shared -> Prop}
  {u : PV} {σ1 σ₂ : List zA} {xs ys : List PV} {vl : List (Option AV)}
  (hi : EvP C X iter f) (K : CompOK X ci is clo cl scope tmp') (hp : PlOK (ze X ci cl scope tmp') x p) (ht : TfOK C (ze X ci cl scope tmp') ifs t) (he : EvP C (ze X ci cl scope tmp') elt fe)
  (hs : ∀ env v, foldedSetIterable iter env v = pure v)
  (hsw : swapsWith (.ListComp elt [⟨.Name x px, iter, ifs, 0⟩] scope pos) (some (.Name y py)) spos.line env = pure true) (hA : AL X.n A) (E : zZ X ρ env) (I : zb C X.N F P ρ σ s.heap)
  (e1 : f σ = some (u, σ1)) (e2 : items u = some xs) (hx : xs.length <= 4096) (hci : (ci :: is).all (· < σ1.length) = true) (e3 : cCompL ci p t fe xs (compIn ci nv is σ1) = some (ys, σ₂)) (e4 : σ₂[ci]? = some (.frame vl))
  (h : ∀ acc Cl s', CompEnd C X F P ρ s ci ys σ₂ acc Cl s' -> wpAny C.M A (assign (.Name y py) env acc) (fun _ s'' => ∃ m, s''.heap.Ns Cl m /\ ∀ h', Heap.SameBut Cl s''.heap h' -> Q .next { s'' with heap := h' }) (fun _ _ => False) s') :
  wpAny C.M A (exec (.Assign [.Name y py] (.ListComp elt [⟨.Name x px, iter, ifs, 0⟩] scope pos) spos) env) Q (fun _ _ => False) s := by
 rw [exec_Assign_Name_used _ _ _ _ hsw]
 refine wpAny_bind (wpAny_standAt (wpAny_bind ?_))
 show wpAny _ A (do let _ <- comprehension (.ListComp elt [⟨.Name x px, iter, ifs, 0⟩] scope pos) scope env (firstIterPos [⟨.Name x px, iter, ifs, 0⟩] pos) (newList []) (firstAsync [⟨.Name x px, iter, ifs, 0⟩]) (firstIter [⟨.Name x px, iter, ifs, 0⟩] env) (some (assign (.Name y py) env))) _ _ s
 refine wpAny_bind (wpAny_mono (Q := fun _ s' => Q .next s') ?_ (fun _ s' hq => wpAny_pure (wpAny_pure hq)) fun _ _ e => e)
 refine wpAny_comprehension_free (M := C.M) (A := A) (E := fun _ _ => False) (use := some (assign (.Name y py) env)) (first := eval iter env) rfl (hs env) (closure_ok E K.clos) K.kind K.names ?_
 refine wpAny_mono (hi A env F P ρ σ s u σ1 hA E I e1) (fun V s₁ zq => ?_) fun _ _ x => x
 obtain ⟨F1, ρ1, n₁, r₁⟩ := zq
 refine wpAny_mono (iter_ok P hA n₁.inv.f r₁ e2) (fun it s₂ h₂ => ?_) fun _ _ x => x
 refine nG fun ng => ?_
 obtain ⟨I0, rfl, itr, kp, fr, gx⟩ := h₂
 obtain ⟨q1, q2, q3⟩ := n₁.inv.fresh fr
 have I₂ : zb C X.N F1 P ρ1 σ1 s₂.heap := n₁.inv.kept kp
 have n₂ : Nx C X F P ρ s F1 ρ1 σ1 s₂ := n₁.trans ⟨I₂, ⟨gx, .refl _, fun _ _ => rfl⟩, fun _ _ => rfl⟩
 have E₂ : zZ X ρ1 env := n₁.env E
 have ecl : clA ρ clo = clA ρ1 clo := by
  have h1 := closure_ok E K.clos
  rw [closure_ok E₂ K.clos] at h1
  exact (Sem.pure.inj h1).symm
 refine ng ?_
 clear ng
 rw [ecl]
 refine wpAny_mono (comp_core K hp ht he hA E₂ I₂ itr q1 q2 q3 e3 (fun i hi => of_decide_eq_true (List.all_eq_true.mp hci i hi)) (by omega) ⟨vl, e4⟩) (fun acc s₃ h₃ => wpAny_mono h₃ (fun cenv s₄ h₄ => codeAny_mono h₄ fun r s' h' => ?_) fun _ _ x => x) fun _ _ x => x
 cases r with
 | error e => exact h'.elim
 | ok fl =>
  refine h acc cenv.locals s' ?_
  refine nG fun ng => ?_
  obtain ⟨D, F', ρ', vs, a, n, b, c, d, e, g, i, j, k, l⟩ := h'
  refine ng ?_
  clear ng
  exact ⟨D, F', ρ', vs, a, n₂.trans n, b, c, d, e, g, i, j, k, l⟩
theorem set_other {p : Pl} {v : AV} {σ σ' : List zA} (h : p.set X.fi v σ = some σ') {k : Nat} (hk : (match p with | .loc _ => X.fi | .cell i => i) ≠ k) : σ'[k]? = σ[k]? := by
 cases p with
 | loc i =>
  have h' : sLoc X.fi i v σ = some σ' := h
  unfold sLoc at h'
  refine nG fun ng => ?_
  split at h'
  ·split at h'
   ·refine ng ?_
    clear ng
    cases h'; exact List.getElem?_set_ne hk
   ·cases h'
  ·cases h'
 | cell i =>
  have h' : sCell i v σ = some σ' := h
  unfold sCell at h'
  refine nG fun ng => ?_
  split at h'
  ·refine ng ?_
   clear ng
   cases h'; exact List.getElem?_set_ne hk
  ·cases h'
noncomputable def cCompS (fi : Nat) (j : Nat) (p : Pl) (ci nv : Nat) (is : List Nat) (f : CC PV) (t : CC Bool) (fe : CC PV) : CC Fl := fun σ => match f σ with
 | some (v, σ1) => (match items v with
  | some xs => if xs.length <= 4096 /\ (ci :: is).all (· < σ1.length) = true then (match cCompL ci p t fe xs (compIn ci nv is σ1) with
   | some (ys, σ₂) => (match σ₂[ci]? with
    | some (.frame _) => if ys.length <= 4096 then (match sLoc fi j (.imm (.list ys)) σ₂ with | some σ3 => some (.next, σ3.set ci .dead) | none => none) else none
    | _ => none)
   | none => none) else none
  | none => none)
 | none => none
theorem st_comp {elt iter : Expr} {x y : Str} {px py : Pos} {ifs : List Expr} {scope : Scope} {pos spos : Pos} {f : CC PV} {t : CC Bool} {fe : CC PV} (j : Nat) (ci nv : Nat) (is : List Nat) (clo cl : List (Str × Nat)) (tmp' : List Nat) (p : Pl)
  (hy : PlOK X y (.loc j)) (hi : EvP C X iter f) (K : CompOK X ci is clo cl scope tmp') (hp : PlOK (ze X ci cl scope tmp') x p) (ht : TfOK C (ze X ci cl scope tmp') ifs t) (he : EvP C (ze X ci cl scope tmp') elt fe)
  (hline : (py.line == pos.line) = true) (hno : (scope.names.any fun (n, k) => n == y && (k == .local || k == .cell)) = false)
  (hs : ∀ env v, foldedSetIterable iter env v = pure v := by intro _ _; rfl) :
  StOK C X (.Assign [.Name y py] (.ListComp elt [⟨.Name x px, iter, ifs, 0⟩] scope pos) spos) (cCompS X.fi j p ci nv is f t fe) := by
 intro A env F P ρ σ s v σ' hA E I hf
 unfold cCompS at hf
 refine nG fun ng => ?_
 refine ivP hf ?_; clear hf; intro u σ1 e1 hf
 refine ivPL hf ?_; clear hf; intro xs e2 hf
 refine i1 hf ?_; clear hf; intro hc hf
 refine ivL hf ?_; clear hf; intro ys σ₂ e3 hf
 refine ivFr hf ?_; clear hf; intro vl e4 hf
 refine i1 hf ?_; clear hf; intro hl hf
 refine ivS hf ?_; clear hf; intro σ3 e5 hf
 refine ng ?_
 clear ng
 refine pf hf ?_; clear hf
 refine exec_comp hi K hp ht he hs (comp_swap E hy.1 hline hno) hA E I e1 e2 hc.1 hc.2 e3 e4 fun acc Cl s' x => ?_
 refine nG fun ng => ?_
 obtain ⟨F', ρ', n, r, hC⟩ := x.list hl
 refine ng ?_
 clear ng
 refine wpAny_mono (bind_ok hy (n.env E) n.inv (v := .imm (.list ys)) r e5) (fun _ s'' n' => ?_) fun _ _ x => x
 have hne : X.fi ≠ ci := fun q => E.fit (q ▸ K.hci)
 have e6 : σ3[ci]? = some (.frame vl) := (set_other (X := X) (p := .loc j) e5 hne).trans e4
 refine nG fun ng => ?_
 obtain ⟨m, hm, _⟩ := n'.inv.ob _ _ e6
 refine ng ?_
 clear ng
 refine ⟨m, hC ▸ hm, fun h' hs' => ⟨F', ρ', ?_, rfl⟩⟩
 exact (n.sx.trans n').trans ⟨n'.inv.mut e6 rfl (hC ▸ hs') trivial, ⟨.ofh, .refl _, fun _ _ => rfl⟩, fun _ _ _ => rfl⟩
end
section
variable {C : Cx} {X : zj}
theorem backTo_any (pos : Pos) (env : Env) : ∀ es : List Expr, es.all zW = true -> (backTo pos (starEach es env)).any (·.1) = false
 | [], _ => rfl
 | e :: r, h => by
  obtain ⟨h1, h2⟩ := Bool.and_eq_true_iff.mp (show (zW e && r.all zW) = true from h)
  rw [zR h1]
  exact backTo_any pos env r h2
theorem backTo_all (pos : Pos) (env : Env) : ∀ es : List Expr, es.all zW = true -> (backTo pos (starEach es env)).all (!·.1) = true
 | [], _ => rfl
 | e :: r, h => by
  obtain ⟨h1, h2⟩ := Bool.and_eq_true_iff.mp (show (zW e && r.all zW) = true from h)
  rw [zR h1]
  exact backTo_all pos env r h2
theorem evargs {e : Expr} {r : List Expr} {A : Around} {env : Env} {s : Shared} {fv : Value} {pos : Pos} {Q : Args -> Shared -> Prop} (hn : zW e = true)
  (h : wpAny C.M A (spliced (backTo pos (starEach (e :: r) env))) (fun vs s' => Q ⟨vs, []⟩ s') (fun _ _ => False) s) :
  wpAny C.M A (evalArgs fv true (backTo pos (starEach (e :: r) env)) []) Q (fun _ _ => False) s := by
 rw [zR hn] at h ⊢
 exact evalArgs_plain h
noncomputable def zO (h : List PV -> Option PV) (f : CC (List PV)) : CC PV := fun σ => match f σ with
 | some (as, σ1) => (match h as with | some c => some (c, σ1) | none => none)
 | none => none
theorem cCall_eq {h : List PV -> Option PV} {f : CC (List PV)} {σ σ' : List zA} {c : PV} (e : zO h f σ = some (c, σ')) : ∃ as, f σ = some (as, σ') /\ h as = some c := by
 unfold zO at e
 refine nG fun ng => ?_
 refine ivL e ?_; clear e; intro as σ1 e1 e
 refine ivV e ?_; clear e; intro c' e2 e
 refine ng ?_
 clear ng
 cases e; exact ⟨as, e1, e2⟩
theorem call_end {h : List PV -> Option PV} {fv : Value} (ho : OpN C X.n (fun vs => call fv vs) h) {A : Around} {F P : PH} {ρ : Nat -> Addr} {σ : List zA} {s s₁ : Shared} {F1 : PH} {ρ1 : Nat -> Addr} {as : List PV} {Vs : List Value} {c : PV}
  (hA : AL X.n A) (n₁ : Nx C X F P ρ s F1 ρ1 σ s₁) (r₁ : RepL F1 as Vs) (hc : h as = some c) : wpAny C.M A (call fv Vs) (PoV C X F P ρ s σ c) (fun _ _ => False) s₁ := by
 refine wpAny_mono (ho A F1 s₁ as Vs c hA n₁.inv.f (n₁.inv.top.trans n₁.inv.p) r₁ hc) (fun U s₂ pr => ?_) fun _ _ x => x
 refine nG fun ng => ?_
 obtain ⟨F2, n₂, r₂⟩ := pr.next n₁.inv
 refine ng ?_
 clear ng
 exact ⟨F2, ρ1, n₁.trans n₂, r₂⟩
theorem evp_def {x : Str} {np pos : Pos} {e : Expr} {r : List Expr} {f : CC (List PV)} {a : Addr} {o : Obj} {fd : FuncData} {h : List PV -> Option PV} (hg : C.mg x = some (.ref a)) (hP : C.P0 a = some o) (hd : o.data = .func fd)
  (ho : OpN C X.n (fun vs => call (.ref a) vs) h) (hs : EvsP C X (e :: r) f) (hn : zW e = true := by rfl) (hk : X.scope.names.lookup x = some .globalImplicit := by rfl) (hdb : (x == ("__debug__" : Str)) = false := by decide +kernel) :
  EvP C X (.Call (.Name x np) (e :: r) [] pos) (zO h f) := by
 intro A env F P ρ σ s v σ' hA E I hf
 refine nG fun ng => ?_
 obtain ⟨as, e1, e2⟩ := cCall_eq hf
 refine ng ?_
 clear ng
 refine wpAny_Call_ofName (wpAny_Name (load_glob hk hg E I ?_) hdb)
 refine callWith_function (a := a) (o := o) (fd := fd) (evargs hn (wpAny_mono (hs A env F P ρ σ s as σ' pos hA E I e1) (fun Vs s₁ ⟨F1, ρ1, n₁, r₁⟩ => ⟨⟨n₁.inv.p _ _ (n₁.inv.top _ _ hP), hd⟩, ?_⟩) fun _ _ x => x))
 exact call_end ho hA n₁ r₁ e2
theorem evp_blt {x : Str} {np pos : Pos} {e : Expr} {r : List Expr} {f : CC (List PV)} {id : String} {h : List PV -> Option PV} (hg : C.mg x = none) (hb : bootBuiltins x = some (.builtin id)) (hx : x ≠ ("__name__" : Str)) (hes : (e :: r).all zW = true)
  (ho : OpN C X.n (fun vs => call (.builtin id) vs) h) (hs : EvsP C X (e :: r) f) (hk : X.scope.names.lookup x = some .globalImplicit := by rfl) (hdb : (x == ("__debug__" : Str)) = false := by decide +kernel) :
  EvP C X (.Call (.Name x np) (e :: r) [] pos) (zO h f) := by
 intro A env F P ρ σ s v σ' hA E I hf
 refine nG fun ng => ?_
 obtain ⟨as, e1, e2⟩ := cCall_eq hf
 refine ng ?_
 clear ng
 refine wpAny_Call_ofName (wpAny_Name (load_blt hk hg hb hx E I ?_) hdb)
 have hn : zW e = true := (Bool.and_eq_true_iff.mp (show (zW e && r.all zW) = true from hes)).1
 refine callWith_builtin (backTo_any pos env _ hes) (evargs hn (wpAny_mono (hs A env F P ρ σ s as σ' pos hA E I e1) (fun Vs s₁ zq => ?_) fun _ _ x => x))
 obtain ⟨F1, ρ1, n₁, r₁⟩ := zq
 exact call_end ho hA n₁ r₁ e2
theorem evp_typ {x : Str} {np pos : Pos} {e : Expr} {r : List Expr} {f : CC (List PV)} {T : String} {h : List PV -> Option PV} (hg : C.mg x = none) (hb : bootBuiltins x = some (.type T)) (hx : x ≠ ("__name__" : Str)) (hes : (e :: r).all zW = true)
  (ho : OpN C X.n (fun vs => call (.type T) vs) h) (hs : EvsP C X (e :: r) f) (hk : X.scope.names.lookup x = some .globalImplicit := by rfl) (hdb : (x == ("__debug__" : Str)) = false := by decide +kernel) :
  EvP C X (.Call (.Name x np) (e :: r) [] pos) (zO h f) := by
 intro A env F P ρ σ s v σ' hA E I hf
 refine nG fun ng => ?_
 obtain ⟨as, e1, e2⟩ := cCall_eq hf
 refine ng ?_
 clear ng
 refine wpAny_Call_ofName (wpAny_Name (load_blt hk hg hb hx E I ?_) hdb)
 have hn : zW e = true := (Bool.and_eq_true_iff.mp (show (zW e && r.all zW) = true from hes)).1
 refine callWith_excType (backTo_any pos env _ hes) (evargs hn (wpAny_mono (hs A env F P ρ σ s as σ' pos hA E I e1) (fun Vs s₁ zq => ?_) fun _ _ x => x))
 obtain ⟨F1, ρ1, n₁, r₁⟩ := zq
 exact call_end ho hA n₁ r₁ e2
noncomputable def zw (h : List PV -> Option PV) (g : CC AV) : CC PV := fun σ => match g σ with
 | some (a, σ1) => (match look a σ1 with
  | some p => (match h [p] with | some c => if c.flat then some (c, σ1) else none | none => none)
  | none => none)
 | none => none
theorem evp_bltV {x : Str} {np pos : Pos} {e : Expr} {g : CC AV} {id : String} {h : List PV -> Option PV} (hg : C.mg x = none) (hb : bootBuiltins x = some (.builtin id)) (hx : x ≠ ("__name__" : Str)) (hn : zW e = true)
  (ho : OpN C X.n (fun vs => call (.builtin id) vs) h) (hs : EvOK C X e g) (hk : X.scope.names.lookup x = some .globalImplicit := by rfl) (hdb : (x == ("__debug__" : Str)) = false := by decide +kernel) :
  EvP C X (.Call (.Name x np) [e] [] pos) (zw h g) := by
 intro A env F P ρ σ s v σ' hA E I hf
 unfold zw at hf
 refine nG fun ng => ?_
 refine ivA hf ?_; clear hf; intro a σ1 e1 hf
 refine ivV hf ?_; clear hf; intro p e2 hf
 refine ivV hf ?_; clear hf; intro c e3 hf
 refine i1 hf ?_; clear hf; intro hc hf
 obtain ⟨rfl, rfl⟩ := Prod.mk.inj (Option.some.inj hf)
 refine ng ?_
 clear ng
 refine wpAny_Call_ofName (wpAny_Name (load_blt hk hg hb hx E I ?_) hdb)
 refine callWith_builtin (backTo_any pos env _ (by simp [hn])) (evargs hn (wpAny_items_cons (wpAny_mono (hs A env F P ρ σ s a σ1 hA E I e1) (fun V s₁ ⟨F1, ρ1, n₁, r₁⟩ => wpAny_items_nil ?_) fun _ _ x => x) (zR hn)))
 refine nG fun ng => ?_
 obtain ⟨F', le, le', rb⟩ := look_ok n₁.inv r₁ e2
 refine ng ?_
 clear ng
 refine wpAny_mono (ho A F' s₁ [p] [V] c hA le' (n₁.inv.top.trans n₁.inv.p) (.cons rb .nil) e3) (fun U s₂ pr => ?_) fun _ _ x => x
 refine nG fun ng => ?_
 obtain ⟨n₂, r₂⟩ := pr.flatNext n₁.inv hc
 refine ng ?_
 clear ng
 exact ⟨F1, ρ1, n₁.trans n₂, r₂⟩
noncomputable def z3 (T : List Nat) (h : PV -> PV -> Option PV) (g : CC AV) (f : CC PV) : CC PV := fun σ => match g σ with
 | some (a, σ1) => (match f σ1 with
  | some (i, σ₂) => (match a with
   | .imm p => (match h p i with | some c => some (c, σ₂) | none => none)
   | .obj k => if T.contains k then none else (match σ₂[k]?, i with
    | some (.lst xs), .int n => if 0 <= n /\ n < 4096 then (match xs[n.toNat]? with | some c => some (c, σ₂) | none => none) else none
    | some (.frozen p), i => (match h p i with | some c => some (c, σ₂) | none => none)
    | _, _ => none))
  | none => none)
 | none => none
structure MethOn (T : String) (name : Str) (id : String) : Prop where
 pa : PlainAttrs T
 slot : Slot T name id
 hty : typeOf (.builtin id) = pure (.type "method_descriptor")
noncomputable def pvType : PV -> String
 | .str _ => "str"
 | .list _ => "list"
 | .bytes _ => "bytes"
 | _ => ""
theorem rep_type {F : PH} {s : Shared} {p : PV} {V : Value} {T : String} (hF : PH.le F s.heap.get?) (r : Rep F p V) (h : pvType p = T) (hT : T ≠ "") : s.TypeIs V T /\ ∀ a, V = .ref a -> ∃ o, s.heap.get? a = some o /\ o.dict = none := by
 cases r with
 | str l t => subst h; exact ⟨typeIs_str _ _ _, nofun⟩
 | bytes l t => subst h; exact ⟨typeIs_bytes _ _ _, nofun⟩
 | list ha _ _ => subst h; exact ⟨⟨_, hF _ _ ha, rfl⟩, fun a e => by cases e; exact ⟨_, hF _ _ ha, rfl⟩⟩
 | _ => exact absurd h.symm hT
noncomputable def notCall : Expr -> Bool
 | .Call .. => false
 | _ => true
theorem attrBase {o : Expr} {name : Str} {env : Env} {t : Sem Value} (h : notCall o = true) : attributeBase o name env t = t := by
 cases o <;> first | rfl | cases h
theorem callm {o : Expr} {name : Str} {apos pos : Pos} {args : List Expr} {A : Around} {env : Env} {s : Shared} {Q : Value -> Shared -> Prop} (hb : notCall o = true) (hline : (apos.endLine == pos.line) = true) (hes : args.all zW = true) (hlen : args.length < 20)
  (h : wpAny C.M A (eval o env) (fun ov s₁ => ∀ pl, wpAny C.M A (getMethod ov name pl) (fun fx s₂ => wpAny C.M A (callWith pos fx.1 fx.2 (backTo pos (starEach args env)) []) Q (fun _ _ => False) s₂) (fun _ _ => False) s₁) (fun _ _ => False) s) :
  wpAny C.M A (eval (.Call (.Attribute o name apos) args [] pos) env) Q (fun _ _ => False) s := by
 rw [arm_eval_Call, attrBase hb]
 refine wpAny_bind (wpAny_mono h (fun ov s₁ h₁ => wpAny_bind (wpAny_standAt ?_)) fun _ _ x => x)
 have hform : methodCallForm (args.length + ([] : List Keyword).length) (backTo pos (starEach args env)) (backToKw pos (keywordEach [] env)) = true := by
  unfold methodCallForm
  rw [backTo_all pos env args hes]
  rw [show backToKw pos (keywordEach [] env) = [] from rfl]; simp
  omega
 have hpos : methodCallPos true o env apos pos = pure pos := by unfold methodCallPos; simp [hline]
 unfold methodCall
 rw [hform]
 exact wpAny_bind (wpAny_holding (wpAny_mono (h₁ _) (fun fx s₂ h₂ => wpAny_bind (wpAny_of_eq hpos h₂)) fun _ _ x => x))
noncomputable def offT (T : List Nat) : AV -> Bool
 | .imm _ => true
 | .obj k => !T.contains k
noncomputable def cMeth (tm : List Nat) (T : String) (h : List PV -> Option PV) (g : CC AV) (f : CC (List PV)) : CC PV := fun σ => match g σ with
 | some (a, σ1) => (match f σ1 with
  | some (as, σ₂) => (match look a σ1, look a σ₂ with
   | some p₀, some p => if pvType p₀ = T /\ offT tm a = true then (match h (p :: as) with | some c => if c.flat then some (c, σ₂) else none | none => none) else none
   | _, _ => none)
  | none => none)
 | none => none
theorem evp_meth {o : Expr} {name : Str} {apos pos : Pos} {e : Expr} {r : List Expr} {T id : String} {h : List PV -> Option PV} {g : CC AV} {f : CC (List PV)} (hm : MethOn T name id) (hT : T ≠ "") (hb : notCall o = true) (hline : (apos.endLine == pos.line) = true) (hes : (e :: r).all zW = true) (hlen : (e :: r).length < 20)
  (ho : OpN C X.n (fun vs => call (.builtin id) vs) h) (hg : EvOK C X o g) (hs : EvsP C X (e :: r) f) : EvP C X (.Call (.Attribute o name apos) (e :: r) [] pos) (cMeth X.tmp T h g f) := by
 intro A env F P ρ σ s v σ' hA E I hf
 unfold cMeth at hf
 refine nG fun ng => ?_
 refine ivA hf ?_; clear hf; intro a σ1 e1 hf
 refine ivL hf ?_; clear hf; intro as σ₂ e2 hf
 split at hf
 ·rename_i p₀ p e3 e4
  split at hf
  ·rename_i htt
   have hty := htt.1
   split at hf
   ·rename_i c e5
    split at hf
    ·rename_i hc
     obtain ⟨rfl, rfl⟩ := Prod.mk.inj (Option.some.inj hf)
     refine ng ?_
     clear ng
     refine callm hb hline hes hlen (wpAny_mono (hg A env F P ρ σ s a σ1 hA E I e1) (fun V s₁ zq pl => ?_) fun _ _ x => x)
     refine nG fun ng => ?_
     obtain ⟨F1, ρ1, n₁, r₁⟩ := zq
     obtain ⟨F', le, le', rb⟩ := look_ok n₁.inv r₁ e3
     obtain ⟨ht, hd⟩ := rep_type le' rb hty hT
     refine ng ?_
     clear ng
     refine getMethod_builtin ht hm.pa hm.slot hm.hty hd ?_
     have hn : zW e = true := (Bool.and_eq_true_iff.mp (show (zW e && r.all zW) = true from hes)).1
     refine callWith_builtin (backTo_any pos env _ hes) (evargs hn (wpAny_mono (hs A env F1 P ρ1 σ1 s₁ as σ₂ pos hA (n₁.env E) n₁.inv e2) (fun Vs s₂ zq => ?_) fun _ _ x => x))
     refine nG fun ng => ?_
     obtain ⟨F2, ρ₂, n₂, r₂⟩ := zq
     have r1' : AVRep F2 ρ₂ a V := by
      cases a with
      | imm q => exact Rep.mono n₂.pu.le r₁
      | obj i => show V = .ref (ρ₂ i); rw [n₂.rho i (fun q => by have h2 : (!X.tmp.contains i) = true := htt.2; rw [List.contains_iff_mem.mpr q] at h2; cases h2)]; exact r₁
     obtain ⟨F'', le2, le2', rb2⟩ := look_ok n₂.inv r1' e4
     refine ng ?_
     clear ng
     refine wpAny_mono (ho A F'' s₂ (p :: as) (V :: Vs) c hA le2' (n₂.inv.top.trans n₂.inv.p) (.cons rb2 (r₂.mono le2)) e5) (fun U s₃ pr => ?_) fun _ _ x => x
     refine nG fun ng => ?_
     obtain ⟨n₃, r₃⟩ := pr.flatNext n₂.inv hc
     refine ng ?_
     clear ng
     exact ⟨F2, ρ₂, (n₁.trans n₂).trans n₃, r₃⟩
    ·cases hf
   ·cases hf
  ·cases hf
 ·cases hf
theorem m_list_append : MethOn "list" "append" "list.append" := ⟨F.plainAttrs_list, F.slot_list_append, F.type_list_append⟩
noncomputable def zf (T : List Nat) (g : CC AV) (f : CC PV) : CC Fl := fun σ => match g σ with
 | some (.obj i, σ1) => (match f σ1 with
  | some (p, σ₂) => (match σ1[i]?, σ₂[i]? with
   | some (.lst _), some (.lst xs) => if xs.length < 4096 /\ T.contains i = false then some (.next, σ₂.set i (.lst (xs ++ [p]))) else none
   | _, _ => none)
  | none => none)
 | _ => none
theorem notInteractive {ρ : Nat -> Addr} {env : Env} (E : zZ X ρ env) : interactive env = false := by
 unfold interactive; rw [E.scope, E.kind]; rfl
theorem st_append {o : Expr} {apos pos spos : Pos} {e : Expr} {g : CC AV} {f : CC PV} (hb : notCall o = true) (hline : (apos.endLine == pos.line) = true) (hn : zW e = true) (hg : EvOK C X o g) (hs : EvP C X e f) :
  StOK C X (.Expr (.Call (.Attribute o "append" apos) [e] [] pos) spos) (zf X.tmp g f) := by
 intro A env F P ρ σ s v σ' hA E I hf
 unfold zf at hf
 refine nG fun ng => ?_
 refine ivO hf ?_; clear hf; intro i σ1 e1 hf
 refine ivP hf ?_; clear hf; intro p σ₂ e2 hf
 split at hf
 ·rename_i xs0 xs e3 e4
  split at hf
  ·rename_i hll
   have hl := hll.1
   refine ng ?_
   clear ng
   refine pf hf ?_; clear hf
   refine wpAny_Expr (callm hb hline (by simp [hn]) (by simp) (wpAny_mono (hg A env F P ρ σ s (.obj i) σ1 hA E I e1) (fun V s₁ zq pl => ?_) fun _ _ x => x)) (notInteractive E) rfl
   refine nG fun ng => ?_
   obtain ⟨F1, ρ1, n₁, r₁⟩ := zq
   have hV : V = .ref (ρ1 i) := r₁
   subst hV
   obtain ⟨vs0, ⟨m₀, hp₀⟩, _, _⟩ := n₁.inv.ob _ _ e3
   refine ng ?_
   clear ng
   refine getMethod_builtin ⟨_, hp₀, rfl⟩ m_list_append.pa m_list_append.slot m_list_append.hty (fun a q => by cases q; exact ⟨_, hp₀, rfl⟩) ?_
   refine callWith_builtin (backTo_any pos env _ (by simp [hn])) (evargs hn (wpAny_items_cons (wpAny_mono (hs A env F1 P ρ1 σ1 s₁ p σ₂ hA (n₁.env E) n₁.inv e2) (fun W s₂ ⟨F2, ρ₂, n₂, r₂⟩ => wpAny_items_nil ?_) fun _ _ x => x) (zR hn)))
   refine nG fun ng => ?_
   obtain ⟨vs, hp, hlen, hr⟩ := n₂.inv.ob _ _ e4
   have eρ : ρ₂ i = ρ1 i := n₂.rho i (fun q => by rw [List.contains_iff_mem.mpr q] at hll; exact Bool.noConfusion hll.2)
   have hvl : vs.length < 4096 := by rw [hr.length]; exact hl
   refine ng ?_
   clear ng
   refine wpAny_list_append_plain (items := vs.toArray) (by rw [<- eρ]; exact hp) (fun h' hp' hs' => ?_) (by rw [List.size_toArray, sizeLine_eq]; omega)
   have e9 : vs.toArray.push W = (vs ++ [W]).toArray := by simp
   rw [e9] at hp'
   rw [<- eρ] at hs' hp'
   exact ⟨F2, ρ₂, ((n₁.trans n₂).sx).trans ⟨n₂.inv.mut e4 rfl hs' ⟨vs ++ [W], hp', by simp only [List.length_append, List.length_cons, List.length_nil]; omega, hr.append (.cons r₂ .nil)⟩, ⟨.ofh, .refl _, fun _ _ => rfl⟩, fun _ _ _ => rfl⟩, rfl⟩
  ·cases hf
 ·cases hf
end
section
open PySem.Builtin
variable {C : Cx} {X : zj}
noncomputable def ItOp (C : Cx) (n : Nat) (h : PV -> PV -> Option PV) : Prop :=
 ∀ A F s p V q W c, AL n A -> PH.le F s.heap.get? -> Rep F p V -> Rep F q W -> h p q = some c -> ItemOn C.M A (fun _ _ => False) V W (PR F s c) s
noncomputable def zH : PV -> PV -> Option PV
 | .list xs, .int k => if 0 <= k /\ k < 4096 then xs[k.toNat]? else none
 | .str s, .int k => if 0 <= k /\ k < 4096 then (s[k.toNat]?).map fun c => .str [c] else none
 | _, _ => none
theorem list_getitem : typeLookup (.type "list") "__getitem__" = pure (some (.builtin "list.__getitem__")) := PySem.F.slot_list_getitem.lookup
theorem it_item {n : Nat} : ItOp C n zH := by
 intro A F s p V q W c hA hF rp rq h
 unfold zH at h
 refine nG fun ng => ?_
 split at h
 ·rename_i xs k
  refine i1 h ?_; clear h; intro hk h
  refine ng ?_
  clear ng
  cases rp with
  | list ha hl hr =>
   cases rq with
   | int _ t =>
    refine nG fun ng => ?_
    obtain ⟨v, e1, e2⟩ := hr.get h
    refine ng ?_
    clear ng
    refine ⟨"list", _, list_getitem, ⟨_, hF _ _ ha, rfl⟩, wpAny_getItem_list ⟨_, hF _ _ ha, rfl, _, rfl⟩ hk.1 (by omega) (x := v) (by simpa using e1) ?_⟩
    exact PR.same hF rfl (.refl s) e2
 ·rename_i l k
  refine i1 h ?_; clear h; intro hk h
  refine ng ?_
  clear ng
  cases rp with
  | str _ t =>
   cases rq with
   | int _ u =>
    cases hc : l[k.toNat]? with
    | none => rw [hc] at h; cases h
    | some ch =>
     rw [hc] at h
     refine pe h ?_; clear h
     have hlt : k.toNat < l.length := (List.getElem?_eq_some_iff.mp hc).1
     refine ⟨"str", _, PySem.F.slot_str_getitem.lookup, typeIs_str _ _ _, P.getItem_str (c := ch) (by simp; omega) ?_ ?_⟩
     ·have e : seqIndex? k (PySem.Str.length ⟨l.toArray⟩) = some k.toNat := by
       unfold seqIndex?
       have : (PySem.Str.length ⟨l.toArray⟩ : Nat) = l.length := by show l.toArray.size = _; simp
       rw [this]
       have h0 : ¬ k < 0 := by omega
       simp [h0]
       omega
      rw [e]
      simpa using hc
     ·exact PR.same hF rfl .oft (.str [ch] _)
 ·cases h
theorem evp_sub {value slice : Expr} {pos : Pos} {h : PV -> PV -> Option PV} {g : CC AV} {f : CC PV} (ho : ItOp C X.n h) (hg : EvOK C X value g) (hf : EvP C X slice f)
  (hs : ∀ o i, subscripted slice false o i = operate [o, i] (getItem o i) := by intro _ _; rfl) : EvP C X (.Subscript value slice pos) (z3 X.tmp h g f) := by
 intro A env F P ρ σ s v σ' hA E I hff
 unfold z3 at hff
 refine nG fun ng => ?_
 refine ivA hff ?_; clear hff; intro a σ1 e1 hff
 refine ivP hff ?_; clear hff; intro i σ₂ e2 hff
 refine ng ?_
 clear ng
 refine Subscript_ (wpAny_mono (hg A env F P ρ σ s a σ1 hA E I e1) (fun V s₁ ⟨F1, ρ1, n₁, r₁⟩ => ?_) fun _ _ x => x)
 refine wpAny_mono (hf A env F1 P ρ1 σ1 s₁ i σ₂ hA (n₁.env E) n₁.inv e2) (fun W s₂ ⟨F2, ρ₂, n₂, r₂⟩ => ?_) fun _ _ x => x
 cases a with
 | imm p =>
  refine nG fun ng => ?_
  split at hff
  ·rename_i q hq
   cases hq
   refine ivV hff ?_; clear hff; intro c e3 hff
   obtain ⟨rfl, rfl⟩ := Prod.mk.inj (Option.some.inj hff)
   obtain ⟨T, id, hl, hT, hg⟩ := ho A F2 s₂ p V i W c hA n₂.inv.f (Rep.mono n₂.pu.le r₁) r₂ e3
   refine ng ?_
   clear ng
   refine tail_any hT hl (wpAny_mono hg (fun U s₃ pr => ?_) fun _ _ x => x) (hs V W)
   refine nG fun ng => ?_
   obtain ⟨F3, n₃, r₃⟩ := pr.next n₂.inv
   refine ng ?_
   clear ng
   exact ⟨F3, ρ₂, (n₁.trans n₂).trans n₃, r₃⟩
  ·rename_i k hk; cases hk
 | obj k =>
  refine nG fun ng => ?_
  split at hff
  ·rename_i q hq; cases hq
  ·rename_i k' hk
   cases hk
   split at hff
   ·cases hff
   ·rename_i hT
    have hk' : k ∉ X.tmp := fun q => hT (List.contains_iff_mem.mpr q)
    have eV : V = .ref (ρ₂ k) := by rw [n₂.rho k hk']; exact r₁
    split at hff
    ·rename_i xs m e4 _
     refine i1 hff ?_; clear hff; intro hm hff
     refine ivV hff ?_; clear hff; intro c e5 hff
     obtain ⟨rfl, rfl⟩ := Prod.mk.inj (Option.some.inj hff)
     obtain ⟨vs, ⟨nn, ho⟩, hlen, hr⟩ := n₂.inv.ob _ _ e4
     obtain ⟨v, e6, e7⟩ := hr.get e5
     refine ng ?_
     clear ng
     cases r₂ with
     | int _ t =>
      refine nG fun ng => ?_
      subst eV
      refine ng ?_
      clear ng
      refine tail_any ⟨_, ho, rfl⟩ list_getitem (wpAny_getItem_list ⟨_, ho, rfl, _, rfl⟩ hm.1 (by omega) (x := v) (by simpa using e6) ?_) (hs _ _)
      exact ⟨F2, ρ₂, n₁.trans n₂, e7⟩
    ·have e4 := ‹σ₂[k]? = some (zA.frozen _)›
     refine ivV hff ?_; clear hff; intro c e3 hff
     obtain ⟨rfl, rfl⟩ := Prod.mk.inj (Option.some.inj hff)
     have rb2 : Rep F2 _ (.ref (ρ₂ k)) := n₂.inv.ob _ _ e4
     rw [<- eV] at rb2
     obtain ⟨T, id, hl, hT, hg⟩ := ho A F2 s₂ _ V _ W c hA n₂.inv.f rb2 r₂ e3
     refine ng ?_
     clear ng
     refine tail_any hT hl (wpAny_mono hg (fun U s₃ pr => ?_) fun _ _ x => x) (hs V W)
     refine nG fun ng => ?_
     obtain ⟨F3, n₃, r₃⟩ := pr.next n₂.inv
     refine ng ?_
     clear ng
     exact ⟨F3, ρ₂, (n₁.trans n₂).trans n₃, r₃⟩
    ·cases hff
noncomputable def idxs (lo hi st : Option Int) (n : Nat) : List Nat := sliceRange (sliceBounds lo hi st n).1 (sliceBounds lo hi st n).2.1 (sliceBounds lo hi st n).2.2
noncomputable def pick {α : Type} (xs : List α) (lo hi st : Option Int) : List α := (idxs lo hi st xs.length).filterMap (xs[·]?)
noncomputable def pickS {α : Type} (xs : List α) (lo hi st : Option Int) : List α := if (st.getD 1 == 1 && (idxs lo hi st xs.length).length == xs.length) = true then xs else pick xs lo hi st
noncomputable def pvSlice (p : PV) (lo hi st : Option Int) : Option PV := match p with
 | .list xs => if st = some 0 \/ 4096 < xs.length then none else some (.list (pick xs lo hi st))
 | .str s => if st = some 0 \/ 16777216 < s.length then none else some (.str (pickS s lo hi st))
 | .bytes b => if st.isSome \/ 4096 < b.length then none else some (.bytes ((b.drop (lo.elim 0 (clipAt b.length))).take (hi.elim b.length (clipAt b.length) - lo.elim 0 (clipAt b.length))))
 | _ => none
noncomputable def IsPt (v : Value) (o : Option (Int × Tok)) : Prop := match o with
 | none => v = .none
 | some (i, t) => v = .int i t
theorem IsPt.part {v : Value} {o : Option (Int × Tok)} (h : IsPt v o) : IsPart v (o.map (·.1)) := by
 cases o with
 | none => have h' : v = .none := h; subst h'; exact .none
 | some p => obtain ⟨i, t⟩ := p; have h' : v = .int i t := h; subst h'; exact .int i t
theorem PR.after {F : PH} {s : Shared} {o : Obj} {c : PV} {U : Value} {s' : Shared} (x : PR F { s with heap := s.heap.push o } c U s') : PR F s c U s' := by
 refine nG fun ng => ?_
 obtain ⟨k, g, F', a, b, d, r⟩ := x
 refine ng ?_
 clear ng
 exact ⟨fun b o' e => k b o' (Heap.get?_push_of_some _ e), (GX.ofh (s := s) (h := s.heap.push o)).trans g, F', a, b, fun q ⟨o', ho⟩ => d q ⟨o', Heap.get?_push_of_some _ ho⟩, r⟩
theorem pick_rep {F : PH} {xs : List PV} {vs : List Value} (h : RepL F xs vs) : ∀ js : List Nat, RepL F (js.filterMap (xs[·]?)) (js.filterMap (vs[·]?))
 | [] => .nil
 | j :: js => by
  have ih := pick_rep h js
  cases hn : xs[j]? with
  | some x =>
   obtain ⟨v, hv, r⟩ := h.get hn
   simp only [List.filterMap_cons, hn, hv]
   exact .cons r ih
  | none =>
   have hv : vs[j]? = none := h.get_none hn
   simp only [List.filterMap_cons, hn, hv]
   exact ih
theorem slice_item {A : Around} {F : PH} {s : Shared} {p : PV} {V : Value} {lo hi st : Option (Int × Tok)} {vl vu vs : Value} {c : PV} {n : Nat} (_hA : AL n A) (hF : PH.le F s.heap.get?) (rp : Rep F p V) (pl : IsPt vl lo) (pu : IsPt vu hi) (ps : IsPt vs st)
  (h : pvSlice p (lo.map (·.1)) (hi.map (·.1)) (st.map (·.1)) = some c) :
  ItemOn C.M A (fun _ _ => False) V (.ref s.heap.objs.size) (PR F s c) { s with heap := s.heap.push { cls := .type "slice", data := .fields #[vl, vu, vs] } } := by
 have hF' : PH.le F (s.heap.push { cls := .type "slice", data := .fields #[vl, vu, vs] }).get? := fun a o e => Heap.get?_push_of_some _ (hF a o e)
 unfold pvSlice at h
 refine nG fun ng => ?_
 split at h
 ·rename_i xs
  split at h
  ·cases h
  ·rename_i hn
   refine ng ?_
   clear ng
   refine pe h ?_; clear h
   cases rp with
   | list ha hl hr =>
    rename_i ws a m
    have ha' := hF' _ _ ha
    have hlen : ws.length <= 4096 := by rw [hr.length]; omega
    have e : slicePick ws.toArray (lo.map (·.1)) (hi.map (·.1)) (st.map (·.1)) = ((idxs (lo.map (·.1)) (hi.map (·.1)) (st.map (·.1)) xs.length).filterMap (ws[·]?)).toArray := by
     simp [slicePick, idxs, hr.length]
    refine ⟨"list", _, list_getitem, ⟨_, ha', rfl⟩, wpAny_getItem_list_slice ⟨_, ha', rfl, _, rfl⟩ (Heap.IsSliceOf.new ..) pl.part pu.part ps.part (fun q => hn (.inl q)) ?_ (by rw [List.size_toArray, sizeLine_eq]; omega)⟩
    rw [e]
    have hsz : ((idxs (lo.map (·.1)) (hi.map (·.1)) (st.map (·.1)) xs.length).filterMap (ws[·]?)).length <= 2 ^ 20 := by
     have := slicePick_size_le ws.toArray (lo.map (·.1)) (hi.map (·.1)) (st.map (·.1))
     rw [e, List.size_toArray, List.size_toArray] at this
     omega
    exact (PR.newObj (s := { s with heap := s.heap.push { cls := .type "slice", data := .fields #[vl, vu, vs] } }) hF' rfl fun F' le e' => .list e' hsz (pick_rep (hr.mono le) _)).after
 ·rename_i l
  split at h
  ·cases h
  ·rename_i hn
   refine ng ?_
   clear ng
   refine pe h ?_; clear h
   cases rp with
   | str _ t =>
    refine ⟨"str", _, PySem.F.slot_str_getitem.lookup, typeIs_str _ _ _, wpAny_getItem_str_slice (l := lo) (u := hi) (st := st) ?_ ?_ ?_⟩
    ·refine ⟨_, Heap.get?_push_size _ rfl, rfl, ?_⟩
     have : ∀ (v : Value) (o : Option (Int × Tok)), IsPt v o -> v = partValue o := fun v o h => by
      cases o with
      | none => exact h
      | some q => exact h
     rw [this _ _ pl, this _ _ pu, this _ _ ps]
    ·cases st with
     | none => rfl
     | some q =>
      show (q.1 == 0) = false
      have : q.1 ≠ 0 := fun z => hn (.inl (by show some q.1 = some 0; rw [z]))
      simpa using this
    ·have hlen : ((idxs (lo.map (·.1)) (hi.map (·.1)) (st.map (·.1)) l.length)) = slicePicked ⟨l.toArray⟩ lo hi st := by
      unfold idxs slicePicked Str.strSliceIndices sliceBounds
      have e : (PySem.Str.length ⟨l.toArray⟩ : Nat) = l.length := by show l.toArray.size = _; simp
      rw [e]
      rfl
     unfold sliceMade
     have hb : ∀ y : PySem.Str, (y = ⟨(pickS l (lo.map (·.1)) (hi.map (·.1)) (st.map (·.1))).toArray⟩) -> ∀ t' k, PR F s (.str (pickS l (lo.map (·.1)) (hi.map (·.1)) (st.map (·.1)))) (.str y t') { s with heap := s.heap.push { cls := .type "slice", data := .fields #[vl, vu, vs] }, toks := k } := fun y hy t' k => by
      subst hy
      refine PR.after (o := { cls := .type "slice", data := .fields #[vl, vu, vs] }) (PR.same hF' rfl ⟨rfl, fun _ _ => rfl, Nat.le_refl _, id⟩ (.str _ _))
     have key : (if ((st.map (·.1)).getD 1 == 1 && (slicePicked ⟨l.toArray⟩ lo hi st).length == (PySem.Str.length ⟨l.toArray⟩)) = true then (⟨l.toArray⟩ : PySem.Str) else ⟨((slicePicked ⟨l.toArray⟩ lo hi st).filterMap ((⟨l.toArray⟩ : PySem.Str).cps[·]?)).toArray⟩) = ⟨(pickS l (lo.map (·.1)) (hi.map (·.1)) (st.map (·.1))).toArray⟩ := by
      unfold pickS pick
      rw [hlen]
      have e : (PySem.Str.length ⟨l.toArray⟩ : Nat) = l.length := by show l.toArray.size = _; simp
      rw [e]
      split
      ·rfl
      ·simp
     refine post_val_or_str ⟨?_, fun t' k => hb _ key t' k⟩
     rw [key]
     show (pickS l _ _ _).toArray.size <= _
     rw [List.size_toArray, sizeLine_eq]
     have hle : (pickS l (lo.map (·.1)) (hi.map (·.1)) (st.map (·.1))).length <= l.length := by
      unfold pickS
      split
      ·exact Nat.le_refl _
      ·refine Nat.le_trans (List.length_filterMap_le _ _) ?_
       have h0 : ((st.map (·.1)).getD 1) ≠ 0 := by
        cases st with
        | none => decide
        | some q => exact fun z => hn (.inl (by show some q.1 = some 0; exact congrArg some z))
       have e : (idxs (lo.map (·.1)) (hi.map (·.1)) (st.map (·.1)) l.length) = Str.strSliceIndices (lo.map (·.1)) (hi.map (·.1)) ((st.map (·.1)).getD 1) l.length := by
        unfold idxs Str.strSliceIndices sliceBounds; rfl
       rw [e]
       exact sliceIndicesBy_le _ _ _ h0 _
     omega
 ·rename_i b
  split at h
  ·cases h
  ·rename_i hn
   refine ng ?_
   clear ng
   refine pe h ?_; clear h
   cases rp with
   | bytes _ t =>
    cases st with
    | some q => exact absurd (.inl rfl) hn
    | none =>
     have ps' : vs = .none := ps
     refine nG fun ng => ?_
     subst ps'
     have hb4 : b.length <= 4096 := by omega
     refine ng ?_
     clear ng
     refine ⟨"bytes", _, FB.slot_bytes_getitem.lookup, typeIs_bytes _ _ _, getItem_meets (typeIs_bytes _ _ _) (by decide) FB.slot_bytes_getitem FB.entry_bytes_getitem (FB.args_bytes_getitem_2 _ _) (KBc.meets_slice2 b.toArray t _ pl.part pu.part)
      ⟨Heap.IsSliceOf.new _ _ _ _, Nat.le_trans (KBc.size_picked_le _ _ _) (by rw [List.size_toArray, sizeLine_eq]; omega), fun t' k => ?_⟩⟩
     rw [KBc.picked_eq]
     simp only [List.size_toArray]
     show PR F s _ _ _
     refine PR.after (o := { cls := .type "slice", data := .fields #[vl, vu, .none] }) (PR.same hF' rfl ⟨rfl, fun _ _ => rfl, Nat.le_refl _, id⟩ (.bytes _ _))
 ·cases h
inductive PoP (C : Cx) (X : zj) (F P : PH) (ρ : Nat -> Addr) (s : Shared) (σ' : List zA) (v : Option Int) (V : Value) (s' : Shared) : Prop where
 | mk (F' : PH) (ρ' : Nat -> Addr) (o : Option (Int × Tok)) (n : Nx C X F P ρ s F' ρ' σ' s') (p : IsPt V o) (e : o.map (·.1) = v) : PoP C X F P ρ s σ' v V s'
noncomputable def PtOK (C : Cx) (X : zj) (e : Option Expr) (f : CC (Option Int)) : Prop :=
 ∀ A env F P ρ σ s v σ', AL X.n A -> zZ X ρ env -> zb C X.N F P ρ σ s.heap -> f σ = some (v, σ') ->
  wpAny C.M A (valueOrNone (evalOpt e env)) (PoP C X F P ρ s σ' v) (fun _ _ => False) s
noncomputable def cNo : CC (Option Int) := fun σ => some (none, σ)
noncomputable def cPt (f : CC PV) : CC (Option Int) := fun σ => match f σ with | some (.int i, σ') => some (some i, σ') | _ => none
theorem pt_none : PtOK C X none cNo := by
 intro A env F P ρ σ s v σ' hA E I hf
 refine pf hf ?_; clear hf
 exact wpAny_pure ⟨F, ρ, none, .refl I, rfl, rfl⟩
theorem pt_some {e : Expr} {f : CC PV} (h : EvP C X e f) : PtOK C X (some e) (cPt f) := by
 intro A env F P ρ σ s v σ' hA E I hf
 unfold cPt at hf
 refine nG fun ng => ?_
 split at hf
 ·rename_i i σ1 e1
  cases hf
  refine ng ?_
  clear ng
  refine wpAny_mono (h A env F P ρ σ s (.int i) σ' hA E I e1) (fun V s₁ zq => ?_) fun _ _ x => x
  obtain ⟨F1, ρ1, n₁, r₁⟩ := zq
  cases r₁ with
  | int _ t => exact ⟨F1, ρ1, some (i, t), n₁, rfl, rfl⟩
 ·cases hf
noncomputable def cSlice (f : CC PV) (fl fu fs : CC (Option Int)) : CC PV := fun σ => match f σ with
 | some (p, σ1) => (match fl σ1 with
  | some (lo, σ₂) => (match fu σ₂ with
   | some (hi, σ3) => (match fs σ3 with
    | some (st, σ4) => (match pvSlice p lo hi st with | some c => some (c, σ4) | none => none)
    | none => none)
   | none => none)
  | none => none)
 | none => none
theorem evp_slice {value : Expr} {l u st : Option Expr} {sp pos : Pos} {f : CC PV} {fl fu fs : CC (Option Int)} (hf : EvP C X value f) (hl : PtOK C X l fl) (hu : PtOK C X u fu) (hs : PtOK C X st fs)
  (ops : Value -> Value -> List Value) (hsub : ∀ o i, subscripted (.Slice l u st sp) false o i = operate (ops o i) (getItem o i)) : EvP C X (.Subscript value (.Slice l u st sp) pos) (cSlice f fl fu fs) := by
 intro A env F P ρ σ s v σ' hA E I hff
 unfold cSlice at hff
 refine nG fun ng => ?_
 refine ivP hff ?_; clear hff; intro p σ1 e1 hff
 split at hff
 ·rename_i lo σ₂ e2
  split at hff
  ·rename_i hi σ3 e3
   split at hff
   ·rename_i sv σ4 e4
    split at hff
    ·rename_i c e5
     obtain ⟨rfl, rfl⟩ := Prod.mk.inj (Option.some.inj hff)
     refine ng ?_
     clear ng
     refine Subscript_ (wpAny_mono (hf A env F P ρ σ s p σ1 hA E I e1) (fun V s₁ zq => ?_) fun _ _ x => x)
     obtain ⟨F1, ρ1, n₁, r₁⟩ := zq
     show wpAny C.M A (do
      let l <- valueOrNone (evalOpt l env)
      let u <- holding [l] (valueOrNone (evalOpt u env))
      let s <- holding [l, u] (valueOrNone (evalOpt st env))
      newFields "slice" [l, u, s]) _ _ s₁
     refine wpAny_bind (wpAny_mono (hl A env F1 P ρ1 σ1 s₁ lo σ₂ hA (n₁.env E) n₁.inv e2) (fun vl s₂ zq => ?_) fun _ _ x => x)
     refine nG fun ng => ?_
     obtain ⟨F2, ρ₂, ol, n₂, pl, el⟩ := zq
     refine ng ?_
     clear ng
     refine wpAny_bind (wpAny_holding (wpAny_mono (hu A env F2 P ρ₂ σ₂ s₂ hi σ3 hA ((n₁.trans n₂).env E) n₂.inv e3) (fun vu s₃ zq => ?_) fun _ _ x => x))
     refine nG fun ng => ?_
     obtain ⟨F3, ρ3, ou, n₃, pu, eu⟩ := zq
     refine ng ?_
     clear ng
     refine wpAny_bind (wpAny_holding (wpAny_mono (hs A env F3 P ρ3 σ3 s₃ sv σ4 hA (((n₁.trans n₂).trans n₃).env E) n₃.inv e4) (fun vs s₄ zq => ?_) fun _ _ x => x))
     refine nG fun ng => ?_
     obtain ⟨F4, ρ4, os, n₄, ps, es⟩ := zq
     refine ng ?_
     clear ng
     subst el eu es
     refine wpAny_newObj_type ?_ (by size_fits)
     refine nG fun ng => ?_
     obtain ⟨T, id, hlk, hT, hg⟩ := slice_item (C := C) hA n₄.inv.f (((r₁.mono n₂.pu.le).mono n₃.pu.le).mono n₄.pu.le) pl pu ps e5
     refine ng ?_
     clear ng
     refine tail_any hT hlk (wpAny_mono hg (fun U s₅ pr => ?_) fun _ _ x => x) (hsub V _)
     refine nG fun ng => ?_
     obtain ⟨F5, n₅, r₅⟩ := pr.next n₄.inv
     refine ng ?_
     clear ng
     exact ⟨F5, ρ4, (((n₁.trans n₂).trans n₃).trans n₄).trans n₅, r₅⟩
    ·cases hff
   ·cases hff
  ·cases hff
 ·cases hff
end
section
variable {C : Cx} {X : zj}
theorem PR.int {F : PH} {s : Shared} {i : Int} {t : Tok} {n : Nat} (hF : PH.le F s.heap.get?) : PR F s (.int i) (.int i t) { s with toks := n } := PR.same hF rfl .oft (.int _ _)
theorem PR.bool {F : PH} {s : Shared} {b : Bool} (hF : PH.le F s.heap.get?) : PR F s (.bool b) (.bool b) s := PR.same hF rfl (.refl _) (.bool _)
theorem PR.str {F : PH} {s : Shared} {l : List Nat} {t : Tok} {n : Nat} (hF : PH.le F s.heap.get?) : PR F s (.str l) (.str ⟨l.toArray⟩ t) { s with toks := n } := PR.same hF rfl .oft (.str _ _)
theorem PR.bytes {F : PH} {s : Shared} {l : List UInt8} {t : Tok} {n : Nat} (hF : PH.le F s.heap.get?) : PR F s (.bytes l) (.bytes l.toArray t) { s with toks := n } := PR.same hF rfl .oft (.bytes _ _)
noncomputable def hAdd : PV -> PV -> Option PV
 | .int a, .int b => some (.int (a + b))
 | .str a, .str b => if a.length + b.length <= 16777216 then some (.str (a ++ b)) else none
 | .bytes a, .bytes b => if a.length + b.length <= 16777216 then some (.bytes (a ++ b)) else none
 | .list a, .list b => if a.length + b.length <= 4096 then some (.list (a ++ b)) else none
 | _, _ => none
theorem str_app (a b : List Nat) : (⟨a.toArray⟩ : PySem.Str) ++ ⟨b.toArray⟩ = ⟨(a ++ b).toArray⟩ := by
 show PySem.Str.append _ _ = _
 simp [PySem.Str.append]
theorem str_len (a : List Nat) : (⟨a.toArray⟩ : PySem.Str).length = a.length := by show a.toArray.size = _; simp
theorem op_add {n : Nat} : Op2 C n (binaryOp .Add) hAdd := by
 intro A F s a V b W c hA hF hP ra rb h
 unfold hAdd at h
 refine nG fun ng => ?_
 split at h
 ·cases h; cases ra; cases rb
  refine ng ?_
  clear ng
  exact wpAny_add_int (PR.int hF)
 ·rename_i x y
  refine i1 h ?_; clear h; intro hl h
  cases h; cases ra; cases rb
  refine ng ?_
  clear ng
  refine PyProof.Rows.add_str (fun t' tk => ?_) (by rw [str_len, str_len, sizeLine_eq]; exact hl)
  rw [str_app]
  exact PR.str hF
 ·rename_i x y
  refine i1 h ?_; clear h; intro hl h
  cases h; cases ra; cases rb
  refine ng ?_
  clear ng
  refine KBy.add_bytes (by simpa using hl) (fun t' k => ?_)
  rw [show x.toArray ++ y.toArray = (x ++ y).toArray by simp]
  exact PR.bytes hF
 ·rename_i x y
  refine i1 h ?_; clear h; intro hl h
  refine ng ?_
  clear ng
  refine pe h ?_; clear h
  cases ra with
  | list ha hla hra =>
   cases rb with
   | list hb hlb hrb =>
    rename_i vs a m us b k
    have e : vs.toArray ++ us.toArray = (vs ++ us).toArray := by simp
    have hl' : (vs ++ us).length <= 2 ^ 20 := by rw [List.length_append, hra.length, hrb.length]; omega
    refine concat_meets ⟨_, hF _ _ ha, rfl⟩ ⟨_, hF _ _ hb, rfl⟩ noFill_list_add seq_list_add PySem.F.slot_list_add PySem.F.entry_list_add (PySem.F.args_list_add_2 _ _)
     (list_addW a b vs.toArray us.toArray m k _ _ _ _ (by rw [List.size_toArray, List.size_toArray, sizeLine_eq, hra.length, hrb.length]; omega)) ⟨hF _ _ ha, hF _ _ hb, ?_⟩
    rw [e]
    exact PR.newObj hF rfl fun F' le e' => .list e' hl' ((hra.append hrb).mono le)
 ·cases h
noncomputable def hSub : PV -> PV -> Option PV
 | .int a, .int b => some (.int (a - b))
 | _, _ => none
theorem op_sub {n : Nat} : Op2 C n (binaryOp .Sub) hSub := by
 intro A F s a V b W c hA hF hP ra rb h
 unfold hSub at h
 refine nG fun ng => ?_
 split at h
 ·cases h; cases ra; cases rb
  refine ng ?_
  clear ng
  exact P.sub_int (PR.int hF)
 ·cases h
theorem bits_small : ∀ a : Nat, a < 512 -> Builtin.Int.intBits (a : Int) <= 64 := by decide +kernel
noncomputable def hMul : PV -> PV -> Option PV
 | .int a, .int b => if 0 <= a /\ a < 512 then some (.int (a * b)) else none
 | _, _ => none
theorem op_mul {n : Nat} : Op2 C n (binaryOp .Mult) hMul := by
 intro A F s a V b W c hA hF hP ra rb h
 unfold hMul at h
 refine nG fun ng => ?_
 refine ivII h ?_; clear h; intro x y zs0 zs1 h; subst zs0; subst zs1
 refine i1 h ?_; clear h; intro hx h
 cases h; cases ra; cases rb
 obtain ⟨k, rfl⟩ := Int.eq_ofNat_of_zero_le hx.1
 refine ng ?_
 clear ng
 exact P.mul_int (PR.int hF) (.of_left (bits_small k (by omega)))
noncomputable def hFloor : PV -> PV -> Option PV
 | .int a, .int b => if 0 < b /\ b < 1073741824 then some (.int (a.fdiv b)) else none
 | _, _ => none
theorem op_floor {n : Nat} : Op2 C n (binaryOp .FloorDiv) hFloor := by
 intro A F s a V b W c hA hF hP ra rb h
 unfold hFloor at h
 refine nG fun ng => ?_
 refine ivII h ?_; clear h; intro x y zs0 zs1 h; subst zs0; subst zs1
 refine i1 h ?_; clear h; intro hx h
 cases h; cases ra; cases rb
 refine ng ?_
 clear ng
 exact PyProof.Rows.floordiv_int (by omega) (PR.int hF) (.inl (PyProof.noPylong_small (by omega)))
noncomputable def hMod : PV -> PV -> Option PV
 | .int a, .int b => if 0 < b then some (.int (a.fmod b)) else none
 | _, _ => none
theorem op_mod {n : Nat} : Op2 C n (binaryOp .Mod) hMod := by
 intro A F s a V b W c hA hF hP ra rb h
 unfold hMod at h
 refine nG fun ng => ?_
 refine ivII h ?_; clear h; intro x y zs0 zs1 h; subst zs0; subst zs1
 refine i1 h ?_; clear h; intro hx h
 cases h; cases ra; cases rb
 refine ng ?_
 clear ng
 exact IsLeap.wpAny_mod_int (by omega) (PR.int hF)
noncomputable def hPow : PV -> PV -> Option PV
 | .int a, .int b => if (a = 2 \/ a = 16 \/ a = 3) /\ 0 <= b /\ b <= 64 then some (.int (a ^ b.toNat)) else none
 | _, _ => none
theorem bl_eq : ((bitsLine : Nat) : Int) = 134217728 := by decide +kernel
theorem pow_room {a : Int} (ha : a = 2 \/ a = 16 \/ a = 3) (b : Nat) (hb : b <= 64) : Builtin.Int.intTooBig (((Builtin.Int.intBits a : Nat) : Int) * (b : Int)) = false := by
 have key : ∀ k : Nat, k <= 5 -> Builtin.Int.intTooBig ((k : Int) * (b : Int)) = false := fun k hk => by
  have h1 : k * b <= 5 * 64 := Nat.mul_le_mul hk hb
  have h2 : ((k : Int) * (b : Int)) = ((k * b : Nat) : Int) := by simp
  refine decide_eq_false (Int.not_lt.mpr ?_)
  rw [h2, bl_eq]
  omega
 refine key _ ?_
 rcases ha with rfl | rfl | rfl <;> decide +kernel
theorem op_pow {n : Nat} : Op2 C n (binaryOp .Pow) hPow := by
 intro A F s a V b W c hA hF hP ra rb h
 unfold hPow at h
 refine nG fun ng => ?_
 refine ivII h ?_; clear h; intro x y zs0 zs1 h; subst zs0; subst zs1
 refine i1 h ?_; clear h; intro hx h
 cases h; cases ra; cases rb
 obtain ⟨k, rfl⟩ := Int.eq_ofNat_of_zero_le hx.2.1
 have hk : k <= 64 := by omega
 refine ng ?_
 clear ng
 by_cases h0 : k = 0
 ·refine nG fun ng => ?_
  subst h0
  refine ng ?_
  clear ng
  exact AutoIntOps.pow_0 (by decide) (by decide) (show PR F s (.int (x ^ 0)) (.int 1 s.toks) { s with toks := s.toks + 1 } from by rw [show x ^ 0 = 1 from Int.pow_zero x]; exact PR.int hF)
 ·refine AutoIntOps.pow_4 (by omega) (by simp; omega) ?_ ?_ (by rw [pow_room hx.1 k hk]; decide) (PR.int hF)
  ·rcases hx.1 with rfl | rfl | rfl <;> decide
  ·rcases hx.1 with rfl | rfl | rfl <;> decide
noncomputable def hAnd : PV -> PV -> Option PV
 | .int a, .int b => if 0 <= a /\ 0 <= b then some (.int ((a.toNat &&& b.toNat : Nat) : Int)) else none
 | _, _ => none
theorem bitAnd_pos {a b : Int} (ha : 0 <= a) (hb : 0 <= b) : Builtin.bitAnd a b = ((a.toNat &&& b.toNat : Nat) : Int) := by
 unfold Builtin.bitAnd
 rw [decide_eq_true ha, decide_eq_true hb]
theorem op_and {n : Nat} : Op2 C n (binaryOp .BitAnd) hAnd := by
 intro A F s a V b W c hA hF hP ra rb h
 unfold hAnd at h
 refine nG fun ng => ?_
 refine ivII h ?_; clear h; intro x y zs0 zs1 h; subst zs0; subst zs1
 refine i1 h ?_; clear h; intro hx h
 cases h; cases ra; cases rb
 refine ng ?_
 clear ng
 refine PyProof.Rows.and_int ?_
 rw [bitAnd_pos hx.1 hx.2]
 exact PR.int hF
noncomputable def hOr : PV -> PV -> Option PV
 | .int a, .int b => if 0 <= a /\ 0 <= b then some (.int ((a.toNat ||| b.toNat : Nat) : Int)) else none
 | _, _ => none
theorem bitOr_pos {a b : Int} (ha : 0 <= a) (hb : 0 <= b) : Builtin.bitOr a b = ((a.toNat ||| b.toNat : Nat) : Int) := by
 refine nG fun ng => ?_
 obtain ⟨m, rfl⟩ := Int.eq_ofNat_of_zero_le ha
 obtain ⟨k, rfl⟩ := Int.eq_ofNat_of_zero_le hb
 have hm : ¬ (0 : Int) <= -(m : Int) - 1 := by omega
 have hk : ¬ (0 : Int) <= -(k : Int) - 1 := by omega
 have e1 : (-(-(m : Int) - 1) - 1).toNat = m := by omega
 have e2 : (-(-(k : Int) - 1) - 1).toNat = k := by omega
 refine ng ?_
 clear ng
 unfold Builtin.bitOr Builtin.bitAnd Builtin.bitNot
 rw [decide_eq_false hm, decide_eq_false hk]
 show -(-((((-(-(m : Int) - 1) - 1).toNat ||| (-(-(k : Int) - 1) - 1).toNat : Nat)) : Int) - 1) - 1 = _
 rw [e1, e2]
 show -(-((m ||| k : Nat) : Int) - 1) - 1 = ((m ||| k : Nat) : Int)
 omega
theorem op_or {n : Nat} : Op2 C n (binaryOp .BitOr) hOr := by
 intro A F s a V b W c hA hF hP ra rb h
 unfold hOr at h
 refine nG fun ng => ?_
 refine ivII h ?_; clear h; intro x y zs0 zs1 h; subst zs0; subst zs1
 refine i1 h ?_; clear h; intro hx h
 cases h; cases ra; cases rb
 refine ng ?_
 clear ng
 refine PyProof.Rows.or_int ?_
 rw [bitOr_pos hx.1 hx.2]
 exact PR.int hF
noncomputable def hNeg : PV -> Option PV
 | .int a => some (.int (-a))
 | _ => none
theorem op_neg {n : Nat} : Op1 C n (unaryOp .USub) hNeg := by
 intro A F s a V c hA hF hP ra h
 unfold hNeg at h
 refine nG fun ng => ?_
 split at h
 ·cases h; cases ra
  refine ng ?_
  clear ng
  exact P.neg_int (PR.int hF)
 ·cases h
end
section
variable {C : Cx} {X : zj}
mutual
noncomputable def datD : PV -> PyData
 | .none => .none
 | .bool b => .bool b
 | .int i => .int i
 | .str s => .str ⟨s.toArray⟩
 | .list xs => .list (datDs xs)
 | .tup xs => .tuple (datDs xs)
 | .bytes _ => .none
 | .ref _ => .none
 | .rng _ _ => .none
noncomputable def datDs : List PV -> List PyData
 | [] => []
 | x :: xs => datD x :: datDs xs
end
noncomputable def sh : Nat -> PV -> Bool
 | _, .int _ => true
 | _, .str s => s.all (· < 0x110000)
 | k + 1, .list xs => xs.all (sh k)
 | _, _ => false
mutual
noncomputable def eqp : PV -> PV -> Bool
 | .int a, .int b => a == b
 | .str a, .str b => a == b
 | .list xs, .list ys => eqps xs ys
 | _, _ => false
noncomputable def eqps : List PV -> List PV -> Bool
 | [], [] => true
 | x :: xs, y :: ys => eqp x y && eqps xs ys
 | _, _ => false
end
mutual
theorem rep_reads {F : PH} {h : Heap} (hF : PH.le F h.get?) : ∀ {p : PV} {V : Value} (k : Nat), Rep F p V -> sh k p = true -> ∃ as, Reads h V (datD p) as /\ (datD p).canLay0 = true /\ (datD p).depth <= k
 | _, _, k, .int i t, _ => ⟨[], by dsimp only [datD]; exact .int i t, by dsimp only [datD]; rfl, by dsimp only [datD]; exact Nat.zero_le _⟩
 | _, _, k, .str s t, e => ⟨[], by dsimp only [datD]; exact .str _ t, by
   dsimp only [datD]
   have e' : s.all (· < 0x110000) = true := by cases k <;> exact e
   show (Array.all s.toArray (· < 0x110000)) = true
   simpa using e', by dsimp only [datD]; exact Nat.zero_le _⟩
 | _, _, k + 1, .list (xs := xs) (a := a) ha hl hr, e => by
  have e' : xs.all (sh k) = true := e
  obtain ⟨as, r, c, d⟩ := repL_reads hF k hr e'
  refine ⟨a :: as, ?_, ?_, ?_⟩
  ·dsimp only [datD]; exact .list (hF _ _ ha) rfl rfl r
  ·dsimp only [datD]; exact c
  ·dsimp only [datD]; exact Nat.succ_le_succ d
 | _, _, 0, .list .., e => by cases e
 | _, _, k, .none, e => by cases k <;> cases e
 | _, _, k, .bool _, e => by cases k <;> cases e
 | _, _, k, .bytes _ _, e => by cases k <;> cases e
 | _, _, k, .tup .., e => by cases k <;> cases e
 | _, _, k, .ref _, e => by cases k <;> cases e
 | _, _, k, .rng .., e => by cases k <;> cases e
theorem repL_reads {F : PH} {h : Heap} (hF : PH.le F h.get?) : ∀ {xs : List PV} {vs : List Value} (k : Nat), RepL F xs vs -> xs.all (sh k) = true -> ∃ as, ReadsAll h vs (datDs xs) as /\ PyData.canLayAll0 (datDs xs) = true /\ PyData.depthAll (datDs xs) <= k
 | _, _, k, .nil, _ => ⟨[], by dsimp only [datDs]; exact .nil, by dsimp only [datDs]; rfl, by dsimp only [datDs]; exact Nat.zero_le _⟩
 | _, _, k, .cons (x := x) (xs := xs) r rs, e => by
  obtain ⟨e1, e2⟩ := Bool.and_eq_true_iff.mp (show (sh k x && xs.all (sh k)) = true from e)
  obtain ⟨as, r1, c1, d1⟩ := rep_reads hF k r e1
  obtain ⟨bs, r2, c2, d2⟩ := repL_reads hF k rs e2
  refine ⟨as ++ bs, ?_, ?_, ?_⟩
  ·dsimp only [datDs]; exact .cons r1 r2
  ·dsimp only [datDs]; show (PyData.canLay0 _ && PyData.canLayAll0 _) = true; rw [c1, c2]; rfl
  ·dsimp only [datDs]; exact Nat.max_le.mpr ⟨d1, d2⟩
end
theorem str_beq (a b : List Nat) : ((⟨a.toArray⟩ : PySem.Str) == ⟨b.toArray⟩) = (a == b) := by
 rw [Bool.eq_iff_iff, beq_iff_eq, beq_iff_eq]
 constructor
 ·intro h
  have := congrArg (fun x : PySem.Str => x.cps.toList) h
  simpa using this
 ·rintro rfl; rfl
mutual
theorem eqv_dat : ∀ (p q : PV) (k l : Nat), sh k p = true -> sh l q = true -> PyData.eqv (datD p) (datD q) = eqp p q
 | .int a, .int b, _, _, _, _ => by dsimp only [datD, eqp]; rfl
 | .str a, .str b, _, _, _, _ => by dsimp only [datD, eqp]; exact str_beq a b
 | .list xs, .list ys, k + 1, l + 1, e, f => by
  dsimp only [datD, eqp]
  exact eqvs_dat xs ys k l e f
 | .int a, .str b, _, _, _, _ => by dsimp only [datD, eqp]; rfl
 | .int a, .list b, _, _, _, _ => by dsimp only [datD, eqp]; rfl
 | .str a, .int b, _, _, _, _ => by dsimp only [datD, eqp]; rfl
 | .str a, .list b, _, _, _, _ => by dsimp only [datD, eqp]; rfl
 | .list a, .int b, _, _, _, _ => by dsimp only [datD, eqp]; rfl
 | .list a, .str b, _, _, _, _ => by dsimp only [datD, eqp]; rfl
 | .list _, .list _, 0, _, e, _ => by cases e
 | .list _, .list _, _ + 1, 0, _, e => by cases e
 | .none, _, k, _, e, _ => by cases k <;> cases e
 | .bool _, _, k, _, e, _ => by cases k <;> cases e
 | .bytes _, _, k, _, e, _ => by cases k <;> cases e
 | .tup _, _, k, _, e, _ => by cases k <;> cases e
 | .ref _, _, k, _, e, _ => by cases k <;> cases e
 | .rng _ _, _, k, _, e, _ => by cases k <;> cases e
 | _, .none, _, k, _, e => by cases k <;> cases e
 | _, .bool _, _, k, _, e => by cases k <;> cases e
 | _, .bytes _, _, k, _, e => by cases k <;> cases e
 | _, .tup _, _, k, _, e => by cases k <;> cases e
 | _, .ref _, _, k, _, e => by cases k <;> cases e
 | _, .rng _ _, _, k, _, e => by cases k <;> cases e
theorem eqvs_dat : ∀ (xs ys : List PV) (k l : Nat), xs.all (sh k) = true -> ys.all (sh l) = true -> PyData.eqvAll (datDs xs) (datDs ys) = eqps xs ys
 | [], [], _, _, _, _ => by dsimp only [datDs, eqps]; rfl
 | [], _ :: _, _, _, _, _ => by dsimp only [datDs, eqps]; rfl
 | _ :: _, [], _, _, _, _ => by dsimp only [datDs, eqps]; rfl
 | x :: xs, y :: ys, k, l, e, f => by
  obtain ⟨e1, e2⟩ := Bool.and_eq_true_iff.mp (show (sh k x && xs.all (sh k)) = true from e)
  obtain ⟨f1, f2⟩ := Bool.and_eq_true_iff.mp (show (sh l y && ys.all (sh l)) = true from f)
  dsimp only [datDs, eqps]
  rw [<- eqv_dat x y k l e1 f1, <- eqvs_dat xs ys k l e2 f2]
  rfl
end
theorem AL.units64 {n : Nat} {A : Around} (x : AL n A) (hn : n <= 40) : A.units <= 5000 := by have := x.units; omega
theorem room3 {n : Nat} {A : Around} (x : AL n A) (hn : n <= 40) {a b : Nat} (h : a <= 3) : A.units + 1 + min a b < cLine := by
 have := x.units64 hn
 have := Nat.min_le_left a b
 show _ < 9900
 omega
noncomputable def hEq (p q : PV) : Option PV := if sh 3 p && sh 3 q then some (.bool (eqp p q)) else none
noncomputable def hNe (p q : PV) : Option PV := if sh 3 p && sh 3 q then some (.bool (!eqp p q)) else none
theorem op_eq {n : Nat} (hn : n <= 40) : Op2 C n (compareOp .Eq) hEq := by
 intro A F s a V b W c hA hF hP ra rb h
 unfold hEq at h
 refine nG fun ng => ?_
 refine i1 h ?_; clear h; intro hh h
 obtain ⟨h1, h2⟩ := Bool.and_eq_true_iff.mp hh
 refine ng ?_
 clear ng
 refine pe h ?_; clear h
 refine nG fun ng => ?_
 obtain ⟨as, r1, c1, d1⟩ := rep_reads hF 3 ra h1
 obtain ⟨bs, r2, c2, d2⟩ := rep_reads hF 3 rb h2
 refine ng ?_
 clear ng
 refine SeqAt.compareEq_reads r1 r2 c1 c2 (by have := room3 hA hn (b := (datD b).depth) d1; omega) ?_
 rw [eqv_dat _ _ _ _ h1 h2]
 exact PR.bool hF
theorem op_ne {n : Nat} (hn : n <= 40) : Op2 C n (compareOp .NotEq) hNe := by
 intro A F s a V b W c hA hF hP ra rb h
 unfold hNe at h
 refine nG fun ng => ?_
 refine i1 h ?_; clear h; intro hh h
 obtain ⟨h1, h2⟩ := Bool.and_eq_true_iff.mp hh
 refine ng ?_
 clear ng
 refine pe h ?_; clear h
 refine nG fun ng => ?_
 obtain ⟨as, r1, c1, d1⟩ := rep_reads hF 3 ra h1
 obtain ⟨bs, r2, c2, d2⟩ := rep_reads hF 3 rb h2
 refine ng ?_
 clear ng
 refine SeqAt.compareNe_reads r1 r2 c1 c2 (by have := room3 hA hn (b := (datD b).depth) d1; omega) ?_
 rw [eqv_dat _ _ _ _ h1 h2]
 exact PR.bool hF
noncomputable def hNotIn : PV -> PV -> Option PV
 | x, .list xs => if sh 3 x && xs.all (sh 3) then some (.bool (!xs.any fun y => eqp y x)) else none
 | _, _ => none
theorem any_dat : ∀ (xs : List PV) (x : PV), xs.all (sh 3) = true -> sh 3 x = true -> (datDs xs).any (fun y => PyData.eqv y (datD x)) = xs.any fun y => eqp y x
 | [], x, _, _ => by dsimp only [datDs]; rfl
 | y :: ys, x, e, f => by
  obtain ⟨e1, e2⟩ := Bool.and_eq_true_iff.mp (show (sh 3 y && ys.all (sh 3)) = true from e)
  dsimp only [datDs]
  rw [List.any_cons, List.any_cons, any_dat ys x e2 f, eqv_dat _ _ _ _ e1 f]
theorem op_notIn {n : Nat} (hn : n <= 40) : Op2 C n (compareOp .NotIn) hNotIn := by
 intro A F s a V b W c hA hF hP ra rb h
 unfold hNotIn at h
 refine nG fun ng => ?_
 split at h
 ·rename_i xs
  split at h
  ·rename_i hh
   obtain ⟨h1, h2⟩ := Bool.and_eq_true_iff.mp hh
   refine ng ?_
   clear ng
   refine pe h ?_; clear h
   refine nG fun ng => ?_
   obtain ⟨as, r1, c1, d1⟩ := rep_reads hF 3 ra h1
   obtain ⟨bs, r2, c2, d2⟩ := rep_reads hF 4 rb (show sh 4 (.list xs) = true from h2)
   dsimp only [datD] at r2 c2 d2
   refine ng ?_
   clear ng
   refine SeqAt.notIn_list_reads r2 r1 c2 c1 (room3 hA hn (Nat.le_of_succ_le_succ d2)) ?_
   rw [any_dat xs a h2 h1]
   exact PR.bool hF
  ·cases h
 ·cases h
noncomputable def hIn : PV -> PV -> Option PV
 | .str [c], .str x => some (.bool (decide (c ∈ x)))
 | _, _ => none
theorem op_in {n : Nat} : Op2 C n (compareOp .In) hIn := by
 intro A F s a V b W c hA hF hP ra rb h
 unfold hIn at h
 refine nG fun ng => ?_
 split at h
 ·rename_i k x
  cases h; cases ra; cases rb
  refine ng ?_
  clear ng
  refine PyProof.Rows.in_str ?_
  have e := StrLaws.found_one ⟨x.toArray⟩ k
  rw [show (⟨[k].toArray⟩ : PySem.Str) = ⟨#[k]⟩ from rfl, e]
  exact PR.bool hF
 ·cases h
noncomputable def hIs : PV -> PV -> Option PV
 | .bool a, .bool b => some (.bool (a == b))
 | _, _ => none
theorem op_is {n : Nat} : Op2 C n (compareOp .Is) hIs := by
 intro A F s a V b W c hA hF hP ra rb h
 unfold hIs at h
 refine nG fun ng => ?_
 split at h
 ·cases h; cases ra; cases rb
  refine ng ?_
  clear ng
  exact PyProof.Rows.is_bool (PR.bool hF)
 ·cases h
noncomputable def hIsNot : PV -> PV -> Option PV
 | .none, .none => some (.bool false)
 | _, .none => some (.bool true)
 | _, _ => none
theorem op_isNot {n : Nat} : Op2 C n (compareOp .IsNot) hIsNot := by
 intro A F s a V b W c hA hF hP ra rb h
 unfold hIsNot at h
 refine nG fun ng => ?_
 split at h
 ·cases h; cases ra; cases rb
  refine ng ?_
  clear ng
  exact PySem.isNot_none (PR.bool hF)
 ·rename_i hne
  cases h; cases rb
  refine ng ?_
  clear ng
  refine PySem.isNot_none ?_
  have e : (!(V == Value.none)) = true := by
   cases ra <;> first | exact absurd rfl hne | rfl
  rw [e]
  exact PR.bool hF
 ·cases h
noncomputable def hLt : PV -> PV -> Option PV
 | .int a, .int b => some (.bool (decide (a < b)))
 | _, _ => none
noncomputable def hGt : PV -> PV -> Option PV
 | .int a, .int b => some (.bool (decide (a > b)))
 | _, _ => none
noncomputable def hGe : PV -> PV -> Option PV
 | .int a, .int b => some (.bool (decide (a >= b)))
 | _, _ => none
theorem op_lt {n : Nat} : Op2 C n (compareOp .Lt) hLt := by
 intro A F s a V b W c hA hF hP ra rb h
 unfold hLt at h
 refine nG fun ng => ?_
 split at h
 ·refine ng ?_
  clear ng
  cases h; cases ra; cases rb; exact P.lt_int (PR.bool hF)
 ·cases h
theorem op_gt {n : Nat} : Op2 C n (compareOp .Gt) hGt := by
 intro A F s a V b W c hA hF hP ra rb h
 unfold hGt at h
 refine nG fun ng => ?_
 split at h
 ·refine ng ?_
  clear ng
  cases h; cases ra; cases rb; exact P.gt_int (PR.bool hF)
 ·cases h
theorem op_ge {n : Nat} : Op2 C n (compareOp .GtE) hGe := by
 intro A F s a V b W c hA hF hP ra rb h
 unfold hGe at h
 refine nG fun ng => ?_
 split at h
 ·refine ng ?_
  clear ng
  cases h; cases ra; cases rb; exact P.ge_int (PR.bool hF)
 ·cases h
end
section
variable {C : Cx} {X : zj}
noncomputable def hAbs : List PV -> Option PV
 | [.int a] => some (.int (a.natAbs : Int))
 | _ => none
theorem fn_abs {n : Nat} : OpN C n (fun vs => call (.builtin "abs") vs) hAbs := by
 intro A F s as Vs c hA hF hP r h
 unfold hAbs at h
 refine nG fun ng => ?_
 refine iv1i h ?_; clear h; intro a zs0 h; subst zs0
 refine ng ?_
 clear ng
 refine pe h ?_; clear h
 cases r with
 | cons r1 r2 =>
  refine nG fun ng => ?_
  cases r2; cases r1
  refine ng ?_
  clear ng
  refine PyProof.Rows.call_abs_int fun u tk => ?_
  have e : (if a < 0 then -a else a) = (a.natAbs : Int) := by split <;> omega
  rw [e]
  exact PR.int hF
noncomputable def hInt : List PV -> Option PV
 | [.int a] => some (.int a)
 | _ => none
theorem fn_int {n : Nat} : OpN C n (fun vs => call (.type "int") vs) hInt := by
 intro A F s as Vs c hA hF hP r h
 unfold hInt at h
 refine nG fun ng => ?_
 split at h
 ·refine ng ?_
  clear ng
  refine pe h ?_; clear h
  cases r with
  | cons r1 r2 =>
   refine nG fun ng => ?_
   cases r2; cases r1
   refine ng ?_
   clear ng
   exact call_int_int (PR.same hF rfl (.refl _) (.int _ _))
 ·cases h
noncomputable def hDivmod : List PV -> Option PV
 | [.int a, .int b] => if 0 < b /\ b < 1073741824 then some (.tup [.int (a.fdiv b), .int (a.fmod b)]) else none
 | _ => none
theorem PR.toks {F : PH} {s : Shared} {c : PV} {U : Value} {s' : Shared} {t : Nat} (x : PR F s c U s') : PR F s c U { s' with toks := t } := ⟨x.keeps, x.gx.trans .oft, let ⟨F1, a, b, d, r⟩ := x.ex; ⟨F1, a, b, d, r⟩⟩
theorem fn_divmod {n : Nat} : OpN C n (fun vs => call (.builtin "divmod") vs) hDivmod := by
 intro A F s as Vs c hA hF hP r h
 unfold hDivmod at h
 refine nG fun ng => ?_
 split at h
 ·rename_i a b
  split at h
  ·rename_i hb
   refine ng ?_
   clear ng
   refine pe h ?_; clear h
   cases r with
   | cons r1 r2 =>
    cases r2 with
    | cons r2 r3 =>
     refine nG fun ng => ?_
     cases r3; cases r1; cases r2
     refine ng ?_
     clear ng
     refine PyProof.Rows.divmod_int (by omega) ?_ (.inl (PyProof.noPylong_small (by omega)))
     have pr := PR.newObj (s := s) (o := { cls := .type "tuple", data := .seq #[.int (a.fdiv b) s.toks, .int (a.fmod b) (s.toks + 1)] }) (c := .tup [.int (a.fdiv b), .int (a.fmod b)]) hF rfl
      fun F' le e' => .tup (vs := [.int (a.fdiv b) s.toks, .int (a.fmod b) (s.toks + 1)]) e' (by simp) (.cons (.int _ _) (.cons (.int _ _) .nil))
     exact pr.toks
  ·cases h
 ·cases h
noncomputable def hLen : List PV -> Option PV
 | [.list xs] => some (.int (xs.length : Int))
 | _ => none
theorem fn_len {n : Nat} : OpN C n (fun vs => call (.builtin "len") vs) hLen := by
 intro A F s as Vs c hA hF hP r h
 unfold hLen at h
 refine nG fun ng => ?_
 split at h
 ·refine ng ?_
  clear ng
  refine pe h ?_; clear h
  cases r with
  | cons r1 r2 =>
   refine nG fun ng => ?_
   cases r2
   refine ng ?_
   clear ng
   cases r1 with
   | list ha hl hr =>
    rename_i xs vs a m
    refine PySem.Calls.call_len_list (items := vs.toArray) ⟨_, hF _ _ ha, rfl, m, rfl⟩ (by rw [List.size_toArray]; omega) ?_
    rw [List.size_toArray, hr.length]
    exact PR.int hF
 ·cases h
noncomputable def intsOf : List PV -> Option (List Int)
 | [] => some []
 | .int i :: r => (match intsOf r with | some l => some (i :: l) | none => none)
 | _ => none
theorem intsOf_cons {x : PV} {xs : List PV} {ns : List Int} (e : intsOf (x :: xs) = some ns) : ∃ i l, x = .int i /\ intsOf xs = some l /\ ns = i :: l := by
 cases x with
 | int i =>
  have e' : (match intsOf xs with | some l => some (i :: l) | none => none) = some ns := e
  cases q : intsOf xs with
  | none => rw [q] at e'; cases e'
  | some l => rw [q] at e'; cases e'; exact ⟨i, l, rfl, rfl, rfl⟩
 | _ => cases e
theorem ints_are {F : PH} {xs : List PV} : ∀ {vs : List Value} {ns : List Int}, RepL F xs vs -> intsOf xs = some ns -> IntsAre vs ns := by
 induction xs with
 | nil => intro vs ns h e; cases h; cases e; exact .nil
 | cons x xs ih =>
  intro vs ns h e
  refine nG fun ng => ?_
  obtain ⟨i, l, rfl, e1, rfl⟩ := intsOf_cons e
  refine ng ?_
  clear ng
  cases h with
  | cons hx r => cases hx; exact .cons _ _ (ih r e1)
theorem intsOf_map : ∀ ns : List Int, intsOf (ns.map .int) = some ns
 | [] => rfl
 | n :: ns => by simp [intsOf, intsOf_map ns]
noncomputable def hSum : List PV -> Option PV
 | [.list xs] => (match intsOf xs with | some ns => some (.int ns.sum) | none => none)
 | _ => none
theorem fn_sum {n : Nat} : OpN C n (fun vs => call (.builtin "sum") vs) hSum := by
 intro A F s as Vs c hA hF hP r h
 unfold hSum at h
 refine nG fun ng => ?_
 refine iv1l h ?_; clear h; intro xs zs0 h; subst zs0
 refine ivI h ?_; clear h; intro ns e h
 refine ng ?_
 clear ng
 refine pe h ?_; clear h
 cases r with
 | cons r1 r2 =>
  refine nG fun ng => ?_
  cases r2
  refine ng ?_
  clear ng
  cases r1 with
  | list ha hl hr =>
   rename_i vs a m
   refine nG fun ng => ?_
   obtain ⟨its, hits⟩ := (ints_are hr e).allInts.items
   refine ng ?_
   clear ng
   refine sum_intListG hA.handled (l := a) (xs := its) ⟨_, hF _ _ ha, rfl, m, by rw [hits]⟩ fun h' tk t' k => ?_
   have e2 : preSum (numAt its) its.size = ns.sum := by
    rw [preSum_eq, List.take_of_length_le (by simp), <- nums_intItems, <- hits, show vs.toArray.toList = vs from rfl, (ints_are hr e).numsOf]
   rw [e2]
   exact PR.kept hF k .of (.int _ _)
noncomputable def zz : List PV -> Option PV
 | [.int a] => some (.rng 0 a)
 | _ => none
theorem fn_range {n : Nat} : OpN C n (fun vs => call (.type "range") vs) zz := by
 intro A F s as Vs c hA hF hP r h
 unfold zz at h
 refine nG fun ng => ?_
 refine iv1i h ?_; clear h; intro a zs0 h; subst zs0
 refine ng ?_
 clear ng
 refine pe h ?_; clear h
 cases r with
 | cons r1 r2 =>
  refine nG fun ng => ?_
  cases r2
  refine ng ?_
  clear ng
  cases r1 with
  | int _ t =>
   refine call_range_1 ?_
   exact (PR.newObj (s := s) (o := { cls := .type "range", data := .fields #[.int 0 s.toks, .int a t, .int 1 (s.toks + 1)] }) (c := .rng 0 a) hF rfl fun F' le e' => .rng e').toks
noncomputable def hOrd : List PV -> Option PV
 | [.str [c]] => some (.int (c : Int))
 | _ => none
theorem fn_ord {n : Nat} : OpN C n (fun vs => call (.builtin "ord") vs) hOrd := by
 intro A F s as Vs c hA hF hP r h
 unfold hOrd at h
 refine nG fun ng => ?_
 split at h
 ·refine ng ?_
  clear ng
  refine pe h ?_; clear h
  cases r with
  | cons r1 r2 =>
   refine nG fun ng => ?_
   cases r2; cases r1
   refine ng ?_
   clear ng
   exact P.ord_of_char (PR.int hF)
 ·cases h
noncomputable def hChr : List PV -> Option PV
 | [.int i] => if 0 <= i /\ i <= 1114111 then some (.str [i.toNat]) else none
 | _ => none
theorem fn_chr {n : Nat} : OpN C n (fun vs => call (.builtin "chr") vs) hChr := by
 intro A F s as Vs c hA hF hP r h
 unfold hChr at h
 refine nG fun ng => ?_
 split at h
 ·refine i1 h ?_; clear h; intro hi h
  refine ng ?_
  clear ng
  refine pe h ?_; clear h
  cases r with
  | cons r1 r2 =>
   refine nG fun ng => ?_
   cases r2; cases r1
   refine ng ?_
   clear ng
   exact PyProof.Rows.chr_of_range hi.1 hi.2 (PR.str hF)
 ·cases h
noncomputable def strsOf : List PV -> Option (List (List Nat))
 | [] => some []
 | .str s :: r => (match strsOf r with | some l => some (s :: l) | none => none)
 | _ => none
theorem strsOf_cons {x : PV} {xs : List PV} {ss : List (List Nat)} (e : strsOf (x :: xs) = some ss) : ∃ s l, x = .str s /\ strsOf xs = some l /\ ss = s :: l := by
 cases x with
 | str s =>
  have e' : (match strsOf xs with | some l => some (s :: l) | none => none) = some ss := e
  cases q : strsOf xs with
  | none => rw [q] at e'; cases e'
  | some l => rw [q] at e'; cases e'; exact ⟨s, l, rfl, rfl, rfl⟩
 | _ => cases e
theorem strs_are {F : PH} {xs : List PV} : ∀ {vs : List Value} {ss : List (List Nat)}, RepL F xs vs -> strsOf xs = some ss -> StrsAre vs (ss.map fun s => ⟨s.toArray⟩) := by
 induction xs with
 | nil => intro vs ns h e; cases h; cases e; exact .nil
 | cons x xs ih =>
  intro vs ns h e
  refine nG fun ng => ?_
  obtain ⟨i, l, rfl, e1, rfl⟩ := strsOf_cons e
  refine ng ?_
  clear ng
  cases h with
  | cons hx r => cases hx; exact .cons _ _ (ih r e1)
theorem strsOf_map : ∀ ns : List (List Nat), strsOf (ns.map .str) = some ns
 | [] => rfl
 | n :: ns => by simp [strsOf, strsOf_map ns]
theorem join_empty : ∀ ss : List (List Nat), PySem.Str.join ⟨#[]⟩ (ss.map fun s => (⟨s.toArray⟩ : PySem.Str)) = ⟨ss.flatten.toArray⟩
 | [] => rfl
 | [x] => by simp; rfl
 | x :: y :: r => by
  have ih := join_empty (y :: r)
  rw [List.map_cons] at ih
  rw [List.map_cons, List.map_cons, PyProof.Rows.join_cons_cons, ih]
  show PySem.Str.append (PySem.Str.append _ _) _ = _
  simp [PySem.Str.append]
noncomputable def hJoin : List PV -> Option PV
 | [.str [], .list xs] => (match strsOf xs with | some ss => if ss.flatten.length <= 1000000 /\ xs.length <= 1000000 then some (.str ss.flatten) else none | none => none)
 | _ => none
theorem fn_join {n : Nat} : OpN C n (fun vs => call (.builtin "str.join") vs) hJoin := by
 intro A F s as Vs c hA hF hP r h
 unfold hJoin at h
 refine nG fun ng => ?_
 split at h
 ·rename_i xs
  split at h
  ·rename_i ss e
   split at h
   ·rename_i hb
    refine ng ?_
    clear ng
    refine pe h ?_; clear h
    cases r with
    | cons r1 r2 =>
     cases r2 with
     | cons r2 r3 =>
      refine nG fun ng => ?_
      cases r3; cases r1
      refine ng ?_
      clear ng
      cases r2 with
      | list ha hl hr =>
       rename_i vs a m
       refine PyProof.Rows.join_list (items := vs.toArray) (ys := ss.map fun s => (⟨s.toArray⟩ : PySem.Str)) ⟨_, hF _ _ ha, rfl, m, rfl⟩ (strs_are hr e) ?_ fun t' k => ?_
       ·have h1 : ((ss.map fun s => (⟨s.toArray⟩ : PySem.Str)).map (·.length)).sum = ss.flatten.length := by
         rw [List.map_map, List.length_flatten]
         congr 1
        rw [h1, str_len]
        simp only [List.length_nil, Nat.mul_zero, Nat.add_zero]
        omega
       ·have e1 : Txt.join ⟨([] : List Nat).toArray⟩ (ss.map fun s => (⟨s.toArray⟩ : PySem.Str)) = ⟨ss.flatten.toArray⟩ := by
         have := PyProof.Rows.join_closes (sep := ⟨([] : List Nat).toArray⟩) (ys := ss.map fun s => (⟨s.toArray⟩ : PySem.Str)) rfl
         rw [beq_iff_eq] at this
         rw [this]
         exact join_empty ss
        rw [e1]
        exact PR.str hF
   ·cases h
  ·cases h
 ·cases h
noncomputable def hIndex : List PV -> Option PV
 | [.list xs, x] => if sh 3 x && xs.all (sh 3) && xs.any (fun y => eqp y x) then some (.int (xs.findIdx (fun y => eqp y x) : Nat)) else none
 | _ => none
theorem repL_at {F : PH} {xs : List PV} {vs : List Value} (h : RepL F xs vs) {i : Nat} (hi : i < vs.length) : ∃ hx : i < xs.length, Rep F xs[i] vs[i] := by
 have hx : i < xs.length := by rw [<- h.length]; exact hi
 refine nG fun ng => ?_
 obtain ⟨v, h1, h2⟩ := h.get (List.getElem?_eq_getElem hx)
 rw [List.getElem?_eq_getElem hi] at h1
 cases h1
 refine ng ?_
 clear ng
 exact ⟨hx, h2⟩
theorem fn_index {n : Nat} (hn : n <= 40) : OpN C n (fun vs => call (.builtin "list.index") vs) hIndex := by
 intro A F s as Vs c hA hF hP r h
 unfold hIndex at h
 refine nG fun ng => ?_
 split at h
 ·rename_i xs x
  split at h
  ·rename_i hh
   refine ng ?_
   clear ng
   refine pe h ?_; clear h
   refine nG fun ng => ?_
   obtain ⟨hh1, hh2⟩ := Bool.and_eq_true_iff.mp hh
   obtain ⟨h1, h3⟩ := Bool.and_eq_true_iff.mp hh1
   refine ng ?_
   clear ng
   cases r with
   | cons r1 r2 =>
    cases r2 with
    | cons r2 r3 =>
     refine nG fun ng => ?_
     cases r3
     obtain ⟨as, q1, c1, d1⟩ := rep_reads hF 3 r2 h1
     refine ng ?_
     clear ng
     cases r1 with
     | list ha hl hr =>
      rename_i vs a m
      refine nG fun ng => ?_
      obtain ⟨bs, q2, c2, d2⟩ := repL_reads hF 3 hr h3
      rename_i V
      have hlen := hr.length
      have hj : xs.findIdx (fun y => eqp y x) < xs.length := List.findIdx_lt_length_of_exists (by simpa using hh2)
      have key : ∀ i (hi : i < vs.length) (hx : i < xs.length), PyData.eqv (SeqAt.readOf s.heap vs[i]) (datD x) = eqp xs[i] x := fun i hi hx => by
       obtain ⟨hx', rr⟩ := repL_at hr hi
       have e1 : sh 3 xs[i] = true := List.all_eq_true.mp h3 _ (List.getElem_mem hx)
       obtain ⟨cs, q3, c3, d3⟩ := rep_reads hF 3 rr e1
       rw [SeqAt.readOf_eq c3 q3, eqv_dat _ _ _ _ e1 h1]
      refine ng ?_
      clear ng
      refine call_meets PySem.F.slot_list_index ⟨_, hF _ _ ha, rfl⟩ PySem.F.entry_list_index (PySem.F.args_list_index_2 _ _)
       (SeqAt.list_indexAt a vs.toArray m none #[] V (fun y => PyData.eqv (SeqAt.readOf s.heap y) (datD x)) (xs.findIdx (fun y => eqp y x)) (by simpa [hlen] using hj) (by omega) ?_ ?_)
       ⟨hF _ _ ha, SeqAt.items_eqAt (A := A) (vs := vs.toArray) q2 q1 c2 c1 (room3 hA hn d2), ?_⟩
      ·have := key _ (by omega) hj
       simp only [List.getElem_toArray]
       rw [this]
       exact List.findIdx_getElem (w := hj)
      ·intro i hi hlt
       have hx : i < xs.length := by omega
       have := key i (by simpa using hi) hx
       simp only [List.getElem_toArray]
       rw [this]
       have := List.not_of_lt_findIdx hlt
       simpa using this
      ·exact PR.int hF
  ·cases h
 ·cases h
end
section
variable {C : Cx} {X : zj}
noncomputable def bindS (fi : Nat) : List Pl -> List PV -> List zA -> Option (List zA)
 | [], [], σ => some σ
 | p :: ps, v :: vs, σ => (match p.set fi (.imm v) σ with | some σ' => bindS fi ps vs σ' | none => none)
 | _, _, _ => none
theorem binds_ok {A : Around} {env : Env} {F P : PH} {ρ : Nat -> Addr} (E : zZ X ρ env) : ∀ (ps : List Str) (Vs : List Value) (as : List PV) (pls : List Pl) (σ σ' : List zA) (s : Shared), zb C X.N F P ρ σ s.heap -> RepL F as Vs ->
  (∀ (k : Nat) (x : Str) (p : Pl), ps[k]? = some x -> pls[k]? = some p -> PlOK X x p) -> ps.length = pls.length -> bindS X.fi pls as σ = some σ' -> ∀ (f : Str × Value -> PUnit -> Sem (ForInStep PUnit)), (∀ n v u, f (n, v) u = (do storeName env n v; pure (.yield ⟨⟩))) ->
  wpAny C.M A (forIn (ps.zip Vs) ⟨⟩ f) (fun _ s' => Sx C X F P ρ s F ρ σ' s') (fun _ _ => False) s
 | [], Vs, as, pls, σ, σ', s, I, r, hp, hl, hf, f, hff => by
  cases pls with
  | cons => cases hl
  | nil =>
   cases as with
   | cons => cases hf
   | nil =>
    refine pe hf ?_; clear hf
    rw [List.zip_nil_left, List.forIn_nil]
    exact wpAny_pure (.refl I)
 | x :: ps, Vs, as, pls, σ, σ', s, I, r, hp, hl, hf, f, hff => by
  cases pls with
  | nil => cases hl
  | cons p pls =>
   cases r with
   | nil => cases hf
   | cons r1 r2 =>
    rename_i a V as Vs
    dsimp only [bindS] at hf
    refine ivS hf ?_; clear hf; intro σ1 e hf
    rw [List.zip_cons_cons, List.forIn_cons, hff]
    refine wpAny_bind (wpAny_bind (wpAny_mono (store_ok (hp 0 x p rfl rfl) E I (v := .imm a) r1 e) (fun _ s₁ n₁ => wpAny_pure ?_) fun _ _ x => x))
    refine wpAny_mono (binds_ok E ps Vs as pls σ1 σ' s₁ n₁.inv r2 (fun k y q h1 h2 => hp (k + 1) y q (by simpa using h1) (by simpa using h2)) (Nat.succ.inj hl) hf f hff) (fun _ s₂ n₂ => n₁.trans n₂) fun _ _ x => x
structure EntOK (X : zj) (sc : Scope) (is : List Nat) (clo : List (Str × Nat)) (ps : List Str) (pls : List Pl) : Prop where
 scope : X.scope = sc
 kind : sc.kind = .function
 cnt : nCells sc.names = is.length
 isnd : (X.fi :: is).Nodup
 cells : X.cells = layL sc.names is clo
 cloi : ∀ x ∈ clo, x.2 ∉ X.fi :: is
 len : ps.length = pls.length
 pok : ∀ (k : Nat) (x : Str) (p : Pl), ps[k]? = some x -> pls[k]? = some p -> PlOK X x p
 fit : X.fi ∉ X.tmp
 fio : X.fi ∉ X.own
 cit : ∀ x i, X.cells.lookup x = some i -> i ∉ X.tmp
 cio : ∀ x i, X.cells.lookup x = some i -> i ∉ X.own
 pin : ∀ i a, (i, a) ∈ X.pins -> i ∉ X.fi :: is /\ i ∉ X.tmp /\ i ∉ X.own
 nd : (X.N X.fi).Nodup
inductive EnvR (C : Cx) (X : zj) (F P : PH) (ρ : Nat -> Addr) (s : Shared) (σ1 : List zA) (is : List Nat) (env : Env) (s' : Shared) : Prop where
 | mk (ρ' : Nat -> Addr) (E : zZ X ρ' env) (I : zb C X.N F P ρ' σ1 s'.heap) (pu : Pu F P s F s') (h : ∀ i, i ∉ X.fi :: is -> ρ' i = ρ i) : EnvR C X F P ρ s σ1 is env s'
inductive FnR (C : Cx) (X : zj) (F P : PH) (ρ : Nat -> Addr) (s : Shared) (σ' : List zA) (c : PV) (is : List Nat) (V : Value) (s' : Shared) : Prop where
 | mk (F' : PH) (ρ' : Nat -> Addr) (I : zb C X.N F' P ρ' σ' s'.heap) (pu : Pu F P s F' s') (r : Rep F' c V) (h : ∀ i, i ∉ X.fi :: is -> i ∉ X.tmp -> i ∉ X.own -> ρ' i = ρ i) : FnR C X F P ρ s σ' c is V s'
theorem fn_env {A : Around} {scope : Scope} {is : List Nat} {clo : List (Str × Nat)} {ps : List Str} {pls : List Pl} {F P : PH} {ρ : Nat -> Addr} {σ0 σ1 : List zA} {s : Shared} {as : List PV} {Vs : List Value} {nv : Nat} {qual : Str} {func : Option Addr} {code : Value}
  (En : EntOK X scope is clo ps pls) (I : zb C X.N F P ρ σ0 s.heap) (hpin : ∀ i a, (i, a) ∈ X.pins -> ρ i = a) (hl : ∀ i ∈ X.fi :: is, i < σ0.length) (r : RepL F as Vs) (hf : bindS X.fi pls as (compIn X.fi nv is σ0) = some σ1) :
  wpAny C.M A (newFunctionEnv scope mainGlobals (clA ρ clo) (ps.zip Vs) qual func code none builtinsNs) (EnvR C X F P ρ s σ1 is) (fun _ _ => False) s := by
 have ecomp : compIn X.fi nv is σ0 = layS scope.names is (newOwn X.fi (.frame (List.replicate nv none)) σ0) := (layS_eq _ _ _ En.cnt).symm
 rw [ecomp] at hf
 simp only [newFunctionEnv, Option.isSome_none, Bool.false_eq_true, if_false]
 refine wpAny_bind (wpAny_alloc ?_)
 refine wpAny_bind (wpAny_layCells _ (fun name kind cells => by cases kind == NameKind.cell <;> simp) _ _ _ _ ?_)
 rw [show ({ s with heap := s.heap.push { cls := .type "frame", data := .dict #[] } } : Shared).heap.objs.size = s.heap.objs.size + 1 from Heap.size_push ..]
 dsimp only
 generalize hLd : s.heap.objs.size = L at *
 generalize hH2 : s.heap.push ({ cls := .type "frame", data := .dict #[] } : Obj) = H2 at *
 have hH2s : H2.objs.size = L + 1 := by rw [<- hH2, Heap.size_push, hLd]
 have k2 : Keeps s.heap H2 := fun b o e => by rw [<- hH2]; exact Heap.get?_push_of_some _ e
 have hns : H2.Ns L (fun _ => none) := by
  have := Heap.Ns.new s.heap (.type "frame")
  rw [hH2, hLd] at this
  exact this
 have frL := I.fresh (a := L) (fun o e => by have := Heap.lt_size e; rw [hLd] at this; exact Nat.lt_irrefl _ this)
 have I1 : zb C X.N F P ρ σ0 H2 := I.kept k2
 have I2 : zb C X.N F P (upd ρ X.fi L) (newOwn X.fi (.frame (List.replicate nv none)) σ0) H2 := I1.newOwn (hl _ List.mem_cons_self) frL.1 frL.2.1 frL.2.2 ⟨_, hns, frame_new En.nd _ _⟩
 have hnd := List.nodup_cons.mp En.isnd
 have eclo : clA (upd ρ X.fi L) clo = clA ρ clo := by
  unfold clA
  refine List.map_congr_left fun y hy => ?_
  have : upd ρ X.fi L y.2 = ρ y.2 := if_neg fun (q : y.2 = X.fi) => En.cloi y hy (q ▸ List.mem_cons_self)
  rw [this]
 refine nG fun ng => ?_
 obtain ⟨ρ', I3, ec, hr, hlv, hsz⟩ := lay_ok scope.names is clo (upd ρ X.fi L) _ H2 I2 En.cnt hnd.2 (fun i hi => by rw [newOwn_length]; exact hl i (List.mem_cons_of_mem _ hi)) (fun y hy q => En.cloi y hy (List.mem_cons_of_mem _ q))
 rw [hH2s, eclo, <- En.cells] at ec
 refine ng ?_
 clear ng
 rw [ec]
 have uL : ρ' X.fi = L := (hr _ hnd.1).trans (if_pos rfl)
 have uo : ∀ i, i ∉ X.fi :: is -> ρ' i = ρ i := fun i q => (hr i fun z => q (List.mem_cons_of_mem _ z)).trans (if_neg fun (z : i = X.fi) => q (z ▸ List.mem_cons_self))
 have E : zZ X ρ' (newEnv scope L mainGlobals (clA ρ' X.cells) qual func code none builtinsNs) := by
  refine ⟨En.scope.symm, by rw [En.scope]; exact En.kind, uL.symm, rfl, rfl, fun y i hy => lookup_map hy, En.fit, En.fio, En.cit, En.cio, fun i a m => ?_⟩
  have := En.pin i a m
  exact ⟨(uo i this.1).trans (hpin i a m), this.2⟩
 refine wpAny_bind (wpAny_mono (binds_ok (A := A) E ps Vs as pls _ σ1 { s with heap := pushCells H2 scope.names } I3 r En.pok En.len hf _ (fun _ _ _ => rfl)) (fun _ s' n => wpAny_pure ⟨ρ', E, n.inv, ?_, uo⟩) fun _ _ x => x)
 exact Pu.trans (⟨.ofh, .refl _, fun _ _ => rfl⟩ : Pu F P s F { s with heap := pushCells H2 scope.names }) n.pu
structure DefAt (C : Cx) (a : Addr) (fd : FuncData) (body : List Stmt) (ps : List Str) : Prop where
 o : ∃ o, C.P0 a = some o /\ o.data = .func fd
 co : fd.scope.isCoroutine = false
 gen : fd.scope.isGenerator = false
 body : fd.body = .stmts body
 code : ∀ h : Heap, PH.le C.P0 h.get? -> h.CodeRec fd.code fd.qualname
 glob : fd.globals = mainGlobals
 blt : fd.builtins = builtinsNs
 bind : ∀ Vs : List Value, Vs.length = ps.length -> bindArgs fd ⟨Vs, []⟩ = pure (ps.zip Vs)
noncomputable def flv : Fl -> PV
 | .ret p => p
 | _ => .none
theorem flv_rep {F : PH} {v : Fl} {fl : Flow} (r : FlRep F v fl) : Rep F (flv v) (match (generalizing := false) fl with | .ret v => v | _ => .none) := by
 cases v with
 | next => have : fl = .next := r; subst this; exact .none
 | brk => have : fl = .brk := r; subst this; exact .none
 | cont => have : fl = .cont := r; subst this; exact .none
 | ret p => obtain ⟨V, e, q⟩ := r; subst e; exact q
theorem fn_run {n : Nat} {A : Around} {a : Addr} {fd : FuncData} {body : List Stmt} {is : List Nat} {clo : List (Str × Nat)} {ps : List Str} {pls : List Pl} {F P : PH} {ρ : Nat -> Addr} {σ0 σ1 σ' : List zA} {s : Shared} {as : List PV} {Vs : List Value} {nv : Nat} {f : CC Fl} {v : Fl}
  (FA : DefAt C a fd body ps) (En : EntOK X fd.scope is clo ps pls) (hclo : fd.closure = clA ρ clo) (hb : zi C X body f) (hA : AL n A) (hn : n <= 40) (hXn : X.n = n + 1)
  (I : zb C X.N F P ρ σ0 s.heap) (hpin : ∀ i a, (i, a) ∈ X.pins -> ρ i = a) (hl : (X.fi :: is).all (· < σ0.length) = true) (r : RepL F as Vs) (hlen : as.length = ps.length)
  (hf : bindS X.fi pls as (compIn X.fi nv is σ0) = some σ1) (he : f σ1 = some (v, σ')) :
  wpAny C.M A (call (.ref a) Vs) (FnR C X F P ρ s σ' (flv v) is) (fun _ _ => False) s := by
 refine nG fun ng => ?_
 obtain ⟨o, ho, hd⟩ := FA.o
 have hP := I.top.trans I.p
 refine ng ?_
 clear ng
 refine wpAny_call (codeAny_call_function (hA.room hn) (hP _ _ ho) hd FA.co FA.gen FA.body (FA.code _ hP) ?_)
 rw [FA.bind Vs (by rw [r.length]; exact hlen), FA.glob, FA.blt, hclo]
 refine wpAny_pure (wpAny_mono (fn_env En I hpin (fun i hi => of_decide_eq_true (List.all_eq_true.mp hl i hi)) r hf) (fun env s₁ ⟨ρ1, E, I₁, pu, hρ⟩ => ⟨I₁.lim, codeAny_func ?_⟩) fun _ _ x => x.elim)
 have hA' : AL X.n (A.deeper env) := by rw [hXn]; exact hA.deeper
 refine wpAny_mono (hb (A.deeper env) env F P ρ1 σ1 s₁ v σ' hA' E I₁ he) (fun fl s₂ zq => ?_) fun _ _ x => x.elim
 obtain ⟨F2, ρ₂, n₂, r₂⟩ := zq
 refine ⟨F2, ρ₂, n₂.inv, pu.trans n₂.pu, flv_rep r₂, fun i h1 h2 h3 => (n₂.rho i h2 h3).trans (hρ i h1)⟩
theorem dead_inv {N : Nat -> List Str} {F : PH} {h : Heap} (hF : PH.le F h.get?) (hP : PH.le C.P0 h.get?) (k : Nat) : zb C N F h.get? (fun _ => 0) (List.replicate k zA.dead) h := by
 have hd : ∀ i o, (List.replicate k zA.dead)[i]? = some o -> o = zA.dead := fun i o e => by
  rw [List.getElem?_replicate] at e
  split at e
  ·exact (Option.some.inj e).symm
  ·cases e
 refine ⟨hF, .refl _, hP, fun i o e => ?_, fun i o e l => ?_, fun i j o o' e e' l => ?_⟩
 ·rw [hd i o e]; trivial
 ·refine nG fun ng => ?_
  rw [hd i o e] at l; cases l
 ·refine nG fun ng => ?_
  rw [hd i o e] at l; cases l
inductive RunR (X : zj) (pls : List Pl) (nv len : Nat) (is : List Nat) (f : CC Fl) (as : List PV) (c : PV) : Prop where
 | mk (σ1 : List zA) (v : Fl) (σ' : List zA) (h1 : bindS X.fi pls as (compIn X.fi nv is (List.replicate len zA.dead)) = some σ1) (h2 : f σ1 = some (v, σ')) (h3 : flv v = c) : RunR X pls nv len is f as c
theorem fn_pure {n : Nat} {a : Addr} {fd : FuncData} {body : List Stmt} {is : List Nat} {ps : List Str} {pls : List Pl} {f : CC Fl} {h : List PV -> Option PV} (nv len : Nat)
  (FA : DefAt C a fd body ps) (En : EntOK X fd.scope is [] ps pls) (hclo : fd.closure = []) (hb : zi C X body f) (hn : n <= 40) (hXn : X.n = n + 1) (hp : X.pins = []) (hl : (X.fi :: is).all (· < len) = true)
  (hrun : ∀ as c, h as = some c -> as.length = ps.length /\ RunR X pls nv len is f as c) :
  OpN C n (fun vs => call (.ref a) vs) h := by
 intro A F s as Vs c hA hF hP r hc
 refine nG fun ng => ?_
 obtain ⟨h0, σ1, v, σ', h1, h2, h3⟩ := hrun as c hc
 refine ng ?_
 clear ng
 refine wpAny_mono (fn_run (C := C) (X := X) (ρ := fun _ => 0) (nv := nv) FA En (clo := []) hclo hb hA hn hXn (dead_inv hF hP len) (fun i a m => by rw [hp] at m; cases m) (by rw [List.length_replicate]; exact hl) r h0 h1 h2) (fun V s' zq => ?_) fun _ _ x => x
 refine nG fun ng => ?_
 obtain ⟨F', ρ', I, pu, rr, _⟩ := zq
 subst h3
 refine ng ?_
 clear ng
 exact ⟨fun b o e => I.p b o e, pu.gx, F', pu.le, I.f, fun b ⟨o, ho⟩ => pu.ag b (by rw [ho]; exact nofun), rr⟩
end
section
variable {C : Cx} {X : zj}
noncomputable def truthV : PV -> Option Bool
 | .bool b => some b
 | .int i => some (i != 0)
 | .list xs => some (!xs.isEmpty)
 | _ => none
noncomputable def cTruth (g : CC AV) : CC Bool := fun σ => match g σ with
 | some (a, σ1) => (match look a σ1 with
  | some p => (match truthV p with | some b => some (b, σ1) | none => none)
  | none => none)
 | none => none
theorem truth_ok {A : Around} {F : PH} {s : Shared} {p : PV} {V : Value} {b : Bool} (hF : PH.le F s.heap.get?) (r : Rep F p V) (h : truthV p = some b) : wpAny C.M A (truthy V) (fun b' s' => b' = b /\ s'.heap = s.heap /\ GX s s') (fun _ _ => False) s := by
 unfold truthV at h
 refine nG fun ng => ?_
 split at h
 ·refine ng ?_
  clear ng
  cases h; cases r; exact wpAny_truthy_bool ⟨rfl, rfl, .refl _⟩
 ·refine ng ?_
  clear ng
  cases h; cases r; exact P.truthy_int ⟨rfl, rfl, .refl _⟩
 ·refine ng ?_
  clear ng
  refine pe h ?_; clear h
  cases r with
  | list ha hl hr =>
   rename_i xs vs a m
   refine wpAny_truthy_list (items := vs.toArray) ⟨_, hF _ _ ha, rfl, m, rfl⟩ (by rw [List.size_toArray]; omega) ⟨?_, rfl, .oft⟩
   have := hr.length
   cases vs with
   | nil => cases xs with
    | nil => rfl
    | cons => cases this
   | cons => cases xs with
    | nil => cases this
    | cons => rfl
 ·cases h
theorem ts_val {e : Expr} {g : CC AV} (h : EvOK C X e g) (he : ∀ env whole, isTrue e env whole = (do let v <- whole; standAt e.pos; holding [v] (truthy v)) := by intro _ _; rfl) : TsOK C X e (cTruth g) := by
 intro A env F P ρ σ s v σ' hA E I hf
 unfold cTruth at hf
 refine nG fun ng => ?_
 refine ivA hf ?_; clear hf; intro a σ1 e1 hf
 refine ivV hf ?_; clear hf; intro p e2 hf
 split at hf
 ·rename_i b e3
  cases hf
  refine ng ?_
  clear ng
  refine wpAny_isTrue_value (wpAny_mono (h A env F P ρ σ s a σ' hA E I e1) (fun V s₁ zq => ?_) fun _ _ x => x) (he _ _)
  refine nG fun ng => ?_
  obtain ⟨F1, ρ1, n₁, r₁⟩ := zq
  obtain ⟨F', le, le', rb⟩ := look_ok n₁.inv r₁ e2
  refine ng ?_
  clear ng
  refine wpAny_mono (truth_ok le' rb e3) (fun b' s₂ ⟨eb, eh, gx⟩ => ⟨eb, F1, ρ1, n₁.trans ⟨?_, ⟨gx, .refl _, fun _ _ => rfl⟩, fun _ _ => rfl⟩⟩) fun _ _ x => x
  rw [eh]; exact n₁.inv
 ·cases hf
theorem meta_bytes : typeOf (.type "bytes") = pure (.type "type") := PySem.F.isi_meta_bytes
noncomputable def cIsB (f : CC PV) : CC PV := fun σ => match f σ with | some (.bytes _, σ') => some (.bool true, σ') | _ => none
theorem evp_isB {e : Expr} {np1 np2 pos : Pos} {f : CC PV} (hg : C.mg "isinstance" = none) (hg2 : C.mg "bytes" = none) (h : EvP C X e f) (hn : zW e = true := by rfl)
  (hk : X.scope.names.lookup ("isinstance" : Str) = some .globalImplicit := by rfl) (hk2 : X.scope.names.lookup ("bytes" : Str) = some .globalImplicit := by rfl) :
  EvP C X (.Call (.Name "isinstance" np1) [e, .Name "bytes" np2] [] pos) (cIsB f) := by
 intro A env F P ρ σ s v σ' hA E I hf
 unfold cIsB at hf
 refine nG fun ng => ?_
 split at hf
 ·rename_i b σ1 e1
  cases hf
  refine ng ?_
  clear ng
  refine wpAny_Call_ofName (wpAny_Name (load_blt (V := .builtin "isinstance") hk hg (by decide +kernel) (by decide +kernel) E I ?_) (by decide +kernel))
  refine callWith_builtin (backTo_any pos env _ (show (zW e && (zW (.Name "bytes" np2) && true)) = true by rw [hn]; rfl)) (evargs hn (wpAny_items_cons (wpAny_mono (h A env F P ρ σ s (.bytes b) σ' hA E I e1) (fun V s₁ zq => ?_) fun _ _ x => x) (zR hn)))
  obtain ⟨F1, ρ1, n₁, r₁⟩ := zq
  refine wpAny_items_cons (wpAny_Name (load_blt (V := .type "bytes") hk2 hg2 (by decide +kernel) (by decide +kernel) (n₁.env E) n₁.inv (wpAny_items_nil ?_)) (by decide +kernel)) (zR rfl)
  cases r₁ with
  | bytes _ t =>
   refine call_isinstance (isinstance_true (Tx := "bytes") meta_bytes PySem.F.sub_bytes_bytes) ⟨rfl, ?_⟩
   exact ⟨F1, ρ1, n₁, .bool true⟩
 ·cases hf
noncomputable def cLenSet (f : CC PV) : CC PV := fun σ => match f σ with
 | some (.list xs, σ') => (match intsOf xs with | some ns => if ns.length <= 1000 then some (.int (firstMet (fun i => ns.getD i 0) ns.length).length, σ') else none | none => none)
 | _ => none
theorem evp_lenSet {e : Expr} {np1 np2 pos1 pos : Pos} {f : CC PV} (hg : C.mg "len" = none) (hg2 : C.mg "set" = none) (h : EvP C X e f) (hn : zW e = true := by rfl)
  (hk : X.scope.names.lookup ("len" : Str) = some .globalImplicit := by rfl) (hk2 : X.scope.names.lookup ("set" : Str) = some .globalImplicit := by rfl) :
  EvP C X (.Call (.Name "len" np1) [.Call (.Name "set" np2) [e] [] pos1] [] pos) (cLenSet f) := by
 intro A env F P ρ σ s v σ' hA E I hf
 unfold cLenSet at hf
 refine nG fun ng => ?_
 split at hf
 ·rename_i xs σ1 e1
  split at hf
  ·rename_i ns e2
   split at hf
   ·rename_i hl
    cases hf
    refine ng ?_
    clear ng
    refine wpAny_Call_ofName (wpAny_Name (load_blt (V := .builtin "len") hk hg (by decide +kernel) (by decide +kernel) E I ?_) (by decide +kernel))
    refine callWith_builtin (backTo_any pos env _ rfl) (evargs rfl (wpAny_items_cons ?_ (zR rfl)))
    refine wpAny_Call_ofName (wpAny_Name (load_blt (V := .type "set") hk2 hg2 (by decide +kernel) (by decide +kernel) E I ?_) (by decide +kernel))
    refine callWith_excType (backTo_any pos1 env _ (by simp [hn])) (evargs hn (wpAny_items_cons (wpAny_mono (h A env F P ρ σ s (.list xs) σ' hA E I e1) (fun V s₁ ⟨F1, ρ1, n₁, r₁⟩ => wpAny_items_nil ?_) fun _ _ x => x) (zR hn)))
    cases r₁ with
    | @list _ vs a m ha hla hr =>
     have hia := ints_are hr e2
     have hvn : vs.length = ns.length := IntsAre.length hia
     have hsz : vs.toArray.size = ns.length := by rw [List.size_toArray, hvn]
     refine call_set_list (items := vs.toArray) (ns := ns) hA.handled ⟨_, n₁.inv.f _ _ ha, rfl, m, rfl⟩ (by simpa using hia) (by rw [hsz]; unfold scanBound; omega) fun h' tk hS hk' => ?_
     rw [hsz] at hS
     have kp : Keeps s₁.heap h' := fun b o e => hk' b o (Heap.lt_size e) e
     have n₂ : Nx C X F1 P ρ1 s₁ F1 ρ1 σ' { s₁ with heap := h', toks := tk } := ⟨n₁.inv.kept kp, ⟨.of, .refl _, fun _ _ => rfl⟩, fun _ _ => rfl⟩
     refine nG fun ng => ?_
     obtain ⟨o, ho, hso⟩ := hS.objOf
     obtain ⟨hex, es, ep, t, hd, h2, h3, hn', hfit⟩ := hso
     have hle := firstMet_length_le (fun i => ns.getD i 0) ns.length
     refine ng ?_
     clear ng
     refine wpAny_items_nil (call_len_set (s := { s₁ with heap := h', toks := tk }) ho hex hd hfit (by rw [hn']; omega) ?_)
     rw [hn']
     exact ⟨F1, ρ1, (n₁.trans n₂).toks, .int _ _⟩
   ·cases hf
  ·cases hf
 ·cases hf
noncomputable def cAsg2 (fi : Nat) (p q : Pl) (f : CC PV) : CC Fl := fun σ => match f σ with
 | some (.tup [v, w], σ1) => (match p.set fi (.imm v) σ1 with
  | some σ₂ => (match q.set fi (.imm w) σ₂ with | some σ3 => some (.next, σ3) | none => none)
  | none => none)
 | _ => none
theorem st_asg2 {x y : Str} {px py tpos pos : Pos} {k : Nat} {value : Expr} {f : CC PV} (p q : Pl) (hv : EvP C X value f) (hp : PlOK X x p) (hq : PlOK X y q)
  (hw : ∀ env, swappedStores [.Tuple [.Name x px, .Name y py] k tpos] value env = pure none := by intro _; rfl)
  (hs : ∀ env, swapsWithSole [.Tuple [.Name x px, .Name y py] k tpos] value pos.line env = pure false := by intro _; rfl) :
  StOK C X (.Assign [.Tuple [.Name x px, .Name y py] k tpos] value pos) (cAsg2 X.fi p q f) := by
 intro A env F P ρ σ s v σ' hA E I hf
 unfold cAsg2 at hf
 refine nG fun ng => ?_
 split at hf
 ·rename_i a b σ1 e1
  split at hf
  ·rename_i σ₂ e2
   split at hf
   ·rename_i σ3 e3
    refine ng ?_
    clear ng
    refine pf hf ?_; clear hf
    refine PyProof.Rows.Assign_Tuple (wpAny_mono (hv A env F P ρ σ s _ σ1 hA E I e1) (fun V s₁ zq => ?_) fun _ _ x => x) (hs env) (hw env)
    obtain ⟨F1, ρ1, n₁, r₁⟩ := zq
    cases r₁ with
    | tup ha hl hr =>
     cases hr with
     | cons r1 hr => cases hr with
      | cons r2 hr => cases hr with
       | nil =>
        rename_i V1 V2
        refine wpAny_assign_Tuple (items := #[V1, V2]) hA.handled ⟨_, n₁.inv.f _ _ ha, rfl, _, rfl⟩ rfl rfl fun h' he => ?_
        have n₂ : Sx C X F1 P ρ1 s₁ F1 ρ1 σ1 { s₁ with heap := h' } := ⟨n₁.inv.kept fun b o e => he b o (Nat.ne_of_lt (Heap.lt_size e)) e, ⟨.ofh, .refl _, fun _ _ => rfl⟩, fun _ _ _ => rfl⟩
        have n12 := n₁.sx.trans n₂
        refine wpAny_bind (wpAny_holding (wpAny_mono (bind_ok hp (n12.env E) n₂.inv (v := .imm a) r1 e2) (fun _ s₃ n₃ => ?_) fun _ _ x => x))
        have n13 := n12.trans n₃
        refine wpAny_bind (wpAny_holding (wpAny_mono (bind_ok hq (n13.env E) n₃.inv (v := .imm b) r2 e3) (fun _ s₄ n₄ => ?_) fun _ _ x => x))
        exact wpAny_pure ⟨F1, ρ1, n13.trans n₄, rfl⟩
   ·cases hf
  ·cases hf
 ·cases hf
noncomputable def cAndV (f g : CC PV) : CC PV := fun σ => match f σ with
 | some (.bool true, σ') => g σ'
 | some (.bool false, σ') => some (.bool false, σ')
 | _ => none
theorem evp_and {x y : Expr} {pos : Pos} {f g : CC PV} (h : EvP C X x f) (h' : EvP C X y g) : EvP C X (.BoolOp .And [x, y] pos) (cAndV f g) := by
 intro A env F P ρ σ s v σ' hA E I hf
 unfold cAndV at hf
 refine wpAny_And2 ?_
 refine nG fun ng => ?_
 split at hf
 ·rename_i σ1 e
  refine ng ?_
  clear ng
  refine wpAny_mono (h A env F P ρ σ s _ σ1 hA E I e) (fun V s₁ zq => ?_) fun _ _ x => x
  refine nG fun ng => ?_
  obtain ⟨F1, ρ1, n₁, r₁⟩ := zq
  cases r₁
  refine ng ?_
  clear ng
  refine wpAny_truthy_bool ?_
  rw [if_pos rfl]
  exact wpAny_mono (h' A env F1 P ρ1 σ1 s₁ v σ' hA (n₁.env E) n₁.inv hf) (fun V s₂ ⟨F2, ρ₂, n₂, r₂⟩ => ⟨F2, ρ₂, n₁.trans n₂, r₂⟩) fun _ _ x => x
 ·rename_i σ1 e
  cases hf
  refine ng ?_
  clear ng
  refine wpAny_mono (h A env F P ρ σ s _ σ' hA E I e) (fun V s₁ zq => ?_) fun _ _ x => x
  refine nG fun ng => ?_
  obtain ⟨F1, ρ1, n₁, r₁⟩ := zq
  cases r₁
  refine ng ?_
  clear ng
  refine wpAny_truthy_bool ?_
  rw [if_neg Bool.false_ne_true]
  exact ⟨F1, ρ1, n₁, .bool false⟩
 ·cases hf
noncomputable def cDrop (f : CC PV) : CC Fl := fun σ => match f σ with | some (p, σ') => if p.flat then some (.next, σ') else none | none => none
theorem st_expr {e : Expr} {pos : Pos} {f : CC PV} (h : EvP C X e f) (hs : ∀ env, swapsWith e none pos.line env = pure false := by intro _; rfl) : StOK C X (.Expr e pos) (cDrop f) := by
 intro A env F P ρ σ s v σ' hA E I hf
 unfold cDrop at hf
 refine nG fun ng => ?_
 refine ivP hf ?_; clear hf; intro p σ1 e1 hf
 refine i1 hf ?_; clear hf; intro hp hf
 cases hf
 refine ng ?_
 clear ng
 refine wpAny_Expr (wpAny_mono (h A env F P ρ σ s p σ' hA E I e1) (fun V s₁ zq => ?_) fun _ _ x => x) (notInteractive E) (hs env)
 obtain ⟨F1, ρ1, n₁, r₁⟩ := zq
 cases r₁ <;> first | (cases hp; done) | exact ⟨F1, ρ1, n₁.sx, rfl⟩
end
section
variable {C : Cx} {X : zj}
noncomputable def cCompOwn (fi : Nat) (T : List Nat) (j k : Nat) (p : Pl) (ci nv : Nat) (is : List Nat) (g : CC AV) (t : CC Bool) (fe : CC PV) : CC Fl := fun σ => match g σ with
 | some (.obj i, σ1) => (match σ1[i]? with
  | some (.lst xs) => if xs.length <= 4096 /\ (ci :: is).all (· < σ1.length) = true /\ T.contains i = false /\ i ≠ k then (match cCompL ci p t fe xs (compIn ci nv is (σ1.set i .dead)) with
   | some (ys, σ₂) => (match σ₂[ci]? with
    | some (.frame _) => if ys.length <= 4096 /\ i < σ₂.length /\ k < σ₂.length then (match sLoc fi j (.obj k) (newOwn k (.lst ys) (σ₂.set i (.lst xs))) with | some σ3 => some (.next, σ3.set ci .dead) | none => none) else none
    | _ => none)
   | none => none) else none
  | _ => none)
 | _ => none
theorem zb.hide {N : Nat -> List Str} {F P : PH} {ρ : Nat -> Addr} {σ : List zA} {h : Heap} {i : Nat} {x : zA} {o : Obj} (I : zb C N F P ρ σ h) (e : σ[i]? = some x) (l : x.live = true) (ho : h.get? (ρ i) = some o) : zb C N F (P.add (ρ i) o) ρ (σ.set i .dead) h := by
 have hfr := I.fr i x e l
 have il : i < σ.length := (List.getElem?_eq_some_iff.mp e).1
 have g : ∀ (j : Nat) (y : zA), (σ.set i .dead)[j]? = some y -> y.live = true -> j ≠ i /\ σ[j]? = some y := fun j y ey ly => by
  by_cases q : i = j
  ·subst q; rw [List.getElem?_set_self il] at ey; cases ey; cases ly
  ·rw [List.getElem?_set_ne q] at ey; exact ⟨fun z => q z.symm, ey⟩
 refine ⟨I.f, PH.add_le I.p ho, I.top.trans (PH.le_add hfr.2), fun j y ey => ?_, fun j y ey ly => ?_, fun j m y z ey ez ly lz q => ?_⟩
 ·by_cases q : i = j
  ·subst q; rw [List.getElem?_set_self il] at ey; cases ey; trivial
  ·rw [List.getElem?_set_ne q] at ey; exact I.ob j y ey
 ·refine nG fun ng => ?_
  obtain ⟨hne, ey'⟩ := g j y ey ly
  refine ng ?_
  clear ng
  refine ⟨(I.fr j y ey' ly).1, ?_⟩
  rw [PH.add_off P o fun q => hne (I.inj _ _ _ _ ey' e ly l q)]
  exact (I.fr j y ey' ly).2
 ·exact I.inj j m y z (g j y ey ly).2 (g m z ez lz).2 ly lz q
theorem zb.unhide {N : Nat -> List Str} {F P : PH} {ρ : Nat -> Addr} {σ : List zA} {h : Heap} {i : Nat} {a : Addr} {x : zA} {o : Obj} (I : zb C N F (P.add a o) ρ σ h) (top : PH.le C.P0 P) (ea : ρ i = a) (hP : P a = none) (hF : F a = none) (il : i < σ.length) (ok : ObjOK F ρ (N i) x a h) :
  zb C N F P ρ (σ.set i x) h := by
 refine nG fun ng => ?_
 subst ea
 have g : ∀ (j : Nat) (y : zA), (σ.set i x)[j]? = some y -> y.live = true -> (j = i /\ y = x) \/ (j ≠ i /\ σ[j]? = some y /\ ρ j ≠ ρ i) := fun j y ey ly => by
  by_cases q : i = j
  ·subst q; rw [List.getElem?_set_self il] at ey; cases ey; exact .inl ⟨rfl, rfl⟩
  ·rw [List.getElem?_set_ne q] at ey
   refine .inr ⟨fun z => q z.symm, ey, fun z => ?_⟩
   have := (I.fr j y ey ly).2
   rw [z, PH.add_self] at this; cases this
 refine ng ?_
 clear ng
 refine ⟨I.f, (PH.le_add hP).trans I.p, top, fun j y ey => ?_, fun j y ey ly => ?_, fun j m y z ey ez ly lz q => ?_⟩
 ·by_cases q : i = j
  ·subst q; rw [List.getElem?_set_self il] at ey; cases ey; exact ok
  ·rw [List.getElem?_set_ne q] at ey; exact I.ob j y ey
 ·refine nG fun ng => ?_
  rcases g j y ey ly with ⟨rfl, rfl⟩ | ⟨hne, ey', hr⟩
  ·refine ng ?_
   clear ng
   exact ⟨hF, hP⟩
  ·have := I.fr j y ey' ly
   refine ng ?_
   clear ng
   exact ⟨this.1, by rw [PH.add_off P o hr] at this; exact this.2⟩
 ·refine nG fun ng => ?_
  rcases g j y ey ly with ⟨rfl, rfl⟩ | ⟨hne, ey', hr⟩
  ·rcases g m z ez lz with ⟨rfl, rfl⟩ | ⟨hne', ez', hr'⟩
   ·refine ng ?_
    clear ng
    rfl
   ·refine ng ?_
    clear ng
    exact absurd q.symm hr'
  ·rcases g m z ez lz with ⟨rfl, rfl⟩ | ⟨hne', ez', hr'⟩
   ·refine ng ?_
    clear ng
    exact absurd q hr
   ·refine ng ?_
    clear ng
    exact I.inj j m y z ey' ez' ly lz q
theorem st_compOwn {elt iter : Expr} {x y : Str} {px py : Pos} {ifs : List Expr} {scope : Scope} {pos spos : Pos} {g : CC AV} {t : CC Bool} {fe : CC PV} (j k : Nat) (ci nv : Nat) (is : List Nat) (clo cl : List (Str × Nat)) (tmp' : List Nat) (p : Pl)
  (hy : PlOK X y (.loc j)) (hi : EvOK C X iter g) (K : CompOK X ci is clo cl scope tmp') (hp : PlOK (ze X ci cl scope tmp') x p) (ht : TfOK C (ze X ci cl scope tmp') ifs t) (he : EvP C (ze X ci cl scope tmp') elt fe)
  (hk : k ∈ X.own) (hkt : k ∉ X.tmp) (hline : (py.line == pos.line) = true) (hno : (scope.names.any fun (n, k) => n == y && (k == .local || k == .cell)) = false)
  (hs : ∀ env v, foldedSetIterable iter env v = pure v := by intro _ _; rfl) :
  StOK C X (.Assign [.Name y py] (.ListComp elt [⟨.Name x px, iter, ifs, 0⟩] scope pos) spos) (cCompOwn X.fi X.tmp j k p ci nv is g t fe) := by
 intro A env F P ρ σ s v σ' hA E I hf
 unfold cCompOwn at hf
 refine nG fun ng => ?_
 refine ivO hf ?_; clear hf; intro i σ1 e1 hf
 refine ivLst hf ?_; clear hf; intro xs e2 hf
 refine i1 hf ?_; clear hf; intro hc hf
 obtain ⟨hx, hci, hT, hik⟩ := hc
 refine ivL hf ?_; clear hf; intro ys σ₂ e3 hf
 refine ivFr hf ?_; clear hf; intro vl e4 hf
 refine i1 hf ?_; clear hf; intro hl hf
 obtain ⟨hly, hil, hkl⟩ := hl
 refine ivS hf ?_; clear hf; intro σ3 e5 hf
 refine ng ?_
 clear ng
 refine pf hf ?_; clear hf
 have hit : i ∉ X.tmp := fun q => by rw [List.contains_iff_mem.mpr q] at hT; cases hT
 have hsw : swapsWith (.ListComp elt [⟨.Name x px, iter, ifs, 0⟩] scope pos) (some (.Name y py)) spos.line env = pure true := comp_swap E hy.1 hline hno
 rw [exec_Assign_Name_used _ _ _ _ hsw]
 refine wpAny_bind (wpAny_standAt (wpAny_bind ?_))
 show wpAny _ A (do let _ <- comprehension (.ListComp elt [⟨.Name x px, iter, ifs, 0⟩] scope pos) scope env (firstIterPos [⟨.Name x px, iter, ifs, 0⟩] pos) (newList []) (firstAsync [⟨.Name x px, iter, ifs, 0⟩]) (firstIter [⟨.Name x px, iter, ifs, 0⟩] env) (some (assign (.Name y py) env))) _ _ s
 refine wpAny_bind (wpAny_mono (Q := fun _ s' => ∃ F' ρ', Sx C X F P ρ s F' ρ' (σ3.set ci .dead) s') ?_ (fun _ s' ⟨F', ρ', hq⟩ => wpAny_pure (wpAny_pure ⟨F', ρ', hq, rfl⟩)) fun _ _ e => e)
 refine wpAny_comprehension_free (M := C.M) (A := A) (E := fun _ _ => False) (use := some (assign (.Name y py) env)) (first := eval iter env) rfl (hs env) (closure_ok E K.clos) K.kind K.names ?_
 refine wpAny_mono (hi A env F P ρ σ s _ σ1 hA E I e1) (fun V s₁ zq => ?_) fun _ _ x => x
 refine nG fun ng => ?_
 obtain ⟨F1, ρ1, n₁, r₁⟩ := zq
 have hV : V = .ref (ρ1 i) := r₁
 subst hV
 obtain ⟨vs, ⟨m, ho⟩, hlen, hr⟩ := n₁.inv.ob _ _ e2
 generalize hoe : ({ cls := .type "list", data := .seq vs.toArray m } : Obj) = oi at ho
 have hne0 : ρ1 i ≠ s₁.heap.objs.size := Nat.ne_of_lt (Heap.lt_size ho)
 have hfr := n₁.inv.fr i _ e2 rfl
 refine ng ?_
 clear ng
 refine wpAny_pyIter_list (items := vs.toArray) ⟨_, hoe ▸ ho, rfl, m, rfl⟩ ?_
 generalize hIs : s₁.heap.objs.size = I0 at *
 generalize hH : s₁.heap.push { cls := .type "list_iterator", data := .fields #[.ref (ρ1 i), .int 0 0] } = H1 at *
 have kp : Keeps s₁.heap H1 := fun b o e => by rw [<- hH]; exact Heap.get?_push_of_some _ e
 have hI0 : H1.get? I0 = some { cls := .type "list_iterator", data := .fields #[.ref (ρ1 i), .int 0 0] } := by rw [<- hH, <- hIs]; exact Heap.get?_push_size _ rfl
 refine nG fun ng => ?_
 obtain ⟨q1, q2, q3⟩ := n₁.inv.fresh (a := I0) (fun o e => by rw [<- hIs] at e; exact size_fresh o e)
 have I₂ : zb C X.N F1 P ρ1 σ1 H1 := n₁.inv.kept kp
 have I₃ := I₂.hide e2 rfl (kp _ _ ho)
 have hPadd : PH.le P (P.add (ρ1 i) oi) := PH.le_add hfr.2
 have itr : Itr C F1 (P.add (ρ1 i) oi) xs I0 H1 := by
  refine ⟨[I0, ρ1 i], _, _, _, 0, fun A' hh => Walks.list hh _ (ρ1 i) hne0 vs.toArray, ⟨⟨_, hI0, rfl, rfl⟩, ⟨oi, kp _ _ ho, by rw [<- hoe], m, by rw [<- hoe]⟩⟩, by simp [hr.length], fun b hb => ?_, fun j' v' x' p' q' => ?_, fun i' h' st => by obtain ⟨o, ho, _⟩ := st.1; exact ⟨o, ho⟩⟩
  ·simp at hb; rcases hb with rfl | rfl
   ·exact .inl rfl
   ·exact .inr (.inr ⟨oi, PH.add_self P _ _⟩)
  ·rw [Nat.zero_add] at p'
   obtain ⟨v1, e6, e7⟩ := hr.get q'
   have p2 : vs[j']? = some v' := by simpa using p'
   rw [e6] at p2; cases p2; exact e7
 have E₂ : zZ X ρ1 env := n₁.env E
 have ecl : clA ρ clo = clA ρ1 clo := by
  have h1 := closure_ok E K.clos
  rw [closure_ok E₂ K.clos] at h1
  exact (Sem.pure.inj h1).symm
 refine ng ?_
 clear ng
 rw [ecl]
 have hciT : ∀ i' ∈ ci :: is, i' < (σ1.set i .dead).length := fun i' hi' => by rw [List.length_set]; exact of_decide_eq_true (List.all_eq_true.mp hci i' hi')
 have hPI : (P.add (ρ1 i) oi) I0 = none := by rw [PH.add_off P oi (Ne.symm hne0)]; exact q2
 refine wpAny_mono (comp_core (s := { s₁ with heap := H1 }) K hp ht he hA E₂ I₃ itr q1 hPI (fun j' y' ey ly => ?_) e3 hciT (by omega) ⟨vl, e4⟩) (fun acc s₃ h₃ => wpAny_mono h₃ (fun cenv s₄ h₄ => codeAny_mono h₄ fun r s' h' => ?_) fun _ _ x => x) fun _ _ x => x
 ·by_cases q : i = j'
  ·refine nG fun ng => ?_
   subst q; rw [List.getElem?_set_self (List.getElem?_eq_some_iff.mp e2).1] at ey; cases ey; cases ly
  ·rw [List.getElem?_set_ne q] at ey; exact q3 j' y' ey ly
 ·cases r with
  | error e => exact h'.elim
  | ok fl =>
   refine nG fun ng => ?_
   obtain ⟨D, F', ρ', ws, rfl, n, hL, hrw, hFD, hPD, hneD, hwl, hCl, hDC, vl', hvl'⟩ := h'
   have eρi : ρ' i = ρ1 i := n.rho i hit
   have hPn : (P.add (ρ1 i) oi) (ρ1 i) ≠ none := by rw [PH.add_self]; exact nofun
   have hF'i : F' (ρ1 i) = none := (n.pu.ag _ hPn).trans hfr.1
   have hoi : s'.heap.get? (ρ1 i) = some oi := n.inv.p _ _ (PH.add_self P _ _)
   have I5 : zb C X.N F' P ρ' (σ₂.set i (.lst xs)) s'.heap := n.inv.unhide n₁.inv.top eρi hfr.2 hF'i hil ⟨vs, ⟨m, hoe ▸ hoi⟩, hlen, hr.mono n.pu.le⟩
   have hDi : ρ1 i ≠ D := fun q => hPn (q.symm ▸ hPD)
   have hPD' : P D = none := by
    cases q : P D with
    | none => rfl
    | some o => rw [hPadd D o q] at hPD; cases hPD
   have I6 := I5.newOwn (i := k) (a := D) (o' := .lst ys) (by rw [List.length_set]; exact hkl) hFD hPD' (fun j' y' ey ly => by
    by_cases q : i = j'
    ·subst q; rw [eρi]; exact hDi
    ·rw [List.getElem?_set_ne q] at ey; exact hneD j' y' ey ly) ⟨ws, hL, by omega, hrw⟩
   have n₆ : Sx C X F P ρ s F' (upd ρ' k D) (newOwn k (.lst ys) (σ₂.set i (.lst xs))) s' := by
    refine ⟨I6, ⟨n₁.pu.gx.trans (GX.ofh.trans n.pu.gx), n₁.pu.le.trans n.pu.le, fun a ha => (n.pu.ag a fun z => ?_).trans (n₁.pu.ag a ha)⟩, fun i' h1 h2 => ?_⟩
    ·cases q : P a with
     | none => exact ha q
     | some o => rw [hPadd a o q] at z; cases z
    ·rw [show upd ρ' k D i' = ρ' i' from if_neg fun (q : i' = k) => h2 (q ▸ hk), n.rho i' h1, n₁.rho i' h1]
   refine ng ?_
   clear ng
   refine wpAny_mono (bind_ok hy (n₆.env E) n₆.inv (v := .obj k) (by show _ = Value.ref (upd _ _ _ _); rw [show upd ρ' k D k = D from if_pos rfl]) e5) (fun _ s'' n' => ?_) fun _ _ x => x
   have hne : X.fi ≠ ci := fun q => E.fit (q ▸ K.hci)
   have hkc : k ≠ ci := fun q => hkt (q ▸ K.hci)
   have hic : i ≠ ci := fun q => hit (q ▸ K.hci)
   have e6 : ∃ wl, (newOwn k (.lst ys) (σ₂.set i (.lst xs)))[ci]? = some (.frame wl) := by
    unfold newOwn
    rw [List.getElem?_set_ne hkc, List.getElem?_map, List.getElem?_set_ne hic, e4]
    exact ⟨_, rfl⟩
   refine nG fun ng => ?_
   obtain ⟨wl, e6⟩ := e6
   have e7 : σ3[ci]? = some (.frame wl) := (set_other (X := X) (p := .loc j) e5 hne).trans e6
   obtain ⟨mm, hmm, _⟩ := n'.inv.ob _ _ e7
   have eC : cenv.locals = upd ρ' k D ci := by rw [show upd ρ' k D ci = ρ' ci from if_neg fun (q : ci = k) => hkc q.symm]; exact hCl
   refine ng ?_
   clear ng
   refine ⟨mm, eC ▸ hmm, fun h' hs' => ⟨F', _, (n₆.trans n').trans ⟨n'.inv.mut e7 rfl (eC ▸ hs') trivial, ⟨.ofh, .refl _, fun _ _ => rfl⟩, fun _ _ _ => rfl⟩⟩⟩
end
section
variable {C : Cx} {X : zj}
noncomputable def zD (i : Nat) : Stmt := match PySem.Challenge.pw_wo0015_01.main.body[i]? with
 | some s => s
 | none => .Pass ⟨0, 0, 0, 0⟩
noncomputable def zN : Stmt -> List Stmt
 | .FunctionDef _ _ b _ _ _ _ _ _ _ => b
 | .ClassDef _ _ _ b _ _ _ _ _ _ _ => b
 | _ => []
noncomputable def zQ : Stmt -> Scope
 | .FunctionDef _ _ _ _ _ _ s _ _ _ => s
 | _ => { kind := .module, names := [], isGenerator := false, isCoroutine := false, more := [] }
noncomputable def fdArgs : Stmt -> Option Arguments
 | .FunctionDef _ a _ _ _ _ _ _ _ _ => some a
 | _ => none
noncomputable def fdIn (s : Stmt) (i : Nat) : Stmt := match (zN s)[i]? with
 | some s => s
 | none => .Pass ⟨0, 0, 0, 0⟩
noncomputable def cloOf (X : zj) (scope : Scope) : List (Str × Nat) := (closL X.cells scope.names []).getD []
noncomputable def tmpOf (X : zj) (ci : Nat) (is : List Nat) : List Nat := X.tmp.filter fun i => !(i == ci || is.contains i)
noncomputable def compChk (X : zj) (ci : Nat) (is : List Nat) (scope : Scope) : Bool :=
 decide (scope.kind = .function) && decide (nCells scope.names = is.length) && decide ((ci :: is).Nodup) && is.all (fun i => X.tmp.contains i) &&
 scope.names.all (fun y => y.2 != .local || scope.names.lookup y.1 == some .local) && (closL X.cells scope.names []).isSome && (cloOf X scope).all (fun x => !(ci :: is).contains x.2) && X.tmp.contains ci &&
 (layL scope.names is (cloOf X scope)).all (fun x => !(tmpOf X ci is).contains x.2) && decide (X.N ci).Nodup
theorem mem_tmpOf {X : zj} {ci : Nat} {is : List Nat} {i : Nat} : i ∈ tmpOf X ci is ↔ i ∈ X.tmp /\ i ≠ ci /\ i ∉ is := by
 unfold tmpOf
 rw [List.mem_filter]
 simp
theorem lookup_mem {α : Type} : ∀ {l : List (Str × α)} {n : Str} {c : α}, l.lookup n = some c -> (n, c) ∈ l := mem_of_lookup
theorem compOK_of {ci : Nat} {is : List Nat} {scope : Scope} (h : compChk X ci is scope = true) : CompOK X ci is (cloOf X scope) (layL scope.names is (cloOf X scope)) scope (tmpOf X ci is) := by
 unfold compChk at h
 simp only [Bool.and_eq_true, decide_eq_true_eq] at h
 refine nG fun ng => ?_
 obtain ⟨⟨⟨⟨⟨⟨⟨⟨⟨h1, h2⟩, h3⟩, h4⟩, h5⟩, h6⟩, h7⟩, h8⟩, h9⟩, h10⟩ := h
 refine ng ?_
 clear ng
 refine ⟨h1, h2, h3, fun i hi => ⟨List.contains_iff_mem.mp (List.all_eq_true.mp h4 i hi), fun q => (mem_tmpOf.mp q).2.2 hi⟩, rfl, fun y hy hl => ?_, ?_, fun x hx => ?_, List.contains_iff_mem.mp h8, fun q => (mem_tmpOf.mp q).2.1 rfl, fun i hi => (mem_tmpOf.mp hi).1, fun x i hx => ?_, h10⟩
 ·have := List.all_eq_true.mp h5 y hy
  rw [hl] at this
  simpa using this
 ·refine nG fun ng => ?_
  obtain ⟨c, hc⟩ := Option.isSome_iff_exists.mp h6
  refine ng ?_
  clear ng
  unfold cloOf
  rw [hc]; rfl
 ·have := List.all_eq_true.mp h7 x hx
  intro q
  rw [List.contains_iff_mem.mpr q] at this
  refine nG fun ng => ?_
  cases this
 ·have := List.all_eq_true.mp h9 _ (lookup_mem hx)
  intro q
  rw [List.contains_iff_mem.mpr q] at this
  refine nG fun ng => ?_
  cases this
noncomputable def plChk (X : zj) (x : Str) : Pl -> Bool
 | .loc j => X.scope.names.lookup x == some .local && (X.N X.fi)[j]? == some x
 | .cell i => X.scope.names.lookup x == some .cell && X.cells.lookup x == some i
theorem zg {x : Str} {p : Pl} (h : plChk X x p = true) : PlOK X x p := by
 cases p with
 | loc j => simpa [plChk, PlOK] using h
 | cell i => simpa [plChk, PlOK] using h
noncomputable def plsChk (X : zj) : List Str -> List Pl -> Bool
 | [], [] => true
 | x :: xs, p :: ps => plChk X x p && plsChk X xs ps
 | _, _ => false
theorem plsOK_of : ∀ {ps : List Str} {pls : List Pl}, plsChk X ps pls = true -> ps.length = pls.length /\ ∀ (k : Nat) (x : Str) (p : Pl), ps[k]? = some x -> pls[k]? = some p -> PlOK X x p
 | [], [], _ => ⟨rfl, fun k x p h => by cases h⟩
 | [], _ :: _, h => by cases h
 | _ :: _, [], h => by cases h
 | x :: xs, p :: ps, h => by
  obtain ⟨h1, h2⟩ := Bool.and_eq_true_iff.mp (show (plChk X x p && plsChk X xs ps) = true from h)
  obtain ⟨h3, h4⟩ := plsOK_of h2
  refine ⟨by rw [List.length_cons, List.length_cons, h3], fun k y q e1 e2 => ?_⟩
  cases k with
  | zero => cases e1; cases e2; exact zg h1
  | succ k => exact h4 k y q (by simpa using e1) (by simpa using e2)
noncomputable def entChk (X : zj) (sc : Scope) (is : List Nat) (clo : List (Str × Nat)) (ps : List Str) (pls : List Pl) : Bool :=
 decide (sc.kind = .function) && decide (nCells sc.names = is.length) && decide ((X.fi :: is).Nodup) && decide (X.cells = layL sc.names is clo) && clo.all (fun x => !(X.fi :: is).contains x.2) && plsChk X ps pls &&
 !X.tmp.contains X.fi && !X.own.contains X.fi && X.cells.all (fun x => !X.tmp.contains x.2) && X.cells.all (fun x => !X.own.contains x.2) && decide (X.N X.fi).Nodup
theorem entOK_of {sc : Scope} {is : List Nat} {clo : List (Str × Nat)} {ps : List Str} {pls : List Pl} (hs : X.scope = sc) (h : entChk X sc is clo ps pls = true) (hp : ∀ i a, (i, a) ∈ X.pins -> i ∉ X.fi :: is /\ i ∉ X.tmp /\ i ∉ X.own) : EntOK X sc is clo ps pls := by
 unfold entChk at h
 simp only [Bool.and_eq_true, decide_eq_true_eq] at h
 refine nG fun ng => ?_
 obtain ⟨⟨⟨⟨⟨⟨⟨⟨⟨⟨h1, h2⟩, h3⟩, h4⟩, h5⟩, h6⟩, h7⟩, h8⟩, h9⟩, h10⟩, h11⟩ := h
 obtain ⟨g1, g2⟩ := plsOK_of h6
 have no : ∀ {l : List Nat} {i : Nat}, (!l.contains i) = true -> i ∉ l := fun {l i} e q => by rw [List.contains_iff_mem.mpr q] at e; cases e
 refine ng ?_
 clear ng
 exact ⟨hs, h1, h2, h3, h4, fun x hx => no (List.all_eq_true.mp h5 x hx), g1, g2, no h7, no h8, fun x i hx => no (List.all_eq_true.mp h9 _ (lookup_mem hx)), fun x i hx => no (List.all_eq_true.mp h10 _ (lookup_mem hx)), hp, h11⟩
noncomputable def cQ (p : PV) : CC PV := fun σ => some (p, σ)
theorem q_of_P {e : Expr} {p : PV} (h : EvOK C X e (cP p)) : EvP C X e (cQ p) := by
 intro A env F P ρ σ s v σ' hA E I hf
 refine pf hf ?_; clear hf
 exact wpAny_mono (h A env F P ρ σ s (.imm p) σ hA E I rfl) (fun V s' ⟨F1, ρ1, n₁, r₁⟩ => ⟨F1, ρ1, n₁, r₁⟩) fun _ _ x => x
theorem evp_int {i : Int} {k : Nat} {pos : Pos} : EvP C X (.Constant (.int i) k pos) (cQ (.int i)) := q_of_P ev_int
theorem evp_none {k : Nat} {pos : Pos} : EvP C X (.Constant .none k pos) (cQ .none) := q_of_P ev_none
theorem evp_bool {b : Bool} {k : Nat} {pos : Pos} : EvP C X (.Constant (.bool b) k pos) (cQ (.bool b)) := q_of_P ev_bool
theorem evp_str {x : Str} {k : Nat} {pos : Pos} {l : List Nat} (hl : x = ⟨l.toArray⟩) : EvP C X (.Constant (.str x) k pos) (cQ (.str l)) := q_of_P (ev_str l hl)
theorem evp_bytes {b : List UInt8} {k : Nat} {pos : Pos} : EvP C X (.Constant (.bytes b) k pos) (cQ (.bytes b)) := q_of_P ev_bytes
theorem evp_globI {x : Str} {pos : Pos} {i : Int} (hg : ∃ t, C.mg x = some (.int i t)) (hk : X.scope.names.lookup x = some .globalImplicit) (hd : (x == ("__debug__" : Str)) = false) : EvP C X (.Name x pos) (cQ (.int i)) := by
 refine nG fun ng => ?_
 obtain ⟨t, hg⟩ := hg
 refine ng ?_
 clear ng
 exact q_of_P (ev_glob hg (fun F => .int i t) hk hd)
structure zU (C : Cx) (n : Nat) (x : Str) (h : List PV -> Option PV) : Prop where
 ex : ∃ a o fd, C.mg x = some (.ref a) /\ C.P0 a = some o /\ o.data = .func fd /\ OpN C n (fun vs => call (.ref a) vs) h
theorem evp_callS {x : Str} {np pos : Pos} {e : Expr} {r : List Expr} {f : CC (List PV)} {h : List PV -> Option PV} (S : zU C X.n x h) (hs : EvsP C X (e :: r) f) (hn : zW e = true) (hk : X.scope.names.lookup x = some .globalImplicit) (hdb : (x == ("__debug__" : Str)) = false) :
  EvP C X (.Call (.Name x np) (e :: r) [] pos) (zO h f) := by
 refine nG fun ng => ?_
 obtain ⟨a, o, fd, h1, h2, h3, h4⟩ := S.ex
 refine ng ?_
 clear ng
 exact evp_def h1 h2 h3 h4 hs hn hk hdb
theorem evp_compA {elt iter : Expr} {x : Str} {px : Pos} {ifs : List Expr} {scope : Scope} {pos : Pos} {f : CC PV} {t : CC Bool} {fe : CC PV} {ci nv : Nat} {is : List Nat} {p : Pl}
  (hc : compChk X ci is scope = true) (hi : EvP C X iter f) (hp : plChk (ze X ci (layL scope.names is (cloOf X scope)) scope (tmpOf X ci is)) x p = true) (ht : TfOK C (ze X ci (layL scope.names is (cloOf X scope)) scope (tmpOf X ci is)) ifs t)
  (he : EvP C (ze X ci (layL scope.names is (cloOf X scope)) scope (tmpOf X ci is)) elt fe) (hs : ∀ env v, foldedSetIterable iter env v = pure v) :
  EvP C X (.ListComp elt [⟨.Name x px, iter, ifs, 0⟩] scope pos) (zy p ci nv is f t fe) :=
 evp_comp ci nv is _ _ _ p hi (compOK_of hc) (zg hp) ht he hs
theorem st_compA {elt iter : Expr} {x y : Str} {px py : Pos} {ifs : List Expr} {scope : Scope} {pos spos : Pos} {f : CC PV} {t : CC Bool} {fe : CC PV} {j ci nv : Nat} {is : List Nat} {p : Pl}
  (hy : plChk X y (.loc j) = true) (hc : compChk X ci is scope = true) (hi : EvP C X iter f) (hp : plChk (ze X ci (layL scope.names is (cloOf X scope)) scope (tmpOf X ci is)) x p = true) (ht : TfOK C (ze X ci (layL scope.names is (cloOf X scope)) scope (tmpOf X ci is)) ifs t)
  (he : EvP C (ze X ci (layL scope.names is (cloOf X scope)) scope (tmpOf X ci is)) elt fe) (hline : (py.line == pos.line) = true) (hno : (scope.names.any fun (n, k) => n == y && (k == .local || k == .cell)) = false) (hs : ∀ env v, foldedSetIterable iter env v = pure v) :
  StOK C X (.Assign [.Name y py] (.ListComp elt [⟨.Name x px, iter, ifs, 0⟩] scope pos) spos) (cCompS X.fi j p ci nv is f t fe) :=
 st_comp j ci nv is _ _ _ p (zg hy) hi (compOK_of hc) (zg hp) ht he hline hno hs
theorem st_compOwnA {elt iter : Expr} {x y : Str} {px py : Pos} {ifs : List Expr} {scope : Scope} {pos spos : Pos} {g : CC AV} {t : CC Bool} {fe : CC PV} {j k ci nv : Nat} {is : List Nat} {p : Pl}
  (hy : plChk X y (.loc j) = true) (hc : compChk X ci is scope = true) (hi : EvOK C X iter g) (hp : plChk (ze X ci (layL scope.names is (cloOf X scope)) scope (tmpOf X ci is)) x p = true) (ht : TfOK C (ze X ci (layL scope.names is (cloOf X scope)) scope (tmpOf X ci is)) ifs t)
  (he : EvP C (ze X ci (layL scope.names is (cloOf X scope)) scope (tmpOf X ci is)) elt fe) (hk : (X.own.contains k && !X.tmp.contains k) = true) (hline : (py.line == pos.line) = true) (hno : (scope.names.any fun (n, k) => n == y && (k == .local || k == .cell)) = false) (hs : ∀ env v, foldedSetIterable iter env v = pure v) :
  StOK C X (.Assign [.Name y py] (.ListComp elt [⟨.Name x px, iter, ifs, 0⟩] scope pos) spos) (cCompOwn X.fi X.tmp j k p ci nv is g t fe) := by
 refine nG fun ng => ?_
 obtain ⟨h1, h2⟩ := Bool.and_eq_true_iff.mp hk
 refine ng ?_
 clear ng
 exact st_compOwn j k ci nv is _ _ _ p (zg hy) hi (compOK_of hc) (zg hp) ht he (List.contains_iff_mem.mp h1) (fun q => by rw [List.contains_iff_mem.mpr q] at h2; cases h2) hline hno hs
theorem st_asgA {x : Str} {pos' pos : Pos} {value : Expr} {f : CC PV} {p : Pl} (hv : EvP C X value f) (hp : plChk X x p = true) (hn : noComp value = true) : StOK C X (.Assign [.Name x pos'] value pos) (zl X.fi p f) := st_asg p hv (zg hp) hn
theorem st_asgcA {x : Str} {pos' pos : Pos} {value : Expr} {f : CC PV} {i : Nat} (hv : EvP C X value f) (hp : plChk X x (.cell i) = true) : StOK C X (.Assign [.Name x pos'] value pos) (zl X.fi (.cell i) f) := st_asgc i hv (zg hp)
theorem st_ownA {x : Str} {pos' lpos pos : Pos} {es : List Expr} {f : CC (List PV)} {p : Pl} {i : Nat} (hv : EvsP C X es f) (hp : plChk X x p = true) (hi : X.own.contains i = true) : StOK C X (.Assign [.Name x pos'] (.List es lpos) pos) (cOwn X.fi p i f) := st_own p i hv (zg hp) (List.contains_iff_mem.mp hi)
theorem st_asg2A {x y : Str} {px py tpos pos : Pos} {k : Nat} {value : Expr} {f : CC PV} {p q : Pl} (hv : EvP C X value f) (hp : plChk X x p = true) (hq : plChk X y q = true)
  (hw : ∀ env, swappedStores [.Tuple [.Name x px, .Name y py] k tpos] value env = pure none) (hs : ∀ env, swapsWithSole [.Tuple [.Name x px, .Name y py] k tpos] value pos.line env = pure false) :
  StOK C X (.Assign [.Tuple [.Name x px, .Name y py] k tpos] value pos) (cAsg2 X.fi p q f) := st_asg2 p q hv (zg hp) (zg hq) hw hs
theorem st_forA {x : Str} {px pos : Pos} {iter : Expr} {body : List Stmt} {f : CC PV} {b : CC Fl} {p : Pl} (hp : plChk X x p = true) (hi : EvP C X iter f) (hb : zi C X body b) (hs : ∀ env v, foldedSetIterable iter env v = pure v) :
  StOK C X (.For (.Name x px) iter body [] pos) (cFor X.fi p f b) := st_for p (zg hp) hi hb hs
theorem st_whileA {t : Expr} {b : List Stmt} {pos : Pos} {ft : CC Bool} {f : CC Fl} {fuel : Nat} (ht : TsOK C X t ft) (hb : zi C X b f) : StOK C X (.While t b [] pos) (cWhile ft f fuel) := st_while fuel ht hb
theorem z8 {x : Str} {pos : Pos} {j : Nat} (hk : plChk X x (.loc j) = true) (hd : (x == ("__debug__" : Str)) = false) : EvOK C X (.Name x pos) (zC X.fi j) := by
 have h := zg hk
 exact ev_loc j h.1 h.2 hd
noncomputable def ceChk (X : zj) (x : Str) (i : Nat) : Bool := (X.scope.names.lookup x == some .cell || X.scope.names.lookup x == some .free) && X.cells.lookup x == some i && !(x == ("__debug__" : Str)) && !(x == ("__classdict__" : Str))
theorem ev_cellA {x : Str} {pos : Pos} {i : Nat} (h : ceChk X x i = true) : EvOK C X (.Name x pos) (zK i) := by
 simp only [ceChk, Bool.and_eq_true, Bool.or_eq_true, beq_iff_eq, Bool.not_eq_true'] at h
 exact ev_cell i h.1.1.1 h.1.1.2 h.1.2 h.2
noncomputable def bltUsed : List Str := ["abs", "int", "divmod", "isinstance", "bytes", "chr", "ord", "len", "sum", "range", "list", "set", "iter"]
structure GlB (C : Cx) : Prop where
 no : ∀ x, bltUsed.contains x = true -> C.mg x = none
 nt : ∃ t, C.mg "NT_OFFSET" = some (.int 256 t)
 em : ∃ t, C.mg "ENDMARKER" = some (.int 0 t)
end
section
variable {C : Cx} {X : zj}
theorem evp_slice2 {value : Expr} {l u : Option Expr} {sp pos : Pos} {f : CC PV} {fl fu : CC (Option Int)} (hf : EvP C X value f) (hl : PtOK C X l fl) (hu : PtOK C X u fu) :
  EvP C X (.Subscript value (.Slice l u none sp) pos) (cSlice f fl fu cNo) := evp_slice hf hl hu pt_none (fun o i => [i, o]) (fun _ _ => rfl)
theorem evp_slice3 {value : Expr} {l u : Option Expr} {st : Expr} {sp pos : Pos} {f : CC PV} {fl fu fs : CC (Option Int)} (hf : EvP C X value f) (hl : PtOK C X l fl) (hu : PtOK C X u fu) (hs : PtOK C X (some st) fs) :
  EvP C X (.Subscript value (.Slice l u (some st) sp) pos) (cSlice f fl fu fs) := evp_slice hf hl hu hs (fun o i => [o, i]) (fun _ _ => rfl)
theorem m_str_join : MethOn "str" "join" "str.join" := ⟨PySem.F.plainAttrs_str, PySem.F.slot_str_join, PySem.F.type_str_join⟩
theorem m_list_index : MethOn "list" "index" "list.index" := ⟨PySem.F.plainAttrs_list, PySem.F.slot_list_index, PySem.F.type_list_index⟩
theorem m_str_count : MethOn "str" "count" "str.count" := ⟨PySem.F.plainAttrs_str, PySem.F.slot_str_count, PySem.F.type_str_count⟩
theorem subAt_one (x : PySem.Str) (c i : Nat) : Builtin.Str.subAt x ⟨#[c]⟩ i = true ↔ x.cps.toList[i]? = some c := by
 rw [StrLaws.subAt_eq]
 exact StrLaws.take1_drop
theorem cnt_loop (x : PySem.Str) (c : Nat) : ∀ (k a : Nat) (st : Array Nat × Nat), st.1.size <= a -> st.2 <= a -> a + k = x.length + 1 ->
  (forIn (List.range' a k) st (StrLaws.occBody x ⟨#[c]⟩ x.length (x.length + 1))).run.fst.size = st.1.size + (x.cps.toList.drop a).count c
 | 0, a, st, h1, h2, h3 => by
  have : x.cps.toList.drop a = [] := List.drop_eq_nil_of_le (by have : x.cps.toList.length = x.length := (by simp [PySem.Str.length]); omega)
  rw [this]
  simp
 | k + 1, a, st, h1, h2, h3 => by
  have hlen : x.cps.toList.length = x.length := by simp [PySem.Str.length]
  rw [List.range'_succ, List.forIn_cons]
  by_cases ha : a < x.length
  ·have hd : x.cps.toList.drop a = x.cps.toList[a]'(by omega) :: x.cps.toList.drop (a + 1) := List.drop_eq_getElem_cons (by omega)
   have hg : x.cps.toList[a]? = some (x.cps.toList[a]'(by omega)) := List.getElem?_eq_getElem (by omega)
   by_cases hc : Builtin.Str.subAt x ⟨#[c]⟩ a = true
   ·have e : StrLaws.occBody x ⟨#[c]⟩ x.length (x.length + 1) a st = pure (ForInStep.yield (st.1.push a, a + 1)) := by
     unfold StrLaws.occBody
     rw [if_pos ⟨⟨⟨by omega, h2⟩, by show a + 1 <= _; omega⟩, hc⟩]
     rfl
    rw [e]
    have := cnt_loop x c k (a + 1) (st.1.push a, a + 1) (by simp; omega) (Nat.le_refl _) (by omega)
    simp only [pure_bind]
    rw [this]
    have hc' := (subAt_one x c a).mp hc
    rw [hg] at hc'
    rw [hd, Option.some.inj hc', List.count_cons_self]
    simp; omega
   ·have e : StrLaws.occBody x ⟨#[c]⟩ x.length (x.length + 1) a st = pure (ForInStep.yield (st.1, st.2)) := by
     unfold StrLaws.occBody
     rw [if_neg fun q => hc q.2]
    rw [e]
    have := cnt_loop x c k (a + 1) (st.1, st.2) (by simp; omega) (by simp; omega) (by omega)
    simp only [pure_bind]
    rw [this, hd]
    have hne : x.cps.toList[a]'(by omega) ≠ c := fun q => hc ((subAt_one x c a).mpr (by rw [hg, q]))
    rw [List.count_cons_of_ne hne]
  ·have e : StrLaws.occBody x ⟨#[c]⟩ x.length (x.length + 1) a st = pure (ForInStep.yield (st.1, st.2)) := by
    unfold StrLaws.occBody
    rw [if_neg fun q => by have h4 : a + 1 <= x.length := q.1.2; omega]
   rw [e]
   have := cnt_loop x c k (a + 1) (st.1, st.2) (by simp; omega) (by simp; omega) (by omega)
   simp only [pure_bind]
   rw [this, List.drop_eq_nil_of_le (by omega : x.cps.toList.length <= a), List.drop_eq_nil_of_le (by omega : x.cps.toList.length <= a + 1)]
theorem occ_count (x : List Nat) (c : Nat) : (Builtin.Str.occurrences ⟨x.toArray⟩ ⟨#[c]⟩ 0 (PySem.Str.length ⟨x.toArray⟩) (PySem.Str.length ⟨x.toArray⟩ + 1)).length = x.count c := by
 rw [StrLaws.occ_eq, Array.length_toList]
 have := cnt_loop ⟨x.toArray⟩ c ((PySem.Str.length ⟨x.toArray⟩) + 1 - 0) 0 (#[], 0) (by simp) (by simp) (by omega)
 rw [this]
 simp
noncomputable def hCount : List PV -> Option PV
 | [.str x, .str [c]] => some (.int (x.count c : Nat))
 | _ => none
theorem fn_count {n : Nat} : OpN C n (fun vs => call (.builtin "str.count") vs) hCount := by
 intro A F s as Vs c hA hF hP r h
 unfold hCount at h
 refine nG fun ng => ?_
 split at h
 ·refine ng ?_
  clear ng
  refine pe h ?_; clear h
  cases r with
  | cons r1 r2 => cases r2 with
   | cons r2 r3 =>
    cases r3; cases r1; cases r2
    refine call_gives PySem.F.slot_str_count (typeIs_str _ _ _) PySem.F.entry_str_count (PySem.F.args_str_count_2 _ _) (gives_str_count _ _ _ _) ?_
    show PR F s _ (.int (((Builtin.Str.occurrences _ _ 0 _ _).length : Nat) : Int) _) _
    rw [show ∀ k : Nat, (⟨[k].toArray⟩ : PySem.Str) = ⟨#[k]⟩ from fun _ => rfl, occ_count]
    exact PR.int hF
 ·cases h
open Classical in
noncomputable def specO {R : Type} (P : R -> Prop) : Option R := if h : ∃ r, P r then some (choose h) else none
theorem specO_some {R : Type} {P : R -> Prop} {r : R} (h : specO P = some r) : P r := by
 unfold specO at h
 by_cases q : ∃ r, P r
 ·rw [dif_pos q] at h; cases h; exact Classical.choose_spec q
 ·refine nG fun ng => ?_
  rw [dif_neg q] at h; cases h
theorem specO_eq {R : Type} {P : R -> Prop} {r : R} (h : P r) (u : ∀ r', P r' -> r' = r) : specO P = some r := by
 have q : ∃ r, P r := ⟨r, h⟩
 unfold specO
 rw [dif_pos q, u _ (Classical.choose_spec q)]
end
section
variable {C : Cx} {X : zj}
noncomputable def h_ist : List PV -> Option PV
 | [.int x] => some (.bool (decide (x < 256)))
 | _ => none
noncomputable def h_isn : List PV -> Option PV
 | [.int x] => some (.bool (decide (x >= 256)))
 | _ => none
noncomputable def h_iseof : List PV -> Option PV
 | [.int x] => some (.bool (x == 0))
 | _ => none
noncomputable def hexB : Nat -> Nat -> List UInt8
 | 0, _ => []
 | k + 1, n => if n = 0 then [] else hexB k (n / 16) ++ [UInt8.ofNat (65 + n % 16)]
noncomputable def h_i2a : List PV -> Option PV
 | [.int x] => if x.natAbs < 2 ^ 200 then some (.bytes (hexB 63 x.natAbs)) else none
 | _ => none
noncomputable def hexL : Nat -> Nat -> List Nat
 | 0, _ => []
 | k + 1, n => if n = 0 then [] else hexL k (n / 16) ++ [65 + n % 16]
noncomputable def zo : List PV -> Option PV
 | [.int x] => if x.natAbs < 2 ^ 200 then some (.str (hexL 63 x.natAbs)) else none
 | _ => none
noncomputable def numOf (l : List Nat) : Int := l.foldl (fun (n : Int) (c : Nat) => 16 * n + (c : Int) - 65) 0
noncomputable def h_number : List PV -> Option PV
 | [.str l] => some (.int (numOf l))
 | _ => none
noncomputable def zu (w : List Nat) (way : Int) : List Nat :=
 if way = 1 \/ w = [] then 34 :: (w.flatMap fun c => if c ∈ [34, 92, 65, 66, 67, 68] then [92, c] else [c]) ++ [34]
 else if way = 0 then (w.flatMap fun c => [92, c]) ++ [10]
 else 9 :: 13 :: (if w.head? = some 34 then [92] else []) ++ (w.flatMap fun c => if c ∈ [32, 10, 92] then [92, c] else [c]) ++ [32]
noncomputable def h_written : List PV -> Option PV
 | [.str w, .int way] => if w.length <= 4000 /\ w.all (· < 1114112) = true then some (.str (zu w way)) else none
 | _ => none
noncomputable def h_symbol : List PV -> Option PV
 | [.int a, .int b] => if 0 <= a /\ 0 <= b then some (.int (if a.toNat &&& b.toNat = 0 then 255 - a else 255 + a)) else none
 | _ => none
noncomputable def h_goes : List PV -> Option PV
 | [.int x] => some (.int (if 256 <= x then 1 else 0))
 | _ => none
noncomputable def h_kind : List PV -> Option PV
 | [.int x] => if 0 <= x /\ x < 511 then some (.int (if 256 <= x then 1 else 0)) else none
 | _ => none
noncomputable abbrev X_ist (n : Nat) : zj :=
 { n := n + 1, fi := 0, N := fun | 0 => ["x"] | _ => [], cells := [], scope := zQ (zD 3), tmp := [], own := [] }
noncomputable abbrev f_ist : CC Fl := (zJ (cRet (zM hLt (zE (zC 0 0)) (zX (cQ (.int 256))))) (zL .next))
noncomputable abbrev X_isn (n : Nat) : zj :=
 { n := n + 1, fi := 0, N := fun | 0 => ["x"] | _ => [], cells := [], scope := zQ (zD 4), tmp := [], own := [] }
noncomputable abbrev f_isn : CC Fl := (zJ (cRet (zM hGe (zE (zC 0 0)) (zX (cQ (.int 256))))) (zL .next))
noncomputable abbrev X_iseof (n : Nat) : zj :=
 { n := n + 1, fi := 0, N := fun | 0 => ["x"] | _ => [], cells := [], scope := zQ (zD 5), tmp := [], own := [] }
noncomputable abbrev f_iseof : CC Fl := (zJ (cRet (zM hEq (zE (zC 0 0)) (zX (cQ (.int 0))))) (zL .next))
noncomputable abbrev X_i2a (n : Nat) : zj :=
 { n := n + 1, fi := 0, N := fun | 0 => ["num", "val", "AP", "mod"] | _ => [], cells := [], scope := zQ (zD 7), tmp := [], own := [] }
noncomputable abbrev b_i2a_1 : CC Fl := (zJ (cAsg2 0 (.loc 0) (.loc 3) (zO hDivmod (zB (zE (zC 0 0)) (zB (cQ (.int 16)) zG)))) (zJ (zl 0 (.loc 1) (zh hAdd (cSlice (zE (zC 0 2)) (cPt (zE (zC 0 3))) (cPt (zh hAdd (zE (zC 0 3)) (cQ (.int 1)))) cNo) (zE (zC 0 1)))) (zL .next)))
noncomputable abbrev f_i2a : CC Fl := (zJ (zl 0 (.loc 1) (cQ (.bytes []))) (zJ (zl 0 (.loc 2) (cQ (.bytes [65, 66, 67, 68, 69, 70, 71, 72, 73, 74, 75, 76, 77, 78, 79, 80]))) (zJ (zl 0 (.loc 0) (zO hInt (zB (zO hAbs (zB (zE (zC 0 0)) zG)) zG))) (zJ (cWhile (cTruth (zC 0 0)) b_i2a_1 64) (zJ (cRet (zE (zC 0 1))) (zL .next))))))
noncomputable abbrev X_letters (n : Nat) : zj :=
 { n := n + 1, fi := 0, N := fun | 0 => ["number", "word"] | 1 => ["octet"] | _ => [], cells := [], scope := zQ (zD 15), tmp := [1], own := [] }
noncomputable abbrev e_letters_1 : CC PV := (zO hChr (zB (zE (zC 1 0)) zG))
noncomputable abbrev f_letters : CC Fl := (zJ (zl 0 (.loc 1) (zO h_i2a (zB (zE (zC 0 0)) zG))) (zJ (cIf (cNot (cTruth (zX (cIsB (zE (zC 0 1)))))) (zJ (cRet (cQ (.str [63]))) (zL .next)) (zL .next)) (zJ (cRet (cMeth [1] "str" hJoin (zX (cQ (.str []))) (zB (zy (.loc 0) 1 1 [] (zE (zC 0 1)) zc e_letters_1) zG))) (zL .next))))
noncomputable abbrev X_number (n : Nat) : zj :=
 { n := n + 1, fi := 0, N := fun | 0 => ["word", "number", "sign"] | _ => [], cells := [], scope := zQ (zD 16), tmp := [], own := [] }
noncomputable abbrev b_number_1 : CC Fl := (zJ (zl 0 (.loc 1) (zh hSub (zh hAdd (zh hMul (cQ (.int 16)) (zE (zC 0 1))) (zO hOrd (zB (zE (zC 0 2)) zG))) (cQ (.int 65)))) (zL .next))
noncomputable abbrev f_number : CC Fl := (zJ (zl 0 (.loc 1) (cQ (.int 0))) (zJ (cFor 0 (.loc 2) (zE (zC 0 0)) b_number_1) (zJ (cRet (zE (zC 0 1))) (zL .next))))
noncomputable abbrev X_written (n : Nat) : zj :=
 { n := n + 1, fi := 0, N := fun | 0 => ["word", "way", "head"] | 1 => ["sign"] | 2 => ["sign"] | 3 => ["sign"] | _ => [], cells := [], scope := zQ (zD 17), tmp := [1, 2, 3], own := [] }
noncomputable abbrev e_written_1 : CC PV := (cIf (zP (zM hIn (zE (zC 3 0)) (zX (cQ (.str [32, 10, 92]))))) (zh hAdd (cQ (.str [92])) (zE (zC 3 0))) (zE (zC 3 0)))
noncomputable abbrev e_written_2 : CC PV := (zh hAdd (cQ (.str [92])) (zE (zC 2 0)))
noncomputable abbrev e_written_3 : CC PV := (cIf (zP (zM hIn (zE (zC 1 0)) (zX (cQ (.str [34, 92, 65, 66, 67, 68]))))) (zh hAdd (cQ (.str [92])) (zE (zC 1 0))) (zE (zC 1 0)))
noncomputable abbrev f_written : CC Fl := (zJ (cIf (cOr (zP (zM hEq (zE (zC 0 1)) (zX (cQ (.int 1))))) (zP (zM hEq (zE (zC 0 0)) (zX (cQ (.str [])))))) (zJ (cRet (zh hAdd (zh hAdd (cQ (.str [34])) (cMeth [1, 2, 3] "str" hJoin (zX (cQ (.str []))) (zB (zy (.loc 0) 1 1 [] (zE (zC 0 0)) zc e_written_3) zG))) (cQ (.str [34])))) (zL .next)) (zL .next)) (zJ (cIf (zP (zM hEq (zE (zC 0 1)) (zX (cQ (.int 0))))) (zJ (cRet (zh hAdd (cMeth [1, 2, 3] "str" hJoin (zX (cQ (.str []))) (zB (zy (.loc 0) 2 1 [] (zE (zC 0 0)) zc e_written_2) zG)) (cQ (.str [10])))) (zL .next)) (zL .next)) (zJ (zl 0 (.loc 2) (cIf (zP (zM hEq (z3 [1, 2, 3] zH (zC 0 0) (cQ (.int 0))) (zX (cQ (.str [34]))))) (cQ (.str [92])) (cQ (.str [])))) (zJ (cRet (zh hAdd (zh hAdd (zh hAdd (cQ (.str [9, 13])) (zE (zC 0 2))) (cMeth [1, 2, 3] "str" hJoin (zX (cQ (.str []))) (zB (zy (.loc 0) 3 1 [] (zE (zC 0 0)) zc e_written_1) zG))) (cQ (.str [32])))) (zL .next)))))
noncomputable abbrev X_symbol (n : Nat) : zj :=
 { n := n + 1, fi := 0, N := fun | 0 => ["some", "good"] | _ => [], cells := [], scope := zQ (zD 19), tmp := [], own := [] }
noncomputable abbrev f_symbol : CC Fl := (zJ (cIf (zP (zM hIs (zO h_iseof (zB (cUn hNeg (zh hAnd (zE (zC 0 0)) (zE (zC 0 1)))) zG)) (zX (cQ (.bool true))))) (zJ (cRet (zh hSub (cQ (.int 255)) (zE (zC 0 0)))) (zL .next)) (zL .next)) (zJ (cRet (zh hAdd (cQ (.int 255)) (zE (zC 0 0)))) (zL .next)))
noncomputable abbrev X_goes (n : Nat) : zj :=
 { n := n + 1, fi := 0, N := fun | 0 => ["symbol"] | _ => [], cells := [], scope := zQ (zD 20), tmp := [], own := [] }
noncomputable abbrev f_goes : CC Fl := (zJ (cIf (cAnd (zP (zM hIs (zO h_isn (zB (zE (zC 0 0)) zG)) (zX (cQ (.bool true))))) (zP (zM hIs (zO h_ist (zB (zE (zC 0 0)) zG)) (zX (cQ (.bool false)))))) (zJ (cRet (cQ (.int 1))) (zL .next)) (zL .next)) (zJ (cIf (cAnd (zP (zM hIs (zO h_isn (zB (zE (zC 0 0)) zG)) (zX (cQ (.bool false))))) (zP (zM hIs (zO h_ist (zB (zE (zC 0 0)) zG)) (zX (cQ (.bool true)))))) (zJ (cRet (cQ (.int 0))) (zL .next)) (zL .next)) (zJ (cRet (cQ (.int 2))) (zL .next))))
noncomputable abbrev X_kind (n : Nat) : zj :=
 { n := n + 1, fi := 0, N := fun | 0 => ["symbol", "goes"] | 1 => ["one"] | _ => [], cells := [], scope := zQ (zD 21), tmp := [1], own := [] }
noncomputable abbrev e_kind_1 : CC PV := (zO h_goes (zB (zE (zC 1 0)) zG))
noncomputable abbrev f_kind : CC Fl := (zJ (cCompS 0 1 (.loc 0) 1 1 [] (z5 (zB (zE (zC 0 0)) (zB (zh hSub (cQ (.int 511)) (zE (zC 0 0))) (zB (cUn hNeg (zE (zC 0 0))) (zB (zh hAdd (cQ (.int 256)) (zE (zC 0 0))) zG))))) zc e_kind_1) (zJ (cRet (cIf (zP (zM hEq (cSlice (zE (zC 0 1)) (cPt (cQ (.int 1))) cNo cNo) (zX (z5 (zB (zh hSub (cQ (.int 1)) (z3 [1] zH (zC 0 1) (cQ (.int 0)))) (zB (cQ (.int 0)) (zB (cQ (.int 1)) zG))))))) (z3 [1] zH (zC 0 1) (cQ (.int 0))) (cQ (.int 2)))) (zL .next)))
theorem oks : (∀ {n : Nat} (hn : n <= 30) (G : GlB C), zi C (X_ist n) (zN (zD 3)) f_ist) /\ (∀ {n : Nat} (hn : n <= 30) (G : GlB C), zi C (X_isn n) (zN (zD 4)) f_isn) /\ (∀ {n : Nat} (hn : n <= 30) (G : GlB C), zi C (X_iseof n) (zN (zD 5)) f_iseof) /\ (∀ {n : Nat} (hn : n <= 30) (G : GlB C), zi C (X_i2a n) (zN (zD 7)) f_i2a) /\ (∀ {n : Nat} (hn : n <= 30) (G : GlB C) (S1 : zU C (n + 1) "Int2AP" h_i2a), zi C (X_letters n) (zN (zD 15)) f_letters) /\ (∀ {n : Nat} (hn : n <= 30) (G : GlB C), zi C (X_number n) (zN (zD 16)) f_number) /\ (∀ {n : Nat} (hn : n <= 30) (G : GlB C), zi C (X_written n) (zN (zD 17)) f_written) /\ (∀ {n : Nat} (hn : n <= 30) (G : GlB C) (S1 : zU C (n + 1) "ISEOF" h_iseof), zi C (X_symbol n) (zN (zD 19)) f_symbol) /\ (∀ {n : Nat} (hn : n <= 30) (G : GlB C) (S1 : zU C (n + 1) "ISTERMINAL" h_ist) (S2 : zU C (n + 1) "ISNONTERMINAL" h_isn), zi C (X_goes n) (zN (zD 20)) f_goes) /\ (∀ {n : Nat} (hn : n <= 30) (G : GlB C) (S1 : zU C (n + 1) "_law_goes" h_goes), zi C (X_kind n) (zN (zD 21)) f_kind) := by
 refine ⟨?_, ?_, ?_, ?_, ?_, ?_, ?_, ?_, ?_, ?_⟩ <;>
 ·intros
  change zi C _ (List.cons _ _) _
  repeat' first
  | with_reducible first
   | exact zd
   | refine zT ?_ ?_
   | exact evs_nil
   | refine evs_cons ?_ ?_ rfl
   | exact tf_nil
   | exact pt_none
   | refine pt_some ?_
   | refine st_ret ?_
   | refine st_if ?_ ?_ ?_
   | refine st_whileA ?_ ?_
   | refine st_forA (by kernel_rfl) ?_ ?_ (by intro _ _; with_unfolding_all rfl)
   | refine st_asg2A ?_ (by kernel_rfl) (by kernel_rfl) (by intro _; with_unfolding_all rfl) (by intro _; with_unfolding_all rfl)
   | refine st_compA (by kernel_rfl) (by kernel_rfl) ?_ (by kernel_rfl) ?_ ?_ (by kernel_rfl) (by kernel_rfl) (by intro _ _; with_unfolding_all rfl)
   | refine st_asgA ?_ (by kernel_rfl) (by kernel_rfl)
   | refine z8 (by kernel_rfl) (by kernel_rfl)
   | refine yC ?_
   | refine ts_cmp (op_eq (by first | (change _ + 1 <= 40; omega) | omega)) ?_ ?_ (by kernel_rfl)
   | refine ts_cmp op_in ?_ ?_ (by kernel_rfl)
   | refine ts_cmp op_is ?_ ?_ (by kernel_rfl)
   | refine ts_cmp op_lt ?_ ?_ (by kernel_rfl)
   | refine ts_cmp op_ge ?_ ?_ (by kernel_rfl)
   | refine ts_not ?_
   | refine ts_and ?_ ?_
   | refine ts_or ?_ ?_
   | refine ts_val ?_ (by intro _ _; with_unfolding_all rfl)
   | exact evp_int
   | exact evp_bool
   | exact evp_str (by kernel_rfl)
   | exact evp_bytes
   | refine evp ?_
   | refine evp_globI (GlB.nt (by assumption)) (by kernel_rfl) (by kernel_rfl)
   | refine evp_globI (GlB.em (by assumption)) (by kernel_rfl) (by kernel_rfl)
   | refine evp_bin op_add ?_ ?_
   | refine evp_bin op_sub ?_ ?_
   | refine evp_bin op_mul ?_ ?_
   | refine evp_bin op_and ?_ ?_
   | refine evp_un op_neg ?_
   | refine evp_cmp (op_eq (by first | (change _ + 1 <= 40; omega) | omega)) ?_ ?_ (by kernel_rfl)
   | refine evp_cmp op_in ?_ ?_ (by kernel_rfl)
   | refine evp_cmp op_is ?_ ?_ (by kernel_rfl)
   | refine evp_cmp op_lt ?_ ?_ (by kernel_rfl)
   | refine evp_cmp op_ge ?_ ?_ (by kernel_rfl)
   | refine evp_if ?_ ?_ ?_
   | refine evp_list ?_
   | refine evp_compA (by kernel_rfl) ?_ (by kernel_rfl) ?_ ?_ (by intro _ _; with_unfolding_all rfl)
   | refine evp_slice2 ?_ ?_ ?_
   | refine evp_sub it_item ?_ ?_ (by intro _ _; with_unfolding_all rfl)
   | refine evp_callS (by assumption) ?_ rfl (by kernel_rfl) (by kernel_rfl)
   | refine evp_blt (GlB.no (by assumption) _ (by kernel_rfl)) PyProof.Rows.Boot.«abs» (by decide +kernel) (by kernel_rfl) fn_abs ?_ (by kernel_rfl) (by kernel_rfl)
   | refine evp_blt (GlB.no (by assumption) _ (by kernel_rfl)) PyProof.Rows.Boot.«divmod» (by decide +kernel) (by kernel_rfl) fn_divmod ?_ (by kernel_rfl) (by kernel_rfl)
   | refine evp_blt (GlB.no (by assumption) _ (by kernel_rfl)) PyProof.Rows.Boot.«ord» (by decide +kernel) (by kernel_rfl) fn_ord ?_ (by kernel_rfl) (by kernel_rfl)
   | refine evp_blt (GlB.no (by assumption) _ (by kernel_rfl)) PyProof.Rows.Boot.«chr» (by decide +kernel) (by kernel_rfl) fn_chr ?_ (by kernel_rfl) (by kernel_rfl)
   | refine evp_typ (GlB.no (by assumption) _ (by kernel_rfl)) PyProof.Rows.Boot.«int» (by decide +kernel) (by kernel_rfl) fn_int ?_ (by kernel_rfl) (by kernel_rfl)
   | refine evp_isB (GlB.no (by assumption) _ (by kernel_rfl)) (GlB.no (by assumption) _ (by kernel_rfl)) ?_ rfl (by kernel_rfl) (by kernel_rfl)
   | refine evp_meth m_str_join (by decide) rfl (by kernel_rfl) (by kernel_rfl) (Nat.le_of_ble_eq_true (by kernel_rfl)) fn_join ?_ ?_
  | refine evp_sub it_item ?_ ?_ (by intro _ _; with_unfolding_all rfl)
  | refine evp_meth m_str_join (by decide) rfl (by kernel_rfl) (by kernel_rfl) (Nat.le_of_ble_eq_true (by kernel_rfl)) fn_join ?_ ?_
theorem ok_ist {n : Nat} (hn : n <= 30) (G : GlB C) : zi C (X_ist n) (zN (zD 3)) f_ist := oks.1 hn G
theorem ok_isn {n : Nat} (hn : n <= 30) (G : GlB C) : zi C (X_isn n) (zN (zD 4)) f_isn := oks.2.1 hn G
theorem ok_iseof {n : Nat} (hn : n <= 30) (G : GlB C) : zi C (X_iseof n) (zN (zD 5)) f_iseof := oks.2.2.1 hn G
theorem ok_i2a {n : Nat} (hn : n <= 30) (G : GlB C) : zi C (X_i2a n) (zN (zD 7)) f_i2a := oks.2.2.2.1 hn G
theorem ok_letters {n : Nat} (hn : n <= 30) (G : GlB C) (S1 : zU C (n + 1) "Int2AP" h_i2a) : zi C (X_letters n) (zN (zD 15)) f_letters := oks.2.2.2.2.1 hn G S1
theorem ok_number {n : Nat} (hn : n <= 30) (G : GlB C) : zi C (X_number n) (zN (zD 16)) f_number := oks.2.2.2.2.2.1 hn G
theorem ok_written {n : Nat} (hn : n <= 30) (G : GlB C) : zi C (X_written n) (zN (zD 17)) f_written := oks.2.2.2.2.2.2.1 hn G
theorem ok_symbol {n : Nat} (hn : n <= 30) (G : GlB C) (S1 : zU C (n + 1) "ISEOF" h_iseof) : zi C (X_symbol n) (zN (zD 19)) f_symbol := oks.2.2.2.2.2.2.2.1 hn G S1
theorem ok_goes {n : Nat} (hn : n <= 30) (G : GlB C) (S1 : zU C (n + 1) "ISTERMINAL" h_ist) (S2 : zU C (n + 1) "ISNONTERMINAL" h_isn) : zi C (X_goes n) (zN (zD 20)) f_goes := oks.2.2.2.2.2.2.2.2.1 hn G S1 S2
theorem ok_kind {n : Nat} (hn : n <= 30) (G : GlB C) (S1 : zU C (n + 1) "_law_goes" h_goes) : zi C (X_kind n) (zN (zD 21)) f_kind := oks.2.2.2.2.2.2.2.2.2 hn G S1
end
section
variable {C : Cx} {X : zj}
structure FnG (C : Cx) (x : Str) (st : Stmt) (ps : List Str) : Prop where
 ex : ∃ a fd, C.mg x = some (.ref a) /\ DefAt C a fd (zN st) ps /\ fd.scope = zQ st /\ fd.closure = []
theorem sp_of {n : Nat} {x : Str} {st : Stmt} {ps : List Str} {f : CC Fl} {h : List PV -> Option PV} {is : List Nat} {pls : List Pl} (nv len : Nat) (D : FnG C x st ps) (hn : n <= 30) (hXn : X.n = n + 1) (hs : X.scope = zQ st) (hp : X.pins = [])
  (hE : entChk X (zQ st) is [] ps pls = true) (hl : (X.fi :: is).all (· < len) = true) (hb : zi C X (zN st) f)
  (hrun : ∀ as c, h as = some c -> as.length = ps.length /\ RunR X pls nv len is f as c) : zU C n x h := by
 refine nG fun ng => ?_
 obtain ⟨a, fd, h1, FA, h2, h3⟩ := D.ex
 obtain ⟨o, h4, h5⟩ := FA.o
 refine ng ?_
 clear ng
 refine ⟨a, o, fd, h1, h4, h5, fn_pure nv len FA (entOK_of (hs.trans h2.symm) (by rw [h2]; exact hE) (fun i b m => by rw [hp] at m; cases m)) h3 hb (by omega) hXn hp hl hrun⟩
theorem compL_eval {ci : Nat} {t : CC Bool} {fe : CC PV} {tt : PV -> Bool} {g : PV -> PV} : ∀ (xs : List PV) (τ : List zA) (v0 : Option AV), ci < τ.length ->
  (∀ x ∈ xs, t (τ.set ci (.frame [some (.imm x)])) = some (tt x, τ.set ci (.frame [some (.imm x)])) /\ (tt x = true -> fe (τ.set ci (.frame [some (.imm x)])) = some (g x, τ.set ci (.frame [some (.imm x)])))) ->
  ∃ v1, cCompL ci (.loc 0) t fe xs (τ.set ci (.frame [v0])) = some ((xs.filter tt).map g, τ.set ci (.frame [v1]))
 | [], τ, v0, _, _ => ⟨v0, rfl⟩
 | x :: xs, τ, v0, hc, h => by
  obtain ⟨h1, h2⟩ := h x List.mem_cons_self
  have hs : Pl.set ci (.loc 0) (.imm x) (τ.set ci (.frame [v0])) = some (τ.set ci (.frame [some (.imm x)])) := by
   show sLoc ci 0 (.imm x) _ = _
   unfold sLoc
   rw [List.getElem?_set_self hc]
   simp
  obtain ⟨v1, ih⟩ := compL_eval xs τ (some (.imm x)) hc fun y hy => h y (List.mem_cons_of_mem _ hy)
  refine ⟨v1, ?_⟩
  dsimp only [cCompL]
  rw [hs]
  dsimp only
  rw [h1]
  cases ht : tt x with
  | false =>
   dsimp only
   rw [List.filter_cons_of_neg (by simp [ht])]
   exact ih
  | true =>
   dsimp only
   rw [h2 ht]
   dsimp only
   rw [ih, List.filter_cons_of_pos ht]
   rfl
theorem comp_eval {ci : Nat} {f : CC PV} {t : CC Bool} {fe : CC PV} (tt : PV -> Bool) (g : PV -> PV) {σ σ1 : List zA} {u : PV} {xs : List PV} (h1 : f σ = some (u, σ1)) (h2 : items u = some xs) (h3 : xs.length <= 4096) (h4 : ci < σ1.length)
  (h : ∀ x ∈ xs, t ((σ1.map (clr ci)).set ci (.frame [some (.imm x)])) = some (tt x, (σ1.map (clr ci)).set ci (.frame [some (.imm x)])) /\
   (tt x = true -> fe ((σ1.map (clr ci)).set ci (.frame [some (.imm x)])) = some (g x, (σ1.map (clr ci)).set ci (.frame [some (.imm x)])))) :
  zy (.loc 0) ci 1 [] f t fe σ = some (.list ((xs.filter tt).map g), (σ1.map (clr ci)).set ci .dead) := by
 refine nG fun ng => ?_
 obtain ⟨v1, e⟩ := compL_eval xs (σ1.map (clr ci)) none (by simpa using h4) h
 refine ng ?_
 clear ng
 unfold zy
 rw [h1]
 dsimp only
 rw [h2]
 dsimp only
 have h4' : ([ci] : List Nat).all (fun i => decide (i < σ1.length)) = true := by simp [h4]
 rw [if_pos ⟨h3, h4'⟩]
 have e0 : compIn ci 1 [] σ1 = (σ1.map (clr ci)).set ci (.frame [none]) := rfl
 rw [e0, e]
 dsimp only
 rw [List.getElem?_set_self (by simpa using h4)]
 dsimp only
 have hl : ((xs.filter tt).map g).length <= 4096 := by rw [List.length_map]; exact Nat.le_trans (List.length_filter_le _ _) h3
 rw [if_pos hl, List.set_set]
theorem comp_eval' {ci : Nat} {f : CC PV} {fe : CC PV} (g : PV -> PV) {σ σ1 : List zA} {u : PV} {xs : List PV} (h1 : f σ = some (u, σ1)) (h2 : items u = some xs) (h3 : xs.length <= 4096) (h4 : ci < σ1.length)
  (h : ∀ x ∈ xs, fe ((σ1.map (clr ci)).set ci (.frame [some (.imm x)])) = some (g x, (σ1.map (clr ci)).set ci (.frame [some (.imm x)]))) :
  zy (.loc 0) ci 1 [] f zc fe σ = some (.list (xs.map g), (σ1.map (clr ci)).set ci .dead) := by
 rw [comp_eval (fun _ => true) g h1 h2 h3 h4 fun x hx => ⟨rfl, fun _ => h x hx⟩, List.filter_eq_self.mpr fun _ _ => rfl]
theorem sp_ist {n : Nat} (hn : n <= 30) (G : GlB C) (D : FnG C "ISTERMINAL" (zD 3) ["x"]) : zU C n "ISTERMINAL" h_ist := by
 refine sp_of (X := X_ist n) (is := []) (pls := [.loc 0]) 1 1 D hn rfl rfl rfl (by kernel_rfl) rfl (ok_ist hn G) fun as c hc => ?_
 unfold h_ist at hc
 refine nG fun ng => ?_
 split at hc
 ·refine ng ?_
  clear ng
  cases hc; exact ⟨rfl, _, _, _, rfl, rfl, rfl⟩
 ·cases hc
theorem sp_isn {n : Nat} (hn : n <= 30) (G : GlB C) (D : FnG C "ISNONTERMINAL" (zD 4) ["x"]) : zU C n "ISNONTERMINAL" h_isn := by
 refine sp_of (X := X_isn n) (is := []) (pls := [.loc 0]) 1 1 D hn rfl rfl rfl (by kernel_rfl) rfl (ok_isn hn G) fun as c hc => ?_
 unfold h_isn at hc
 refine nG fun ng => ?_
 split at hc
 ·refine ng ?_
  clear ng
  cases hc; exact ⟨rfl, _, _, _, rfl, rfl, rfl⟩
 ·cases hc
theorem sp_iseof {n : Nat} (hn : n <= 30) (G : GlB C) (D : FnG C "ISEOF" (zD 5) ["x"]) : zU C n "ISEOF" h_iseof := by
 refine sp_of (X := X_iseof n) (is := []) (pls := [.loc 0]) 1 1 D hn rfl rfl rfl (by kernel_rfl) rfl (ok_iseof hn G) fun as c hc => ?_
 unfold h_iseof at hc
 refine nG fun ng => ?_
 split at hc
 ·refine ng ?_
  clear ng
  cases hc; exact ⟨rfl, _, _, _, rfl, rfl, rfl⟩
 ·cases hc
theorem zF {f g : CC Fl} {σ σ1 : List zA} {r : Option (Fl × List zA)} (h : f σ = some (.next, σ1)) (h2 : g σ1 = r) : zJ f g σ = r := by unfold zJ; rw [h]; exact h2
theorem z6 {f g : CC Fl} {σ σ1 : List zA} {p : PV} (h : f σ = some (.ret p, σ1)) : zJ f g σ = some (.ret p, σ1) := by unfold zJ; rw [h]
theorem e_seqB {f g : CC Fl} {σ σ1 : List zA} (h : f σ = some (.brk, σ1)) : zJ f g σ = some (.brk, σ1) := by unfold zJ; rw [h]
theorem zp {fi : Nat} {p : Pl} {f : CC PV} {σ σ1 σ₂ : List zA} {v : PV} (h : f σ = some (v, σ1)) (h2 : p.set fi (.imm v) σ1 = some σ₂) : zl fi p f σ = some (.next, σ₂) := by unfold zl; rw [h]; dsimp only; rw [h2]
theorem e_asg2 {fi : Nat} {p q : Pl} {f : CC PV} {σ σ1 σ₂ σ3 : List zA} {v w : PV} (h : f σ = some (.tup [v, w], σ1)) (h2 : p.set fi (.imm v) σ1 = some σ₂) (h3 : q.set fi (.imm w) σ₂ = some σ3) : cAsg2 fi p q f σ = some (.next, σ3) := by
 unfold cAsg2; rw [h]; dsimp only; rw [h2]; dsimp only; rw [h3]
theorem e_ret {f : CC PV} {σ σ1 : List zA} {v : PV} (h : f σ = some (v, σ1)) : cRet f σ = some (.ret v, σ1) := by unfold cRet; rw [h]
theorem e_ifT {α : Type} {t : CC Bool} {f g : CC α} {σ σ1 : List zA} {r : Option (α × List zA)} (h : t σ = some (true, σ1)) (h2 : f σ1 = r) : cIf t f g σ = r := by unfold cIf; rw [h]; exact h2
theorem zv {α : Type} {t : CC Bool} {f g : CC α} {σ σ1 : List zA} {r : Option (α × List zA)} (h : t σ = some (false, σ1)) (h2 : g σ1 = r) : cIf t f g σ = r := by unfold cIf; rw [h]; exact h2
theorem za {h : List PV -> Option PV} {f : CC (List PV)} {σ σ1 : List zA} {as : List PV} {c : PV} (h1 : f σ = some (as, σ1)) (h2 : h as = some c) : zO h f σ = some (c, σ1) := by unfold zO; rw [h1]; dsimp only; rw [h2]
theorem zr {h : PV -> PV -> Option PV} {f g : CC PV} {σ σ1 σ₂ : List zA} {a b c : PV} (h1 : f σ = some (a, σ1)) (h2 : g σ1 = some (b, σ₂)) (h3 : h a b = some c) : zh h f g σ = some (c, σ₂) := by
 unfold zh; rw [h1]; dsimp only; rw [h2]; dsimp only; rw [h3]
theorem e_un {h : PV -> Option PV} {f : CC PV} {σ σ1 : List zA} {a c : PV} (h1 : f σ = some (a, σ1)) (h3 : h a = some c) : cUn h f σ = some (c, σ1) := by unfold cUn; rw [h1]; dsimp only; rw [h3]
theorem zY {h : PV -> PV -> Option PV} {f : CC PV} {g : CC AV} {σ σ1 σ₂ : List zA} {a b' c : PV} {b : AV} (h1 : f σ = some (a, σ1)) (h2 : g σ1 = some (b, σ₂)) (h3 : look b σ₂ = some b') (h4 : h a b' = some c) (h5 : c.flat = true) : zM h f g σ = some (c, σ₂) := by
 unfold zM; rw [h1]; dsimp only; rw [h2]; dsimp only; rw [h3]; dsimp only; rw [h4]; dsimp only; rw [if_pos h5]
theorem z1 {f : CC PV} {σ σ1 : List zA} {b : Bool} (h : f σ = some (.bool b, σ1)) : zP f σ = some (b, σ1) := by unfold zP; rw [h]
theorem e_truth {g : CC AV} {σ σ1 : List zA} {a : AV} {p : PV} {b : Bool} (h : g σ = some (a, σ1)) (h2 : look a σ1 = some p) (h3 : truthV p = some b) : cTruth g σ = some (b, σ1) := by unfold cTruth; rw [h]; dsimp only; rw [h2]; dsimp only; rw [h3]
theorem e_andT {f g : CC Bool} {σ σ1 : List zA} {r : Option (Bool × List zA)} (h : f σ = some (true, σ1)) (h2 : g σ1 = r) : cAnd f g σ = r := by unfold cAnd; rw [h]; exact h2
theorem e_andF {f g : CC Bool} {σ σ1 : List zA} (h : f σ = some (false, σ1)) : cAnd f g σ = some (false, σ1) := by unfold cAnd; rw [h]
theorem e_orT {f g : CC Bool} {σ σ1 : List zA} (h : f σ = some (true, σ1)) : cOr f g σ = some (true, σ1) := by unfold cOr; rw [h]
theorem e_orF {f g : CC Bool} {σ σ1 : List zA} {r : Option (Bool × List zA)} (h : f σ = some (false, σ1)) (h2 : g σ1 = r) : cOr f g σ = r := by unfold cOr; rw [h]; exact h2
theorem z4 {f : CC PV} {g : CC (List PV)} {σ σ1 σ₂ : List zA} {a : PV} {as : List PV} (h1 : f σ = some (a, σ1)) (h2 : g σ1 = some (as, σ₂)) : zB f g σ = some (a :: as, σ₂) := by unfold zB; rw [h1]; dsimp only; rw [h2]
theorem e_list {f : CC (List PV)} {σ σ1 : List zA} {xs : List PV} (h : f σ = some (xs, σ1)) (hl : xs.length <= 4096) : z5 f σ = some (.list xs, σ1) := by unfold z5; rw [h]; dsimp only; rw [if_pos hl]
theorem e_imm {f : CC PV} {σ σ1 : List zA} {p : PV} (h : f σ = some (p, σ1)) : zX f σ = some (.imm p, σ1) := by unfold zX; rw [h]
theorem e_slice {f : CC PV} {fl fu fs : CC (Option Int)} {σ σ1 σ₂ σ3 σ4 : List zA} {p c : PV} {lo hi st : Option Int} (h1 : f σ = some (p, σ1)) (h2 : fl σ1 = some (lo, σ₂)) (h3 : fu σ₂ = some (hi, σ3)) (h4 : fs σ3 = some (st, σ4)) (h5 : pvSlice p lo hi st = some c) : cSlice f fl fu fs σ = some (c, σ4) := by
 unfold cSlice; rw [h1]; dsimp only; rw [h2]; dsimp only; rw [h3]; dsimp only; rw [h4]; dsimp only; rw [h5]
theorem z9 {T : List Nat} {h : PV -> PV -> Option PV} {g : CC AV} {f : CC PV} {σ σ1 σ₂ : List zA} {p i c : PV} (h1 : g σ = some (.imm p, σ1)) (h2 : f σ1 = some (i, σ₂)) (h3 : h p i = some c) : z3 T h g f σ = some (c, σ₂) := by
 unfold z3; rw [h1]; dsimp only; rw [h2]; dsimp only; rw [h3]
theorem e_methI {T : List Nat} {ty : String} {h : List PV -> Option PV} {g : CC AV} {f : CC (List PV)} {σ σ1 σ₂ : List zA} {p c : PV} {as : List PV} (h1 : g σ = some (.imm p, σ1)) (h2 : f σ1 = some (as, σ₂)) (h3 : pvType p = ty) (h4 : h (p :: as) = some c) (h5 : c.flat = true) : cMeth T ty h g f σ = some (c, σ₂) := by
 unfold cMeth; rw [h1]; dsimp only; rw [h2]; dsimp only [look]; rw [if_pos ⟨h3, rfl⟩, h4]; dsimp only; rw [if_pos h5]
theorem fmod16 (n : Nat) : ((n : Int).fmod 16) = ((n % 16 : Nat) : Int) := by
 rw [Int.fmod_eq_emod_of_nonneg _ (by decide)]; rfl
theorem fdiv16 (n : Nat) : ((n : Int).fdiv 16) = ((n / 16 : Nat) : Int) := by
 rw [Int.fdiv_eq_ediv_of_nonneg _ (by decide)]; rfl
noncomputable def apB : List UInt8 := [65, 66, 67, 68, 69, 70, 71, 72, 73, 74, 75, 76, 77, 78, 79, 80]
theorem ap_slice : ∀ k : Nat, k < 16 -> pvSlice (.bytes apB) (some (k : Int)) (some ((k : Int) + 1)) none = some (.bytes [UInt8.ofNat (65 + k)]) := by
 iterate 16 refine all_ls ?_ rfl
 exact fun k h => absurd h (Nat.not_lt_zero k)
theorem i2a_loop : ∀ (k n : Nat) (val : List UInt8) (m : Option AV), val.length + k <= 4000 -> n < 2 ^ (4 * k) ->
  ∃ m', cWhile (cTruth (zC 0 0)) b_i2a_1 (k + 1) [.frame [some (.imm (.int (n : Int))), some (.imm (.bytes val)), some (.imm (.bytes apB)), m]] =
   some (.next, [.frame [some (.imm (.int 0)), some (.imm (.bytes (hexB k n ++ val))), some (.imm (.bytes apB)), m']])
 | 0, n, val, m, _, hn => by
  have : n = 0 := by omega
  subst this
  exact ⟨m, rfl⟩
 | k + 1, n, val, m, hl, hn => by
  by_cases h0 : n = 0
  ·subst h0; exact ⟨m, rfl⟩
  ·have hd : n / 16 < 2 ^ (4 * k) := by
    rw [Nat.div_lt_iff_lt_mul (by decide)]
    have : 2 ^ (4 * (k + 1)) = 2 ^ (4 * k) * 16 := by rw [show 4 * (k + 1) = 4 * k + 4 by omega, Nat.pow_add]
    omega
   obtain ⟨m', ih⟩ := i2a_loop k (n / 16) (UInt8.ofNat (65 + n % 16) :: val) (some (.imm (.int ((n % 16 : Nat) : Int)))) (by simp; omega) hd
   refine ⟨m', ?_⟩
   have ht : cTruth (zC 0 0) [.frame [some (.imm (.int (n : Int))), some (.imm (.bytes val)), some (.imm (.bytes apB)), m]] = some (true, [.frame [some (.imm (.int (n : Int))), some (.imm (.bytes val)), some (.imm (.bytes apB)), m]]) := by
    show (match truthV (.int (n : Int)) with | some b => some (b, _) | none => none) = _
    have : ((n : Int) != 0) = true := by simp; exact h0
    show some ((n : Int) != 0, _) = _
    rw [this]
   have hb : b_i2a_1 [.frame [some (.imm (.int (n : Int))), some (.imm (.bytes val)), some (.imm (.bytes apB)), m]] =
     some (.next, [.frame [some (.imm (.int ((n / 16 : Nat) : Int))), some (.imm (.bytes (UInt8.ofNat (65 + n % 16) :: val))), some (.imm (.bytes apB)), some (.imm (.int ((n % 16 : Nat) : Int)))]]) := by
    have e1 : hDivmod [.int (n : Int), .int 16] = some (.tup [.int ((n / 16 : Nat) : Int), .int ((n % 16 : Nat) : Int)]) := by
     show (if (0 : Int) < 16 /\ (16 : Int) < 1073741824 then some (PV.tup [.int ((n : Int).fdiv 16), .int ((n : Int).fmod 16)]) else none) = _
     rw [if_pos (by decide), fmod16, fdiv16]
    have e2 := ap_slice (n % 16) (Nat.mod_lt _ (by decide))
    have e3 : hAdd (.bytes [UInt8.ofNat (65 + n % 16)]) (.bytes val) = some (.bytes (UInt8.ofNat (65 + n % 16) :: val)) := by
     show (if _ then _ else _) = _
     rw [if_pos (by simp; omega)]; rfl
    exact zF (e_asg2 (za (as := [.int (n : Int), .int 16]) rfl e1) rfl rfl) (zF (zp (zr (e_slice rfl rfl rfl rfl e2) rfl e3) rfl) rfl)
   rw [cWhile_s]
   rw [ht]
   dsimp only
   rw [hb]
   dsimp only
   rw [ih]
   have : hexB (k + 1) n = hexB k (n / 16) ++ [UInt8.ofNat (65 + n % 16)] := by
    rw [hexB, if_neg h0]
   rw [this, List.append_assoc]; rfl
theorem sp_i2a {n : Nat} (hn : n <= 30) (G : GlB C) (D : FnG C "Int2AP" (zD 7) ["num"]) : zU C n "Int2AP" h_i2a := by
 refine sp_of (X := X_i2a n) (is := []) (pls := [.loc 0]) 4 1 D hn rfl rfl rfl (by kernel_rfl) rfl (ok_i2a hn G) fun as c hc => ?_
 unfold h_i2a at hc
 refine nG fun ng => ?_
 refine iv1i hc ?_; clear hc; intro x zs0 hc; subst zs0
 refine i1 hc ?_; clear hc; intro hx hc
 refine ng ?_
 clear ng
 refine pe hc ?_; clear hc
 have hx' : x.natAbs < 2 ^ (4 * 63) := Nat.lt_of_lt_of_le hx (Nat.pow_le_pow_right (by decide) (by decide))
 refine nG fun ng => ?_
 obtain ⟨m', e⟩ := i2a_loop 63 x.natAbs [] none (by decide) hx'
 rw [List.append_nil] at e
 refine ng ?_
 clear ng
 refine ⟨rfl, _, _, _, rfl, zF (zp rfl rfl) (zF (zp rfl rfl) (zF (zp (za (as := [.int (x.natAbs : Int)]) (z4 (za (as := [.int x]) rfl rfl) rfl) rfl) rfl) (zF e (z6 (e_ret rfl))))), rfl⟩
theorem hexB_lt : ∀ (k n : Nat), ∀ b ∈ hexB k n, b.toNat < 81
 | 0, _, b, h => by cases h
 | k + 1, n, b, h => by
  dsimp only [hexB] at h
  split at h
  ·cases h
  ·rcases List.mem_append.mp h with h | h
   ·exact hexB_lt k _ b h
   ·rw [List.mem_singleton] at h
    subst h
    have : n % 16 < 16 := Nat.mod_lt _ (by decide)
    rw [UInt8.toNat_ofNat']
    have : (65 + n % 16) % 256 = 65 + n % 16 := Nat.mod_eq_of_lt (by omega)
    show (65 + n % 16) % 2 ^ 8 < 81
    omega
theorem hexB_len : ∀ (k n : Nat), (hexB k n).length <= k
 | 0, _ => Nat.le_refl _
 | k + 1, n => by
  dsimp only [hexB]
  split
  ·exact Nat.zero_le _
  ·rw [List.length_append]
   have := hexB_len k (n / 16)
   simp; omega
theorem hexB_hexL : ∀ (k n : Nat), (hexB k n).map (·.toNat) = hexL k n
 | 0, _ => rfl
 | k + 1, n => by
  dsimp only [hexB, hexL]
  split
  ·rfl
  ·rw [List.map_append, hexB_hexL k]
   congr 1
   show [(UInt8.ofNat (65 + n % 16)).toNat] = _
   rw [UInt8.toNat_ofNat']
   have : n % 16 < 16 := Nat.mod_lt _ (by decide)
   rw [show (65 + n % 16) % 2 ^ 8 = 65 + n % 16 from Nat.mod_eq_of_lt (by omega)]
theorem flatten_single (l : List Nat) : (l.map fun c => [c]).flatten = l := by
 induction l with
 | nil => rfl
 | cons a l ih => rw [List.map_cons, List.flatten_cons, ih]; rfl
theorem join_pv (ss : List (List Nat)) (h1 : ss.flatten.length <= 1000000) (h2 : ss.length <= 1000000) : hJoin [.str [], .list (ss.map .str)] = some (.str ss.flatten) := by
 show (match strsOf (ss.map .str) with | some ss' => if ss'.flatten.length <= 1000000 /\ (ss.map PV.str).length <= 1000000 then some (PV.str ss'.flatten) else none | none => none) = _
 rw [strsOf_map]
 dsimp only
 rw [if_pos ⟨h1, by rw [List.length_map]; exact h2⟩]
theorem sp_letters {n : Nat} (hn : n <= 29) (G : GlB C) (S1 : zU C (n + 1) "Int2AP" h_i2a) (D : FnG C "_law_letters" (zD 15) ["number"]) : zU C n "_law_letters" zo := by
 refine sp_of (X := X_letters n) (is := []) (pls := [.loc 0]) 2 2 D (by omega) rfl rfl rfl (by kernel_rfl) rfl (ok_letters (by omega) G S1) fun as c hc => ?_
 unfold zo at hc
 refine nG fun ng => ?_
 refine iv1i hc ?_; clear hc; intro x zs0 hc; subst zs0
 refine i1 hc ?_; clear hc; intro hx hc
 refine ng ?_
 clear ng
 refine pe hc ?_; clear hc
 have e1 : h_i2a [.int x] = some (.bytes (hexB 63 x.natAbs)) := by
  show (if _ then _ else _) = _
  rw [if_pos hx]
 generalize hw : hexB 63 x.natAbs = w at *
 have hwl : w.length <= 63 := hw ▸ hexB_len 63 _
 have hwb : ∀ b ∈ w, b.toNat < 81 := hw ▸ hexB_lt 63 _
 have e2 := comp_eval' (ci := 1) (f := zE (zC 0 1)) (fe := e_letters_1) (fun p => match p with | .int i => .str [i.toNat] | _ => .none) (σ := [.frame [some (.imm (.int x)), some (.imm (.bytes w))], .dead]) rfl rfl (by rw [List.length_map]; omega) (by simp) (fun p hp => by
  obtain ⟨b, hb, rfl⟩ := List.mem_map.mp hp
  refine za (as := [.int (b.toNat : Int)]) rfl ?_
  show (if (0 : Int) <= (b.toNat : Int) /\ (b.toNat : Int) <= 1114111 then _ else _) = _
  rw [if_pos ⟨by omega, by have := hwb b hb; omega⟩])
 have e3 : (w.map fun c => PV.int (c.toNat : Int)).map (fun p => match p with | .int i => PV.str [i.toNat] | _ => .none) = (((w.map (·.toNat)).map fun c => [c])).map PV.str := by
  rw [List.map_map, List.map_map, List.map_map]
  rfl
 rw [e3] at e2
 have e4 := join_pv ((w.map (·.toNat)).map fun c => [c]) (by rw [flatten_single, List.length_map]; omega) (by simp; omega)
 rw [flatten_single] at e4
 have e5 : w.map (·.toNat) = hexL 63 x.natAbs := by rw [<- hw]; exact hexB_hexL 63 _
 refine ⟨rfl, _, _, _, rfl, zF (zp (za (as := [.int x]) rfl e1) rfl) (zF (zv rfl rfl) (z6 (e_ret (e_methI rfl (z4 e2 rfl) rfl e4 rfl)))), ?_⟩
 rw [<- e5]; rfl
theorem number_loop : ∀ (l : List Nat) (acc : Int) (a : Option AV) (s0 : Option AV), ∃ s1, cForL 0 (.loc 2) b_number_1 (l.map fun c => .str [c]) [.frame [a, some (.imm (.int acc)), s0]] =
  some (.next, [.frame [a, some (.imm (.int (l.foldl (fun (n : Int) (c : Nat) => 16 * n + (c : Int) - 65) acc))), s1]])
 | [], acc, a, s0 => ⟨s0, rfl⟩
 | c :: l, acc, a, s0 => by
  obtain ⟨s1, ih⟩ := number_loop l (16 * acc + (c : Int) - 65) a (some (.imm (.str [c])))
  refine ⟨s1, ?_⟩
  have hb : b_number_1 [.frame [a, some (.imm (.int acc)), some (.imm (.str [c]))]] = some (.next, [.frame [a, some (.imm (.int (16 * acc + (c : Int) - 65))), some (.imm (.str [c]))]]) :=
   zF (zp (zr (zr (zr rfl rfl rfl) (za (as := [.str [c]]) rfl rfl) rfl) rfl rfl) rfl) rfl
  rw [List.map_cons]
  dsimp only [cForL]
  show (match b_number_1 [.frame [a, some (.imm (.int acc)), some (.imm (.str [c]))]] with | some (.next, σ₂) => cForL 0 (.loc 2) b_number_1 (l.map fun c => .str [c]) σ₂ | some (.cont, σ₂) => cForL 0 (.loc 2) b_number_1 (l.map fun c => .str [c]) σ₂ | some (.brk, σ₂) => some (.next, σ₂) | some (.ret q, σ₂) => some (.ret q, σ₂) | none => none) = _
  rw [hb]
  exact ih
theorem e_for {fi : Nat} {p : Pl} {f : CC PV} {b : CC Fl} {σ σ1 : List zA} {v : PV} {xs : List PV} {r : Option (Fl × List zA)} (h : f σ = some (v, σ1)) (h2 : items v = some xs) (h3 : cForL fi p b xs σ1 = r) : cFor fi p f b σ = r := by
 unfold cFor; rw [h]; dsimp only; rw [h2]; exact h3
theorem sp_number {n : Nat} (hn : n <= 29) (G : GlB C) (D : FnG C "_law_number" (zD 16) ["word"]) : zU C n "_law_number" h_number := by
 refine sp_of (X := X_number n) (is := []) (pls := [.loc 0]) 3 1 D (by omega) rfl rfl rfl (by kernel_rfl) rfl (ok_number (by omega) G) fun as c hc => ?_
 unfold h_number at hc
 refine nG fun ng => ?_
 split at hc
 ·rename_i l
  refine ng ?_
  clear ng
  refine pe hc ?_; clear hc
  refine nG fun ng => ?_
  obtain ⟨s1, e⟩ := number_loop l 0 (some (.imm (.str l))) none
  refine ng ?_
  clear ng
  exact ⟨rfl, _, _, _, rfl, zF (zp rfl rfl) (zF (e_for rfl rfl e) (z6 (e_ret rfl))), rfl⟩
 ·cases hc
theorem sp_symbol {n : Nat} (hn : n <= 29) (G : GlB C) (S1 : zU C (n + 1) "ISEOF" h_iseof) (D : FnG C "_law_symbol" (zD 19) ["some", "good"]) : zU C n "_law_symbol" h_symbol := by
 refine sp_of (X := X_symbol n) (is := []) (pls := [.loc 0, .loc 1]) 2 1 D (by omega) rfl rfl rfl (by kernel_rfl) rfl (ok_symbol (by omega) G S1) fun as c hc => ?_
 unfold h_symbol at hc
 refine nG fun ng => ?_
 split at hc
 ·rename_i a b
  split at hc
  ·rename_i hab
   have e1 : hAnd (.int a) (.int b) = some (.int ((a.toNat &&& b.toNat : Nat) : Int)) := by
    show (if _ then _ else _) = _
    rw [if_pos hab]
   refine ng ?_
   clear ng
   generalize hm : a.toNat &&& b.toNat = m at *
   have key : ∀ r : Bool, (-(m : Int) == 0) = r -> zP (zM hIs (zO h_iseof (zB (cUn hNeg (zh hAnd (zE (zC 0 0)) (zE (zC 0 1)))) zG)) (zX (cQ (.bool true)))) [.frame [some (.imm (.int a)), some (.imm (.int b))]] =
     some (r, [.frame [some (.imm (.int a)), some (.imm (.int b))]]) := fun r hr => by
    refine z1 (zY (a := .bool r) (za (as := [.int (-(m : Int))]) (z4 (e_un (zr rfl rfl e1) rfl) rfl) ?_) rfl rfl ?_ rfl)
    ·show some (PV.bool (-(m : Int) == 0)) = _
     rw [hr]
    ·show some (PV.bool (r == true)) = _
     cases r <;> rfl
   refine pe hc ?_; clear hc
   by_cases h0 : m = 0
   ·rw [if_pos h0]
    refine ⟨rfl, _, _, _, rfl, z6 (e_ifT (key true (by subst h0; rfl)) (z6 (e_ret rfl))), rfl⟩
   ·rw [if_neg h0]
    refine ⟨rfl, _, _, _, rfl, zF (zv (key false (by simp; exact h0)) rfl) (z6 (e_ret rfl)), rfl⟩
  ·cases hc
 ·cases hc
theorem sp_goes {n : Nat} (hn : n <= 29) (G : GlB C) (S1 : zU C (n + 1) "ISTERMINAL" h_ist) (S2 : zU C (n + 1) "ISNONTERMINAL" h_isn) (D : FnG C "_law_goes" (zD 20) ["symbol"]) : zU C n "_law_goes" h_goes := by
 refine sp_of (X := X_goes n) (is := []) (pls := [.loc 0]) 1 1 D (by omega) rfl rfl rfl (by kernel_rfl) rfl (ok_goes (by omega) G S1 S2) fun as c hc => ?_
 unfold h_goes at hc
 refine nG fun ng => ?_
 refine iv1i hc ?_; clear hc; intro x zs0 hc; subst zs0
 refine ng ?_
 clear ng
 refine pe hc ?_; clear hc
 by_cases hx : 256 <= x
 ·have d1 : decide (x >= 256) = true := decide_eq_true hx
  have d2 : decide (x < 256) = false := decide_eq_false (by omega)
  have t1 : zP (zM hIs (zO h_isn (zB (zE (zC 0 0)) zG)) (zX (cQ (.bool true)))) [.frame [some (.imm (.int x))]] = some (true, [.frame [some (.imm (.int x))]]) :=
   z1 (zY (a := .bool true) (za (as := [.int x]) rfl (by show some (PV.bool (decide (x >= 256))) = _; rw [d1])) rfl rfl rfl rfl)
  have t2 : zP (zM hIs (zO h_ist (zB (zE (zC 0 0)) zG)) (zX (cQ (.bool false)))) [.frame [some (.imm (.int x))]] = some (true, [.frame [some (.imm (.int x))]]) :=
   z1 (zY (a := .bool false) (za (as := [.int x]) rfl (by show some (PV.bool (decide (x < 256))) = _; rw [d2])) rfl rfl rfl rfl)
  rw [if_pos hx]
  refine ⟨rfl, _, _, _, rfl, z6 (e_ifT (e_andT t1 t2) (z6 (e_ret rfl))), rfl⟩
 ·have d1 : decide (x >= 256) = false := decide_eq_false hx
  have d2 : decide (x < 256) = true := decide_eq_true (by omega)
  have t1 : zP (zM hIs (zO h_isn (zB (zE (zC 0 0)) zG)) (zX (cQ (.bool true)))) [.frame [some (.imm (.int x))]] = some (false, [.frame [some (.imm (.int x))]]) :=
   z1 (zY (a := .bool false) (za (as := [.int x]) rfl (by show some (PV.bool (decide (x >= 256))) = _; rw [d1])) rfl rfl rfl rfl)
  have t2 : zP (zM hIs (zO h_isn (zB (zE (zC 0 0)) zG)) (zX (cQ (.bool false)))) [.frame [some (.imm (.int x))]] = some (true, [.frame [some (.imm (.int x))]]) :=
   z1 (zY (a := .bool false) (za (as := [.int x]) rfl (by show some (PV.bool (decide (x >= 256))) = _; rw [d1])) rfl rfl rfl rfl)
  have t3 : zP (zM hIs (zO h_ist (zB (zE (zC 0 0)) zG)) (zX (cQ (.bool true)))) [.frame [some (.imm (.int x))]] = some (true, [.frame [some (.imm (.int x))]]) :=
   z1 (zY (a := .bool true) (za (as := [.int x]) rfl (by show some (PV.bool (decide (x < 256))) = _; rw [d2])) rfl rfl rfl rfl)
  rw [if_neg hx]
  refine ⟨rfl, _, _, _, rfl, zF (zv (e_andF t1) rfl) (z6 (e_ifT (e_andT t2 t3) (z6 (e_ret rfl)))), rfl⟩
theorem e_compS {fi j ci : Nat} {f : CC PV} {fe : CC PV} (g : PV -> PV) {σ σ1 σ3 : List zA} {u : PV} {xs : List PV} (h1 : f σ = some (u, σ1)) (h2 : items u = some xs) (h3 : xs.length <= 4096) (h4 : ci < σ1.length)
  (h : ∀ x ∈ xs, fe ((σ1.map (clr ci)).set ci (.frame [some (.imm x)])) = some (g x, (σ1.map (clr ci)).set ci (.frame [some (.imm x)])))
  (h5 : ∀ v, ∃ w, sLoc fi j (.imm (.list (xs.map g))) ((σ1.map (clr ci)).set ci (.frame [v])) = some w /\ w.set ci .dead = σ3) :
  cCompS fi j (.loc 0) ci 1 [] f zc fe σ = some (.next, σ3) := by
 refine nG fun ng => ?_
 obtain ⟨v1, e⟩ := compL_eval (t := zc) (tt := fun _ => true) xs (σ1.map (clr ci)) none (by simpa using h4) (fun x hx => ⟨rfl, fun _ => h x hx⟩)
 rw [show xs.filter (fun _ => true) = xs from List.filter_eq_self.mpr fun _ _ => rfl] at e
 refine ng ?_
 clear ng
 unfold cCompS
 rw [h1]
 dsimp only
 rw [h2]
 dsimp only
 have h4' : ([ci] : List Nat).all (fun i => decide (i < σ1.length)) = true := by simp [h4]
 rw [if_pos ⟨h3, h4'⟩]
 have e0 : compIn ci 1 [] σ1 = (σ1.map (clr ci)).set ci (.frame [none]) := rfl
 rw [e0, e]
 dsimp only
 rw [List.getElem?_set_self (by simpa using h4)]
 dsimp only
 rw [if_pos (by rw [List.length_map]; exact h3)]
 refine nG fun ng => ?_
 obtain ⟨w, hw, hd⟩ := h5 v1
 refine ng ?_
 clear ng
 rw [hw]
 dsimp only
 rw [hd]
theorem sp_kind {n : Nat} (hn : n <= 28) (G : GlB C) (S1 : zU C (n + 1) "_law_goes" h_goes) (D : FnG C "_law_kind" (zD 21) ["symbol"]) : zU C n "_law_kind" h_kind := by
 refine sp_of (X := X_kind n) (is := []) (pls := [.loc 0]) 2 2 D (by omega) rfl rfl rfl (by kernel_rfl) rfl (ok_kind (by omega) G S1) fun as c hc => ?_
 unfold h_kind at hc
 refine nG fun ng => ?_
 refine iv1i hc ?_; clear hc; intro x zs0 hc; subst zs0
 refine i1 hc ?_; clear hc; intro hx hc
 refine ng ?_
 clear ng
 refine pe hc ?_; clear hc
 have e1 := e_compS (fi := 0) (j := 1) (ci := 1) (fe := e_kind_1) (fun p => match p with | .int i => .int (if 256 <= i then 1 else 0) | _ => .none) (σ := [.frame [some (.imm (.int x)), none], .dead]) (σ1 := [.frame [some (.imm (.int x)), none], .dead]) (u := .list [.int x, .int (511 - x), .int (-x), .int (256 + x)])
  (f := z5 (zB (zE (zC 0 0)) (zB (zh hSub (cQ (.int 511)) (zE (zC 0 0))) (zB (cUn hNeg (zE (zC 0 0))) (zB (zh hAdd (cQ (.int 256)) (zE (zC 0 0))) zG)))))
  (σ3 := [.frame [some (.imm (.int x)), some (.imm (.list [.int (if 256 <= x then 1 else 0), .int (if 256 <= 511 - x then 1 else 0), .int (if 256 <= -x then 1 else 0), .int (if 256 <= 256 + x then 1 else 0)]))], .dead]) rfl rfl (by simp) (by simp)
  (fun p hp => by
   simp only [List.mem_cons, List.not_mem_nil, or_false] at hp
   rcases hp with rfl | rfl | rfl | rfl <;> exact za rfl rfl)
  (fun v => ⟨_, rfl, rfl⟩)
 have g3 : (if 256 <= -x then (1 : Int) else 0) = 0 := if_neg (by omega)
 have g4 : (if 256 <= 256 + x then (1 : Int) else 0) = 1 := if_pos (by omega)
 rw [g3, g4] at e1
 generalize hg1 : (if 256 <= x then (1 : Int) else 0) = g1 at *
 have g2 : (if 256 <= 511 - x then (1 : Int) else 0) = 1 - g1 := by
  subst hg1
  split <;> split <;> omega
 rw [g2] at e1
 refine ⟨rfl, _, _, _, rfl, zF e1 (z6 (e_ret (e_ifT (z1 (zY (e_slice rfl rfl rfl rfl rfl) rfl rfl ?_ rfl)) rfl))), rfl⟩
 have hp : pick [PV.int g1, PV.int (1 - g1), PV.int 0, PV.int 1] (some 1) none none = [PV.int (1 - g1), PV.int 0, PV.int 1] := by
  have hi : idxs (some 1) none none 4 = [1, 2, 3] := by decide +kernel
  show (idxs (some 1) none none 4).filterMap _ = _
  rw [hi]; rfl
 rw [hp]
 show some (PV.bool ((1 - g1 == 1 - g1) && ((0 : Int) == 0 && ((1 : Int) == 1 && true)))) = some (PV.bool true)
 simp
end
section
variable {C : Cx} {X : zj}
theorem flatten_map (w : List Nat) (g : Nat -> List Nat) : (w.map g).flatten = w.flatMap g := by
 induction w with
 | nil => rfl
 | cons a w ih => simp [List.flatMap_cons, ih]
theorem flatMap_len (w : List Nat) (g : Nat -> List Nat) (hg : ∀ c, (g c).length <= 2) : (w.flatMap g).length <= 2 * w.length := by
 induction w with
 | nil => simp
 | cons a w ih => have := hg a; simp [List.flatMap_cons] at *; omega
theorem e_joinW {T : List Nat} {ci : Nat} {fe : CC PV} {f : CC PV} (g : Nat -> List Nat) {w : List Nat} {σ : List zA} (hf : f σ = some (.str w, σ)) (hl : w.length <= 4000) (hc : ci < σ.length) (hg : ∀ c, (g c).length <= 2)
  (h : ∀ c ∈ w, fe ((σ.map (clr ci)).set ci (.frame [some (.imm (.str [c]))])) = some (.str (g c), (σ.map (clr ci)).set ci (.frame [some (.imm (.str [c]))]))) :
  cMeth T "str" hJoin (zX (cQ (.str []))) (zB (zy (.loc 0) ci 1 [] f zc fe) zG) σ = some (.str (w.flatMap g), (σ.map (clr ci)).set ci .dead) := by
 have e1 := comp_eval' (ci := ci) (f := f) (fe := fe) (fun p => match p with | .str [c] => .str (g c) | _ => .none) hf rfl (by rw [List.length_map]; omega) hc (fun p hp => by
  obtain ⟨c, hcw, rfl⟩ := List.mem_map.mp hp
  exact h c hcw)
 have e3 : (w.map fun c => PV.str [c]).map (fun p => match p with | .str [c] => PV.str (g c) | _ => .none) = (w.map g).map PV.str := by
  rw [List.map_map, List.map_map]
  rfl
 rw [e3] at e1
 have hlen := flatMap_len w g hg
 have e4 := join_pv (w.map g) (by rw [flatten_map]; omega) (by rw [List.length_map]; omega)
 rw [flatten_map] at e4
 exact e_methI rfl (z4 e1 rfl) rfl e4 rfl
theorem add_str {a b : List Nat} (h : a.length + b.length <= 16777216) : hAdd (.str a) (.str b) = some (.str (a ++ b)) := by
 show (if _ then _ else _) = _
 rw [if_pos h]
theorem t_eqI {fi j : Nat} {vs : List (Option AV)} {σ : List zA} {x k : Int} (h0 : σ[fi]? = some (.frame vs)) (h1 : vs[j]? = some (some (.imm (.int x)))) : zP (zM hEq (zE (zC fi j)) (zX (cQ (.int k)))) σ = some (x == k, σ) := by
 have e : zE (zC fi j) σ = some (.int x, σ) := by unfold zE zC; rw [h0]; dsimp only; rw [h1]; rfl
 exact z1 (zY e rfl rfl rfl rfl)
theorem sp_written {n : Nat} (hn : n <= 29) (G : GlB C) (D : FnG C "_law_written" (zD 17) ["word", "way"]) : zU C n "_law_written" h_written := by
 refine sp_of (X := X_written n) (is := []) (pls := [.loc 0, .loc 1]) 3 4 D (by omega) rfl rfl rfl (by kernel_rfl) rfl (ok_written (by omega) G) fun as c hc => ?_
 unfold h_written at hc
 refine nG fun ng => ?_
 split at hc
 ·rename_i w way
  split at hc
  ·rename_i hw
   obtain ⟨hl, hs⟩ := hw
   refine ng ?_
   clear ng
   refine pe hc ?_; clear hc
   generalize hσ : [zA.frame [some (.imm (.str w)), some (.imm (.int way)), none], .dead, .dead, .dead] = σ
   have hb : bindS 0 [.loc 0, .loc 1] [.str w, .int way] (compIn 0 3 [] (List.replicate 4 zA.dead)) = some σ := by subst hσ; rfl
   have tw : ∀ k, zP (zM hEq (zE (zC 0 1)) (zX (cQ (.int k)))) σ = some (way == k, σ) := fun k => by subst hσ; exact t_eqI rfl rfl
   have te : zP (zM hEq (zE (zC 0 0)) (zX (cQ (.str [])))) σ = some (w == [], σ) := by
    subst hσ
    refine z1 (zY (a := .str w) rfl rfl rfl ?_ rfl)
    show (if (w.all (· < 1114112) && true) = true then some (PV.bool (w == [])) else none) = _
    rw [hs]; rfl
   have hln : ∀ g : Nat -> List Nat, (∀ c, (g c).length <= 2) -> (w.flatMap g).length <= 8000 := fun g hg => Nat.le_trans (flatMap_len w g hg) (by omega)
   by_cases h1 : way = 1 \/ w = []
   ·have e1 : zu w way = [34] ++ (w.flatMap fun c => if c ∈ [34, 92, 65, 66, 67, 68] then [92, c] else [c]) ++ [34] := by
     unfold zu; rw [if_pos h1]; rfl
    rw [e1]
    have t1 : cOr (zP (zM hEq (zE (zC 0 1)) (zX (cQ (.int 1))))) (zP (zM hEq (zE (zC 0 0)) (zX (cQ (.str []))))) σ = some (true, σ) := by
     by_cases h2 : way = 1
     ·exact e_orT (by rw [tw, h2]; rfl)
     ·rcases h1 with h1 | h1
      ·exact absurd h1 h2
      ·refine e_orF (by rw [tw, show (way == 1) = false by simpa using h2]) (by rw [te, h1]; rfl)
    have hg : ∀ c : Nat, (if c ∈ [34, 92, 65, 66, 67, 68] then [92, c] else [c]).length <= 2 := fun c => by split <;> simp
    have e2 := e_joinW (T := [1, 2, 3]) (ci := 1) (fe := e_written_3) (f := zE (zC 0 0)) (fun c => if c ∈ [34, 92, 65, 66, 67, 68] then [92, c] else [c]) (w := w) (σ := σ) (by subst hσ; rfl) hl (by subst hσ; simp) hg (fun c hc => by
     subst hσ
     by_cases hm : c ∈ [34, 92, 65, 66, 67, 68]
     ·rw [if_pos hm]
      exact e_ifT (z1 (zY rfl rfl rfl (by show some (PV.bool (decide (c ∈ [34, 92, 65, 66, 67, 68]))) = _; rw [decide_eq_true hm]) rfl)) (zr rfl rfl rfl)
     ·rw [if_neg hm]
      exact zv (z1 (zY rfl rfl rfl (by show some (PV.bool (decide (c ∈ [34, 92, 65, 66, 67, 68]))) = _; rw [decide_eq_false hm]) rfl)) rfl)
    have hlen := hln _ hg
    exact ⟨rfl, σ, _, _, hb, z6 (e_ifT t1 (z6 (e_ret (zr (zr rfl e2 (add_str (by simp only [List.length_cons, List.length_nil]; omega))) rfl (add_str (by simp only [List.length_append, List.length_cons, List.length_nil]; omega)))))), rfl⟩
   ·have h2 : ¬ way = 1 := fun q => h1 (.inl q)
    have h3 : ¬ w = [] := fun q => h1 (.inr q)
    have t1 : cOr (zP (zM hEq (zE (zC 0 1)) (zX (cQ (.int 1))))) (zP (zM hEq (zE (zC 0 0)) (zX (cQ (.str []))))) σ = some (false, σ) :=
     e_orF (by rw [tw, show (way == 1) = false by simpa using h2]) (by rw [te, show (w == []) = false by simpa using h3])
    by_cases h0 : way = 0
    ·have e1 : zu w way = (w.flatMap fun c => [92, c]) ++ [10] := by
      unfold zu; rw [if_neg h1, if_pos h0]
     rw [e1]
     have e2 := e_joinW (T := [1, 2, 3]) (ci := 2) (fe := e_written_2) (f := zE (zC 0 0)) (fun c => [92, c]) (w := w) (σ := σ) (by subst hσ; rfl) hl (by subst hσ; simp) (fun _ => Nat.le_refl _) (fun c hc => by
      subst hσ
      exact zr rfl rfl rfl)
     have hlen := hln (fun c => [92, c]) (fun _ => Nat.le_refl _)
     exact ⟨rfl, σ, _, _, hb, zF (zv t1 rfl) (z6 (e_ifT (by rw [tw, h0]; rfl) (z6 (e_ret (zr e2 rfl (add_str (by simp only [List.length_cons, List.length_nil]; omega))))))), rfl⟩
    ·have e1 : zu w way = [9, 13] ++ (if w.head? = some 34 then [92] else []) ++ (w.flatMap fun c => if c ∈ [32, 10, 92] then [92, c] else [c]) ++ [32] := by
      unfold zu; rw [if_neg h1, if_neg h0]; rfl
     rw [e1]
     have t2 : zP (zM hEq (zE (zC 0 1)) (zX (cQ (.int 0)))) σ = some (false, σ) := by rw [tw, show (way == 0) = false by simpa using h0]
     generalize hhd : (if w.head? = some 34 then [92] else ([] : List Nat)) = hd
     have e3 : cIf (zP (zM hEq (z3 [1, 2, 3] zH (zC 0 0) (cQ (.int 0))) (zX (cQ (.str [34]))))) (cQ (.str [92])) (cQ (.str [])) σ = some (.str hd, σ) := by
      cases w with
      | nil => exact absurd rfl h3
      | cons a w =>
       have hsub : z3 [1, 2, 3] zH (zC 0 0) (cQ (.int 0)) σ = some (.str [a], σ) := by subst hσ; exact z9 rfl rfl rfl
       have ha : decide (a < 1114112) = true := by
        have := List.all_eq_true.mp hs a List.mem_cons_self
        exact this
       have hcmp : hEq (.str [a]) (.str [34]) = some (.bool ([a] == [34])) := by
        show (if ((decide (a < 1114112) && true) && true) = true then some (PV.bool ([a] == [34])) else none) = _
        rw [ha]; rfl
       by_cases hq : a = 34
       ·subst hq
        have : hd = [92] := by rw [<- hhd]; rfl
        rw [this]
        exact e_ifT (z1 (zY hsub rfl rfl hcmp rfl)) rfl
       ·have : hd = [] := by rw [<- hhd, if_neg (by simpa using hq)]
        rw [this]
        have hf : ([a] == [34]) = false := by simpa using hq
        rw [hf] at hcmp
        exact zv (z1 (zY hsub rfl rfl hcmp rfl)) rfl
     generalize hσ2 : [zA.frame [some (.imm (.str w)), some (.imm (.int way)), some (.imm (.str hd))], .dead, .dead, .dead] = σ2
     have e4 : zl 0 (.loc 2) (cIf (zP (zM hEq (z3 [1, 2, 3] zH (zC 0 0) (cQ (.int 0))) (zX (cQ (.str [34]))))) (cQ (.str [92])) (cQ (.str []))) σ = some (.next, σ2) := zp e3 (by subst hσ hσ2; rfl)
     have hg : ∀ c : Nat, (if c ∈ [32, 10, 92] then [92, c] else [c]).length <= 2 := fun c => by split <;> simp
     have e2 := e_joinW (T := [1, 2, 3]) (ci := 3) (fe := e_written_1) (f := zE (zC 0 0)) (fun c => if c ∈ [32, 10, 92] then [92, c] else [c]) (w := w) (σ := σ2) (by subst hσ2; rfl) hl (by subst hσ2; simp) hg (fun c hc => by
      subst hσ2
      by_cases hm : c ∈ [32, 10, 92]
      ·rw [if_pos hm]
       exact e_ifT (z1 (zY rfl rfl rfl (by show some (PV.bool (decide (c ∈ [32, 10, 92]))) = _; rw [decide_eq_true hm]) rfl)) (zr rfl rfl rfl)
      ·rw [if_neg hm]
       exact zv (z1 (zY rfl rfl rfl (by show some (PV.bool (decide (c ∈ [32, 10, 92]))) = _; rw [decide_eq_false hm]) rfl)) rfl)
     have hlen := hln _ hg
     have hhl : hd.length <= 1 := by rw [<- hhd]; split <;> simp
     have hd1 : zE (zC 0 2) σ2 = some (.str hd, σ2) := by subst hσ2; rfl
     exact ⟨rfl, σ, _, _, hb, zF (zv t1 rfl) (zF (zv t2 rfl) (zF e4 (z6 (e_ret (zr (zr (zr rfl hd1 (add_str (by simp only [List.length_cons, List.length_nil]; omega))) e2 (add_str (by simp only [List.length_append, List.length_cons, List.length_nil]; omega))) rfl (add_str (by simp only [List.length_append, List.length_cons, List.length_nil]; omega))))))), rfl⟩
  ·cases hc
 ·cases hc
end
section
variable {C : Cx} {X : zj}
section
variable {prog : Program} {w : World} {A : Around} {R : GenEnd} {Y : Protocol} {n : Nat} {s₀ : Shared} {c : Code} {fs : List Frame} {s : Shared} {env : Env}
 {K : Flow -> Sem Fin} {H : Value -> Sem Fin} {gd : Bool -> Bool} {lv : List Value -> List Value}
noncomputable abbrev noExc : Value -> Shared -> Prop := fun _ _ => False
theorem seg_wrap0 {α : Type} {m : Sem α} {K : α -> Sem Fin} {H : Value -> Sem Fin} {gd : Bool -> Bool} {lv : List Value -> List Value} (h : wpAny (model prog w) (A.over c fs) m (fun a s' => Seg (model prog w) A R Y n s₀ c (K a) fs s') noExc s) :
  Seg (model prog w) A R Y n s₀ c (m.wrap K H gd lv) fs s := seg_wrap (wpAny_mono h (fun _ _ x => x) fun _ _ x => x.elim)
theorem seg_bindW {α β : Type} {m : Sem α} {f : α -> Sem β} {K : β -> Sem Fin} {H : Value -> Sem Fin} {gd : Bool -> Bool} {lv : List Value -> List Value}
  (h : wpAny (model prog w) (A.over c fs) m (fun a s' => Seg (model prog w) A R Y n s₀ c ((f a).wrap K H gd lv) fs s') noExc s) : Seg (model prog w) A R Y n s₀ c ((m >>= f).wrap K H gd lv) fs s := by
 rw [Sem.bind_eq_wrap', Sem.wrap_wrap]
 exact seg_wrap0 h
theorem seg_If {t : Expr} {b o : List Stmt} {pos : Pos}
  (h : wpAny (model prog w) (A.over c fs) (isTrue t env (eval t env)) (fun r s' => Seg (model prog w) A R Y n s₀ c ((if r = true then execs b env else execs o env).wrap K H gd lv) fs s') noExc s) :
  Seg (model prog w) A R Y n s₀ c ((exec (.If t b o pos) env).wrap K H gd lv) fs s := by
 rw [arm_exec_If]
 refine seg_bindW (wpAny_standAt ?_)
 refine seg_bindW (wpAny_mono h (fun r s' hr => ?_) fun _ _ x => x)
 cases r <;> exact hr
theorem seg_forLoop {target : Expr} {it : Value} {body : List Stmt}
  (h : wpAny (model prog w) (A.over (.forLoop target it body [] env) fs) (pyNext it) (fun r s₁ => match r with
   | none => Seg (model prog w) A R Y n s₀ (.forLoop target it body [] env) (.pure (.again (.block [] env))) fs s₁
   | some v => wpAny (model prog w) (A.over (.forLoop target it body [] env) fs) (assign target env v) (fun _ s₂ =>
     ∀ (Kc : Flow -> Sem Fin) (Hc : Value -> Sem Fin), (∀ f, Kc f = match f with
      | .next | .cont => .pure (.again (.forLoop target it body [] env))
      | .brk => .pure (.done .next)
      | .ret v => .pure (.done (.ret v))) -> Seg (model prog w) A R Y n s₀ (.forLoop target it body [] env) ((execs body env).wrap Kc Hc id id) fs s₂) noExc s₁) noExc s)
  (ht : ∀ v, letOwnedTupleGo target it v = pure ()) :
  Seg (model prog w) A R Y n s₀ (.forLoop target it body [] env) ((model prog w).den (.forLoop target it body [] env)) fs s := by
 show Seg _ A R Y n s₀ _ ((forTurn target it body [] env).onRaise (fun x => do noteFrame x env; theTreesLotGoes x)) fs s
 unfold forTurn
 rw [Sem.onRaise_eq_wrap]
 refine seg_bindW (wpAny_standAt (seg_bindW (wpAny_onRaise (wpAny_mono h (fun r s₁ h₁ => ?_) fun _ _ x => x.elim))))
 cases r with
 | none => exact h₁
 | some v =>
  dsimp only
  rw [ht v]
  refine seg_bindW (wpAny_pure (seg_bindW (wpAny_mono h₁ (fun _ s₂ h₂ => ?_) fun _ _ x => x)))
  rw [Sem.bind_eq_wrap', Sem.wrap_wrap]
  exact h₂ _ _ fun f => by cases f <;> rfl
theorem seg_For {target iter : Expr} {body : List Stmt} {pos : Pos}
  (h : wpAny (model prog w) (A.over c fs) (eval iter env) (fun x s₁ => wpAny (model prog w) (A.over c fs) (pyIter x) (fun it s₂ => ∀ p,
   Seg (model prog w) A R Y n s₀ (.forLoop target it body [] env) ((model prog w).den (.forLoop target it body [] env))
    (.ret (fun r => ((match r with | .ok f => (.pure f : Sem Flow) | .error e => .raise e).onRaise fun (x : Value) => do
     if (<- field x 1) == Value.none then unsupported "frame.own-activation:exception-without-traceback"
     setFlight x env.frame).wrap K H gd lv) none (gd false) (lv []) c p [] :: fs) s₂) noExc s₁) noExc s)
  (hs : ∀ v, foldedSetIterable iter env v = pure v) :
  Seg (model prog w) A R Y n s₀ c ((exec (.For target iter body [] pos) env).wrap K H gd lv) fs s := by
 rw [exec_For]
 refine seg_bindW (wpAny_standAt (seg_bindW (wpAny_mono h (fun x s₁ h₁ => ?_) fun _ _ x => x)))
 refine seg_bindW (wpAny_of_eq (hs x) ?_)
 refine seg_bindW (wpAny_standAt ?_)
 refine seg_bindW (wpAny_holding (wpAny_mono h₁ (fun it s₂ h₂ => ?_) fun _ _ x => x))
 exact seg_call h₂
theorem seg_block {r : Result -> Sem Fin} {hh : Option Value} {g : Bool} {l kp : List Value} {c₁ : Code} {p₁ : Pos} {c' : Code}
  (h : Seg (model prog w) A R Y n s₀ c₁ (r (.ok .next)) fs s) :
  Seg (model prog w) A R Y n s₀ c' (.pure (.again (.block [] env))) (.ret r hh g l c₁ p₁ kp :: fs) s := by
 refine seg_again rfl ?_
 show Seg _ A R Y n s₀ _ (.pure (.done .next)) _ s
 exact seg_leaf (.ok .next) h
end
theorem seg_st {A : Around} {R : GenEnd} {Y : Protocol} {n : Nat} {s₀ : Shared} {c : Code} {fs : List Frame} {s : Shared} {env : Env} {K : Flow -> Sem Fin} {H : Value -> Sem Fin} {gd : Bool -> Bool} {lv : List Value -> List Value} {F P : PH} {ρ : Nat -> Addr} {σ σ' : List zA} {st : Stmt} {f : CC Fl} {v : Fl}
  (h : StOK C X st f) (hA : AL X.n (A.over c fs)) (E : zZ X ρ env) (I : zb C X.N F P ρ σ s.heap) (hf : f σ = some (v, σ'))
  (hk : ∀ fl s' F' ρ', Sx C X F P ρ s F' ρ' σ' s' -> FlRep F' v fl -> Seg C.M A R Y n s₀ c (K fl) fs s') : Seg C.M A R Y n s₀ c ((exec st env).wrap K H gd lv) fs s :=
 seg_wrap0 (wpAny_mono (h (A.over c fs) env F P ρ σ s v σ' hA E I hf) (fun fl s' ⟨F', ρ', n, r⟩ => hk fl s' F' ρ' n r) fun _ _ x => x)
end
section
variable {C : Cx} {X : zj}
theorem st_ret0 {pos : Pos} : StOK C X (.Return none pos) (cRet (cQ .none)) := by
 intro A env F P ρ σ s v σ' hA E I hf
 refine pf hf ?_; clear hf
 exact wpAny_Return_none ⟨F, ρ, .refl I, .none, rfl, .none⟩
noncomputable def cVoid : CC Fl := fun _ => none
theorem ss_void {b : List Stmt} : zi C X b cVoid := by
 intro A env F P ρ σ s v σ' hA E I hf
 refine nG fun ng => ?_
 cases hf
noncomputable def hIsN : PV -> PV -> Option PV
 | .none, .none => some (.bool true)
 | _, .none => some (.bool false)
 | _, _ => none
theorem op_isN {n : Nat} : Op2 C n (compareOp .Is) hIsN := by
 intro A F s a V b W c hA hF hP ra rb h
 unfold hIsN at h
 refine nG fun ng => ?_
 split at h
 ·cases h; cases ra; cases rb
  refine ng ?_
  clear ng
  exact PySem.is_none (PR.bool hF)
 ·rename_i hne
  cases h; cases rb
  refine ng ?_
  clear ng
  refine PySem.is_none ?_
  have e : (V == Value.none) = false := by
   cases ra <;> first | exact absurd rfl hne | rfl
  rw [e]
  exact PR.bool hF
 ·cases h
noncomputable abbrev X_gi (n : Nat) : zj := { n := n, fi := 0, N := fun | 0 => ["grouping", "last_interval", "interval"] | _ => [], cells := [], scope := zQ (zD 10), tmp := [], own := [] }
noncomputable abbrev f_giB0 : CC Fl := cIf (zP (zM hEq (zE (zC 0 2)) (zX (cQ (.int 127))))) (zJ (cRet (cQ .none)) (zL .next)) (zL .next)
noncomputable abbrev f_giT : CC Bool := zP (zM hEq (zE (zC 0 2)) (zX (cQ (.int 0))))
noncomputable abbrev f_giB1 : CC Fl := cIf (zP (zM hIsN (zE (zC 0 1)) (zX (cQ .none)))) cVoid (zL .next)
noncomputable abbrev f_giB3 : CC Fl := zl 0 (.loc 1) (zE (zC 0 2))
structure GiOK (C : Cx) (B0 : Stmt) (t1 : Expr) (B1 : Stmt) (wt ye ye2 : Expr) (B3 : Stmt) : Prop where
 b0 : ∀ n, n <= 36 -> StOK C (X_gi n) B0 f_giB0
 t1 : ∀ n, n <= 36 -> TsOK C (X_gi n) t1 f_giT
 b1 : ∀ n, n <= 36 -> StOK C (X_gi n) B1 f_giB1
 wt : ∀ n, n <= 36 -> TsOK C (X_gi n) wt (cTruth (zX (cQ (.bool true))))
 ye : ∀ n, n <= 36 -> EvP C (X_gi n) ye (zE (zC 0 1))
 ye2 : ∀ n, n <= 36 -> EvP C (X_gi n) ye2 (zE (zC 0 2))
 b3 : ∀ n, n <= 36 -> StOK C (X_gi n) B3 f_giB3
inductive GiShape (C : Cx) : Prop where
 | mk (q1 q2 q3 q4 tp B0 t1 B1 wt ye yp yp' wp ip ye2 yp2 yp2' B3 fp) (h : zN (zD 10) = [.Assign [.Name "last_interval" q1] (.Constant .none 0 q2) q3, .For (.Name "interval" tp) (.Name "grouping" q4) [B0, .If t1 [B1, .While wt [.Expr (.Yield (some ye) yp) yp'] [] wp] [] ip, .Expr (.Yield (some ye2) yp2) yp2', B3] [] fp]) (g : GiOK C B0 t1 B1 wt ye ye2 B3) : GiShape C
theorem gi_shape (hcm : ∃ t, C.mg "CHAR_MAX" = some (.int 127 t)) : GiShape C := by
 refine ⟨_, _, _, _, _, _, _, _, _, _, _, _, _, _, _, _, _, _, _, rfl, ?_⟩
 constructor <;>
 ·intro n hn
  repeat' first
  | with_reducible first
   | exact zd
   | refine zT ?_ ?_
   | refine st_if ?_ ?_ ?_
   | exact st_ret0
   | exact ss_void
   | refine st_asgA ?_ (by kernel_rfl) (by kernel_rfl)
   | refine z8 (by kernel_rfl) (by kernel_rfl)
   | refine yC ?_
   | refine ts_cmp (op_eq (by first | (change _ + 1 <= 40; omega) | (exact Nat.le_trans (by assumption) (by decide : 36 <= 40)) | omega)) ?_ ?_ (by kernel_rfl)
   | refine ts_cmp op_isN ?_ ?_ (by kernel_rfl)
   | refine ts_val ?_ (by intro _ _; with_unfolding_all rfl)
   | exact evp_int
   | exact evp_none
   | exact evp_bool
   | refine evp ?_
   | refine evp_globI (GlB.nt (by assumption)) (by kernel_rfl) (by kernel_rfl)
   | refine evp_globI (GlB.em (by assumption)) (by kernel_rfl) (by kernel_rfl)
   | refine evp_globI (by assumption) (by kernel_rfl) (by kernel_rfl)
end
section
variable {C : Cx} {X : zj}
noncomputable def giY : Nat -> Option Int -> List Int -> List Int
 | 0, _, _ => []
 | _ + 1, _, [] => []
 | k + 1, last, i :: rest => if i = 127 then [] else if i = 0 then (match last with | some l => List.replicate (k + 1) l | none => []) else i :: giY k (some i) rest
noncomputable def okF : Frame -> Prop
 | .ret _ h _ _ c _ _ => h = none /\ c.weight <= 1 /\ c.cUnits <= 3
 | .gen .. => False
theorem al_over {n : Nat} {A : Around} (x : AL n A) {c : Code} {fs : List Frame} (hf : ∀ f ∈ fs, okF f) (hl : fs.length <= 3) (hw : c.weight <= 1) (hu : c.cUnits <= 3) : AL (n + 1) (A.over c fs) := by
 have key : ∀ fs : List Frame, (∀ f ∈ fs, okF f) -> marksOver fs (A.handled, A.handled) = (none, none) /\ frameCount (fs.map Frame.where_) <= fs.length /\ PySem.unitsOf (fs.map Frame.where_) <= 3 * fs.length := by
  intro fs
  induction fs with
  | nil => intro _; exact ⟨by show (A.handled, A.handled) = _; rw [x.handled], Nat.le_refl _, Nat.le_refl _⟩
  | cons f fs ih =>
   intro h
   obtain ⟨h1, h2, h3⟩ := ih fun g hg => h g (List.mem_cons_of_mem _ hg)
   have hf := h f List.mem_cons_self
   cases f with
   | gen => exact hf.elim
   | ret k hh g l c p kp =>
    obtain ⟨rfl, hw, hu⟩ := hf
    refine ⟨?_, ?_, ?_⟩
    ·rw [marksOver_cons, h1]; rfl
    ·rw [List.map_cons]
     show frameCount ((c, p) :: fs.map Frame.where_) <= fs.length + 1
     rw [frameCount_cons]; omega
    ·rw [List.map_cons]
     show PySem.unitsOf ((c, p) :: fs.map Frame.where_) <= 3 * (fs.length + 1)
     rw [unitsOf_cons]; omega
 refine nG fun ng => ?_
 obtain ⟨h1, h2, h3⟩ := key fs hf
 refine ng ?_
 clear ng
 refine ⟨?_, ?_, ?_⟩
 ·show (marksOver fs (A.handled, A.handled)).1 = none
  rw [h1]
 ·show A.depth + frameCount (fs.map Frame.where_) + c.weight <= _
  have := x.depth; omega
 ·show A.units + PySem.unitsOf (fs.map Frame.where_) + c.cUnits <= _
  have := x.units; omega
noncomputable def giP (L I : Addr) (h : Heap) : PH := fun a => if a = L \/ a = I then none else h.get? a
noncomputable def Keeps2 (L I : Addr) (h h' : Heap) : Prop := ∀ b o, b ≠ L -> b ≠ I -> h.get? b = some o -> h'.get? b = some o
noncomputable abbrev giN : Nat -> List Str := (X_gi 0).N
structure GiSt (C : Cx) (F0 : PH) (L I : Addr) (oI : Obj) (s₀ s : Shared) (vals : List (Option AV)) (rest : List Int) : Prop where
 inv : zb C giN F0 ((giP L I s₀.heap).add I oI) (fun _ => L) [.frame vals] s.heap
 top : PH.le C.P0 (giP L I s₀.heap)
 itr : Itr C F0 C.P0 (rest.map .int) I s.heap
 gx : GX s₀ s
 fi : F0 I = none
 pi : C.P0 I = none
 ne : I ≠ L
noncomputable def lastV : Option Int -> PV
 | some i => .int i
 | none => .none
theorem inv_flat {N : Nat -> List Str} {F0 F' P : PH} {ρ : Nat -> Addr} {vals vals' : List (Option AV)} {h : Heap} (I : zb C N F' P ρ [.frame vals] h) (le : PH.le F0 F')
  (hv : ∀ (k : Nat) (v : AV), vals'[k]? = some (some v) -> vals[k]? = some (some v) /\ ∃ p, v = .imm p /\ p.flat = true) : zb C N F0 P ρ [.frame vals'] h := by
 have one : ∀ (vs : List (Option AV)) (i : Nat) (o : zA), [zA.frame vs][i]? = some o -> i = 0 /\ o = .frame vs := fun vs i o e => by
  cases i with
  | zero => cases e; exact ⟨rfl, rfl⟩
  | succ i => simp at e
 refine ⟨le.trans I.f, I.p, I.top, fun i o e => ?_, fun i o e l => ?_, fun i j o o' e e' _ _ _ => ?_⟩
 ·refine nG fun ng => ?_
  obtain ⟨rfl, rfl⟩ := one _ _ _ e
  obtain ⟨m, hn, hd, hm⟩ := I.ob 0 (.frame vals) rfl
  refine ng ?_
  clear ng
  refine ⟨m, hn, hd, fun k x v h1 h2 => ?_⟩
  refine nG fun ng => ?_
  obtain ⟨h3, p, rfl, hp⟩ := hv k v h2
  obtain ⟨V, h4, h5⟩ := hm k x _ h1 h3
  refine ng ?_
  clear ng
  exact ⟨V, h4, Rep.ofFlat h5 hp⟩
 ·refine nG fun ng => ?_
  obtain ⟨rfl, rfl⟩ := one _ _ _ e
  have := I.fr 0 (.frame vals) rfl rfl
  refine ng ?_
  clear ng
  refine ⟨?_, this.2⟩
  cases q : F0 (ρ 0) with
  | none => rfl
  | some o' => rw [le _ _ q] at this; cases this.1
 ·rw [(one _ _ _ e).1, (one _ _ _ e').1]
noncomputable def KeepsB (L : Addr) (Hz : Heap) (h h' : Heap) : Prop := ∀ b o, Alive Hz b -> b ≠ L -> h.get? b = some o -> h'.get? b = some o
theorem Keeps2.b {L I : Addr} {Hz : Heap} {h h' : Heap} (x : Keeps2 L I h h') (hS : Hz.get? I = none) : KeepsB L Hz h h' := fun b o h1 h2 e => x b o h2 (fun q => by obtain ⟨o', ho'⟩ := h1; rw [q, hS] at ho'; cases ho') e
inductive giYp (C : Cx) (F0 : PH) (L : Addr) (Sz : Heap) (ys : List Int) (N : Nat) (m : Nat) (s₀ : Shared) (v : Value) (s' : Shared) (kap : Resume -> Shared -> Prop) : Prop where
 | mk (I : Addr) (h1 : Sz.get? I = none) (h2 : (∃ x, ys[N - 1 - m]? = some x /\ ∃ t, v = .int x t)) (h3 : KeepsB L Sz s₀.heap s'.heap) (h4 : GX s₀ s') (h5 : Alive s'.heap L) (h6 : Alive s'.heap I) (h7 : L ≠ I) (h8 : (m = 0 \/ ∀ s'' : Shared, s''.heap.get? L = s'.heap.get? L -> s''.heap.get? I = s'.heap.get? I -> PH.le F0 s''.heap.get? -> PH.le C.P0 s''.heap.get? -> kap (.send .none) s'')) : giYp C F0 L Sz ys N m s₀ v s' kap
noncomputable def giE (L : Addr) (Sz : Heap) (ys : List Int) (N : Nat) (n : Nat) (s₀ s₁ : Shared) : Prop := ys.length <= N - n /\ KeepsB L Sz s₀.heap s₁.heap /\ GX s₀ s₁
noncomputable abbrev giR (L : Addr) (Sz : Heap) (ys : List Int) (N : Nat) : GenEnd := fun n s₀ r s₁ => r = .ok (.ret .none) /\ giE L Sz ys N n s₀ s₁
theorem giP_I (L I : Addr) (h : Heap) : giP L I h I = none := if_pos (.inr rfl)
theorem giP_keeps {L I : Addr} {oI : Obj} {h h' : Heap} (p : PH.le ((giP L I h).add I oI) h'.get?) : Keeps2 L I h h' := fun b o h1 h2 e => p b o (by rw [PH.add_off _ _ h2]; unfold giP; rw [if_neg (fun q => q.elim h1 h2)]; exact e)
theorem env_n {a b : Nat} {ρ : Nat -> Addr} {env : Env} (E : zZ (X_gi a) ρ env) : zZ (X_gi b) ρ env := ⟨E.scope, E.kind, E.loc, E.glob, E.blt, E.cells, E.fit, E.fio, E.cit, E.cio, E.pin⟩
theorem Sx.rho0 {n : Nat} {F P : PH} {ρ : Nat -> Addr} {s : Shared} {F' : PH} {ρ' : Nat -> Addr} {σ' : List zA} {s' : Shared} (x : Sx C (X_gi n) F P ρ s F' ρ' σ' s') : ρ' = ρ := funext fun i => x.rho i List.not_mem_nil List.not_mem_nil
theorem GiSt.at {F0 : PH} {L I : Addr} {oI : Obj} {s₀ s s' : Shared} {vals vals' : List (Option AV)} {rest : List Int} {n : Nat} {F' : PH} {ρ' : Nat -> Addr} (x : GiSt C F0 L I oI s₀ s vals rest) (y : Sx C (X_gi n) F0 ((giP L I s₀.heap).add I oI) (fun _ => L) s F' ρ' [.frame vals'] s')
  {vals2 : List (Option AV)} (hv : ∀ (k : Nat) (v : AV), vals2[k]? = some (some v) -> vals'[k]? = some (some v) /\ ∃ p, v = .imm p /\ p.flat = true) : GiSt C F0 L I oI s₀ s' vals2 rest := by
 have e := y.rho0
 refine nG fun ng => ?_
 subst e
 have hI := x.inv.p _ _ (PH.add_self _ I oI)
 refine ng ?_
 clear ng
 refine ⟨inv_flat y.inv y.pu.le hv, x.top, x.itr.keep x.inv.f (.refl _) (y.pu.le.trans y.inv.f) ((x.top.trans (PH.le_add (giP_I L I _))).trans x.inv.p) ((x.top.trans (PH.le_add (giP_I L I _))).trans y.inv.p) fun o e => ?_, x.gx.trans y.pu.gx, x.fi, x.pi, x.ne⟩
 refine nG fun ng => ?_
 rw [hI] at e; cases e
 refine ng ?_
 clear ng
 exact y.inv.p _ _ (PH.add_self _ I oI)
theorem GiSt.alive {F0 : PH} {L I : Addr} {oI : Obj} {s₀ s : Shared} {vals : List (Option AV)} {rest : List Int} (x : GiSt C F0 L I oI s₀ s vals rest) : Keeps2 L I s₀.heap s.heap /\ GX s₀ s /\ Alive s.heap L /\ Alive s.heap I :=
 ⟨giP_keeps x.inv.p, x.gx, (x.inv.ob 0 _ rfl).alive rfl, _, x.inv.p _ _ (PH.add_self _ I oI)⟩
theorem GiSt.resume {F0 : PH} {L I : Addr} {oI : Obj} {s₀ s' s'' : Shared} {vals : List (Option AV)} {rest : List Int} (x : GiSt C F0 L I oI s₀ s' vals rest)
  (hL : s''.heap.get? L = s'.heap.get? L) (hI : s''.heap.get? I = s'.heap.get? I) (hF : PH.le F0 s''.heap.get?) (hP : PH.le C.P0 s''.heap.get?) : GiSt C F0 L I oI s'' s'' vals rest := by
 have hfr := x.inv.fr 0 _ rfl rfl
 have hI' : s''.heap.get? I = some oI := hI.trans (x.inv.p _ _ (PH.add_self _ I oI))
 have hPL : C.P0 L = none := by
  cases q : C.P0 L with
  | none => rfl
  | some o => have := x.top _ _ q; rw [show giP L I s₀.heap L = none from if_pos (.inl rfl)] at this; cases this
 have top : PH.le C.P0 (giP L I s''.heap) := fun a o e => by
  unfold giP
  rw [if_neg]
  ·exact hP a o e
  ·rintro (rfl | rfl)
   ·rw [hPL] at e; cases e
   ·rw [x.pi] at e; cases e
 refine ⟨⟨hF, PH.add_le (fun a o e => ?_) hI', top.trans (PH.le_add (giP_I L I _)), fun i o e => ?_, fun i o e l => ?_, fun i j o o' e e' _ _ _ => ?_⟩, top, ?_, .refl _, x.fi, x.pi, x.ne⟩
 ·unfold giP at e
  refine nG fun ng => ?_
  split at e
  ·cases e
  ·refine ng ?_
   clear ng
   exact e
 ·cases i with
  | zero =>
   refine pe e ?_; clear e
   refine nG fun ng => ?_
   obtain ⟨m, hn, hm⟩ := x.inv.ob 0 (.frame vals) rfl
   refine ng ?_
   clear ng
   exact ⟨m, ns_keeps hn fun o e => hL.trans e, hm⟩
  | succ i => simp at e
 ·cases i with
  | zero =>
   refine ⟨hfr.1, ?_⟩
   show ((giP L I s''.heap).add I oI) L = none
   rw [PH.add_off _ _ (Ne.symm x.ne)]; exact if_pos (.inl rfl)
  | succ i => simp at e
 ·cases i with
  | zero => cases j with
   | zero => rfl
   | succ j => simp at e'
  | succ i => simp at e
 ·exact x.itr.keep x.inv.f (.refl _) hF ((x.top.trans (PH.le_add (giP_I L I _))).trans x.inv.p) hP fun o e => hI.trans e
theorem drop_head {ys : List Int} {N n : Nat} {x : Int} {r : List Int} (h : x :: r = ys.drop (N - (n + 1))) : ys[N - 1 - n]? = some x /\ r = ys.drop (N - n) \/ N <= n := by
 by_cases hn : N <= n
 ·exact .inr hn
 ·left
  have e1 : N - (n + 1) = N - 1 - n := by omega
  rw [e1] at h
  have h1 : (ys.drop (N - 1 - n))[0]? = some x := by rw [<- h]; rfl
  have h2 : (ys.drop (N - 1 - n)).drop 1 = r := by rw [<- h]; rfl
  rw [List.getElem?_drop, Nat.add_zero] at h1
  rw [List.drop_drop] at h2
  exact ⟨h1, by rw [<- h2]; congr 1; omega⟩
theorem gi_while {B0 : Stmt} {t1 : Expr} {B1 : Stmt} {wt ye ye2 : Expr} {B3 : Stmt} (G : GiOK C B0 t1 B1 wt ye ye2 B3) {F0 : PH} {L I : Addr} {Sz : Heap} (hSz : Sz.get? I = none) {ys : List Int} {N : Nat} {env : Env} (E : zZ (X_gi 0) (fun _ => L) env) {A : Around} {k : Nat} (hA : AL k A) (hk : k <= 30) {yp yp' : Pos} {fs : List Frame} (hfs : ∀ f ∈ fs, okF f) (hfl : fs.length <= 3) (hsp : splitAtGen fs = none) (hgu : fs.any Frame.guarded = false) (l : Int) (intv : Int) (rest : List Int) (oI : Obj) :
  ∀ n s₀ s, n + 1 <= N -> GiSt C F0 L I oI s₀ s [none, some (.imm (.int l)), some (.imm (.int intv))] rest -> List.replicate (n + 1) l = ys.drop (N - (n + 1)) ->
   Seg C.M A (giR L Sz ys N) (giYp C F0 L Sz ys N) (n + 1) s₀ (.whileLoop wt [.Expr (.Yield (some ye) yp) yp'] [] env) (C.M.den (.whileLoop wt [.Expr (.Yield (some ye) yp) yp'] [] env)) fs s := by
 have hAo : ∀ c : Code, c.weight <= 1 -> c.cUnits <= 3 -> AL (k + 1) (A.over c fs) := fun c h1 h2 => al_over hA hfs hfl h1 h2
 intro n
 induction n with
 | zero =>
  intro s₀ s hn st hys
  refine seg_whileLoop (wpAny_mono (G.wt (k + 1) (by omega) _ env F0 _ _ _ s true _ (hAo _ (Nat.zero_le _) (Nat.zero_le _)) (env_n E) st.inv rfl) (fun b s₁ zq => ?_) fun _ _ x => x.elim)
  refine nG fun ng => ?_
  obtain ⟨eb, F1, ρ1, n₁⟩ := zq
  subst eb
  refine ng ?_
  clear ng
  rw [if_pos rfl]
  refine seg_execs_cons (seg_Expr_Yield hsp rfl hgu (wpAny_mono (G.ye (k + 1) (by omega) _ env F1 _ ρ1 _ s₁ (.int l) _ (hAo _ (Nat.zero_le _) (Nat.zero_le _)) (n₁.env (env_n E)) n₁.inv rfl) (fun V s₂ zq kap _ => ?_) fun _ _ x => x.elim) (by rw [E.scope]; rfl) (notInteractive E))
  refine nG fun ng => ?_
  obtain ⟨F2, ρ₂, n₂, r₂⟩ := zq
  have st2 := st.at (n₁.trans n₂).sx (vals2 := [none, some (.imm (.int l)), some (.imm (.int intv))]) (fun k v h => ⟨h, by
   match k, h with
   | 1, h => cases h; exact ⟨_, rfl, rfl⟩
   | 2, h => cases h; exact ⟨_, rfl, rfl⟩
   | k + 3, h => simp at h⟩)
  obtain ⟨a1, a2, a3, a4⟩ := st2.alive
  refine ng ?_
  clear ng
  cases r₂ with
  | int _ t =>
   refine nG fun ng => ?_
   rcases drop_head (n := 0) (r := []) hys with ⟨h1, _⟩ | h
   ·refine ng ?_
    clear ng
    exact ⟨I, hSz, ⟨l, h1, t, rfl⟩, a1.b hSz, a2, a3, a4, Ne.symm st.ne, .inl rfl⟩
   ·refine ng ?_
    clear ng
    omega
 | succ n ih =>
  intro s₀ s hn st hys
  refine seg_whileLoop (wpAny_mono (G.wt (k + 1) (by omega) _ env F0 _ _ _ s true _ (hAo _ (Nat.zero_le _) (Nat.zero_le _)) (env_n E) st.inv rfl) (fun b s₁ zq => ?_) fun _ _ x => x.elim)
  refine nG fun ng => ?_
  obtain ⟨eb, F1, ρ1, n₁⟩ := zq
  subst eb
  refine ng ?_
  clear ng
  rw [if_pos rfl]
  refine seg_execs_cons (seg_Expr_Yield hsp rfl hgu (wpAny_mono (G.ye (k + 1) (by omega) _ env F1 _ ρ1 _ s₁ (.int l) _ (hAo _ (Nat.zero_le _) (Nat.zero_le _)) (n₁.env (env_n E)) n₁.inv rfl) (fun V s₂ zq kap hkap => ?_) fun _ _ x => x.elim) (by rw [E.scope]; rfl) (notInteractive E))
  refine nG fun ng => ?_
  obtain ⟨F2, ρ₂, n₂, r₂⟩ := zq
  have st2 := st.at (n₁.trans n₂).sx (vals2 := [none, some (.imm (.int l)), some (.imm (.int intv))]) (fun k v h => ⟨h, by
   match k, h with
   | 1, h => cases h; exact ⟨_, rfl, rfl⟩
   | 2, h => cases h; exact ⟨_, rfl, rfl⟩
   | k + 3, h => simp at h⟩)
  obtain ⟨a1, a2, a3, a4⟩ := st2.alive
  refine ng ?_
  clear ng
  cases r₂ with
  | int _ t =>
   refine nG fun ng => ?_
   rcases drop_head (n := n + 1) (r := List.replicate (n + 1) l) hys with ⟨h1, h2⟩ | h
   ·refine ng ?_
    clear ng
    refine ⟨I, hSz, ⟨l, h1, t, rfl⟩, a1.b hSz, a2, a3, a4, Ne.symm st.ne, .inr fun s'' hL hI hF hP => hkap _ _ ?_⟩
    show Seg _ _ _ _ _ _ _ ((execs [] env).wrap _ _ _ _) _ _
    refine seg_again rfl ?_
    exact ih s'' s'' (by omega) (st2.resume hL hI hF hP) h2
   ·refine ng ?_
    clear ng
    omega
theorem flat3 {p q : PV} (hp : p.flat = true) (hq : q.flat = true) : ∀ (k : Nat) (v : AV), ([none, some (AV.imm p), some (AV.imm q)] : List (Option AV))[k]? = some (some v) -> ([none, some (AV.imm p), some (AV.imm q)] : List (Option AV))[k]? = some (some v) /\ ∃ r, v = .imm r /\ r.flat = true := fun k v h => ⟨h, by
 match k, h with
 | 1, h => cases h; exact ⟨_, rfl, hp⟩
 | 2, h => cases h; exact ⟨_, rfl, hq⟩
 | k + 3, h => simp at h⟩
theorem lastV_flat (last : Option Int) : (lastV last).flat = true := by cases last <;> rfl
theorem gi_turn {B0 : Stmt} {t1 : Expr} {B1 : Stmt} {wt ye ye2 : Expr} {B3 : Stmt} (G : GiOK C B0 t1 B1 wt ye ye2 B3) {F0 : PH} {L I : Addr} {Sz : Heap} (hSz : Sz.get? I = none) {ys : List Int} {N : Nat} {env : Env} (E : zZ (X_gi 0) (fun _ => L) env) {A : Around} {k : Nat} (hA : AL k A) (hk : k <= 30) {tp yp yp' wp ip yp2 yp2' : Pos} {r : Result -> Sem Fin} {c₁ : Code} {p₁ : Pos}
  (hc1 : c₁.weight <= 1 /\ c₁.cUnits <= 3)
  (he1 : ∀ m s₀ s, giE L Sz ys N m s₀ s -> Seg C.M A (giR L Sz ys N) (giYp C F0 L Sz ys N) m s₀ c₁ (r (.ok .next)) [] s)
  (he2 : ∀ m s₀ s, giE L Sz ys N m s₀ s -> Seg C.M A (giR L Sz ys N) (giYp C F0 L Sz ys N) m s₀ c₁ (r (.ok (.ret .none))) [] s)
  (body : List Stmt) (hbody : body = [B0, .If t1 [B1, .While wt [.Expr (.Yield (some ye) yp) yp'] [] wp] [] ip, .Expr (.Yield (some ye2) yp2) yp2', B3])
  (n : Nat) (s₀ s : Shared) (last : Option Int) (intv : Option AV) (rest : List Int) (oI : Obj) (hn : n + 1 <= N) (st : GiSt C F0 L I oI s₀ s [none, some (.imm (lastV last)), intv] rest) (hz : last = none -> ∀ r, rest ≠ 0 :: r) (hys : giY (n + 1) last rest = ys.drop (N - (n + 1)))
  (ih : n = 0 \/ ∀ s₀ s i intv rest oI, GiSt C F0 L I oI s₀ s [none, some (.imm (lastV (some i))), intv] rest -> giY n (some i) rest = ys.drop (N - n) ->
   Seg C.M A (giR L Sz ys N) (giYp C F0 L Sz ys N) n s₀ (.forLoop (.Name "interval" tp) (.ref I) body [] env) (C.M.den (.forLoop (.Name "interval" tp) (.ref I) body [] env)) [.ret r none false [] c₁ p₁ []] s) :
  Seg C.M A (giR L Sz ys N) (giYp C F0 L Sz ys N) (n + 1) s₀ (.forLoop (.Name "interval" tp) (.ref I) body [] env) (C.M.den (.forLoop (.Name "interval" tp) (.ref I) body [] env)) [.ret r none false [] c₁ p₁ []] s := by
 have hfs : ∀ f ∈ ([.ret r none false [] c₁ p₁ []] : List Frame), okF f := fun f hf => by rw [List.mem_singleton] at hf; subst hf; exact ⟨rfl, hc1⟩
 have hAo : ∀ c : Code, c.weight <= 1 -> c.cUnits <= 3 -> AL (k + 1) (A.over c [.ret r none false [] c₁ p₁ []]) := fun c h1 h2 => al_over hA hfs (by simp) h1 h2
 have hA1 := hAo (.forLoop (.Name "interval" tp) (.ref I) body [] env) (Nat.zero_le _) (Nat.zero_le _)
 have hpl : PlOK (X_gi (k + 1)) "interval" (.loc 2) := zg (by kernel_rfl)
 refine seg_forLoop (wpAny_mono (st.itr.next hA1) (fun o s₁ h₁ => ?_) fun _ _ x => x.elim) (by intro v; rfl)
 have Pfr := giP_I L I s₀.heap
 have I0 : zb C giN F0 (giP L I s₀.heap) (fun _ => L) [.frame [none, some (.imm (lastV last)), intv]] s.heap := st.inv.dropP (PH.le_add Pfr) st.top
 have hne : ∀ (j : Nat) (y : zA), ([zA.frame [none, some (.imm (lastV last)), intv]] : List zA)[j]? = some y -> y.live = true -> (fun _ => L : Nat -> Addr) j ≠ I := fun j y _ _ q => st.ne q.symm
 have k2 : Keeps2 L I s₀.heap s.heap := giP_keeps st.inv.p
 cases rest with
 | nil =>
  refine nG fun ng => ?_
  obtain ⟨rfl, kp, gx⟩ := h₁
  have k3 : Keeps2 L I s₀.heap s₁.heap := fun b o h1 h2 e => kp b o h2 (k2 b o h1 h2 e)
  refine ng ?_
  clear ng
  refine seg_block (he1 _ _ _ ⟨?_, k3.b hSz, st.gx.trans gx⟩)
  have : ys.drop (N - (n + 1)) = [] := by rw [<- hys]; rfl
  exact List.drop_eq_nil_iff.mp this
 | cons i rest =>
  refine nG fun ng => ?_
  obtain ⟨⟨V, rfl, rv⟩, kp, gx, itr'⟩ := h₁
  obtain ⟨oJ, hoJ⟩ := itr'.alive
  have I1 : zb C giN F0 (giP L I s₀.heap) (fun _ => L) [.frame [none, some (.imm (lastV last)), intv]] s₁.heap := I0.offA kp st.fi Pfr hne
  have I1' := I1.addP Pfr hoJ hne
  refine ng ?_
  clear ng
  refine wpAny_mono (bind_ok (X := X_gi (k + 1)) (p := .loc 2) (v := .imm (.int i)) hpl (env_n E) I1' rv rfl) (fun _ s₂ n₂ Kc Hc hKc => ?_) fun _ _ x => x.elim
  have st0 : GiSt C F0 L I oJ s₀ s₁ [none, some (.imm (lastV last)), intv] rest := ⟨I1', st.top, itr', st.gx.trans gx, st.fi, st.pi, st.ne⟩
  have st2 := st0.at n₂ (flat3 (lastV_flat last) rfl)
  refine nG fun ng => ?_
  subst hbody
  refine ng ?_
  clear ng
  refine seg_execs_cons ?_
  clear n₂ st0 I1' I1 I0 hne st
  by_cases h127 : i = 127
  ·refine nG fun ng => ?_
   subst h127
   refine ng ?_
   clear ng
   refine seg_st (v := .ret .none) (G.b0 (k + 1) (by omega)) hA1 (env_n E) st2.inv (e_ifT (z1 (zY rfl rfl rfl rfl rfl)) (z6 (e_ret rfl))) fun fl s₃ F3 ρ3 n₃ r₃ => ?_
   refine nG fun ng => ?_
   obtain ⟨W, rfl, rW⟩ := r₃
   cases rW
   have st3 := st2.at n₃ (flat3 (lastV_flat last) rfl)
   obtain ⟨a1, a2, a3, a4⟩ := st3.alive
   refine ng ?_
   clear ng
   show Seg _ _ _ _ _ _ _ (Kc (.ret .none)) _ _
   rw [hKc]
   refine seg_leaf (.ok (.ret .none)) (he2 _ _ _ ⟨?_, a1.b hSz, a2⟩)
   have : ys.drop (N - (n + 1)) = [] := by rw [<- hys]; rfl
   exact List.drop_eq_nil_iff.mp this
  ·have hb : (i == 127) = false := by simpa using h127
   refine seg_st (v := .next) (G.b0 (k + 1) (by omega)) hA1 (env_n E) st2.inv (zv (z1 (zY rfl rfl rfl (by show some (PV.bool (i == 127)) = _; rw [hb]) rfl)) rfl) fun fl s₃ F3 ρ3 n₃ r₃ => ?_
   have e : fl = .next := r₃
   refine nG fun ng => ?_
   subst e
   have st3 := st2.at n₃ (flat3 (lastV_flat last) rfl)
   refine ng ?_
   clear ng
   refine seg_execs_cons (seg_If ?_)
   clear n₃ st2
   by_cases h0 : i = 0
   ·refine nG fun ng => ?_
    subst h0
    refine ng ?_
    clear ng
    cases last with
    | none => exact absurd rfl (hz rfl rest)
    | some l =>
    refine wpAny_mono (G.t1 (k + 1) (by omega) _ env F0 _ _ _ s₃ true _ hA1 (env_n E) st3.inv (z1 (zY rfl rfl rfl rfl rfl))) (fun b s₄ zq => ?_) fun _ _ x => x
    refine nG fun ng => ?_
    obtain ⟨eb, F4, ρ4, n₄⟩ := zq
    subst eb
    refine ng ?_
    clear ng
    rw [if_pos rfl]
    have st4 := st3.at n₄.sx (flat3 (lastV_flat (some l)) rfl)
    refine seg_execs_cons (seg_st (v := .next) (G.b1 (k + 1) (by omega)) hA1 (env_n E) st4.inv (zv (z1 (zY rfl rfl rfl rfl rfl)) rfl) fun fl s₅ F5 ρ₅ n₅ r₅ => ?_)
    have e : fl = .next := r₅
    refine nG fun ng => ?_
    subst e
    have st5 := st4.at n₅ (flat3 (lastV_flat (some l)) rfl)
    refine ng ?_
    clear ng
    refine seg_execs_cons (seg_While fun p => ?_)
    have hys' : List.replicate (n + 1) l = ys.drop (N - (n + 1)) := by rw [<- hys]; rfl
    refine gi_while G hSz E hA hk (fun f hf => ?_) (by simp) rfl rfl l 0 rest oJ n s₀ s₅ hn st5 hys'
    refine nG fun ng => ?_
    rcases List.mem_cons.mp hf with rfl | hf
    ·refine ng ?_
     clear ng
     exact ⟨rfl, Nat.zero_le _, Nat.zero_le _⟩
    ·refine ng ?_
     clear ng
     exact hfs f hf
   ·have hb0 : (i == 0) = false := by simpa using h0
    refine wpAny_mono (G.t1 (k + 1) (by omega) _ env F0 _ _ _ s₃ false _ hA1 (env_n E) st3.inv (z1 (zY rfl rfl rfl (by show some (PV.bool (i == 0)) = _; rw [hb0]) rfl))) (fun b s₄ zq => ?_) fun _ _ x => x
    refine nG fun ng => ?_
    obtain ⟨eb, F4, ρ4, n₄⟩ := zq
    subst eb
    refine ng ?_
    clear ng
    rw [if_neg Bool.false_ne_true]
    have st4 := st3.at n₄.sx (flat3 (lastV_flat last) rfl)
    show Seg _ _ _ _ _ _ _ ((execs [.Expr (.Yield (some ye2) yp2) yp2', B3] env).wrap Kc Hc id id) _ _
    refine seg_execs_cons (seg_Expr_Yield rfl rfl rfl (wpAny_mono (G.ye2 (k + 1) (by omega) _ env F0 _ _ _ s₄ (.int i) _ hA1 (env_n E) st4.inv rfl) (fun V s₅ zq kap hkap => ?_) fun _ _ x => x.elim) (by rw [E.scope]; rfl) (notInteractive E))
    refine nG fun ng => ?_
    obtain ⟨F5, ρ₅, n₅, r₅⟩ := zq
    have st5 := st4.at n₅.sx (flat3 (lastV_flat last) rfl)
    obtain ⟨a1, a2, a3, a4⟩ := st5.alive
    have hys' : i :: giY n (some i) rest = ys.drop (N - (n + 1)) := by
     rw [<- hys]
     show _ = (if i = 127 then [] else if i = 0 then (match last with | some l => List.replicate (n + 1) l | none => []) else i :: giY n (some i) rest)
     rw [if_neg h127, if_neg h0]
    refine ng ?_
    clear ng
    cases r₅ with
    | int _ t =>
     refine nG fun ng => ?_
     rcases drop_head hys' with ⟨h1, h2⟩ | h
     ·refine ng ?_
      clear ng
      refine ⟨I, hSz, ⟨i, h1, t, rfl⟩, a1.b hSz, a2, a3, a4, Ne.symm st3.ne, ?_⟩
      refine nG fun ng => ?_
      rcases ih with ih | ih
      ·refine ng ?_
       clear ng
       exact .inl ih
      ·refine ng ?_
       clear ng
       refine .inr fun s'' hL hI hF hP => hkap _ _ ?_
       have st6 := st5.resume hL hI hF hP
       show Seg _ _ _ _ _ _ _ ((execs [B3] env).wrap Kc Hc id id) _ _
       refine seg_execs_cons (seg_st (v := .next) (G.b3 (k + 1) (by omega)) hA1 (env_n E) st6.inv (zp rfl rfl) fun fl s₇ F7 ρ₇ n7 r7 => ?_)
       have e : fl = .next := r7
       refine nG fun ng => ?_
       subst e
       have st7 := st6.at n7 (flat3 (p := .int i) (q := .int i) rfl rfl)
       refine ng ?_
       clear ng
       show Seg _ _ _ _ _ _ _ (Kc .next) _ _
       rw [hKc]
       exact seg_again rfl (ih s'' s₇ i _ rest oJ st7 h2)
     ·refine ng ?_
      clear ng
      omega
theorem gi_loop {B0 : Stmt} {t1 : Expr} {B1 : Stmt} {wt ye ye2 : Expr} {B3 : Stmt} (G : GiOK C B0 t1 B1 wt ye ye2 B3) {F0 : PH} {L I : Addr} {Sz : Heap} (hSz : Sz.get? I = none) {ys : List Int} {N : Nat} {env : Env} (E : zZ (X_gi 0) (fun _ => L) env) {A : Around} {k : Nat} (hA : AL k A) (hk : k <= 30) {tp yp yp' wp ip yp2 yp2' : Pos} {r : Result -> Sem Fin} {c₁ : Code} {p₁ : Pos}
  (hc1 : c₁.weight <= 1 /\ c₁.cUnits <= 3)
  (he1 : ∀ m s₀ s, giE L Sz ys N m s₀ s -> Seg C.M A (giR L Sz ys N) (giYp C F0 L Sz ys N) m s₀ c₁ (r (.ok .next)) [] s)
  (he2 : ∀ m s₀ s, giE L Sz ys N m s₀ s -> Seg C.M A (giR L Sz ys N) (giYp C F0 L Sz ys N) m s₀ c₁ (r (.ok (.ret .none))) [] s) :
  ∀ n s₀ s last (intv : Option AV) rest oI, n + 1 <= N -> GiSt C F0 L I oI s₀ s [none, some (.imm (lastV last)), intv] rest -> (last = none -> ∀ r, rest ≠ 0 :: r) -> giY (n + 1) last rest = ys.drop (N - (n + 1)) ->
   Seg C.M A (giR L Sz ys N) (giYp C F0 L Sz ys N) (n + 1) s₀ (.forLoop (.Name "interval" tp) (.ref I) [B0, .If t1 [B1, .While wt [.Expr (.Yield (some ye) yp) yp'] [] wp] [] ip, .Expr (.Yield (some ye2) yp2) yp2', B3] [] env)
    (C.M.den (.forLoop (.Name "interval" tp) (.ref I) [B0, .If t1 [B1, .While wt [.Expr (.Yield (some ye) yp) yp'] [] wp] [] ip, .Expr (.Yield (some ye2) yp2) yp2', B3] [] env)) [.ret r none false [] c₁ p₁ []] s := by
 intro n
 induction n with
 | zero => exact fun s₀ s last intv rest oI hn st hz hys => gi_turn G hSz E hA hk hc1 he1 he2 _ rfl 0 s₀ s last intv rest oI hn st hz hys (.inl rfl)
 | succ n ih => exact fun s₀ s last intv rest oI hn st hz hys => gi_turn G hSz E hA hk hc1 he1 he2 _ rfl (n + 1) s₀ s last intv rest oI hn st hz hys (.inr fun s₀ s i intv rest oI st h => ih s₀ s (some i) intv rest oI (by omega) st (fun q => by cases q) h)
theorem gi_fresh (hcm : ∃ t, C.mg "CHAR_MAX" = some (.int 127 t)) {F0 : PH} {L : Addr} {ys : List Int} {N : Nat} {env : Env} (E : zZ (X_gi 0) (fun _ => L) env) {A : Around} {k : Nat} (hA : AL k A) (hk : k <= 29) {ruler : List Int} {s : Shared}
  (I : zb C giN F0 (fun a => if a = L then none else s.heap.get? a) (fun _ => L) [.frame [some (.imm (.list (ruler.map .int))), none, none]] s.heap) (hz : ∀ r, ruler ≠ 0 :: r) (hys : ys = giY (N + 1) none ruler) :
  Seg C.M A (giR L s.heap ys (N + 1)) (giYp C F0 L s.heap ys (N + 1)) (N + 1) s (.func (zN (zD 10)) env) (C.M.den (.func (zN (zD 10)) env)) [] s := by
 refine nG fun ng => ?_
 obtain ⟨q1, q2, q3, q4, tp, B0, t1, B1, wt, ye, yp, yp', wp, ip, ye2, yp2, yp2', B3, fp, hbody, G⟩ := gi_shape hcm
 refine ng ?_
 clear ng
 rw [hbody]
 have hw : (Code.func (zN (zD 10)) env).weight <= 1 /\ (Code.func (zN (zD 10)) env).cUnits <= 3 := ⟨Nat.le_refl _, Nat.le_refl _⟩
 rw [hbody] at hw
 have hA1 := al_over (fs := []) hA (fun f hf => by cases hf) (by simp) hw.1 hw.2
 have hpl1 : PlOK (X_gi (k + 1)) "last_interval" (.loc 1) := zg (by kernel_rfl)
 have hpl0 : PlOK (X_gi (k + 1)) "grouping" (.loc 0) := zg (by kernel_rfl)
 refine seg_func (seg_execs_cons (seg_wrap0 ?_))
 refine wpAny_Assign_Name (wpAny_Constant_none ?_) (swaps_no rfl)
 refine wpAny_mono (store_ok (X := X_gi (k + 1)) (p := .loc 1) (v := .imm .none) hpl1 (env_n E) I .none rfl) (fun _ s₁ n₁ => ?_) fun _ _ x => x.elim
 refine seg_execs_cons (seg_For ?_ (by intro _; rfl))
 refine wpAny_Name (load_loc (X := X_gi (k + 1)) (j := 0) hpl0.1 hpl0.2 (n₁.env (env_n E)) n₁.inv rfl fun V _ rV => ?_) (by decide +kernel)
 refine wpAny_mono (iter_ok C.P0 hA1 n₁.inv.f rV rfl) (fun it s₂ h₂ p => ?_) fun _ _ x => x
 refine nG fun ng => ?_
 obtain ⟨I0, rfl, itr, kp, fr, gx⟩ := h₂
 obtain ⟨f1, f2, f3⟩ := n₁.inv.fresh fr
 obtain ⟨oI, hoI⟩ := itr.alive
 have hold : s.heap.get? I0 = none := by
  cases q : s.heap.get? I0 with
  | none => rfl
  | some o =>
   by_cases hL : I0 = L
   ·exact absurd hL.symm (f3 0 _ rfl rfl)
   ·exact absurd (n₁.inv.p I0 o (by rw [if_neg hL]; exact q)) (fr o)
 have hP0L : C.P0 L = none := by
  cases q : C.P0 L with
  | none => rfl
  | some o => have := I.top _ _ q; rw [if_pos rfl] at this; cases this
 have eP : (fun a => if a = L then none else s.heap.get? a) = giP L I0 s.heap := funext fun a => by
  unfold giP
  by_cases h1 : a = L
  ·rw [if_pos h1, if_pos (.inl h1)]
  ·by_cases h2 : a = I0
   ·rw [if_neg h1, if_pos (.inr h2), h2, hold]
   ·rw [if_neg h1, if_neg (fun q => q.elim h1 h2)]
 have I₂ : zb C giN F0 (giP L I0 s.heap) (fun _ => L) [.frame [some (.imm (.list (ruler.map .int))), some (.imm .none), none]] s₂.heap := eP ▸ n₁.inv.kept kp
 have I₃ := I₂.addP (giP_I L I0 _) hoI f3
 have st : GiSt C F0 L I0 oI s s₂ [none, some (.imm (lastV none)), none] ruler := by
  refine ⟨inv_flat I₃ (.refl _) fun k v h => ?_, I₂.top, itr, n₁.pu.gx.trans gx, f1, ?_, fun q => f3 0 _ rfl rfl q.symm⟩
  ·match k, h with
   | 1, h => cases h; exact ⟨rfl, _, rfl, rfl⟩
   | k + 3, h => simp at h
  ·cases q : C.P0 I0 with
   | none => rfl
   | some o => exact absurd (n₁.inv.p I0 o (n₁.inv.top _ _ q)) (fr o)
 refine ng ?_
 clear ng
 refine gi_loop G hold E hA (by omega) hw ?_ ?_ N s s₂ none none ruler oI (Nat.le_refl _) st (fun _ => hz) (by rw [hys, Nat.sub_self]; rfl)
 ·intro m s₀ s h
  exact seg_end (.ok (.ret .none)) ⟨rfl, h⟩
 ·intro m s₀ s h
  exact seg_end (.ok (.ret .none)) ⟨rfl, h⟩
end
section
variable {C : Cx} {X : zj}
theorem stop_raised {M : Model} {A : Around} {s : Shared} {α β : Type} {k : β -> Sem α} {Q : α -> Shared -> Prop} {E : Value -> Shared -> Prop} (hh : A.handled = none)
  (h : ∀ a h', ({ s with heap := h' } : Shared).TypeIs (.ref a) "StopIteration" -> (∀ b o, s.heap.get? b = some o -> h'.get? b = some o) -> E (.ref a) { s with heap := h' }) :
  wpAny M A (newExc (.type "StopIteration") [] >>= fun e => ((raiseNew e : Sem β) >>= k)) Q E s := by
 refine wpAny_bind ?_
 simp only [newExc, newTuple]
 refine wpAny_bind (wpAny_newObj_type (wpAny_bind (m := firstArgMember _ _) (wpAny_of_eq (a := Value.none) (by first | rfl | (simp only [firstArgMember]; rfl)) (wpAny_newObj_type ?_ (by size_fits)))) (by size_fits))
 refine wpAny_bind (wpAny_raiseNew_none hh (h _ _ ?_ fun b o hb => Heap.get?_push_of_some _ (Heap.get?_push_of_some _ hb)))
 exact ⟨_, Heap.get?_push_size _ rfl, rfl⟩
theorem pyNext_gi {prog : Program} {w : World} {A : Around} {E : Value -> Shared -> Prop} {s : Shared} {a : Addr} {g n : Nat} {gs : GenState} {P : Nat -> Shared -> Shared -> Prop} {Y : Protocol} {Q : Option Value -> Shared -> Prop} (hh : A.handled = none)
  (hl : s.heap.NoLimit) (hroom : A.depth < recursionLimit) (hg : s.heap.IsGen a g) (hgs : s.gens[g]? = some gs)
  (hgo : gs.Goes (model prog w) A.in1 (fun n s₀ r s₁ => r = .ok (.ret .none) /\ P n s₀ s₁) Y n (.send .none) (s.setGen g .running))
  (hY : ∀ v s₁ (gs' : GenState), gs'.bare = true -> Y (n - 1) (s.setGen g .running) v s₁ (fun r' s'' => match (generalizing := false) n with
    | 0 => False
    | m + 1 => gs'.Goes (model prog w) A.in1 (fun n s₀ r s₁ => r = .ok (.ret .none) /\ P n s₀ s₁) Y m r' s'') -> Q (some v) (s₁.setGen g gs'))
  (hP : ∀ s₁, P n (s.setGen g .running) s₁ -> ∀ h', (∀ b o, s₁.heap.get? b = some o -> h'.get? b = some o) -> Q none { s₁.setGen g .finished with heap := h' }) :
  wpAny (model prog w) A (pyNext (.ref a)) Q E s := by
 unfold pyNext
 refine wpAny_bind (wpAny_attempt (wpAny_callSpecial?_slot (name := Str.ofString "__next__") hg.typeIs slot_gen_next (wpAny_call_entry slot_gen_next hg.typeIs entry_gen_next ?_ (args_gen_next _))))
 show wpAny _ A.in1 (Builtin.Generator.genWake (.ref a) (.send .none)) _ _ s
 unfold Builtin.Generator.genWake
 refine wpAny_bind (wpAny_holding (wpAny_genNumber hg (wpAny_bind (wpAny_genState hgs ?_))))
 cases gs
 case running => exact hgo.elim
 case finished => exact hgo.elim
 all_goals
  refine wpAny_bind (wpAny_roomToWake hl hroom (wpAny_resumeQ (l := []) hgs hgo (fun x s₁ hx => ?_) (fun v s₁ gs' hb hv => ?_)))
  ·obtain ⟨rfl, hp⟩ := hx
   refine stop_raised hh fun e h' ht k => ?_
   exact wpAny_bind (wpAny_isInstance (T := "StopIteration") (b := true) ht isSubtype_stop (wpAny_pure (hP s₁ hp h' k)))
  ·exact wpAny_pure ⟨v, rfl, wpAny_pure (hY v s₁ gs' hb hv)⟩
noncomputable def flatA : AV -> Bool
 | .imm p => p.flat
 | .obj _ => true
noncomputable def fltV : Option AV -> Option AV
 | some v => if flatA v then some v else none
 | none => none
noncomputable def flt : zA -> zA
 | .frame vs => .frame (vs.map fltV)
 | .cell v => .cell (fltV v)
 | .attrs vs => .attrs (vs.map fltV)
 | .lst xs => if xs.all PV.flat then .lst xs else .dead
 | _ => .dead
theorem fltV_rep {F G : PH} {ρ : Nat -> Addr} {v : Option AV} {u : AV} {V : Value} (h : fltV v = some u) (r : ∀ w, v = some w -> AVRep F ρ w V) : AVRep G ρ u V := by
 unfold fltV at h
 refine nG fun ng => ?_
 split at h
 ·rename_i w
  split at h
  ·rename_i hf
   cases h
   have := r _ rfl
   refine ng ?_
   clear ng
   cases u with
   | imm p => exact Rep.ofFlat this hf
   | obj i => exact this
  ·cases h
 ·cases h
theorem repL_flat {F G : PH} : ∀ {xs : List PV} {vs : List Value}, RepL F xs vs -> xs.all PV.flat = true -> RepL G xs vs
 | _, _, .nil, _ => .nil
 | _, _, .cons a r, h => by
  obtain ⟨h1, h2⟩ := Bool.and_eq_true_iff.mp (show (PV.flat _ && _) = true from h)
  exact .cons (a.ofFlat h1) (repL_flat r h2)
theorem flt_live {o : zA} (h : (flt o).live = true) : o.live = true := by cases o <;> first | rfl | exact h
theorem ObjOK.flt {F G : PH} {ρ : Nat -> Addr} {names : List Str} {o : zA} {b : Addr} {h : Heap} (x : ObjOK F ρ names o b h) : ObjOK G ρ names (flt o) b h := by
 cases o with
 | dead => trivial
 | frozen p => trivial
 | fit e f y => trivial
 | tab ps => trivial
 | lst xs =>
  refine nG fun ng => ?_
  obtain ⟨vs, a, b, c⟩ := x
  refine ng ?_
  clear ng
  by_cases hf : xs.all PV.flat = true
  ·rw [show BZ.flt (.lst xs) = .lst xs from if_pos hf]
   exact ⟨vs, a, b, repL_flat c hf⟩
  ·rw [show BZ.flt (.lst xs) = .dead from if_neg hf]
   trivial
 | cell v => obtain ⟨V, c, d⟩ := x; exact ⟨V, c, fun u e => by
   cases v with
   | none => cases e
   | some w =>
    obtain ⟨W, e1, r⟩ := d w rfl
    exact ⟨W, e1, fltV_rep e fun z ez => by cases ez; exact r⟩⟩
 | frame vs =>
  refine nG fun ng => ?_
  obtain ⟨m, hn, hnd, hv⟩ := x
  refine ng ?_
  clear ng
  refine ⟨m, hn, hnd, fun k y u hk hu => ?_⟩
  rw [List.getElem?_map] at hu
  cases q : vs[k]? with
  | none => rw [q] at hu; cases hu
  | some w =>
   rw [q] at hu
   have hu' : fltV w = some u := Option.some.inj hu
   cases w with
   | none => cases hu'
   | some w =>
    refine nG fun ng => ?_
    obtain ⟨V, e1, r⟩ := hv k y w hk q
    refine ng ?_
    clear ng
    exact ⟨V, e1, fltV_rep hu' fun z ez => by cases ez; exact r⟩
 | attrs vs =>
  refine nG fun ng => ?_
  obtain ⟨m, hn, hin, hnd, hv⟩ := x
  refine ng ?_
  clear ng
  refine ⟨m, hn, hin, hnd, fun k y u hk hu => ?_⟩
  rw [List.getElem?_map] at hu
  cases q : vs[k]? with
  | none => rw [q] at hu; cases hu
  | some w =>
   rw [q] at hu
   have hu' : fltV w = some u := Option.some.inj hu
   cases w with
   | none => cases hu'
   | some w =>
    refine nG fun ng => ?_
    obtain ⟨V, e1, r⟩ := hv k y w hk q
    refine ng ?_
    clear ng
    exact ⟨V, e1, fltV_rep hu' fun z ez => by cases ez; exact r⟩
theorem zb.flt {N : Nat -> List Str} {F G P : PH} {ρ : Nat -> Addr} {σ : List zA} {h : Heap} (I : zb C N F P ρ σ h) (le : PH.le G F) : zb C N G P ρ (σ.map BZ.flt) h := by
 have g : ∀ (i : Nat) (o : zA), (σ.map BZ.flt)[i]? = some o -> ∃ y, σ[i]? = some y /\ o = BZ.flt y := fun i o e => by
  rw [List.getElem?_map] at e
  cases w : σ[i]? with
  | none => rw [w] at e; cases e
  | some y => rw [w] at e; exact ⟨y, rfl, (Option.some.inj e).symm⟩
 refine ⟨le.trans I.f, I.p, I.top, fun i o e => ?_, fun i o e l => ?_, fun i j o o' e e' l l' q => ?_⟩
 ·refine nG fun ng => ?_
  obtain ⟨y, ey, rfl⟩ := g i o e
  refine ng ?_
  clear ng
  exact (I.ob i y ey).flt
 ·refine nG fun ng => ?_
  obtain ⟨y, ey, rfl⟩ := g i o e
  have := I.fr i y ey (flt_live l)
  refine ng ?_
  clear ng
  refine ⟨?_, this.2⟩
  cases q : G (ρ i) with
  | none => rfl
  | some o' => rw [le _ _ q] at this; cases this.1
 ·refine nG fun ng => ?_
  obtain ⟨y, ey, rfl⟩ := g i o e
  obtain ⟨z, ez, rfl⟩ := g j o' e'
  refine ng ?_
  clear ng
  exact I.inj i j y z ey ez (flt_live l) (flt_live l') q
end
section
variable {C : Cx} {X : zj}
inductive GiX (C : Cx) : Prop where
 | mk (a : Addr) (o : Obj) (fd : FuncData) (h1 : C.mg "_grouping_intervals" = some (.ref a)) (h2 : C.P0 a = some o) (h3 : o.data = .func fd) (h4 : fd.scope.isCoroutine = false) (h5 : fd.scope.isGenerator = true) (h6 : fd.body = .stmts (zN (zD 10)))
  (h7 : ∀ h : Heap, PH.le C.P0 h.get? -> h.CodeRec fd.code fd.qualname) (h8 : fd.globals = mainGlobals) (h9 : fd.builtins = builtinsNs) (h10 : fd.scope = zQ (zD 10)) (h11 : fd.closure = []) (h12 : ∀ v, bindArgs fd ⟨[v], []⟩ = pure [(("grouping" : Str), v)]) : GiX C
structure GiFn (C : Cx) : Prop where
 cm : ∃ t, C.mg "CHAR_MAX" = some (.int 127 t)
 ex : GiX C
structure GiNew (C : Cx) (F : PH) (p : PV) (s s' : Shared) (ga g : Nat) (L : Addr) (env : Env) : Prop where
 gen : s'.heap.IsGen ga g
 lo : s.gens.size <= g
 gens : s'.gens[g]? = some (GenState.fresh (.func (zN (zD 10)) env))
 env : zZ (X_gi 0) (fun _ => L) env
 inv : zb C giN F (fun a => if a = L then none else s'.heap.get? a) (fun _ => L) [.frame [some (.imm p), none, none]] s'.heap
 keeps : Keeps s.heap s'.heap
 fl : s.heap.get? L = none
 fg : s.heap.get? ga = none
 ne : L ≠ ga
 gx : GX s s'
inductive GiR (C : Cx) (F : PH) (p : PV) (s : Shared) (W : Value) (s' : Shared) : Prop where
 | mk (ga g : Nat) (L : Addr) (env : Env) (e : W = .ref ga) (h : GiNew C F p s s' ga g L env) : GiR C F p s W s'
theorem call_gi {A : Around} {n : Nat} {F : PH} {s : Shared} {p : PV} {V : Value} (D : GiFn C) (hA : AL n A) (hn : n <= 30) (hF : PH.le F s.heap.get?) (hP : PH.le C.P0 s.heap.get?) (r : Rep F p V) :
  ∃ a o fd, C.mg "_grouping_intervals" = some (.ref a) /\ C.P0 a = some o /\ o.data = .func fd /\ wpAny C.M A (call (.ref a) [V]) (GiR C F p s) (fun _ _ => False) s := by
 refine nG fun ng => ?_
 obtain ⟨a, o, fd, h1, h2, h3, h4, h5, h6, h7, h8, h9, h10, h11, h12⟩ := D.ex
 refine ng ?_
 clear ng
 refine ⟨a, o, fd, h1, h2, h3, ?_⟩
 have En : EntOK (X_gi 0) fd.scope [] [] ["grouping"] [.loc 0] := entOK_of (by rw [h10]) (by rw [h10]; kernel_rfl) (fun i a m => by cases m)
 refine wpAny_call (codeAny_call_generator (hA.room (by omega)) (hP _ _ h2) h3 h4 h5 h6 (h7 _ hP) ?_)
 rw [h12 V, h8, h9, h11]
 refine wpAny_pure (wpAny_mono (fn_env (C := C) (X := X_gi 0) (ρ := fun _ => 0) (clo := []) (is := []) (nv := 3) (ps := ["grouping"]) (pls := [.loc 0]) (Vs := [V]) En (dead_inv hF hP 1) (fun i a m => by cases m) (by decide) (.cons r .nil) rfl) (fun env s₁ ⟨ρ', E, I, pu, _⟩ => ⟨I.lim, ?_⟩) fun _ _ x => x.elim)
 have hfr := I.fr 0 _ rfl rfl
 refine nG fun ng => ?_
 obtain ⟨oL, hoL⟩ := (I.ob 0 _ rfl).alive rfl
 refine ng ?_
 clear ng
 generalize hgo : ({ cls := .type "generator", data := .fields #[.int s₁.gens.size 0, .str fd.name s₁.toks, .str fd.qualname (s₁.toks + 1)] } : Obj) = go
 revert go
 refine keep ?_
 set_option tactic.hygienic false in intros
 have hne : ρ' 0 ≠ s₁.heap.objs.size := Nat.ne_of_lt (Heap.lt_size hoL)
 have kp : Keeps s₁.heap (s₁.heap.push go) := fun b o e => Heap.get?_push_of_some _ e
 have hga : (s₁.heap.push go).get? s₁.heap.objs.size = some go := Heap.get?_push_size _ (by rw [<- hgo]; rfl)
 have hP0L : C.P0 (ρ' 0) = none := by
  cases q : C.P0 (ρ' 0) with
  | none => rfl
  | some o => have := hP _ _ q; rw [hfr.2] at this; cases this
 refine ⟨_, s₁.gens.size, ρ' 0, env, rfl, ⟨⟨go, _, _, hga, by rw [<- hgo], by rw [<- hgo], by rw [<- hgo]⟩, pu.gx.size, by show (s₁.gens.push _)[s₁.gens.size]? = _; simp, ?_, ?_, fun b o e => kp b o (I.p b o e), hfr.2, ?_, hne, ?_⟩⟩
 ·exact ⟨E.scope, E.kind, E.loc, E.glob, E.blt, fun x i h => (by cases h), E.fit, E.fio, fun x i h => (by cases h), fun x i h => (by cases h), fun i a m => (by cases m)⟩
 ·refine ⟨fun b o e => kp b o (I.f b o e), fun b o e => ?_, fun b o e => ?_, fun i o e => ?_, fun i o e l => ?_, fun i j o o' e e' _ _ _ => ?_⟩
  ·dsimp only at e
   refine nG fun ng => ?_
   split at e
   ·cases e
   ·refine ng ?_
    clear ng
    exact e
  ·dsimp only
   rw [if_neg (fun q => by rw [q, hP0L] at e; cases e)]
   exact kp b o (I.p b o (hP b o e))
  ·cases i with
   | zero =>
    refine pe e ?_; clear e
    refine nG fun ng => ?_
    obtain ⟨m, hn, hd, hm⟩ := I.ob 0 _ rfl
    refine ng ?_
    clear ng
    refine ⟨m, ns_keeps hn fun o e => kp _ o e, hd, fun k x v h1 h2 => ?_⟩
    refine nG fun ng => ?_
    obtain ⟨V', e1, e2⟩ := hm k x v h1 h2
    refine ng ?_
    clear ng
    refine ⟨V', e1, ?_⟩
    match k, h2 with
    | 0, h2 => cases h2; exact e2
    | k + 3, h2 => simp at h2
   | succ i => simp at e
  ·cases i with
   | zero => exact ⟨hfr.1, if_pos rfl⟩
   | succ i => simp at e
  ·cases i with
   | zero => cases j with
    | zero => rfl
    | succ j => simp at e'
   | succ i => simp at e
 ·cases q : s.heap.get? s₁.heap.objs.size with
  | none => rfl
  | some o => exact absurd (Heap.lt_size (I.p _ _ q)) (Nat.lt_irrefl _)
 ·refine ⟨pu.gx.os, fun g hg => ?_, Nat.le_trans pu.gx.size (by show _ <= (s₁.gens.push _).size; rw [Array.size_push]; omega), fun hb => AllBare.push (pu.gx.bare hb) rfl⟩
  show (s₁.gens.push _)[g]? = _
  rw [Array.getElem?_push, if_neg (by have := pu.gx.size; omega)]
  exact pu.gx.old g hg
noncomputable def liveIn (lv : List Nat) (σ : List zA) : Bool := (List.range σ.length).all fun i => !((σ[i]?).elim false zA.live) || lv.contains i
noncomputable def lvOf (σ : List zA) : List Nat := (List.range σ.length).filter fun i => (σ[i]?).elim false zA.live
theorem liveIn_mem {lv : List Nat} {σ : List zA} (h : liveIn lv σ = true) {i : Nat} {o : zA} (e : σ[i]? = some o) (l : o.live = true) : i ∈ lv := by
 have := List.all_eq_true.mp h i (List.mem_range.mpr (List.getElem?_eq_some_iff.mp e).1)
 rw [e] at this
 simp only [Option.elim] at this
 rw [l] at this
 simpa using this
theorem lvOf_mem {σ : List zA} {i : Nat} (h : i ∈ lvOf σ) : ∃ o, σ[i]? = some o /\ o.live = true := by
 unfold lvOf at h
 refine nG fun ng => ?_
 obtain ⟨h1, h2⟩ := List.mem_filter.mp h
 refine ng ?_
 clear ng
 cases q : σ[i]? with
 | none => rw [q] at h2; cases h2
 | some o => rw [q] at h2; exact ⟨o, rfl, h2⟩
theorem lvOf_in (σ : List zA) : liveIn (lvOf σ) σ = true := by
 unfold liveIn
 refine List.all_eq_true.mpr fun i hi => ?_
 cases q : (σ[i]?).elim false zA.live with
 | false => rfl
 | true =>
  have : i ∈ lvOf σ := List.mem_filter.mpr ⟨hi, q⟩
  simpa using this
noncomputable def cForG (fi : Nat) (p : Pl) (lv : List Nat) (b : CC Fl) : List Int -> Nat -> CC Fl
 | _, 0 => fun _ => none
 | [], _ + 1 => fun σ => some (.next, σ)
 | y :: ys, k + 1 => fun σ => match p.set fi (.imm (.int y)) σ with
  | some σ1 => (match b σ1 with
   | some (.next, σ₂) => if liveIn lv (σ₂.map flt) then cForG fi p lv b ys k (σ₂.map flt) else none
   | some (.cont, σ₂) => if liveIn lv (σ₂.map flt) then cForG fi p lv b ys k (σ₂.map flt) else none
   | some (.brk, σ₂) => some (.next, σ₂)
   | some (.ret q, σ₂) => some (.ret q, σ₂)
   | none => none)
  | none => none
theorem cForG_zero {fi : Nat} {p : Pl} {lv : List Nat} {b : CC Fl} (ys : List Int) (σ : List zA) : cForG fi p lv b ys 0 σ = none := by cases ys <;> rfl
noncomputable def cForGi (fi : Nat) (p : Pl) (f : CC PV) (b : CC Fl) (N : Nat) : CC Fl := fun σ => match f σ with
 | some (.list rs, σ1) => (match intsOf rs with
  | some ruler => if ruler.head? = some 0 then none else cForG fi p (lvOf (σ1.map flt)) b (giY (N + 1) none ruler) (N + 1) (σ1.map flt)
  | none => none)
 | _ => none
noncomputable abbrev noOwn (X : zj) : zj := { X with own := [], tmp := [] }
theorem env_noOwn {ρ : Nat -> Addr} {env : Env} (E : zZ X ρ env) : zZ (noOwn X) ρ env :=
 ⟨E.scope, E.kind, E.loc, E.glob, E.blt, E.cells, List.not_mem_nil, List.not_mem_nil, fun _ _ _ => List.not_mem_nil, fun _ _ _ => List.not_mem_nil, fun i a m => ⟨(E.pin i a m).1, List.not_mem_nil, List.not_mem_nil⟩⟩
theorem intsOf_eq : ∀ {xs : List PV} {ns : List Int}, intsOf xs = some ns -> xs = ns.map .int
 | [], ns, e => by cases e; rfl
 | .int i :: r, ns, e => by
  dsimp only [intsOf] at e
  refine ivI e ?_; clear e; intro l e1 e
  cases e; rw [List.map_cons, intsOf_eq e1]
 | .none :: _, _, e => by cases e
 | .bool _ :: _, _, e => by cases e
 | .str _ :: _, _, e => by cases e
 | .bytes _ :: _, _, e => by cases e
 | .list _ :: _, _, e => by cases e
 | .tup _ :: _, _, e => by cases e
 | .ref _ :: _, _, e => by cases e
 | .rng _ _ :: _, _, e => by cases e
theorem setGen_same {s : Shared} {g : Nat} {x : GenState} {gs : GenState} (h : s.gens[g]? = some gs) : (s.setGen g x).gens[g]? = some x := setGen_self h
theorem setGen_other {s : Shared} {g j : Nat} {x : GenState} (h : j ≠ g) : (s.setGen g x).gens[j]? = s.gens[j]? := by
 show (s.gens.setIfInBounds g x)[j]? = _
 rw [Array.getElem?_setIfInBounds_ne (Ne.symm h)]
theorem setGen_size {s : Shared} {g : Nat} {x : GenState} : (s.setGen g x).gens.size = s.gens.size := by
 show (s.gens.setIfInBounds g x).size = _
 simp
theorem setGen_bare {s : Shared} {g : Nat} {x : GenState} (hx : x.bare = true) (h : AllBare s.gens) : AllBare (s.setGen g x).gens := by
 intro y hy
 refine nG fun ng => ?_
 obtain ⟨j, hj, e⟩ := Array.mem_iff_getElem.mp hy
 refine ng ?_
 clear ng
 by_cases q : j = g
 ·refine nG fun ng => ?_
  subst q
  have h1 : j < s.gens.size := by rw [<- setGen_size (s := s) (g := j) (x := x)]; exact hj
  have := setGen_same (s := s) (g := j) (x := x) (Array.getElem?_eq_getElem h1)
  rw [Array.getElem?_eq_getElem hj] at this
  refine ng ?_
  clear ng
  rw [<- e, Option.some.inj this]; exact hx
 ·have h1 : j < s.gens.size := by rw [<- setGen_size (s := s) (g := g) (x := x)]; exact hj
  have := setGen_other (s := s) (x := x) q
  rw [Array.getElem?_eq_getElem hj, Array.getElem?_eq_getElem h1] at this
  rw [<- e, Option.some.inj this]
  exact h _ (Array.getElem_mem h1)
theorem GX.set {s : Shared} {g : Nat} {x : GenState} {s₀ : Shared} (h : GX s₀ s) (hg : s₀.gens.size <= g) (hx : x.bare = true) : GX s₀ (s.setGen g x) :=
 ⟨h.os, fun j hj => (setGen_other (by omega)).trans (h.old j hj), by rw [setGen_size]; exact h.size, fun hb => setGen_bare hx (h.bare hb)⟩
theorem GX.head {s s' : Shared} {g : Nat} {x : GenState} (h : GX (s.setGen g x) s') (hx : x.bare = true) {s₀ : Shared} (h0 : GX s₀ s) (hg : s₀.gens.size <= g) : GX s₀ s' := (h0.set hg hx).trans h
structure GiIt (C : Cx) (A : Around) (F P : PH) (full : List Int) (N : Nat) (Hz : Heap) (s₀ s : Shared) (ga g : Nat) (L : Addr) (k : Nat) : Prop where
 gen : s.heap.IsGen ga g
 lo : s₀.gens.size <= g
 aL : Alive s.heap L
 gx : GX s₀ s
 go : ∃ gs, s.gens[g]? = some gs /\ GenState.Goes C.M A.in1 (giR L Hz full (N + 1)) (giYp C F L Hz full (N + 1)) k gs (.send .none) (s.setGen g .running)
inductive GiJ (C : Cx) (X : zj) (A : Around) (F1 P : PH) (ρ1 : Nat -> Addr) (p : Pl) (σ₂ : List zA) (b : CC Fl) (v : Fl) (σ' : List zA) (full : List Int) (N : Nat) (Hz : Heap) (s : Shared) (ga g : Nat) (L : Addr) (og : Obj) (k : Nat) (s₃ : Shared) : Prop where
 | mk (σ3 : List zA) (ys : List Int) (h1 : zb C X.N F1 P ρ1 σ3 s₃.heap) (h2 : cForG X.fi p (lvOf σ₂) b ys k σ3 = some (v, σ')) (h3 : ys = full.drop (N + 1 - k)) (h4 : k <= N + 1) (h5 : liveIn (lvOf σ₂) σ3 = true) (h6 : GiIt C A F1 P full N Hz s s₃ ga g L k) (h7 : s₃.heap.get? ga = some og) : GiJ C X A F1 P ρ1 p σ₂ b v σ' full N Hz s ga g L og k s₃
theorem st_forGi {x : Str} {px np cp pos : Pos} {e : Expr} {body : List Stmt} {f : CC PV} {b : CC Fl} {p : Pl} {N : Nat} (D : GiFn C) (hp : PlOK X x p) (he : EvP C X e f) (hb : zi C (noOwn X) body b) (hn : X.n <= 28) (hne : zW e = true)
  (hk : X.scope.names.lookup ("_grouping_intervals" : Str) = some .globalImplicit) :
  StOK C X (.For (.Name x px) (.Call (.Name "_grouping_intervals" np) [e] [] cp) body [] pos) (cForGi X.fi p f b N) := by
 intro A env F P ρ σ s v σ' hA E I hf
 unfold cForGi at hf
 refine nG fun ng => ?_
 split at hf
 ·rename_i rs σ1 e1
  split at hf
  ·rename_i ruler e2
   split at hf
   ·cases hf
   ·rename_i hz0
    have hz : ∀ r, ruler ≠ 0 :: r := fun r q => hz0 (by rw [q]; rfl)
    generalize hfull : giY (N + 1) none ruler = full at hf
    refine ng ?_
    clear ng
    revert full
    refine keep ?_
    set_option tactic.hygienic false in intros
    generalize hσ2 : σ1.map flt = σ₂ at hf
    revert σ₂
    refine keep ?_
    set_option tactic.hygienic false in intros
    refine nG fun ng => ?_
    obtain ⟨a, o, fd, h1, h2, h3, _⟩ := D.ex
    refine ng ?_
    clear ng
    refine wpAny_For ?_ (by intro _; rfl)
    refine wpAny_Call_ofName (wpAny_Name (load_glob (V := .ref a) hk h1 E I ?_) (by decide +kernel))
    refine callWith_function (a := a) (o := o) (fd := fd) (evargs hne (wpAny_items_cons (wpAny_mono (he A env F P ρ σ s _ σ1 hA E I e1) (fun V s₁ ⟨F1, ρ1, n₁, r₁⟩ => wpAny_items_nil ⟨⟨n₁.inv.p _ _ (n₁.inv.top _ _ h2), h3⟩, ?_⟩) fun _ _ x => x) (zR hne)))
    refine nG fun ng => ?_
    obtain ⟨a', o', fd', h1', h2', h3', hcall⟩ := call_gi (A := A) D hA (by omega) n₁.inv.f (n₁.inv.top.trans n₁.inv.p) r₁
    rw [h1] at h1'
    cases h1'
    refine ng ?_
    clear ng
    refine wpAny_mono hcall (fun W s₂ zq => ?_) fun _ _ x => x
    refine nG fun ng => ?_
    obtain ⟨ga, g, L, genv, hW, G⟩ := zq
    subst hW
    refine ng ?_
    clear ng
    refine wpAny_pyIter_gen G.gen ?_
    have I2 : zb C X.N F1 P ρ1 σ₂ s₂.heap := by rw [<- hσ2]; exact (n₁.inv.kept G.keeps).flt (.refl _)
    generalize hHz : s₂.heap = Hz at *
    revert Hz
    refine keep ?_
    set_option tactic.hygienic false in intros
    have hFz : PH.le F1 Hz.get? := I2.f
    have hPz : PH.le P Hz.get? := I2.p
    have hL : F1 L = none /\ P L = none /\ Off σ1 ρ1 L := n₁.inv.fresh fun o e => by rw [G.fl] at e; cases e
    have hG : F1 ga = none /\ P ga = none /\ Off σ1 ρ1 ga := n₁.inv.fresh fun o e => by rw [G.fg] at e; cases e
    have live1 : ∀ (j : Nat) (y : zA), σ₂[j]? = some y -> y.live = true -> ∃ z, σ1[j]? = some z /\ z.live = true := fun j y ey ly => by
     rw [<- hσ2, List.getElem?_map] at ey
     cases w : σ1[j]? with
     | none => rw [w] at ey; cases ey
     | some z => rw [w] at ey; cases ey; exact ⟨z, rfl, flt_live ly⟩
    have hlv : ∀ i, i ∈ lvOf σ₂ -> Alive Hz (ρ1 i) /\ ρ1 i ≠ L /\ ρ1 i ≠ ga := fun i hi => by
     obtain ⟨y, ey, ly⟩ := lvOf_mem hi
     obtain ⟨z, ez, lz⟩ := live1 i y ey ly
     exact ⟨(I2.ob i y ey).alive ly, hL.2.2 i z ez lz, hG.2.2 i z ez lz⟩
    refine nG fun ng => ?_
    obtain ⟨og, nm, qn, hog, hgr⟩ := id G.gen
    rw [hHz] at hog
    have hgar : Alive Hz ga := ⟨og, hog⟩
    have Gx0 : GX s s₂ := n₁.pu.gx.trans G.gx
    have hlo : s.gens.size <= g := Nat.le_trans n₁.pu.gx.size G.lo
    have hA1 : AL (X.n + 1) A.in1 := hA.in1
    have hroom : A.depth < recursionLimit := hA.room (by omega)
    have seg0 := gi_fresh (C := C) D.cm (F0 := F1) (L := L) (ys := full) (N := N) (env := genv) G.env (A := A.in1) hA1 (by omega) (ruler := ruler) (s := s₂.setGen g .running) (by
     have := G.inv
     rw [hHz] at this
     rw [intsOf_eq e2] at this
     show zb C giN F1 (fun a => if a = L then none else s₂.heap.get? a) _ _ s₂.heap
     rw [hHz]
     exact this) hz hfull.symm
    have it0 : GiIt C A F1 P full N Hz s s₂ ga g L (N + 1) := by
     refine ⟨by rw [hHz]; exact ⟨og, nm, qn, hog, hgr⟩, hlo, ?_, Gx0, _, G.gens, rfl, ?_⟩
     ·rw [hHz]; obtain ⟨oL, hoL⟩ := (G.inv.ob 0 _ rfl).alive rfl; rw [hHz] at hoL; exact ⟨oL, hoL⟩
     ·have : (s₂.setGen g .running).heap = Hz := hHz
      rw [this] at seg0
      exact seg0
    refine ng ?_
    clear ng
    refine codeAny_mono (codeAny_forLoop (R := fun r s' => match r with | .ok fl => PoF C X F P ρ s σ' v fl s' | .error _ => False)
     (GiJ C X A F1 P ρ1 p σ₂ b v σ' full N Hz s ga g L og) (fun k s₃ hI => ?_) (N + 1)
     ⟨σ₂, full, by rw [hHz]; exact I2, hf, by rw [Nat.sub_self]; rfl, Nat.le_refl _, lvOf_in _, it0, by rw [hHz]; exact hog⟩) (fun r s' h => by cases r with | ok fl => exact h | error e => exact h.elim)
    refine wpQ fun Q Ex hQ _ => ?_
    refine nG fun ng => ?_
    obtain ⟨σ3, ys, I3, hw, hys, hk1, hli, it, hga3⟩ := hI
    obtain ⟨gs, hgs, hgo⟩ := it.go
    refine ng ?_
    clear ng
    cases k with
    | zero => cases ys <;> cases hw
    | succ k =>
    refine pyNext_gi hA.handled I3.lim hroom it.gen hgs hgo (fun V s₄ gs' hbare hY => ?_) (fun s₄ hP h' hk' => ?_)
    ·-- a value comes
     refine nG fun ng => ?_
     obtain ⟨I0, hI0, ⟨y, hy, t, rfl⟩, kp, gx4, aL4, aI4, hLI, hres⟩ := hY
     have hy' : full[N - k]? = some y := by
      have e : N + 1 - 1 - (k + 1 - 1) = N - k := by omega
      rw [e] at hy; exact hy
     have hys1 : ys = y :: full.drop (N + 1 - k) := by
      rw [hys]
      have e : N + 1 - (k + 1) = N - k := by omega
      rw [e]
      obtain ⟨hlt, hg'⟩ := List.getElem?_eq_some_iff.mp hy'
      rw [List.drop_eq_getElem_cons hlt, hg']
      congr 2
      omega
     rw [hys1] at hw
     dsimp only [cForG] at hw
     have kpl : ∀ b o, Alive Hz b -> b ≠ L -> s₃.heap.get? b = some o -> s₄.heap.get? b = some o := fun b o h1 h2 e => kp b o h1 h2 e
     have lv3 : ∀ (i : Nat) (z : zA), σ3[i]? = some z -> z.live = true -> Alive Hz (ρ1 i) /\ ρ1 i ≠ L /\ ρ1 i ≠ ga := fun i z ez lz => hlv i (liveIn_mem hli ez lz)
     have I4 : zb C X.N F1 P ρ1 σ3 s₄.heap := by
      refine ⟨fun b o e => kpl b o ⟨o, hFz b o e⟩ (fun q => by rw [q, hL.1] at e; cases e) (I3.f b o e), fun b o e => kpl b o ⟨o, hPz b o e⟩ (fun q => by rw [q, hL.2.1] at e; cases e) (I3.p b o e), I3.top, fun i z ez => ?_, I3.fr, I3.inj⟩
      by_cases lz : z.live = true
      ·exact (I3.ob i z ez).mono (.refl _) fun o e => kpl _ o (lv3 i z ez lz).1 (lv3 i z ez lz).2.1 e
      ·exact (I3.ob i z ez).still lz
     obtain ⟨oL, hoL⟩ := aL4
     obtain ⟨oI, hoI⟩ := aI4
     have hga4 : s₄.heap.get? ga = some og := kpl ga og hgar (Ne.symm G.ne) hga3
     have hFI : F1 I0 = none := by
      cases q : F1 I0 with
      | none => rfl
      | some o => have := hFz _ _ q; rw [hI0] at this; cases this
     have hPI : P I0 = none := by
      cases q : P I0 with
      | none => rfl
      | some o => have := hPz _ _ q; rw [hI0] at this; cases this
     have hgI : ga ≠ I0 := fun q => by rw [q] at hog; rw [hI0] at hog; cases hog
     have lvI : ∀ (i : Nat) (z : zA), σ3[i]? = some z -> z.live = true -> ρ1 i ≠ I0 := fun i z ez lz q => by
      obtain ⟨o, ho⟩ := (lv3 i z ez lz).1
      rw [q, hI0] at ho; cases ho
     have J1 := I4.addP hL.2.1 hoL (fun i z ez lz => (lv3 i z ez lz).2.1)
     have J2 := J1.addP (by rw [PH.add_off _ _ (Ne.symm G.ne)]; exact hG.2.1) hga4 (fun i z ez lz => (lv3 i z ez lz).2.2)
     have J3 := J2.addP (by rw [PH.add_off _ _ (Ne.symm hgI), PH.add_off _ _ (Ne.symm hLI)]; exact hPI) hoI lvI
     generalize hPP : (((P.add L oL).add ga og).add I0 oI) = PP at J3
     refine ng ?_
     clear ng
     revert PP
     refine keep ?_
     set_option tactic.hygienic false in intros
     have lePP : PH.le P PP := by
      rw [<- hPP]
      exact (PH.le_add hL.2.1).trans ((PH.le_add (by rw [PH.add_off _ _ (Ne.symm G.ne)]; exact hG.2.1)).trans (PH.le_add (by rw [PH.add_off _ _ (Ne.symm hgI), PH.add_off _ _ (Ne.symm hLI)]; exact hPI)))
     have pI : PP I0 = some oI := by rw [<- hPP]; exact PH.add_self _ _ _
     have pG : PP ga = some og := by rw [<- hPP, PH.add_off _ _ hgI]; exact PH.add_self _ _ _
     have pL : PP L = some oL := by rw [<- hPP, PH.add_off _ _ hLI, PH.add_off _ _ G.ne]; exact PH.add_self _ _ _
     have hEn : zZ X ρ1 env := n₁.env E
     have gx4' : GX s (s₄.setGen g gs') := (gx4.head rfl it.gx hlo).set hlo hbare
     have hgs4 : (s₄.setGen g gs').gens[g]? = some gs' := by
      have hlt : g < s₄.gens.size := by
       have h1 := (Array.getElem?_eq_some_iff.mp hgs).1
       have h2 := gx4.size
       rw [setGen_size] at h2
       omega
      exact setGen_same (Array.getElem?_eq_getElem hlt)
     refine nG fun ng => ?_
     split at hw
     ·rename_i σ5 e5
      refine ng ?_
      clear ng
      refine hQ _ _ ?_
      refine wpAny_mono (bind_ok (s := s₄.setGen g gs') hp hEn J3 (v := .imm (.int y)) (.int y t) e5) (fun _ s₅ n₅ => ?_) fun _ _ x => x.elim
      refine wpQ fun Q2 Ex2 hQ2 _ => ?_
      have X0 : ∀ {F6 : PH} {ρ6 : Nat -> Addr} {σ6 : List zA} {s₆ : Shared}, Sx C (noOwn X) F1 PP ρ1 s₅ F6 ρ6 σ6 s₆ -> Sx C X F P ρ s F6 ρ6 σ6 s₆ := fun {F6 ρ6 σ6 s₆} n₆ => by
       refine ⟨n₆.inv.dropP lePP n₁.inv.top, ⟨gx4'.trans (n₅.pu.gx.trans n₆.pu.gx), n₁.pu.le.trans n₆.pu.le, fun a ha => (n₆.pu.ag a fun z => ?_).trans (n₁.pu.ag a ha)⟩, fun i h1 h2 => (n₆.rho i List.not_mem_nil List.not_mem_nil).trans (n₁.rho i h1)⟩
       cases q : P a with
       | none => exact ha q
       | some o => rw [lePP a o q] at z; cases z
      have back : ∀ {F6 : PH} {ρ6 : Nat -> Addr} {σ6 : List zA} {s₆ : Shared}, Sx C (noOwn X) F1 PP ρ1 s₅ F6 ρ6 σ6 s₆ -> liveIn (lvOf σ₂) (σ6.map flt) = true -> k ≠ 0 ->
        zb C X.N F1 P ρ1 (σ6.map flt) s₆.heap /\ GiIt C A F1 P full N Hz s s₆ ga g L k /\ s₆.heap.get? ga = some og := fun {F6 ρ6 σ6 s₆} n₆ hli' hk0 => by
       have eρ : ρ6 = ρ1 := funext fun i => n₆.rho i List.not_mem_nil List.not_mem_nil
       have hg6 : s₆.heap.get? ga = some og := n₆.inv.p _ _ pG
       have hL6 : s₆.heap.get? L = some oL := n₆.inv.p _ _ pL
       have hI6 : s₆.heap.get? I0 = some oI := n₆.inv.p _ _ pI
       have g6 : GX (s₄.setGen g gs') s₆ := n₅.pu.gx.trans n₆.pu.gx
       have hgs6 : s₆.gens[g]? = some gs' := (g6.old g (Array.getElem?_eq_some_iff.mp hgs4).1).trans hgs4
       have inv6 : zb C X.N F1 P ρ1 (σ6.map flt) s₆.heap := by
        have := n₆.inv
        rw [eρ] at this
        exact (this.dropP lePP n₁.inv.top).flt n₆.pu.le
       refine ⟨inv6, ⟨⟨og, nm, qn, hg6, hgr⟩, hlo, ⟨oL, hL6⟩, gx4'.trans g6, gs', hgs6, ?_⟩, hg6⟩
       rcases hres with hres | hres
       ·exact absurd hres (by simpa using hk0)
       ·have := hres (s₆.setGen g .running) (hL6.trans hoL.symm) (hI6.trans hoI.symm) (n₆.pu.le.trans n₆.inv.f) ((n₁.inv.top.trans lePP).trans n₆.inv.p)
        exact this
      refine body_ok hb hA (env_noOwn hEn) n₅.inv hw (fun F6 ρ6 σ6 s₆ n₆ hw => ?_) (fun F6 ρ6 s₆ n₆ q => ?_) (fun V F6 ρ6 s₆ n₆ q => ?_)
      ·refine nG fun ng => ?_
       refine i1 hw ?_; clear hw; intro hli' hw
       have hk0 : k ≠ 0 := fun q => by subst q; rw [cForG_zero] at hw; cases hw
       obtain ⟨w1, w2, w3⟩ := back n₆ hli' hk0
       have z : ∃ m, m < k + 1 /\ GiJ C X A F1 P ρ1 p σ₂ b v σ' full N Hz s ga g L og m s₆ := ⟨k, Nat.lt_succ_self k, _, _, w1, hw, rfl, by omega, hli', w2, w3⟩
       refine ng ?_
       clear ng
       exact ⟨hQ2 _ _ z, hQ2 _ _ z⟩
      ·subst q; exact hQ2 _ _ ⟨F6, ρ6, X0 n₆, rfl⟩
      ·exact hQ2 _ _ ⟨F6, ρ6, X0 n₆, q⟩
     ·cases hw
    ·-- the end
     refine nG fun ng => ?_
     obtain ⟨hlen, kp, gx4⟩ := hP
     have : ys = [] := by rw [hys]; exact List.drop_eq_nil_of_le hlen
     subst this
     cases hw
     have lv3 : ∀ (i : Nat) (z : zA), σ'[i]? = some z -> z.live = true -> Alive Hz (ρ1 i) /\ ρ1 i ≠ L /\ ρ1 i ≠ ga := fun i z ez lz => hlv i (liveIn_mem hli ez lz)
     have kpl : ∀ b o, Alive Hz b -> b ≠ L -> s₃.heap.get? b = some o -> h'.get? b = some o := fun b o h1 h2 e => hk' b o (kp b o h1 h2 e)
     have I4 : zb C X.N F1 P ρ1 σ' h' := by
      refine ⟨fun b o e => kpl b o ⟨o, hFz b o e⟩ (fun q => by rw [q, hL.1] at e; cases e) (I3.f b o e), fun b o e => kpl b o ⟨o, hPz b o e⟩ (fun q => by rw [q, hL.2.1] at e; cases e) (I3.p b o e), I3.top, fun i z ez => ?_, I3.fr, I3.inj⟩
      by_cases lz : z.live = true
      ·exact (I3.ob i z ez).mono (.refl _) fun o e => kpl _ o (lv3 i z ez lz).1 (lv3 i z ez lz).2.1 e
      ·exact (I3.ob i z ez).still lz
     have gxe : GX s (s₄.setGen g .finished) := (gx4.head rfl it.gx hlo).set hlo rfl
     refine ng ?_
     clear ng
     refine hQ _ _ ?_
     exact wpAny_execs_nil ⟨F1, ρ1, ⟨I4, ⟨gxe.trans .ofh, n₁.pu.le, n₁.pu.ag⟩, fun i h1 h2 => n₁.rho i h1⟩, rfl⟩
  ·cases hf
 ·cases hf
end
section
variable {C : Cx} {X : zj}
noncomputable def rulers5 : List (List Int) := [[3, 3, 1, 0], [3, 3, 1, 0, 5], [3, 3, 1, 1, 1, 1]]
noncomputable def rulers3 : List (List Int) := [[3, 3, 1, 127, 3], [3, 3, 1]]
noncomputable def cutOf (w : List Nat) (r : List Int) : Option (List Int × List (List Nat)) := match w with
 | [a, b, c, d, e, f, g, h, i] => if r ∈ rulers5 then some ([3, 3, 1, 1, 1], [[g, h, i], [d, e, f], [c], [b], [a]]) else if r ∈ rulers3 then some ([3, 3, 1], [[g, h, i], [d, e, f], [c], [a, b]]) else none
 | _ => none
noncomputable def h_cut : List PV -> Option PV
 | [.str w, .list rs] => (match intsOf rs with
  | some r => if w.all (· < 1114112) = true then (match cutOf w r with | some (s, p) => some (.tup [.list (s.map .int), .list (p.map .str)]) | none => none) else none
  | none => none)
 | _ => none
noncomputable abbrev X_cut (n : Nat) : zj :=
 { n := n + 1, fi := 0, N := fun | 0 => ["word", "ruler", "sizes", "pieces", "size"] | _ => [], cells := [], scope := zQ (zD 18), tmp := [], own := [1, 2] }
noncomputable abbrev b_cut_1 : CC Fl := (zJ (zf [] (zC 0 2) (zE (zC 0 4))) (zJ (zf [] (zC 0 3) (cSlice (zE (zC 0 0)) (cPt (cUn hNeg (zE (zC 0 4)))) cNo cNo)) (zJ (zl 0 (.loc 0) (cSlice (zE (zC 0 0)) cNo (cPt (cUn hNeg (zE (zC 0 4)))) cNo)) (zJ (cIf (zP (zM hEq (zE (zC 0 0)) (zX (cQ (.str []))))) (zJ (zL .brk) (zL .next)) (zL .next)) (zL .next)))))
noncomputable abbrev f_cut : CC Fl := (zJ (cOwn 0 (.loc 2) 1 zG) (zJ (cOwn 0 (.loc 3) 2 zG) (zJ (cForGi 0 (.loc 4) (zE (zC 0 1)) b_cut_1 8) (zJ (cIf (zP (zM hNe (zE (zC 0 0)) (zX (cQ (.str []))))) (zJ (zf [] (zC 0 3) (zE (zC 0 0))) (zL .next)) (zL .next)) (zJ (cRet (cTup (zB (zE (zC 0 2)) (zB (zE (zC 0 3)) zG)))) (zL .next))))))
theorem ok_cut {n : Nat} (hn : n <= 25) (G : GlB C) (D : GiFn C) : zi C (X_cut n) (zN (zD 18)) f_cut := by
 change zi C _ (List.cons _ _) _
 repeat' first
 | with_reducible first
  | exact zd
  | refine zT ?_ ?_
  | exact evs_nil
  | refine evs_cons ?_ ?_ rfl
  | exact pt_none
  | refine pt_some ?_
  | refine st_ret ?_
  | refine st_if ?_ ?_ ?_
  | refine st_forGi (by assumption) (zg (by kernel_rfl)) ?_ ?_ (by change _ + 1 <= 28; omega) rfl (by kernel_rfl)
  | refine st_brk
  | refine st_ownA ?_ (by kernel_rfl) (by kernel_rfl)
  | refine st_asgA ?_ (by kernel_rfl) (by kernel_rfl)
  | refine st_append rfl (by kernel_rfl) rfl ?_ ?_
  | refine z8 (by kernel_rfl) (by kernel_rfl)
  | refine yC ?_
  | refine ts_cmp (op_eq (by first | (change _ + 1 <= 40; omega) | (exact Nat.le_trans (by assumption) (by decide : 36 <= 40)) | omega)) ?_ ?_ (by kernel_rfl)
  | refine ts_cmp (op_ne (by first | (change _ + 1 <= 40; omega) | (exact Nat.le_trans (by assumption) (by decide : 36 <= 40)) | omega)) ?_ ?_ (by kernel_rfl)
  | exact evp_str (by kernel_rfl)
  | refine evp ?_
  | refine evp_un op_neg ?_
  | refine evp_tup ?_
  | refine evp_slice2 ?_ ?_ ?_
noncomputable abbrev cutS (w : List Nat) (rv : Option AV) (sz : Option AV) (ss : List PV) (ps : List PV) : List zA := [.frame [some (.imm (.str w)), rv, some (.obj 1), some (.obj 2), sz], .lst ss, .lst ps]
theorem cut_step {w p w' : List Nat} {y : Int} {rv : Option AV} {ss ps : List PV} (h1 : pvSlice (.str w) (some (-y)) none none = some (.str p)) (h2 : pvSlice (.str w) none (some (-y)) none = some (.str w')) (hs : w'.all (· < 1114112) = true) (hl : ss.length < 4000 /\ ps.length < 4000) :
  b_cut_1 (cutS w rv (some (.imm (.int y))) ss ps) = some (if w' = [] then .brk else .next, cutS w' rv (some (.imm (.int y))) (ss ++ [.int y]) (ps ++ [.str p])) := by
 have a1 : zf [] (zC 0 2) (zE (zC 0 4)) (cutS w rv (some (.imm (.int y))) ss ps) = some (.next, cutS w rv (some (.imm (.int y))) (ss ++ [.int y]) ps) := by
  show (if ss.length < 4096 /\ _ then _ else _) = _
  rw [if_pos ⟨by omega, rfl⟩]; rfl
 have a2 : zf [] (zC 0 3) (cSlice (zE (zC 0 0)) (cPt (cUn hNeg (zE (zC 0 4)))) cNo cNo) (cutS w rv (some (.imm (.int y))) (ss ++ [.int y]) ps) = some (.next, cutS w rv (some (.imm (.int y))) (ss ++ [.int y]) (ps ++ [.str p])) := by
  have e : cSlice (zE (zC 0 0)) (cPt (cUn hNeg (zE (zC 0 4)))) cNo cNo (cutS w rv (some (.imm (.int y))) (ss ++ [.int y]) ps) = some (.str p, cutS w rv (some (.imm (.int y))) (ss ++ [.int y]) ps) := e_slice rfl rfl rfl rfl h1
  unfold zf
  rw [show zC 0 3 (cutS w rv (some (.imm (.int y))) (ss ++ [.int y]) ps) = some (.obj 2, cutS w rv (some (.imm (.int y))) (ss ++ [.int y]) ps) from rfl]
  dsimp only
  rw [e]
  show (if ps.length < 4096 /\ _ then _ else _) = _
  rw [if_pos ⟨by omega, rfl⟩]; rfl
 have a3 : zl 0 (.loc 0) (cSlice (zE (zC 0 0)) cNo (cPt (cUn hNeg (zE (zC 0 4)))) cNo) (cutS w rv (some (.imm (.int y))) (ss ++ [.int y]) (ps ++ [.str p])) = some (.next, cutS w' rv (some (.imm (.int y))) (ss ++ [.int y]) (ps ++ [.str p])) :=
  zp (e_slice rfl rfl rfl rfl h2) rfl
 have a4 : zP (zM hEq (zE (zC 0 0)) (zX (cQ (.str [])))) (cutS w' rv (some (.imm (.int y))) (ss ++ [.int y]) (ps ++ [.str p])) = some (w' == [], cutS w' rv (some (.imm (.int y))) (ss ++ [.int y]) (ps ++ [.str p])) := by
  refine z1 (zY (a := .str w') rfl rfl rfl ?_ rfl)
  show (if (w'.all (· < 1114112) && true) = true then some (PV.bool (w' == [])) else none) = _
  rw [hs]; rfl
 by_cases h0 : w' = []
 ·rw [if_pos h0]
  rw [show (w' == []) = true by simpa using h0] at a4
  exact zF a1 (zF a2 (zF a3 (e_seqB (e_ifT a4 (e_seqB rfl)))))
 ·rw [if_neg h0]
  rw [show (w' == []) = false by simpa using h0] at a4
  exact zF a1 (zF a2 (zF a3 (zF (zv a4 rfl) rfl)))
theorem forG_next {fi : Nat} {p : Pl} {lv : List Nat} {b : CC Fl} {y : Int} {ys : List Int} {k : Nat} {σ σ1 σ₂ : List zA} {r : Option (Fl × List zA)} (h1 : p.set fi (.imm (.int y)) σ = some σ1) (h2 : b σ1 = some (.next, σ₂)) (h3 : liveIn lv (σ₂.map flt) = true) (h4 : cForG fi p lv b ys k (σ₂.map flt) = r) :
  cForG fi p lv b (y :: ys) (k + 1) σ = r := by
 dsimp only [cForG]
 rw [h1]; dsimp only; rw [h2]; dsimp only; rw [if_pos h3]; exact h4
theorem forG_brk {fi : Nat} {p : Pl} {lv : List Nat} {b : CC Fl} {y : Int} {ys : List Int} {k : Nat} {σ σ1 σ₂ : List zA} (h1 : p.set fi (.imm (.int y)) σ = some σ1) (h2 : b σ1 = some (.brk, σ₂)) :
  cForG fi p lv b (y :: ys) (k + 1) σ = some (.next, σ₂) := by
 dsimp only [cForG]
 rw [h1]; dsimp only; rw [h2]
theorem idx9 : idxs (some (-3)) none none 9 = [6, 7, 8] /\ idxs none (some (-3)) none 9 = [0, 1, 2, 3, 4, 5] /\ idxs (some (-3)) none none 6 = [3, 4, 5] /\ idxs none (some (-3)) none 6 = [0, 1, 2] /\ idxs (some (-1)) none none 3 = [2] /\ idxs none (some (-1)) none 3 = [0, 1] /\
  idxs (some (-1)) none none 2 = [1] /\ idxs none (some (-1)) none 2 = [0] /\ idxs (some (-1)) none none 1 = [0] /\ idxs none (some (-1)) none 1 = [] := by decide +kernel
theorem zt {w : List Nat} {lo hi : Option Int} {js : List Nat} {p : List Nat} (hl : w.length <= 100) (hi' : idxs lo hi none w.length = js) (hne : js.length = w.length -> p = w) (hp : js.filterMap (w[·]?) = p) : pvSlice (.str w) lo hi none = some (.str p) := by
 show (if (none : Option Int) = some 0 \/ 16777216 < w.length then none else some (PV.str (pickS w lo hi none))) = _
 rw [if_neg (fun q => q.elim (fun h => by cases h) (fun h => by omega))]
 unfold pickS pick
 rw [hi']
 split
 ·rename_i h
  have : js.length = w.length := by simpa using h
  rw [hne this]
 ·rw [hp]
theorem cut_run5 (a b c d e f g h i : Nat) (hs : [a, b, c, d, e, f, g, h, i].all (· < 1114112) = true) (ys : List Int) (rv : Option AV) :
  cForG 0 (.loc 4) [0, 1, 2] b_cut_1 (3 :: 3 :: 1 :: 1 :: 1 :: ys) 9 (cutS [a, b, c, d, e, f, g, h, i] none none [] []) =
   some (.next, cutS [] none (some (.imm (.int 1))) [.int 3, .int 3, .int 1, .int 1, .int 1] [.str [g, h, i], .str [d, e, f], .str [c], .str [b], .str [a]]) := by
 refine nG fun ng => ?_
 obtain ⟨i1, i2, i3, i4, i5, i6, i7, i8, i9, i10⟩ := idx9
 simp only [List.all_cons, List.all_nil, Bool.and_eq_true, decide_eq_true_eq] at hs
 obtain ⟨ha, hb, hc, hd, he, hf, -⟩ := hs
 refine ng ?_
 clear ng
 refine forG_next rfl (cut_step (p := [g, h, i]) (w' := [a, b, c, d, e, f]) (zt (by simp) i1 (by simp) rfl) (zt (by simp) i2 (by simp) rfl) (by simp [*]) (by simp)) rfl ?_
 refine forG_next rfl (cut_step (p := [d, e, f]) (w' := [a, b, c]) (zt (by simp) i3 (by simp) rfl) (zt (by simp) i4 (by simp) rfl) (by simp [*]) (by simp)) rfl ?_
 refine forG_next rfl (cut_step (p := [c]) (w' := [a, b]) (zt (by simp) i5 (by simp) rfl) (zt (by simp) i6 (by simp) rfl) (by simp [*]) (by simp)) rfl ?_
 refine forG_next rfl (cut_step (p := [b]) (w' := [a]) (zt (by simp) i7 (by simp) rfl) (zt (by simp) i8 (by simp) rfl) (by simp [*]) (by simp)) rfl ?_
 exact forG_brk rfl (cut_step (p := [a]) (w' := []) (zt (by simp) i9 (fun _ => rfl) rfl) (zt (by simp) i10 (by simp) rfl) (by simp) (by simp))
theorem cut_run3 (a b c d e f g h i : Nat) (hs : [a, b, c, d, e, f, g, h, i].all (· < 1114112) = true) :
  cForG 0 (.loc 4) [0, 1, 2] b_cut_1 [3, 3, 1] 9 (cutS [a, b, c, d, e, f, g, h, i] none none [] []) =
   some (.next, cutS [a, b] none (some (.imm (.int 1))) [.int 3, .int 3, .int 1] [.str [g, h, i], .str [d, e, f], .str [c]]) := by
 refine nG fun ng => ?_
 obtain ⟨i1, i2, i3, i4, i5, i6, i7, i8, i9, i10⟩ := idx9
 simp only [List.all_cons, List.all_nil, Bool.and_eq_true, decide_eq_true_eq] at hs
 obtain ⟨ha, hb, hc, hd, he, hf, -⟩ := hs
 refine ng ?_
 clear ng
 refine forG_next rfl (cut_step (p := [g, h, i]) (w' := [a, b, c, d, e, f]) (zt (by simp) i1 (by simp) rfl) (zt (by simp) i2 (by simp) rfl) (by simp [*]) (by simp)) rfl ?_
 refine forG_next rfl (cut_step (p := [d, e, f]) (w' := [a, b, c]) (zt (by simp) i3 (by simp) rfl) (zt (by simp) i4 (by simp) rfl) (by simp [*]) (by simp)) rfl ?_
 exact forG_next rfl (cut_step (p := [c]) (w' := [a, b]) (zt (by simp) i5 (by simp) rfl) (zt (by simp) i6 (by simp) rfl) (by simp [*]) (by simp)) rfl rfl
theorem sp_cut {n : Nat} (hn : n <= 25) (G : GlB C) (GD : GiFn C) (D : FnG C "_law_cut" (zD 18) ["word", "ruler"]) : zU C n "_law_cut" h_cut := by
 refine sp_of (X := X_cut n) (is := []) (pls := [.loc 0, .loc 1]) 5 3 D (by omega) rfl rfl rfl (by kernel_rfl) rfl (ok_cut hn G GD) fun as cc hc => ?_
 unfold h_cut at hc
 refine nG fun ng => ?_
 split at hc
 ·rename_i w rs
  split at hc
  ·rename_i r er
   split at hc
   ·rename_i hs
    split at hc
    ·rename_i s p ecut
     refine ng ?_
     clear ng
     refine pe hc ?_; clear hc
     have ers := intsOf_eq er
     refine nG fun ng => ?_
     subst ers
     unfold cutOf at ecut
     split at ecut
     ·rename_i a b c d e f g h i
      have hok : b_cut_1 = b_cut_1 := rfl
      split at ecut
      ·rename_i hr
       refine ng ?_
       clear ng
       refine pf ecut ?_; clear ecut
       have key : ∃ ys, giY 9 none r = 3 :: 3 :: 1 :: 1 :: 1 :: ys /\ r.head? ≠ some 0 := by
        simp only [rulers5, List.mem_cons, List.not_mem_nil, or_false] at hr
        rcases hr with rfl | rfl | rfl <;> exact ⟨_, rfl, by decide⟩
       refine nG fun ng => ?_
       obtain ⟨ys, hy, h0⟩ := key
       have e3 : cForGi 0 (.loc 4) (zE (zC 0 1)) b_cut_1 8 (cutS [a, b, c, d, e, f, g, h, i] (some (.imm (.list (r.map .int)))) none [] []) =
         some (.next, cutS [] none (some (.imm (.int 1))) [.int 3, .int 3, .int 1, .int 1, .int 1] [.str [g, h, i], .str [d, e, f], .str [c], .str [b], .str [a]]) := by
        show (match intsOf (r.map .int) with | some ruler => if ruler.head? = some 0 then none else cForG 0 (.loc 4) [0, 1, 2] b_cut_1 (giY 9 none ruler) 9 (cutS [a, b, c, d, e, f, g, h, i] none none [] []) | none => none) = _
        rw [intsOf_map]
        dsimp only
        rw [if_neg h0, hy]
        exact cut_run5 a b c d e f g h i hs ys none
       refine ng ?_
       clear ng
       exact ⟨rfl, _, _, _, rfl, zF rfl (zF rfl (zF e3 (zF (zv (z1 (zY rfl rfl rfl rfl rfl)) rfl) (z6 (e_ret rfl))))), rfl⟩
      ·split at ecut
       ·rename_i hr
        refine ng ?_
        clear ng
        refine pf ecut ?_; clear ecut
        have key : giY 9 none r = [3, 3, 1] /\ r.head? ≠ some 0 := by
         simp only [rulers3, List.mem_cons, List.not_mem_nil, or_false] at hr
         rcases hr with rfl | rfl <;> exact ⟨rfl, by decide⟩
        refine nG fun ng => ?_
        obtain ⟨hy, h0⟩ := key
        have e3 : cForGi 0 (.loc 4) (zE (zC 0 1)) b_cut_1 8 (cutS [a, b, c, d, e, f, g, h, i] (some (.imm (.list (r.map .int)))) none [] []) =
          some (.next, cutS [a, b] none (some (.imm (.int 1))) [.int 3, .int 3, .int 1] [.str [g, h, i], .str [d, e, f], .str [c]]) := by
         show (match intsOf (r.map .int) with | some ruler => if ruler.head? = some 0 then none else cForG 0 (.loc 4) [0, 1, 2] b_cut_1 (giY 9 none ruler) 9 (cutS [a, b, c, d, e, f, g, h, i] none none [] []) | none => none) = _
         rw [intsOf_map]
         dsimp only
         rw [if_neg h0, hy]
         exact cut_run3 a b c d e f g h i hs
        have hab : (decide (a < 1114112) && (decide (b < 1114112) && true)) = true := by
         simp only [List.all_cons, List.all_nil, Bool.and_eq_true, decide_eq_true_eq] at hs
         simp [hs.1, hs.2.1]
        have e4 : zP (zM hNe (zE (zC 0 0)) (zX (cQ (.str [])))) (cutS [a, b] none (some (.imm (.int 1))) [.int 3, .int 3, .int 1] [.str [g, h, i], .str [d, e, f], .str [c]]) = some (true, cutS [a, b] none (some (.imm (.int 1))) [.int 3, .int 3, .int 1] [.str [g, h, i], .str [d, e, f], .str [c]]) := by
         refine z1 (zY (a := .str [a, b]) rfl rfl rfl ?_ rfl)
         show (if ((decide (a < 1114112) && (decide (b < 1114112) && true)) && true) = true then some (PV.bool true) else none) = _
         rw [hab]; rfl
        refine ng ?_
        clear ng
        exact ⟨rfl, _, _, _, rfl, zF rfl (zF rfl (zF e3 (zF (e_ifT e4 rfl) (z6 (e_ret rfl))))), rfl⟩
       ·cases ecut
     ·cases ecut
    ·cases hc
   ·cases hc
  ·cases hc
 ·cases hc
end
section
set_option maxHeartbeats 0
variable {C : Cx} {X : zj}
noncomputable abbrev X_least (n : Nat) : zj :=
 { n := n + 1, fi := 0, N := fun | 0 => ["leads", "first", "table", "count", "places", "rows", "some", "row", "known"] | 12 => ["old"] | 13 => ["some"] | 14 => ["some"] | 15 => ["line"] | 16 => ["place"] | _ => [], cells := [("lines", 6), ("kinds", 5), ("m", 4), ("led", 3), ("ahead", 2), ("ends", 1)], scope := zQ (zD 23), tmp := [12, 13, 14, 15, 16], own := [7, 8, 9, 10, 11] }
noncomputable abbrev e_least_1 : CC PV := (z3 [12, 13, 14, 15] zH (zK 5) (zE (zC 16 0)))
noncomputable abbrev b_least_1 : CC Fl := (zJ (cCompOwn 0 [12, 13, 14, 15, 16] 8 11 (.loc 0) 16 1 [] (zC 0 4) zc e_least_1) (zJ (cIf (zP (zM hNotIn (z3 [12, 13, 14, 15, 16] zH (zK 5) (z3 [12, 13, 14, 15, 16] zH (zC 0 2) (zE (zC 0 6)))) (zC 0 8))) (zJ (zf [12, 13, 14, 15, 16] (zC 0 4) (z3 [12, 13, 14, 15, 16] zH (zC 0 2) (zE (zC 0 6)))) (zJ (zf [12, 13, 14, 15, 16] (zC 0 8) (z3 [12, 13, 14, 15, 16] zH (zK 5) (z3 [12, 13, 14, 15, 16] zH (zC 0 2) (zE (zC 0 6))))) (zL .next))) (zL .next)) (zJ (zf [12, 13, 14, 15, 16] (zC 0 7) (cMeth [12, 13, 14, 15, 16] "list" hIndex (zC 0 8) (zB (z3 [12, 13, 14, 15, 16] zH (zK 5) (z3 [12, 13, 14, 15, 16] zH (zC 0 2) (zE (zC 0 6)))) zG))) (zL .next))))
noncomputable abbrev b_least_2 : CC Fl := (zJ (zl 0 (.loc 6) (z3 [12, 13, 14, 15, 16] zH (zC 0 4) (zw hLen (zC 0 5)))) (zJ (cOwn 0 (.loc 7) 10 (zB (cIf (zP (zM hEq (zh hAnd (zE (zC 0 6)) (zE (zK 1))) (zX (cQ (.int 0))))) (cQ (.int 0)) (cQ (.int 1))) zG)) (zJ (cFor 0 (.loc 2) (zE (zK 2)) b_least_1) (zJ (zf [12, 13, 14, 15, 16] (zC 0 5) (zE (zC 0 7))) (zL .next)))))
noncomputable abbrev e_least_2 : CC PV := (cMeth [12, 13, 14, 16] "list" hIndex (zK 6) (zB (zE (zC 15 0)) zG))
noncomputable abbrev e_least_3 : CC PV := (z5 (zB (z3 [12, 13, 15, 16] zH (zK 5) (zE (zC 14 0))) (zB (z3 [12, 13, 15, 16] zH (zK 5) (z3 [12, 13, 15, 16] zH (zX (z3 [12, 13, 15, 16] zH (zK 2) (cQ (.int 0)))) (zE (zC 14 0)))) (zB (z3 [12, 13, 15, 16] zH (zK 5) (z3 [12, 13, 15, 16] zH (zX (z3 [12, 13, 15, 16] zH (zK 2) (cQ (.int 1)))) (zE (zC 14 0)))) zG))))
noncomputable abbrev b_least_3 : CC Fl := (zJ (zl 0 (.loc 3) (cLenSet (zE (zK 5)))) (zJ (zl 0 (.cell 6) (zy (.loc 0) 14 1 [] (zO zz (zB (cQ (.int 8)) zG)) zc e_least_3)) (zJ (zl 0 (.cell 5) (zy (.loc 0) 15 1 [] (zE (zK 6)) zc e_least_2)) (zL .next))))
noncomputable abbrev e_least_4 : CC PV := (cIf (zP (zM hEq (zh hAnd (zE (zC 13 0)) (zE (zK 1))) (zX (cQ (.int 0))))) (cQ (.int 0)) (cQ (.int 1)))
noncomputable abbrev e_least_5 : CC PV := (zh hOr (zE (zC 12 0)) (z3 [13, 14, 15, 16] zH (zK 3) (zE (zK 4))))
noncomputable abbrev b_least_4 : CC Fl := (zJ (zl 0 (.loc 2) (zh hAdd (zE (zC 0 2)) (zy (.loc 0) 12 1 [] (zE (zC 0 2)) zc e_least_5))) (zL .next))
noncomputable abbrev b_least_5 : CC Fl := (zJ (zl 0 (.loc 2) (z5 (zB (cQ (.int 0)) zG))) (zJ (cFor 0 (.cell 4) (zO zz (zB (cQ (.int 3)) zG)) b_least_4) (zJ (zf [12, 13, 14, 15, 16] (zK 2) (zE (zC 0 2))) (zL .next))))
noncomputable abbrev f_least : CC Fl := (zJ (cOwn 0 (.cell 2) 7 zG) (zJ (cFor 0 (.cell 3) (zE (zC 0 0)) b_least_5) (zJ (zl 0 (.cell 5) (zy (.loc 0) 13 1 [] (zO zz (zB (cQ (.int 8)) zG)) zc e_least_4)) (zJ (zl 0 (.loc 3) (cQ (.int 0))) (zJ (cWhile (zP (zM hGt (cLenSet (zE (zK 5))) (zC 0 3))) b_least_3 20) (zJ (cOwn 0 (.loc 4) 8 (zB (zE (zC 0 1)) zG)) (zJ (cOwn 0 (.loc 5) 9 zG) (zJ (cWhile (zP (zM hLt (zw hLen (zC 0 5)) (zX (zw hLen (zC 0 4))))) b_least_2 20) (zJ (cRet (zE (zC 0 5))) (zL .next))))))))))
theorem ok_least {n : Nat} (hn : n <= 25) (G : GlB C) : zi C (X_least n) (zN (zD 23)) f_least := by
 change zi C _ (List.cons _ _) _
 repeat' first
 | with_reducible first
  | exact zd
  | refine zT ?_ ?_
  | exact evs_nil
  | refine evs_cons ?_ ?_ rfl
  | exact tf_nil
  | refine st_ret ?_
  | refine st_if ?_ ?_ ?_
  | refine st_whileA ?_ ?_
  | refine st_forA (by kernel_rfl) ?_ ?_ (by intro _ _; with_unfolding_all rfl)
  | refine st_ownA ?_ (by kernel_rfl) (by kernel_rfl)
  | refine st_compOwnA (by kernel_rfl) (by kernel_rfl) ?_ (by kernel_rfl) ?_ ?_ (by kernel_rfl) (by kernel_rfl) (by kernel_rfl) (by intro _ _; with_unfolding_all rfl)
  | refine st_asgcA ?_ (by kernel_rfl)
  | refine st_asgA ?_ (by kernel_rfl) (by kernel_rfl)
  | refine st_append rfl (by kernel_rfl) rfl ?_ ?_
  | refine z8 (by kernel_rfl) (by kernel_rfl)
  | refine ev_cellA (by kernel_rfl)
  | refine yC ?_
  | refine ts_cmp (op_eq (by first | (change _ + 1 <= 40; omega) | (exact Nat.le_trans (by assumption) (by decide : 36 <= 40)) | omega)) ?_ ?_ (by kernel_rfl)
  | refine ts_cmp (op_notIn (by first | (change _ + 1 <= 40; omega) | (exact Nat.le_trans (by assumption) (by decide : 36 <= 40)) | omega)) ?_ ?_ (by kernel_rfl)
  | refine ts_cmp op_lt ?_ ?_ (by kernel_rfl)
  | refine ts_cmp op_gt ?_ ?_ (by kernel_rfl)
  | exact evp_int
  | refine evp ?_
  | refine evp_bin op_add ?_ ?_
  | refine evp_bin op_and ?_ ?_
  | refine evp_bin op_or ?_ ?_
  | refine evp_if ?_ ?_ ?_
  | refine evp_list ?_
  | refine evp_compA (by kernel_rfl) ?_ (by kernel_rfl) ?_ ?_ (by intro _ _; with_unfolding_all rfl)
  | refine evp_sub it_item ?_ ?_ (by intro _ _; with_unfolding_all rfl)
  | refine evp_typ (GlB.no (by assumption) _ (by kernel_rfl)) PyProof.Rows.Boot.«range» (by decide +kernel) (by kernel_rfl) fn_range ?_ (by kernel_rfl) (by kernel_rfl)
  | refine evp_bltV (GlB.no (by assumption) _ (by kernel_rfl)) PyProof.Rows.Boot.«len» (by decide +kernel) rfl fn_len ?_ (by kernel_rfl) (by kernel_rfl)
  | refine evp_lenSet (GlB.no (by assumption) _ (by kernel_rfl)) (GlB.no (by assumption) _ (by kernel_rfl)) ?_ rfl (by kernel_rfl) (by kernel_rfl)
  | refine evp_meth m_list_index (by decide) rfl (by kernel_rfl) (by kernel_rfl) (Nat.le_of_ble_eq_true (by kernel_rfl)) (fn_index (by first | (change _ + 1 <= 40; omega) | (exact Nat.le_trans (by assumption) (by decide : 36 <= 40)) | omega)) ?_ ?_
 | refine evp_sub it_item ?_ ?_ (by intro _ _; with_unfolding_all rfl)
 | refine evp_meth m_list_index (by decide) rfl (by kernel_rfl) (by kernel_rfl) (Nat.le_of_ble_eq_true (by kernel_rfl)) (fn_index (by first | (change _ + 1 <= 40; omega) | (exact Nat.le_trans (by assumption) (by decide : 36 <= 40)) | omega)) ?_ ?_
end
section
variable {C : Cx} {X : zj}
inductive InstO (P : PH) (L K D : Addr) : Prop where
 | mk (o : Obj) (h1 : P L = some o) (h2 : o.cls = .ref K) (h3 : ∀ c, o.data ≠ .cls c) (h4 : o.dict = some D) : InstO P L K D
inductive ClsX (h : Heap) (C N : Addr) : Prop where
 | mk (nm q bs sn sub col dd k0 k1 k2 k3 k5) (e : h.get? C = some (excClassObj nm q C N bs [.type "object"] true sn sub false col dd k0 k1 k2 k3 k5 "object.__new__")) : ClsX h C N
theorem clsX {h : Heap} {C N : Addr} {mN : Str -> Option Value} (x : ClsAt h C N mN) : ClsX h C N := by
 refine nG fun ng => ?_
 obtain ⟨nm, q, bs, sn, sub, col, dd, k0, k1, k2, k3, k5, e⟩ := x.obj
 refine ng ?_
 clear ng
 exact ⟨nm, q, bs, sn, sub, col, dd, k0, k1, k2, k3, k5, e⟩
structure LexC (C : Cx) (L D K N : Addr) (mN : Str -> Option Value) : Prop where
 cls : ∀ h : Heap, PH.le C.P0 h.get? -> ClsAt h K N mN
 ga : mN "__getattribute__" = none
 gt : mN "__getattr__" = none
 sa : mN "__setattr__" = none
 obj : InstO C.P0 L K D
 ne : D ≠ L
 nk : L ≠ K
theorem zb.mutK {N : Nat -> List Str} {F P : PH} {ρ : Nat -> Addr} {σ : List zA} {h h' : Heap} {i : Nat} {o o' : zA} (I : zb C N F P ρ σ h) (e : σ[i]? = some o) (l : o.live = true) (hs : ∀ b x, b ≠ ρ i -> h.get? b = some x -> h'.get? b = some x)
  (ok : ObjOK F ρ (N i) o' (ρ i) h') : zb C N F P ρ (σ.set i o') h' := by
 have il : i < σ.length := (List.getElem?_eq_some_iff.mp e).1
 have hfr := I.fr i o e l
 have off : ∀ (G : PH), G (ρ i) = none -> PH.le G h.get? -> PH.le G h'.get? := fun G g k a x ex => hs a x (fun q => by rw [q, g] at ex; cases ex) (k a x ex)
 have g : ∀ (j : Nat) (x : zA), (σ.set i o')[j]? = some x -> x.live = true -> ∃ y, σ[j]? = some y /\ y.live = true := fun j x ex lx => by
  by_cases q : i = j
  ·subst q; exact ⟨o, e, l⟩
  ·rw [List.getElem?_set_ne q] at ex; exact ⟨x, ex, lx⟩
 refine ⟨off F hfr.1 I.f, off P hfr.2 I.p, I.top, fun j x ex => ?_, fun j x ex lx => ?_, fun j k x y ex ey lx ly q => ?_⟩
 ·by_cases q : i = j
  ·subst q; rw [List.getElem?_set_self il] at ex; cases ex; exact ok
  ·rw [List.getElem?_set_ne q] at ex
   by_cases lx : x.live = true
   ·exact (I.ob j x ex).mono (.refl F) fun z ez => hs _ z (fun w => q (I.inj _ _ _ _ ex e lx l w).symm) ez
   ·exact (I.ob j x ex).still lx
 ·refine nG fun ng => ?_
  obtain ⟨y, ey, ly⟩ := g j x ex lx
  refine ng ?_
  clear ng
  exact I.fr j y ey ly
 ·refine nG fun ng => ?_
  obtain ⟨x', ex', lx'⟩ := g j x ex lx
  obtain ⟨y', ey', ly'⟩ := g k y ey ly
  refine ng ?_
  clear ng
  exact I.inj j k x' y' ex' ey' lx' ly' q
theorem avrep_handed {F : PH} {ρ : Nat -> Addr} {v : AV} {V : Value} (r : AVRep F ρ v V) : handedOut V = pure V := by
 cases v with
 | imm p => have r' : Rep F p V := r; cases r' <;> rfl
 | obj i => have r' : V = .ref (ρ i) := r; subst r'; rfl
theorem LexC.inst {L D K N : Addr} {mN : Str -> Option Value} (x : LexC C L D K N mN) {h : Heap} (hP : PH.le C.P0 h.get?) {m : Str -> Option Value} (hm : h.Ns1 D m) : h.Inst L K m := by
 refine nG fun ng => ?_
 obtain ⟨o, h1, h2, h3, h4⟩ := x.obj
 refine ng ?_
 clear ng
 exact ⟨o, hP _ _ h1, h2, h3, .inr ⟨D, h4, x.ne, hm⟩⟩
noncomputable def cAttr (L : Addr) (i j : Nat) (g : CC AV) : CC AV := fun σ => match g σ with
 | some (.imm (.ref a), σ1) => if a = L then (match σ1[i]? with
  | some (.attrs vs) => (match vs[j]? with | some (some v) => some (v, σ1) | _ => none)
  | _ => none) else none
 | _ => none
theorem cAttr_eq {L : Addr} {i j : Nat} {g : CC AV} {σ σ' : List zA} {v : AV} (h : cAttr L i j g σ = some (v, σ')) : g σ = some (.imm (.ref L), σ') /\ ∃ vs, σ'[i]? = some (.attrs vs) /\ vs[j]? = some (some v) := by
 unfold cAttr at h
 refine nG fun ng => ?_
 refine ivAr h ?_; clear h; intro a σ1 e h
 refine i1 h ?_; clear h; intro ha h
 subst ha
 refine ivAt h ?_; clear h; intro vs e1 h
 refine ivOV h ?_; clear h; intro v' e2 h
 refine ng ?_
 clear ng
 cases h; exact ⟨e, vs, e1, e2⟩
theorem attr_read {A : Around} {F P : PH} {ρ : Nat -> Addr} {σ : List zA} {s : Shared} {L D K N : Addr} {mN : Str -> Option Value} {i j : Nat} {attr : Str} {vs : List (Option AV)} {v : AV} {expr : Bool} {Q : Value -> Shared -> Prop} (Lx : LexC C L D K N mN)
  (hρ : ρ i = D) (hj : (X.N i)[j]? = some attr) (hna : mN attr = none) (hB : typeLookup (.type "object") attr = pure none) (I : zb C X.N F P ρ σ s.heap) (e1 : σ[i]? = some (.attrs vs)) (e2 : vs[j]? = some (some v))
  (h : ∀ V, AVRep F ρ v V -> Q V { s with toks := s.toks + 1 }) : wpAny C.M A (getAttr (.ref L) attr expr) Q (fun _ _ => False) s := by
 refine nG fun ng => ?_
 obtain ⟨m, hm, hin, hnd, hv⟩ := I.ob _ _ e1
 obtain ⟨V, h1, h2⟩ := hv j attr v hj e2
 have hP := I.top.trans I.p
 rw [hρ] at hm
 have cl := Lx.cls _ hP
 obtain ⟨nm, q, bs, sn, sub, col, dd, k0, k1, k2, k3, k5, hC⟩ := clsX cl
 obtain ⟨hh, g, d, t, os⟩ := s
 refine ng ?_
 clear ng
 exact load_attr hC cl.ns Lx.ga hna hB (Lx.inst hP hm) h1 (avrep_handed h2) (h V h2)
theorem ev_attr {x attr : Str} {np pos : Pos} {g : CC AV} {L D K N : Addr} {mN : Str -> Option Value} {i j : Nat} (Lx : LexC C L D K N mN) (hpin : (i, D) ∈ X.pins) (hj : (X.N i)[j]? = some attr) (hna : mN attr = none) (hB : typeLookup (.type "object") attr = pure none)
  (hg : EvOK C X (.Name x np) g) : EvOK C X (.Attribute (.Name x np) attr pos) (cAttr L i j g) := by
 intro A env F P ρ σ s v σ' hA E I hf
 refine nG fun ng => ?_
 obtain ⟨e0, vs, e1, e2⟩ := cAttr_eq hf
 refine ng ?_
 clear ng
 refine PyProof.Rows.Attribute_name (wpAny_mono (hg A env F P ρ σ s _ σ' hA E I e0) (fun V s₁ zq => ?_) fun _ _ x => x)
 refine nG fun ng => ?_
 obtain ⟨F1, ρ1, n₁, r₁⟩ := zq
 have r' : Rep F1 (.ref L) V := r₁
 cases r'
 refine ng ?_
 clear ng
 exact attr_read Lx ((n₁.env E).pin _ _ hpin).1 hj hna hB n₁.inv e1 e2 fun V r => ⟨F1, ρ1, n₁.toks, r⟩
noncomputable def cPin (B : Addr) (i : Nat) (f : CC AV) : CC AV := fun σ => match f σ with
 | some (.imm (.ref b), σ') => if b = B then some (.obj i, σ') else none
 | _ => none
theorem ev_pin {e : Expr} {f : CC AV} {B : Addr} {i : Nat} (hpin : (i, B) ∈ X.pins) (h : EvOK C X e f) : EvOK C X e (cPin B i f) := by
 intro A env F P ρ σ s v σ' hA E I hf
 unfold cPin at hf
 refine nG fun ng => ?_
 refine ivAr hf ?_; clear hf; intro b σ1 e1 hf
 refine i1 hf ?_; clear hf; intro hb hf
 cases hf
 subst hb
 refine ng ?_
 clear ng
 refine wpAny_mono (h A env F P ρ σ s _ σ' hA E I e1) (fun V s₁ ⟨F1, ρ1, n₁, r₁⟩ => ⟨F1, ρ1, n₁, ?_⟩) fun _ _ x => x
 have r' : Rep F1 (.ref b) V := r₁
 refine nG fun ng => ?_
 cases r'
 refine ng ?_
 clear ng
 show _ = Value.ref (ρ1 i)
 rw [((n₁.env E).pin _ _ hpin).1]
noncomputable def cInc (L : Addr) (i j : Nat) (g : CC AV) (k : Int) : CC Fl := fun σ => match cAttr L i j g σ with
 | some (.imm (.int n), σ1) => (match σ1[i]? with | some (.attrs vs) => some (.next, σ1.set i (.attrs (vs.set j (some (.imm (.int (n + k))))))) | _ => none)
 | _ => none
theorem st_inc {x attr : Str} {np tp cp pos : Pos} {kk : Nat} {g : CC AV} {L D K N : Addr} {mN : Str -> Option Value} {i j : Nat} {k : Int} (Lx : LexC C L D K N mN) (hpin : (i, D) ∈ X.pins) (hj : (X.N i)[j]? = some attr) (hna : mN attr = none) (hB : typeLookup (.type "object") attr = pure none) (hN : (X.N i).length <= 100)
  (hg : EvOK C X (.Name x np) g) : StOK C X (.AugAssign (.Attribute (.Name x np) attr tp) .Add (.Constant (.int k) kk cp) pos) (cInc L i j g k) := by
 intro A env F P ρ σ s v σ' hA E I hf
 unfold cInc at hf
 refine nG fun ng => ?_
 split at hf
 ·rename_i n σ1 e0
  split at hf
  ·rename_i vs e3
   cases hf
   obtain ⟨e0, vs', e1, e2⟩ := cAttr_eq e0
   rw [e3] at e1
   cases e1
   refine ng ?_
   clear ng
   refine wpAny_AugAssign_AttributeAny (wpAny_mono (hg A env F P ρ σ s _ σ1 hA E I e0) (fun V s₁ zq => ?_) fun _ _ x => x)
   refine nG fun ng => ?_
   obtain ⟨F1, ρ1, n₁, r₁⟩ := zq
   have r' : Rep F1 (.ref L) V := r₁
   cases r'
   have hρ := ((n₁.env E).pin _ _ hpin).1
   refine ng ?_
   clear ng
   refine attr_read Lx hρ hj hna hB n₁.inv e3 e2 fun V r => ?_
   have r' : Rep F1 (.int n) V := r
   cases r' with
   | int _ t =>
    refine wpAny_Constant_int (PyProof.Rows.iadd_int ?_)
    refine nG fun ng => ?_
    obtain ⟨m, hm, hin, hnd, hv⟩ := n₁.inv.ob _ _ e3
    have hP := n₁.inv.top.trans n₁.inv.p
    have hm' := hm
    rw [hρ] at hm'
    have cl := Lx.cls _ hP
    obtain ⟨nm, q, bs, sn, sub, col, dd, k0, k1, k2, k3, k5, hC⟩ := clsX cl
    obtain ⟨hh, gg, d, tk, os⟩ := s₁
    refine ng ?_
    clear ng
    refine store_attr PySem.F.store_object hC cl.ns Lx.sa hna hB Lx.nk (Lx.inst hP hm') (fun h' tk' I' hk hsame => ?_) (ns := X.N i) hin (by rw [sizeLine_eq]; omega)
    refine nG fun ng => ?_
    obtain ⟨oL, h1, h2, h3, h4⟩ := Lx.obj
    have kp : ∀ b o, b ≠ D -> hh.get? b = some o -> h'.get? b = some o := fun b o hb e => by
     by_cases q : b = L
     ·have q := q.symm; subst q
      obtain ⟨o₁, w1, w2, w3, w4, w5⟩ := hsame o e
      have eo : oL = o := Option.some.inj ((hP _ _ h1).symm.trans e)
      rw [w1]
      subst eo
      have w6 := w5 D h4
      cases o₁; cases oL
      simp only at w2 w3 w4 w6 h4
      rw [w2, w3, w4, w6, h4]
     ·exact hk b o q (fun o0 dx e₀ ed => by
       have eo : oL = o0 := Option.some.inj ((hP _ _ h1).symm.trans e₀)
       subst eo
       rw [h4] at ed; cases ed; exact hb) e
    obtain ⟨oL', w1, w2, w3, w4⟩ := I'
    have hm2 : ∃ V, AVRep F1 ρ1 (.imm (.int (n + k))) V /\ h'.Ns1 D (fun y => if y = attr then some V else m y) := by
     have eL : h'.get? L = some oL := kp L oL (Ne.symm Lx.ne) (hP _ _ h1)
     have : oL' = oL := Option.some.inj (w1.symm.trans eL)
     subst this
     rcases w4 with ⟨w4, _⟩ | ⟨d', w4, _, w5⟩
     ·rw [h4] at w4; cases w4
     ·rw [h4] at w4; cases w4; exact ⟨_, Rep.int _ _, w5⟩
    obtain ⟨V2, rV2, hm2⟩ := hm2
    refine ng ?_
    clear ng
    refine ⟨F1, ρ1, n₁.sx.trans ⟨n₁.inv.mutK e3 rfl (by rw [hρ]; exact kp) ⟨_, by rw [hρ]; exact hm2, fun y hy => ?_, FrameOK.set ⟨hnd, hv⟩ hj (v := .imm (.int (n + k))) rV2⟩, ⟨.of, .refl _, fun _ _ => rfl⟩, fun _ _ _ => rfl⟩, rfl⟩
    by_cases q : y = attr
    ·rw [q]; exact List.mem_of_getElem? hj
    ·rw [if_neg q] at hy; exact hin y hy
  ·cases hf
 ·cases hf
end
section
variable {C : Cx} {X : zj}
set_option genInjectivity false in
structure LX where
 L : Addr
 D : Addr
 B : Addr
 S : Addr
 E : Addr
 K : Addr
 N : Addr
 mN : Str -> Option Value
noncomputable def LX.pins (Z : LX) : List (Nat × Addr) := [(0, Z.D), (1, Z.B), (2, Z.S), (3, Z.E)]
noncomputable def NL : Nat -> List Str := fun | 0 => ["lineno", "instream", "whitespace", "pushback", "read"] | _ => []
noncomputable def giv (ρ : Nat -> Addr) (σ : List zA) (a : Addr) : Bool := (List.range 4).any fun i => ((σ[i]?).elim false zA.live) && ρ i == a
theorem giv_iff {ρ : Nat -> Addr} {σ : List zA} {a : Addr} : giv ρ σ a = true ↔ ∃ i o, i < 4 /\ σ[i]? = some o /\ o.live = true /\ ρ i = a := by
 unfold giv
 rw [List.any_eq_true]
 constructor
 ·rintro ⟨i, hi, h⟩
  refine nG fun ng => ?_
  obtain ⟨h1, h2⟩ := Bool.and_eq_true_iff.mp h
  refine ng ?_
  clear ng
  cases q : σ[i]? with
  | none => rw [q] at h1; cases h1
  | some o => rw [q] at h1; exact ⟨i, o, List.mem_range.mp hi, q, h1, beq_iff_eq.mp h2⟩
 ·rintro ⟨i, o, hi, q, l, e⟩
  exact ⟨i, List.mem_range.mpr hi, by rw [q, e]; simp [l]⟩
noncomputable def partP (ρ : Nat -> Addr) (σ : List zA) (h : Heap) : PH := fun a => if giv ρ σ a = true then none else h.get? a
theorem take4 {σ : List zA} {i : Nat} {o : zA} : (σ.take 4)[i]? = some o ↔ i < 4 /\ σ[i]? = some o := by
 rw [List.getElem?_take]
 split
 ·rename_i h; exact ⟨fun e => ⟨h, e⟩, fun e => e.2⟩
 ·rename_i h; exact ⟨fun e => (by cases e), fun e => absurd e.1 h⟩
theorem zb.part {N : Nat -> List Str} {F P : PH} {ρ : Nat -> Addr} {σ : List zA} {h : Heap} (I : zb C N F P ρ σ h) (hN : ∀ i, i < 4 -> N i = NL i) : zb C NL F (partP ρ σ h) ρ (σ.take 4) h := by
 refine ⟨I.f, fun a o e => ?_, fun a o e => ?_, fun i o e => ?_, fun i o e l => ?_, fun i j o o' e e' l l' q => ?_⟩
 ·unfold partP at e
  refine nG fun ng => ?_
  split at e
  ·cases e
  ·refine ng ?_
   clear ng
   exact e
 ·unfold partP
  rw [if_neg]
  ·exact I.p a o (I.top a o e)
  ·intro q
   refine nG fun ng => ?_
   obtain ⟨i, x, _, hx, l, rfl⟩ := giv_iff.mp q
   have := (I.fr i x hx l).2
   rw [I.top _ _ e] at this; cases this
 ·refine nG fun ng => ?_
  obtain ⟨hi, e'⟩ := take4.mp e
  refine ng ?_
  clear ng
  rw [<- hN i hi]; exact I.ob i o e'
 ·refine nG fun ng => ?_
  obtain ⟨hi, e'⟩ := take4.mp e
  refine ng ?_
  clear ng
  exact ⟨(I.fr i o e' l).1, if_pos (giv_iff.mpr ⟨i, o, hi, e', l, rfl⟩)⟩
 ·exact I.inj i j o o' (take4.mp e).2 (take4.mp e').2 l l' q
theorem zb.join {N : Nat -> List Str} {F F' P : PH} {ρ : Nat -> Addr} {σ os : List zA} {h h' : Heap} (I : zb C N F P ρ σ h) (J : zb C NL F' (partP ρ σ h) ρ os h') (hN : ∀ i, i < 4 -> N i = NL i) (hl : os.length = 4) (le : PH.le F F') (ag : ∀ a, partP ρ σ h a ≠ none -> F' a = F a) :
  zb C N F' P ρ (os ++ σ.drop 4) h' := by
 have get : ∀ (i : Nat) (o : zA), (os ++ σ.drop 4)[i]? = some o -> (i < 4 /\ os[i]? = some o) \/ (4 <= i /\ σ[i]? = some o) := fun i o e => by
  by_cases hi : i < 4
  ·rw [List.getElem?_append_left (by omega)] at e; exact .inl ⟨hi, e⟩
  ·rw [List.getElem?_append_right (by omega), List.getElem?_drop, hl] at e
   exact .inr ⟨by omega, by rw [show 4 + (i - 4) = i by omega] at e; exact e⟩
 have far : ∀ (i : Nat) (o : zA), 4 <= i -> σ[i]? = some o -> o.live = true -> partP ρ σ h (ρ i) = h.get? (ρ i) /\ Alive h (ρ i) := fun i o hi e l => by
  refine ⟨if_neg fun q => ?_, (I.ob i o e).alive l⟩
  obtain ⟨j, x, hj, hx, lx, hr⟩ := giv_iff.mp q
  have := I.inj j i x o hx e lx l hr
  omega
 have keep : ∀ a o, P a = some o -> h'.get? a = some o := fun a o e => by
  refine J.p a o ?_
  unfold partP
  rw [if_neg]
  ·exact I.p a o e
  ·intro q
   obtain ⟨i, x, _, hx, l, rfl⟩ := giv_iff.mp q
   have := (I.fr i x hx l).2
   rw [e] at this; cases this
 refine ⟨J.f, keep, I.top, fun i o e => ?_, fun i o e l => ?_, fun i j o o' e e' l l' q => ?_⟩
 ·refine nG fun ng => ?_
  rcases get i o e with ⟨hi, e⟩ | ⟨hi, e⟩
  ·refine ng ?_
   clear ng
   rw [hN i hi]; exact J.ob i o e
  ·refine ng ?_
   clear ng
   by_cases l : o.live = true
   ·refine nG fun ng => ?_
    obtain ⟨h1, h2⟩ := far i o hi e l
    refine ng ?_
    clear ng
    exact (I.ob i o e).mono le fun x ex => J.p _ _ (h1.trans ex)
   ·have := (I.ob i o e).mono (h' := h) le fun x ex => ex
    exact this.still l
 ·refine nG fun ng => ?_
  rcases get i o e with ⟨hi, e⟩ | ⟨hi, e⟩
  ·obtain ⟨h1, h2⟩ := J.fr i o e l
   refine ng ?_
   clear ng
   refine ⟨h1, ?_⟩
   cases q : P (ρ i) with
   | none => rfl
   | some x =>
    have h3 := I.p _ _ q
    unfold partP at h2
    refine nG fun ng => ?_
    split at h2
    ·rename_i hg
     obtain ⟨j, y, _, hy, ly, hr⟩ := giv_iff.mp hg
     have := (I.fr j y hy ly).2
     rw [hr, q] at this; cases this
    ·rw [h3] at h2; cases h2
  ·obtain ⟨h1, o', h2⟩ := far i o hi e l
   refine ng ?_
   clear ng
   exact ⟨(ag _ (by rw [h1, h2]; exact nofun)).trans (I.fr i o e l).1, (I.fr i o e l).2⟩
 ·refine nG fun ng => ?_
  rcases get i o e with ⟨hi, e⟩ | ⟨hi, e⟩
  ·rcases get j o' e' with ⟨hj, e'⟩ | ⟨hj, e'⟩
   ·refine ng ?_
    clear ng
    exact J.inj i j o o' e e' l l' q
   ·obtain ⟨h1, x, h2⟩ := far j o' hj e' l'
    have := (J.fr i o e l).2
    rw [q, h1, h2] at this; cases this
  ·rcases get j o' e' with ⟨hj, e'⟩ | ⟨hj, e'⟩
   ·obtain ⟨h1, x, h2⟩ := far i o hi e l
    have := (J.fr j o' e' l').2
    rw [<- q, h1, h2] at this; cases this
   ·refine ng ?_
    clear ng
    exact I.inj i j o o' e e' l l' q
inductive OpR (C : Cx) (F P : PH) (ρ : Nat -> Addr) (s : Shared) (os' : List zA) (c : PV) (V : Value) (s' : Shared) : Prop where
 | mk (F' : PH) (inv : zb C NL F' P ρ os' s'.heap) (pu : Pu F P s F' s') (r : Rep F' c V) : OpR C F P ρ s os' c V s'
noncomputable def OpS (C : Cx) (Z : LX) (n : Nat) (t : List Value -> Sem Value) (h : List PV -> List zA -> Option (PV × List zA)) : Prop :=
 ∀ A F P ρ s as Vs os c os', AL n A -> zb C NL F P ρ os s.heap -> (∀ i a, (i, a) ∈ Z.pins -> ρ i = a) -> os.length = 4 -> RepL F as Vs -> h as os = some (c, os') ->
  wpAny C.M A (t Vs) (OpR C F P ρ s os' c) (fun _ _ => False) s
structure LexX (X : zj) (Z : LX) : Prop where
 names : ∀ i, i < 4 -> X.N i = NL i
 pins : ∀ p, p ∈ Z.pins -> p ∈ X.pins
noncomputable def yA (h : List PV -> List zA -> Option (PV × List zA)) (as : List PV) (σ : List zA) : Option (PV × List zA) := match h as (σ.take 4) with
 | some (c, os') => if os'.length = 4 /\ 4 <= σ.length then some (c, os' ++ σ.drop 4) else none
 | none => none
theorem lex_run {Z : LX} {t : List Value -> Sem Value} {h : List PV -> List zA -> Option (PV × List zA)} {A : Around} {env : Env} {F P : PH} {ρ : Nat -> Addr} {σ σ' : List zA} {s : Shared} {as : List PV} {Vs : List Value} {c : PV}
  (ho : OpS C Z X.n t h) (hX : LexX X Z) (hA : AL X.n A) (E : zZ X ρ env) (I : zb C X.N F P ρ σ s.heap) (r : RepL F as Vs) (hf : yA h as σ = some (c, σ')) :
  wpAny C.M A (t Vs) (PoV C X F P ρ s σ' c) (fun _ _ => False) s := by
 unfold yA at hf
 refine nG fun ng => ?_
 refine ivP hf ?_; clear hf; intro c' os' e hf
 refine i1 hf ?_; clear hf; intro hl hf
 cases hf
 refine ng ?_
 clear ng
 refine wpAny_mono (ho A F _ ρ s as Vs (σ.take 4) c os' hA (I.part hX.names) (fun i a m => (E.pin i a (hX.pins _ m)).1) (by rw [List.length_take]; omega) r e) (fun V s' ⟨F', J, pu, rr⟩ => ⟨F', ρ, ⟨I.join J hX.names hl.1 pu.le pu.ag, ⟨pu.gx, pu.le, fun a ha => pu.ag a fun q => ?_⟩, fun _ _ => rfl⟩, rr⟩) fun _ _ x => x
 cases w : P a with
 | none => exact ha w
 | some o =>
  unfold partP at q
  refine nG fun ng => ?_
  split at q
  ·rename_i hg
   obtain ⟨j, y, _, hy, ly, hr⟩ := giv_iff.mp hg
   have := (I.fr j y hy ly).2
   rw [hr, w] at this; cases this
  ·rw [I.p _ _ w] at q; cases q
end
section
variable {C : Cx} {X : zj}
noncomputable def noObjV : Option AV -> Bool
 | some (.obj _) => false
 | _ => true
noncomputable def noObj : zA -> Bool
 | .cell v => noObjV v
 | .frame vs => vs.all noObjV
 | .attrs vs => vs.all noObjV
 | _ => true
theorem avrep_rho {F : PH} {ρ ρ' : Nat -> Addr} {v : AV} {V : Value} (h : noObjV (some v) = true) (r : AVRep F ρ v V) : AVRep F ρ' v V := by
 cases v with
 | imm p => exact r
 | obj i => cases h
theorem FrameOK.rho {F : PH} {ρ ρ' : Nat -> Addr} {names : List Str} {vals : List (Option AV)} {m : Str -> Option Value} (h : vals.all noObjV = true) (x : FrameOK F ρ names vals m) : FrameOK F ρ' names vals m :=
 ⟨x.1, fun k n v h1 h2 => let ⟨V, a, b⟩ := x.2 k n v h1 h2; ⟨V, a, avrep_rho (List.all_eq_true.mp h _ (List.mem_of_getElem? h2)) b⟩⟩
theorem ObjOK.rho {F : PH} {ρ ρ' : Nat -> Addr} {names : List Str} {o : zA} {a : Addr} {h : Heap} (hn : noObj o = true) (x : ObjOK F ρ names o a h) : ObjOK F ρ' names o a h := by
 cases o with
 | dead => trivial
 | frozen p => exact x
 | lst xs => exact x
 | cell v => obtain ⟨V, c, d⟩ := x; exact ⟨V, c, fun u e => by subst e; obtain ⟨W, e1, r⟩ := d u rfl; exact ⟨W, e1, avrep_rho hn r⟩⟩
 | frame vs => obtain ⟨m, a, b⟩ := x; exact ⟨m, a, b.rho hn⟩
 | attrs vs => obtain ⟨m, a, c, b⟩ := x; exact ⟨m, a, c, b.rho hn⟩
 | fit e f y => exact x
 | tab ps => exact x
theorem zb.ext {N N' : Nat -> List Str} {F P : PH} {ρ : Nat -> Addr} {os : List zA} {h : Heap} (I : zb C N F P ρ os h) (k : Nat) (hN : ∀ i, i < os.length -> N' i = N i) : zb C N' F P ρ (os ++ List.replicate k zA.dead) h := by
 have get : ∀ (i : Nat) (o : zA), (os ++ List.replicate k zA.dead)[i]? = some o -> (i < os.length /\ os[i]? = some o) \/ o = .dead := fun i o e => by
  by_cases hi : i < os.length
  ·rw [List.getElem?_append_left hi] at e; exact .inl ⟨hi, e⟩
  ·rw [List.getElem?_append_right (by omega), List.getElem?_replicate] at e
   split at e
   ·cases e; exact .inr rfl
   ·cases e
 refine ⟨I.f, I.p, I.top, fun i o e => ?_, fun i o e l => ?_, fun i j o o' e e' l l' q => ?_⟩
 ·refine nG fun ng => ?_
  rcases get i o e with ⟨hi, e⟩ | rfl
  ·refine ng ?_
   clear ng
   rw [hN i hi]; exact I.ob i o e
  ·refine ng ?_
   clear ng
   trivial
 ·refine nG fun ng => ?_
  rcases get i o e with ⟨_, e⟩ | rfl
  ·refine ng ?_
   clear ng
   exact I.fr i o e l
  ·cases l
 ·refine nG fun ng => ?_
  rcases get i o e with ⟨_, e⟩ | rfl
  ·rcases get j o' e' with ⟨_, e'⟩ | rfl
   ·refine ng ?_
    clear ng
    exact I.inj i j o o' e e' l l' q
   ·cases l'
  ·cases l
theorem zb.cut {N : Nat -> List Str} {F P : PH} {ρ ρ' : Nat -> Addr} {σ : List zA} {h : Heap} (I : zb C N F P ρ' σ h) (hN : ∀ i, i < 4 -> N i = NL i) (hr : ∀ i, i < 4 -> ρ' i = ρ i) (hn : (σ.take 4).all noObj = true) : zb C NL F P ρ (σ.take 4) h := by
 refine ⟨I.f, I.p, I.top, fun i o e => ?_, fun i o e l => ?_, fun i j o o' e e' l l' q => ?_⟩
 ·have hno := List.all_eq_true.mp hn o (List.mem_of_getElem? e)
  refine nG fun ng => ?_
  obtain ⟨hi, e'⟩ := take4.mp e
  refine ng ?_
  clear ng
  rw [<- hN i hi, <- hr i hi]; exact (I.ob i o e').rho hno
 ·refine nG fun ng => ?_
  obtain ⟨hi, e'⟩ := take4.mp e
  refine ng ?_
  clear ng
  rw [<- hr i hi]; exact I.fr i o e' l
 ·refine nG fun ng => ?_
  obtain ⟨hi, e⟩ := take4.mp e
  obtain ⟨hj, e'⟩ := take4.mp e'
  rw [<- hr i hi, <- hr j hj] at q
  refine ng ?_
  clear ng
  exact I.inj i j o o' e e' l l' q
inductive RunL (X : zj) (pls : List Pl) (nv len : Nat) (is : List Nat) (f : CC Fl) (as : List PV) (os : List zA) (c : PV) (os' : List zA) : Prop where
 | mk (σ1 : List zA) (v : Fl) (σ' : List zA) (h1 : bindS X.fi pls as (compIn X.fi nv is (os ++ List.replicate len zA.dead)) = some σ1) (h2 : f σ1 = some (v, σ')) (h3 : flv v = c) (h4 : σ'.take 4 = os') : RunL X pls nv len is f as os c os'
theorem lex_fn {Z : LX} {n : Nat} {a : Addr} {fd : FuncData} {body : List Stmt} {is : List Nat} {clo : List (Str × Nat)} {ps : List Str} {pls : List Pl} {f : CC Fl} {h : List PV -> List zA -> Option (PV × List zA)} (nv len : Nat)
  (FA : DefAt C a fd body ps) (En : EntOK X fd.scope is clo ps pls) (hclo : ∀ ρ : Nat -> Addr, (∀ i a, (i, a) ∈ Z.pins -> ρ i = a) -> fd.closure = clA ρ clo) (hb : zi C X body f) (hn : n <= 40) (hXn : X.n = n + 1) (hN : ∀ i, i < 4 -> X.N i = NL i) (hp : X.pins = Z.pins)
  (hfi : ∀ i, i < 4 -> i ∉ X.fi :: is /\ i ∉ X.tmp /\ i ∉ X.own) (hl : (X.fi :: is).all (· < 4 + len) = true)
  (hrun : ∀ as os c os', os.length = 4 -> h as os = some (c, os') -> as.length = ps.length /\ os'.all noObj = true /\ RunL X pls nv len is f as os c os') :
  OpS C Z n (fun vs => call (.ref a) vs) h := by
 intro A F P ρ s as Vs os c os' hA I hpin hos r hc
 refine nG fun ng => ?_
 obtain ⟨h0, hno, σ1, v, σ', h1, h2, h3, h4⟩ := hrun as os c os' hos hc
 have I' := I.ext (N' := X.N) len (fun i hi => hN i (by omega))
 refine ng ?_
 clear ng
 refine wpAny_mono (fn_run (C := C) (X := X) (nv := nv) FA En (hclo ρ hpin) hb hA hn hXn I' (fun i a m => hpin i a (hp ▸ m)) (by rw [List.length_append, List.length_replicate, hos]; exact hl) r h0 h1 h2) (fun V s' zq => ?_) fun _ _ x => x
 refine nG fun ng => ?_
 obtain ⟨F', ρ', J, pu, rr, hρ⟩ := zq
 refine ng ?_
 clear ng
 subst h3 h4
 exact ⟨F', J.cut hN (fun i hi => hρ i (hfi i hi).1 (hfi i hi).2.1 (hfi i hi).2.2) hno, pu, rr⟩
structure MethC (C : Cx) (Z : LX) (name : Str) (f : Addr) : Prop where
 lex : LexC C Z.L Z.D Z.K Z.N Z.mN
 fn : Z.mN name = some (.ref f)
 ob : ∃ o fd, C.P0 f = some o /\ o.cls = .type "function" /\ o.data = .func fd
 bo : ∃ y, typeLookup (.type "object") name = pure y
 out : name ∉ NL 0
noncomputable def isAt (o : Option zA) : Bool := match o with | some (.attrs _) => true | _ => false
noncomputable def cLexM (L : Addr) (h : List PV -> List zA -> Option (PV × List zA)) (g : CC AV) (f : CC (List PV)) : CC PV := fun σ => match g σ with
 | some (.imm (.ref a), σ1) => if a = L /\ isAt σ1[0]? = true then (match f σ1 with
  | some (as, σ₂) => yA h (.ref L :: as) σ₂
  | none => none) else none
 | _ => none
theorem lex_method {A : Around} {env : Env} {F P : PH} {ρ : Nat -> Addr} {σ : List zA} {s : Shared} {Z : LX} {name : Str} {f : Addr} {vs : List (Option AV)} {pl : Sem Bool} {Q : Value × List Value -> Shared -> Prop} (M : MethC C Z name f) (hX : LexX X Z) (E : zZ X ρ env) (I : zb C X.N F P ρ σ s.heap) (e : σ[0]? = some (.attrs vs))
  (h : Q (.ref f, [.ref Z.L]) s) : wpAny C.M A (getMethod (.ref Z.L) name pl) Q (fun _ _ => False) s := by
 refine nG fun ng => ?_
 obtain ⟨m, hm, hin, hfr⟩ := I.ob _ _ e
 have hP := I.top.trans I.p
 have cl := M.lex.cls _ hP
 obtain ⟨nm, q, bs, sn, sub, col, dd, k0, k1, k2, k3, k5, hC⟩ := clsX cl
 obtain ⟨o, fd, ho, hoc, _⟩ := M.ob
 obtain ⟨y, hy⟩ := M.bo
 have hρ : ρ 0 = Z.D := (E.pin 0 Z.D (hX.pins _ List.mem_cons_self)).1
 rw [hρ] at hm
 have hno : m name = none := by
  cases q : m name with
  | none => rfl
  | some v =>
   have := hin name (by rw [q]; exact nofun)
   rw [hX.names 0 (by decide)] at this
   exact absurd this M.out
 obtain ⟨hh, g, d, t, os⟩ := s
 refine ng ?_
 clear ng
 exact method_of hC cl.ns M.lex.ga M.lex.gt M.fn (hP _ _ ho) hoc hy (M.lex.inst hP hm) hno h
theorem isAt_eq {o : Option zA} (h : isAt o = true) : ∃ vs, o = some (.attrs vs) := by
 unfold isAt at h
 refine nG fun ng => ?_
 split at h
 ·refine ng ?_
  clear ng
  exact ⟨_, rfl⟩
 ·cases h
theorem evp_lexM {o : Expr} {name : Str} {apos pos : Pos} {e0 : Expr} {rest : List Expr} {Z : LX} {fa : Addr} {h : List PV -> List zA -> Option (PV × List zA)} {g : CC AV} {f : CC (List PV)} (M : MethC C Z name fa) (ho : OpS C Z X.n (fun vs => call (.ref fa) vs) h) (hX : LexX X Z) (hb : notCall o = true) (hline : (apos.endLine == pos.line) = true) (hes : (e0 :: rest).all zW = true) (hlen : (e0 :: rest).length < 20)
  (hg : EvOK C X o g) (hs : EvsP C X (e0 :: rest) f) : EvP C X (.Call (.Attribute o name apos) (e0 :: rest) [] pos) (cLexM Z.L h g f) := by
 intro A env F P ρ σ s v σ' hA E I hf
 unfold cLexM at hf
 refine nG fun ng => ?_
 refine ivAr hf ?_; clear hf; intro a σ1 e1 hf
 refine i1 hf ?_; clear hf; intro hc hf
 obtain ⟨rfl, hat⟩ := hc
 refine ivL hf ?_; clear hf; intro as σ₂ e2 hf
 obtain ⟨vs, e3⟩ := isAt_eq hat
 refine ng ?_
 clear ng
 refine callm hb hline hes hlen (wpAny_mono (hg A env F P ρ σ s _ σ1 hA E I e1) (fun V s₁ zq pl => ?_) fun _ _ x => x)
 refine nG fun ng => ?_
 obtain ⟨F1, ρ1, n₁, r₁⟩ := zq
 have r' : Rep F1 (.ref Z.L) V := r₁
 cases r'
 refine ng ?_
 clear ng
 refine lex_method M hX (n₁.env E) n₁.inv e3 ?_
 refine nG fun ng => ?_
 obtain ⟨ob, fd, hob, _, hod⟩ := M.ob
 have hn : zW e0 = true := (Bool.and_eq_true_iff.mp (show (zW e0 && rest.all zW) = true from hes)).1
 refine ng ?_
 clear ng
 refine callWith_function (a := fa) (o := ob) (fd := fd) (evargs hn (wpAny_mono (hs A env F1 P ρ1 σ1 s₁ as σ₂ pos hA (n₁.env E) n₁.inv e2) (fun Vs s₂ ⟨F2, ρ₂, n₂, r₂⟩ => ⟨⟨n₂.inv.p _ _ (n₂.inv.top _ _ hob), hod⟩, ?_⟩) fun _ _ x => x))
 exact wpAny_mono (lex_run ho hX hA ((n₁.trans n₂).env E) n₂.inv (.cons (.ref _) r₂) hf) (fun W s₃ ⟨F3, ρ3, n₃, r₃⟩ => ⟨F3, ρ3, (n₁.trans n₂).trans n₃, r₃⟩) fun _ _ x => x
theorem evp_lexM0 {o : Expr} {name : Str} {apos pos : Pos} {Z : LX} {fa : Addr} {h : List PV -> List zA -> Option (PV × List zA)} {g : CC AV} (M : MethC C Z name fa) (ho : OpS C Z X.n (fun vs => call (.ref fa) vs) h) (hX : LexX X Z) (hb : notCall o = true) (hline : (apos.endLine == pos.line) = true)
  (hg : EvOK C X o g) : EvP C X (.Call (.Attribute o name apos) [] [] pos) (cLexM Z.L h g zG) := by
 intro A env F P ρ σ s v σ' hA E I hf
 unfold cLexM at hf
 refine nG fun ng => ?_
 refine ivAr hf ?_; clear hf; intro a σ1 e1 hf
 refine i1 hf ?_; clear hf; intro hc hf
 obtain ⟨rfl, hat⟩ := hc
 obtain ⟨vs, e3⟩ := isAt_eq hat
 have hf' : yA h [.ref Z.L] σ1 = some (v, σ') := hf
 refine ng ?_
 clear ng
 refine callm hb hline rfl (by simp) (wpAny_mono (hg A env F P ρ σ s _ σ1 hA E I e1) (fun V s₁ zq pl => ?_) fun _ _ x => x)
 refine nG fun ng => ?_
 obtain ⟨F1, ρ1, n₁, r₁⟩ := zq
 have r' : Rep F1 (.ref Z.L) V := r₁
 cases r'
 refine ng ?_
 clear ng
 refine lex_method M hX (n₁.env E) n₁.inv e3 ?_
 refine nG fun ng => ?_
 obtain ⟨ob, fd, hob, _, hod⟩ := M.ob
 refine ng ?_
 clear ng
 refine PyProof.Rows.callWith_meth0 hod (n₁.inv.p _ _ (n₁.inv.top _ _ hob)) ?_
 exact wpAny_mono (lex_run ho hX hA (n₁.env E) n₁.inv (.cons (.ref _) .nil) hf') (fun W s₃ ⟨F3, ρ3, n₃, r₃⟩ => ⟨F3, ρ3, n₁.trans n₃, r₃⟩) fun _ _ x => x
end
section
variable {C : Cx} {X : zj}
structure LexK (C : Cx) (Z : LX) : Prop where
 lex : LexC C Z.L Z.D Z.K Z.N Z.mN
 at' : ∀ a, a ∈ NL 0 -> Z.mN a = none
theorem tl_pushback : typeLookup (.type "object") ("pushback" : Str) = pure none := by rw [typeLookup_type, builtinLookup_eq_fast]; kernel_rfl
theorem tl_lineno : typeLookup (.type "object") ("lineno" : Str) = pure none := by rw [typeLookup_type, builtinLookup_eq_fast]; kernel_rfl
theorem tl_instream : typeLookup (.type "object") ("instream" : Str) = pure none := by rw [typeLookup_type, builtinLookup_eq_fast]; kernel_rfl
theorem tl_whitespace : typeLookup (.type "object") ("whitespace" : Str) = pure none := by rw [typeLookup_type, builtinLookup_eq_fast]; kernel_rfl
noncomputable abbrev X_push (Z : LX) (n : Nat) : zj :=
 { n := n + 1, fi := 4, N := fun | 0 => ["lineno", "instream", "whitespace", "pushback", "read"] | 4 => ["self", "token"] | _ => [], cells := [], scope := zQ (fdIn (zD 12) 3), tmp := [], own := [], pins := Z.pins }
noncomputable abbrev f_push (Z : LX) : CC Fl := zJ (zf [] (cPin Z.B 1 (cAttr Z.L 0 3 (zC 4 0))) (zE (zC 4 1))) (zL .next)
theorem ok_push {Z : LX} {n : Nat} (K : LexK C Z) : zi C (X_push Z n) (zN (fdIn (zD 12) 3)) (f_push Z) := by
 change zi C _ (List.cons _ _) _
 refine zT (st_append rfl (by kernel_rfl) rfl ?_ ?_) zd
 ·refine ev_pin (by simp [LX.pins]) (ev_attr K.lex (by simp [LX.pins]) (by kernel_rfl) (K.at' _ (by decide +kernel)) tl_pushback ?_)
  exact z8 (X := X_push Z n) (by kernel_rfl) (by kernel_rfl)
 ·exact evp (z8 (X := X_push Z n) (by kernel_rfl) (by kernel_rfl))
inductive PushS (Z : LX) (as : List PV) (os : List zA) (r : PV × List zA) : Prop where
 | mk (t : List Nat) (ln ins ws : Option AV) (more : List (Option AV)) (xs : List PV) (S E : zA) (h1 : as = [.ref Z.L, .str t]) (h2 : os = [.attrs (ln :: ins :: ws :: some (.imm (.ref Z.B)) :: more), .lst xs, S, E]) (h3 : xs.length < 4096) (h4 : os.all noObj = true)
  (h5 : r = (.none, [.attrs (ln :: ins :: ws :: some (.imm (.ref Z.B)) :: more), .lst (xs ++ [.str t]), S, E])) : PushS Z as os r
noncomputable def h_push (Z : LX) (as : List PV) (os : List zA) : Option (PV × List zA) := specO (PushS Z as os)
theorem h_push_at {Z : LX} {t : List Nat} {ln ins ws : Option AV} {more : List (Option AV)} {xs : List PV} {S E : zA} (h1 : xs.length < 4096) (h2 : [zA.attrs (ln :: ins :: ws :: some (.imm (.ref Z.B)) :: more), .lst xs, S, E].all noObj = true) :
  h_push Z [.ref Z.L, .str t] [.attrs (ln :: ins :: ws :: some (.imm (.ref Z.B)) :: more), .lst xs, S, E] = some (.none, [.attrs (ln :: ins :: ws :: some (.imm (.ref Z.B)) :: more), .lst (xs ++ [.str t]), S, E]) :=
 specO_eq ⟨_, _, _, _, _, _, _, _, rfl, rfl, h1, h2, rfl⟩ fun r zq => by obtain ⟨_, _, _, _, _, _, _, _, e1, e2, _, _, e3⟩ := zq; cases e1; cases e2; exact e3
theorem noObjV_clr {v : Option AV} {i : Nat} (h : noObjV v = true) : clrV i v = v := by
 unfold clrV
 split
 ·refine nG fun ng => ?_
  cases h
 ·rfl
theorem noObj_clr {o : zA} {i : Nat} (h : noObj o = true) : clr i o = o := by
 have key : ∀ vs : List (Option AV), vs.all noObjV = true -> vs.map (clrV i) = vs := fun vs hv => by
  have : vs.map (clrV i) = vs.map id := List.map_congr_left fun v hm => noObjV_clr (List.all_eq_true.mp hv v hm)
  rw [this, List.map_id]
 cases o with
 | cell v => show zA.cell _ = _; rw [noObjV_clr h]
 | frame vs => show zA.frame _ = _; rw [key vs h]
 | attrs vs => show zA.attrs _ = _; rw [key vs h]
 | _ => rfl
theorem sp_push {Z : LX} {n : Nat} {a : Addr} {fd : FuncData} (hn : n <= 30) (K : LexK C Z) (FA : DefAt C a fd (zN (fdIn (zD 12) 3)) ["self", "token"]) (hs : fd.scope = zQ (fdIn (zD 12) 3)) (hc : fd.closure = []) : OpS C Z n (fun vs => call (.ref a) vs) (h_push Z) := by
 refine lex_fn (X := X_push Z n) (is := []) (clo := []) (pls := [.loc 0, .loc 1]) 2 1 FA (entOK_of hs.symm (by rw [hs]; kernel_rfl) ?_) (fun ρ _ => hc) (ok_push K) (by omega) rfl ?_ rfl ?_ (by rfl) fun as os c os' hos h => ?_
 ·intro i b m
  simp only [LX.pins, List.mem_cons, Prod.mk.injEq, List.not_mem_nil, or_false] at m
  rcases m with ⟨rfl, -⟩ | ⟨rfl, -⟩ | ⟨rfl, -⟩ | ⟨rfl, -⟩ <;> simp
 ·intro i hi
  have : i = 0 \/ i = 1 \/ i = 2 \/ i = 3 := lt4 hi
  rcases this with rfl | rfl | rfl | rfl <;> rfl
 ·intro i hi
  refine ⟨?_, List.not_mem_nil, List.not_mem_nil⟩
  simp; omega
 ·obtain ⟨t, ln, ins, ws, more, xs, S, E, rfl, rfl, hx, hno, e⟩ := specO_some h
  cases e
  ··have hno' := hno
    simp only [List.all_cons, List.all_nil, Bool.and_eq_true] at hno
    obtain ⟨n0, n1, n2, n3, -⟩ := hno
    refine ⟨rfl, ?_, [.attrs (ln :: ins :: ws :: some (.imm (.ref Z.B)) :: more), .lst xs, S, E, .frame [some (.imm (.ref Z.L)), some (.imm (.str t))]], .next, [.attrs (ln :: ins :: ws :: some (.imm (.ref Z.B)) :: more), .lst (xs ++ [.str t]), S, E, .frame [some (.imm (.ref Z.L)), some (.imm (.str t))]], ?_, ?_, rfl, rfl⟩
    ·simp only [List.all_cons, List.all_nil, Bool.and_eq_true]
     exact ⟨n0, rfl, n2, n3, trivial⟩
    ·show bindS 4 _ _ ([clr 4 (.attrs (ln :: ins :: ws :: some (.imm (.ref Z.B)) :: more)), clr 4 (.lst xs), clr 4 S, clr 4 E, .frame [none, none]]) = _
     rw [noObj_clr n0, noObj_clr n1, noObj_clr n2, noObj_clr n3]
     rfl
    ·refine zF ?_ rfl
     have e1 : cPin Z.B 1 (cAttr Z.L 0 3 (zC 4 0)) [.attrs (ln :: ins :: ws :: some (.imm (.ref Z.B)) :: more), .lst xs, S, E, .frame [some (.imm (.ref Z.L)), some (.imm (.str t))]] = some (.obj 1, [.attrs (ln :: ins :: ws :: some (.imm (.ref Z.B)) :: more), .lst xs, S, E, .frame [some (.imm (.ref Z.L)), some (.imm (.str t))]]) := by
      have e0 : cAttr Z.L 0 3 (zC 4 0) [.attrs (ln :: ins :: ws :: some (.imm (.ref Z.B)) :: more), .lst xs, S, E, .frame [some (.imm (.ref Z.L)), some (.imm (.str t))]] = some (.imm (.ref Z.B), [.attrs (ln :: ins :: ws :: some (.imm (.ref Z.B)) :: more), .lst xs, S, E, .frame [some (.imm (.ref Z.L)), some (.imm (.str t))]]) := by
       show (if Z.L = Z.L then _ else _) = _
       rw [if_pos rfl]
      unfold cPin
      rw [e0]
      show (if Z.B = Z.B then _ else _) = _
      rw [if_pos rfl]
     unfold zf
     rw [e1]
     show (if xs.length < 4096 /\ _ then _ else _) = _
     rw [if_pos ⟨hx, rfl⟩]; rfl
end
section
variable {C : Cx} {X : zj}
theorem m_list_pop : MethOn "list" "pop" "list.pop" := ⟨PySem.F.plainAttrs_list, PySem.F.slot_list_pop, PySem.F.type_list_pop⟩
noncomputable def cPop0 (g : CC AV) : CC PV := fun σ => match g σ with
 | some (.obj i, σ1) => (match σ1[i]? with
  | some (.lst (x :: xs)) => some (x, σ1.set i (.lst xs))
  | _ => none)
 | _ => none
theorem evp_pop0 {o : Expr} {apos pos cp : Pos} {k : Nat} {g : CC AV} (hb : notCall o = true) (hline : (apos.endLine == pos.line) = true) (hg : EvOK C X o g) :
  EvP C X (.Call (.Attribute o "pop" apos) [.Constant (.int 0) k cp] [] pos) (cPop0 g) := by
 intro A env F P ρ σ s v σ' hA E I hf
 unfold cPop0 at hf
 refine nG fun ng => ?_
 refine ivO hf ?_; clear hf; intro i σ1 e1 hf
 split at hf
 ·rename_i x xs e2
  obtain ⟨rfl, rfl⟩ := Prod.mk.inj (Option.some.inj hf)
  refine ng ?_
  clear ng
  refine callm hb hline rfl (by simp) (wpAny_mono (hg A env F P ρ σ s (.obj i) σ1 hA E I e1) (fun V s₁ zq pl => ?_) fun _ _ x => x)
  refine nG fun ng => ?_
  obtain ⟨F1, ρ1, n₁, r₁⟩ := zq
  have hV : V = .ref (ρ1 i) := r₁
  subst hV
  obtain ⟨vs, ⟨m, hp⟩, hlen, hr⟩ := n₁.inv.ob _ _ e2
  refine ng ?_
  clear ng
  refine getMethod_builtin ⟨_, hp, rfl⟩ m_list_pop.pa m_list_pop.slot m_list_pop.hty (fun a q => by cases q; exact ⟨_, hp, rfl⟩) ?_
  refine callWith_builtin (backTo_any pos env _ rfl) (evargs rfl (wpAny_items_cons (wpAny_Constant_int (wpAny_items_nil ?_)) (zR rfl)))
  cases hr with
  | cons rx rxs =>
   rename_i W ws
   refine call_meets PySem.F.slot_list_pop ⟨_, hp, rfl⟩ PySem.F.entry_list_pop (PySem.F.args_list_pop_2 _ _) (MeetsSeq.list_pop_at (ρ1 i) (W :: ws).toArray m 0 s₁.toks 0 W (by decide +kernel) ?_ (by simp) (by rw [List.size_toArray, sizeLine_eq]; omega)) ⟨hp, ?_⟩
   ·simp [seqIndex?]
   ·have e3 : Heap.get? (s₁.heap.update (ρ1 i) (Obj.mapSeq fun xs => xs.eraseIdxIfInBounds 0)) (ρ1 i) = some (Obj.mapSeq (fun xs => xs.eraseIdxIfInBounds 0) { cls := .type "list", data := .seq (W :: ws).toArray m }) := Heap.get?_update_self _ hp rfl
    have hk : ∀ b o, b ≠ ρ1 i -> s₁.heap.get? b = some o -> (s₁.heap.update (ρ1 i) (Obj.mapSeq fun xs => xs.eraseIdxIfInBounds 0)).get? b = some o := fun b o hb e => (Heap.get?_update_other _ _ (Ne.symm hb)).trans e
    have hpl : (s₁.heap.update (ρ1 i) (Obj.mapSeq fun xs => xs.eraseIdxIfInBounds 0)).PlainList (ρ1 i) ws.toArray := by
     have er : (W :: ws).toArray.eraseIdxIfInBounds 0 = ws.toArray := by simp [Array.eraseIdxIfInBounds]
     rw [<- er]
     exact ⟨if ((W :: ws).toArray.eraseIdxIfInBounds 0).size == (W :: ws).toArray.size then m else m + 1, e3⟩
    have hok : ObjOK F1 ρ1 (X.N i) (.lst xs) (ρ1 i) (s₁.heap.update (ρ1 i) (Obj.mapSeq fun xs => xs.eraseIdxIfInBounds 0)) := ⟨ws, hpl, by simp only [List.length_cons] at hlen; omega, rxs⟩
    have n₂ : Nx C X F1 P ρ1 s₁ F1 ρ1 (σ1.set i (.lst xs)) { s₁ with heap := s₁.heap.update (ρ1 i) (Obj.mapSeq fun xs => xs.eraseIdxIfInBounds 0) } := ⟨n₁.inv.mutK e2 rfl hk hok, ⟨.ofh, .refl _, fun _ _ => rfl⟩, fun _ _ => rfl⟩
    exact ⟨F1, ρ1, (n₁.trans n₂).toks, rx⟩
 ·cases hf
end
section
variable {C : Cx} {X : zj}
noncomputable def cBinL (T : List Nat) (h : PV -> PV -> Option PV) (g : CC AV) (f : CC PV) : CC Bool := fun σ => match g σ with
 | some (a, σ1) => (match f σ1 with
  | some (b, σ₂) => if offT T a = true then (match look a σ₂ with
   | some a' => (match h a' b with | some (.bool c) => some (c, σ₂) | _ => none)
   | none => none) else none
  | none => none)
 | none => none
theorem ts_cmpL {l r : Expr} {op : CmpOp} {pos : Pos} {g : CC AV} {f : CC PV} {h : PV -> PV -> Option PV} (ho : Op2 C X.n (compareOp op) h) (hl : EvOK C X l g) (hr : EvP C X r f) (hm : behindInMarks op r = false) :
  TsOK C X (.Compare l [op] [r] pos) (cBinL X.tmp h g f) := by
 intro A env F P ρ σ s v σ' hA E I hf
 unfold cBinL at hf
 refine nG fun ng => ?_
 refine ivA hf ?_; clear hf; intro a σ1 e1 hf
 refine ivP hf ?_; clear hf; intro b σ₂ e2 hf
 refine i1 hf ?_; clear hf; intro hT hf
 refine ivV hf ?_; clear hf; intro a' e3 hf
 split at hf
 ·rename_i c e4
  obtain ⟨rfl, rfl⟩ := Prod.mk.inj (Option.some.inj hf)
  refine ng ?_
  clear ng
  refine wpAny_isTrue_Compare1 (wpAny_mono (hl A env F P ρ σ s a σ1 hA E I e1) (fun V s₁ zq => ?_) fun _ _ x => x) hm
  obtain ⟨F1, ρ1, n₁, r₁⟩ := zq
  refine wpAny_mono (hr A env F1 P ρ1 σ1 s₁ b σ₂ hA (n₁.env E) n₁.inv e2) (fun W s₂ zq => ?_) fun _ _ x => x
  refine nG fun ng => ?_
  obtain ⟨F2, ρ₂, n₂, r₂⟩ := zq
  have r1' : AVRep F2 ρ₂ a V := by
   cases a with
   | imm q => exact Rep.mono n₂.pu.le r₁
   | obj i => show V = .ref (ρ₂ i); rw [n₂.rho i (fun q => by have h2 : (!X.tmp.contains i) = true := hT; rw [List.contains_iff_mem.mpr q] at h2; cases h2)]; exact r₁
  obtain ⟨F', le, le', ra⟩ := look_ok n₂.inv r1' e3
  refine ng ?_
  clear ng
  refine wpAny_mono (ho A F' s₂ a' V b W (.bool c) hA le' (n₂.inv.top.trans n₂.inv.p) ra (r₂.mono le) e4) (fun U s₃ pr => ?_) fun _ _ x => x
  refine nG fun ng => ?_
  obtain ⟨n₃, r₃⟩ := pr.flatNext n₂.inv rfl
  cases r₃
  refine ng ?_
  clear ng
  exact wpAny_truthy_bool ⟨rfl, F2, ρ₂, (n₁.trans n₂).trans n₃⟩
 ·cases hf
end
section
variable {C : Cx} {X : zj}
noncomputable def takeSt : Stmt := fdIn (zD 14) 2
noncomputable abbrev X_take (Z : LX) (n : Nat) : zj :=
 { n := n + 1, fi := 4, N := fun | 0 => ["lineno", "instream", "whitespace", "pushback", "read"] | 4 => ["size"] | _ => [], cells := [("signs", 3)], scope := zQ takeSt, tmp := [], own := [], pins := Z.pins }
noncomputable abbrev f_take (Z : LX) : CC Fl := zJ (cIf (cOr (zP (zM hNe (zE (zC 4 0)) (zX (cQ (.int 1))))) (cBinL [] hEq (cPin Z.S 2 (zK 3)) (z5 zG))) (zJ (cRet (cQ (.str []))) (zL .next)) (zL .next)) (zJ (cRet (cPop0 (cPin Z.S 2 (zK 3)))) (zL .next))
theorem ok_take {Z : LX} {n : Nat} (hn : n <= 30) : zi C (X_take Z n) (zN takeSt) (f_take Z) := by
 change zi C _ (List.cons _ _) _
 have hp : (2, Z.S) ∈ (X_take Z n).pins := by simp [LX.pins]
 refine zT (st_if (ts_or (ts_cmp (op_ne (by show n + 1 <= 40; omega)) (evp (z8 (X := X_take Z n) (by kernel_rfl) (by kernel_rfl))) (yC evp_int) (by kernel_rfl)) (ts_cmpL (op_eq (by show n + 1 <= 40; omega)) (ev_pin hp (ev_cellA (by kernel_rfl))) (evp_list evs_nil) (by kernel_rfl))) (zT (st_ret (evp_str (by kernel_rfl))) zd) zd) ?_
 exact zT (st_ret (evp_pop0 rfl (by kernel_rfl) (ev_pin hp (ev_cellA (by kernel_rfl))))) zd
inductive TakeS (Z : LX) (as : List PV) (os : List zA) (r : PV × List zA) : Prop where
 | mk (D B : zA) (xs : List PV) (h1 : as = [.int 1]) (h2 : os = [D, B, .lst xs, .cell (some (.imm (.ref Z.S)))]) (h3 : noObj D = true) (h4 : noObj B = true) (h5 : xs.all (sh 2) = true) (h6 : r = (xs.headD (.str []), [D, B, .lst xs.tail, .cell (some (.imm (.ref Z.S)))])) : TakeS Z as os r
noncomputable def h_take (Z : LX) (as : List PV) (os : List zA) : Option (PV × List zA) := specO (TakeS Z as os)
theorem h_take_at {Z : LX} {D B : zA} {xs : List PV} (h1 : noObj D = true) (h2 : noObj B = true) (h3 : xs.all (sh 2) = true) : h_take Z [.int 1] [D, B, .lst xs, .cell (some (.imm (.ref Z.S)))] = some (xs.headD (.str []), [D, B, .lst xs.tail, .cell (some (.imm (.ref Z.S)))]) :=
 specO_eq ⟨_, _, _, rfl, rfl, h1, h2, h3, rfl⟩ fun r zq => by obtain ⟨_, _, _, _, e2, _, _, _, e3⟩ := zq; cases e2; exact e3
theorem lex_pins {Z : LX} {fi : Nat} (hfi : fi = 4) : ∀ i b, (i, b) ∈ Z.pins -> i ∉ [fi] /\ i ∉ ([] : List Nat) /\ i ∉ ([] : List Nat) := by
 intro i b m
 refine nG fun ng => ?_
 subst hfi
 simp only [LX.pins, List.mem_cons, Prod.mk.injEq, List.not_mem_nil, or_false] at m
 refine ng ?_
 clear ng
 rcases m with ⟨rfl, -⟩ | ⟨rfl, -⟩ | ⟨rfl, -⟩ | ⟨rfl, -⟩ <;> simp
theorem sp_take {Z : LX} {n : Nat} {a : Addr} {fd : FuncData} (hn : n <= 30) (FA : DefAt C a fd (zN takeSt) ["size"]) (hs : fd.scope = zQ takeSt) (hc : fd.closure = [(("signs" : Str), Z.E)]) : OpS C Z n (fun vs => call (.ref a) vs) (h_take Z) := by
 refine lex_fn (X := X_take Z n) (is := []) (clo := [("signs", 3)]) (pls := [.loc 0]) 1 1 FA (entOK_of hs.symm (by rw [hs]; kernel_rfl) (lex_pins rfl)) (fun ρ h => by rw [hc]; show _ = [(("signs" : Str), ρ 3)]; rw [h 3 Z.E (by simp [LX.pins])]) (ok_take hn) (by omega) rfl ?_ rfl ?_ (by rfl) fun as os c os' hos h => ?_
 ·intro i hi
  have : i = 0 \/ i = 1 \/ i = 2 \/ i = 3 := lt4 hi
  rcases this with rfl | rfl | rfl | rfl <;> rfl
 ·intro i hi
  refine ⟨?_, List.not_mem_nil, List.not_mem_nil⟩
  simp; omega
 ·refine nG fun ng => ?_
  obtain ⟨D, B, xs, rfl, rfl, n0, n1, hx, e⟩ := specO_some h
  ··refine nG fun ng => ?_
    cases e
    have e0 : ∀ ys : List PV, cPin Z.S 2 (zK 3) [D, B, .lst ys, .cell (some (.imm (.ref Z.S))), .frame [some (.imm (.int 1))]] = some (.obj 2, [D, B, .lst ys, .cell (some (.imm (.ref Z.S))), .frame [some (.imm (.int 1))]]) := fun ys => by
     show (if Z.S = Z.S then _ else _) = _
     rw [if_pos rfl]
    have eb : bindS 4 [.loc 0] [.int 1] (compIn 4 1 [] ([D, B, .lst xs, .cell (some (.imm (.ref Z.S)))] ++ List.replicate 1 zA.dead)) = some [D, B, .lst xs, .cell (some (.imm (.ref Z.S))), .frame [some (.imm (.int 1))]] := by
     show bindS 4 _ _ ([clr 4 D, clr 4 B, clr 4 (.lst xs), clr 4 (.cell (some (.imm (.ref Z.S)))), .frame [none]]) = _
     rw [noObj_clr n0, noObj_clr n1]
     rfl
    have et : ∀ r : Bool, eqps xs [] = r -> cOr (zP (zM hNe (zE (zC 4 0)) (zX (cQ (.int 1))))) (cBinL [] hEq (cPin Z.S 2 (zK 3)) (z5 zG)) [D, B, .lst xs, .cell (some (.imm (.ref Z.S))), .frame [some (.imm (.int 1))]] = some (r, [D, B, .lst xs, .cell (some (.imm (.ref Z.S))), .frame [some (.imm (.int 1))]]) := fun r hr => by
     refine e_orF (z1 (zY rfl rfl rfl rfl rfl)) ?_
     unfold cBinL
     rw [e0 xs]
     show (match hEq (.list xs) (.list []) with | some (.bool c) => some (c, _) | _ => none) = _
     have : hEq (.list xs) (.list []) = some (.bool r) := by
      show (if (xs.all (sh 2) && true) = true then some (PV.bool (eqp (.list xs) (.list []))) else none) = _
      rw [hx, <- hr]; rfl
     rw [this]
    refine ng ?_
    clear ng
    cases xs with
    | nil =>
     refine ⟨rfl, by simp [n0, n1]; exact ⟨rfl, rfl⟩, _, .ret (.str []), _, eb, z6 (e_ifT (et true rfl) (z6 (e_ret rfl))), rfl, rfl⟩
    | cons c xs' =>
     refine ⟨rfl, by simp [n0, n1]; exact ⟨rfl, rfl⟩, _, .ret c, [D, B, .lst xs', .cell (some (.imm (.ref Z.S))), .frame [some (.imm (.int 1))]], eb, zF (zv (et false rfl) rfl) (z6 (e_ret ?_)), rfl, rfl⟩
     unfold cPop0
     rw [e0 (c :: xs')]
     rfl
end
section
open Sem (wp)
open Builtin Builtin.ObjectAttr
section
variable {prog : Program} {w : World} {A : Around} {E : Value -> Shared -> Prop} {h : Heap} {g : Array GenState} {d : Drawn} {t : Nat} {os : OsState}
variable {nm q : Str} {C N x : Addr} {bs : List Value} {sn : List Str} {sub : List Value} {ab : Bool} {col : Option Bool} {dd : Option Addr} {k0 k1 k2 k3 k5 : Option Value} {newId : String}
 {mN mA : Str -> Option Value} {name : Str} {v : Value}
theorem method_attr {pl : Sem Bool} {Q : Value × List Value -> Shared -> Prop}
  (hC : h.get? C = some (excClassObj nm q C N bs [.type "object"] true sn sub ab col dd k0 k1 k2 k3 k5 newId)) (hn : h.Ns N mN) (hng : mN "__getattribute__" = none) (hnh : mN "__getattr__" = none)
  (hna : mN name = none) (hB : typeLookup (.type "object") name = pure none)
  (I : h.Inst x C mA) (hv : mA name = some v) (hh : handedOut v = pure v) (hq : Q (v, []) ⟨h, g, d, t + 1, os⟩) :
  wpAny (model prog w) A (getMethod (.ref x) name pl) Q E ⟨h, g, d, t, os⟩ := by
 have I' := I
 refine nG fun ng => ?_
 obtain ⟨o, hx, hc, hnc, hd⟩ := I
 have hcan := PySem.F.canon_object_ga
 refine ng ?_
 clear ng
 unfold getMethod specialOf
 repeat (first | (with_reducible refine wpAny_loadPart_at hx ?_; rw [hc]) | (with_reducible refine wpAny_typeLookup_exc hC hn PySem.F.mro_object PySem.F.lk_object_ga ?_; rw [hng]) | (with_reducible refine wpAny_typeLookup_exc hC hn PySem.F.mro_object PySem.F.lk_object_getattr ?_; rw [hnh]) | (with_reducible refine wpAny_typeLookup_exc hC hn PySem.F.mro_object hB ?_; rw [hna]) | simp only [hcan, Bool.false_eq_true, if_false] | (with_reducible refine load_attr hC hn hng hna hB I' hv hh ?_) | wp_step)
 exact hq
theorem bound_entry {f : Addr} {of : Obj} {tk : Tok} {Q : Fin -> Shared -> Prop}
  (hC : h.get? C = some (excClassObj nm q C N bs [.type "object"] true sn sub ab col dd k0 k1 k2 k3 k5 newId)) (hn : h.Ns N mN) (hnh : mN "__getattr__" = none)
  (hf : mN name = some (.ref f)) (hfo : h.get? f = some of) (hfc : of.cls = .type "function") {y : Option Value} (hB : typeLookup (.type "object") name = pure y)
  {o : Obj} {dx : Addr} (hx : h.get? x = some o) (hc : o.cls = .ref C) (hnc : ∀ c, o.data ≠ .cls c) (hdx : o.dict = some dx) (hns : h.Ns1 dx mA) (hsh : mA name = none) (hcopy : ([("__module__" : Str), "__name__", "__qualname__", "__doc__", "__annotations__"] : List Str).contains name = false) (hq : Q (.done (.ret (.ref h.objs.size))) ⟨h.push (methodObj (.ref f) (.ref x)), g, d, t, os⟩) :
  wpAny (model prog w) A (Builtin.«proto.getattr_hooked» ⟨[.ref x, .str name tk], []⟩) Q E ⟨h, g, d, t, os⟩ := by
 have hTf : (⟨h, g, d, t, os⟩ : Shared).TypeIs (.ref f) "function" := ⟨_, hfo, hfc⟩
 unfold Builtin.«proto.getattr_hooked»
 have hlk : typeLookup (.type "function") "__get__" = pure (some (.builtin "function.__get__")) := PySem.F.ks_slot_function_get.lookup
 have hls : typeLookup (.type "function") "__set__" = pure none := by rw [typeLookup_type, builtinLookup_eq_fast]; kernel_rfl
 have hld : typeLookup (.type "function") "__delete__" = pure none := by rw [typeLookup_type, builtinLookup_eq_fast]; kernel_rfl
 have hid : (([("__module__" : Str), "__name__", "__qualname__", "__doc__", "__annotations__"] : List Str).contains name) = false := hcopy
 repeat (first | (with_reducible refine wpAny_loadPart_at hx ?_; rw [hc]) | (with_reducible refine wpAny_typeLookup_exc hC hn PySem.F.mro_object hB ?_; rw [hf]) | (with_reducible refine wpAny_typeLookup_exc hC hn PySem.F.mro_object PySem.F.lk_object_getattr ?_; rw [hnh]) | (with_reducible refine wpAny_typeOf hTf ?_) | (with_reducible refine wpAny_of_eq hlk ?_) | (with_reducible refine wpAny_of_eq hls ?_) | (with_reducible refine wpAny_of_eq hld ?_) | (with_reducible refine wpAny_call_entry PySem.F.ks_slot_function_get hTf PySem.F.ks_entry_function_get ?_ (PySem.F.ks_getArgs_function _ _ _)) | simp only [hid, Bool.false_eq_true, if_false] | wp_step)
 rw [hdx]
 repeat (first | (with_reducible refine wpAny_loadPart_at hx ?_; rw [hc]) | (with_reducible refine wpAny_typeLookup_exc hC hn PySem.F.mro_object hB ?_; rw [hf]) | (with_reducible refine wpAny_typeLookup_exc hC hn PySem.F.mro_object PySem.F.lk_object_getattr ?_; rw [hnh]) | (with_reducible refine wpAny_typeOf hTf ?_) | (with_reducible refine wpAny_nsGet hns.ns ?_; rw [hsh]) | (with_reducible refine wpAny_of_eq hlk ?_) | (with_reducible refine wpAny_of_eq hls ?_) | (with_reducible refine wpAny_of_eq hld ?_) | (with_reducible refine wpAny_call_entry PySem.F.ks_slot_function_get hTf PySem.F.ks_entry_function_get ?_ (PySem.F.ks_getArgs_function _ _ _)) | simp only [hid, Bool.false_eq_true, if_false] | wp_step)
 exact ⟨_, rfl, wpAny_pure hq⟩
theorem bound_attr {expr : Bool} {f : Addr} {of : Obj} {Q : Value -> Shared -> Prop}
  (hC : h.get? C = some (excClassObj nm q C N bs [.type "object"] true sn sub ab col dd k0 k1 k2 k3 k5 newId)) (hn : h.Ns N mN) (hng : mN "__getattribute__" = none) (hnh : mN "__getattr__" = none)
  (hf : mN name = some (.ref f)) (hfo : h.get? f = some of) (hfc : of.cls = .type "function") {y : Option Value} (hB : typeLookup (.type "object") name = pure y)
  {o : Obj} {dx : Addr} (hx : h.get? x = some o) (hc : o.cls = .ref C) (hnc : ∀ c, o.data ≠ .cls c) (hdx : o.dict = some dx) (hns : h.Ns1 dx mA) (hsh : mA name = none)
  (hcopy : ([("__module__" : Str), "__name__", "__qualname__", "__doc__", "__annotations__"] : List Str).contains name = false)
  (hq : Q (.ref h.objs.size) ⟨h.push (methodObj (.ref f) (.ref x)), g, d, t + 1, os⟩) :
  wpAny (model prog w) A (getAttr (.ref x) name expr) Q E ⟨h, g, d, t, os⟩ := by
 unfold getAttr getAttrBy
 repeat (first | (with_reducible refine wpAny_loadPart_at hx ?_; rw [hc]) | (with_reducible refine wpAny_typeLookup_exc hC hn PySem.F.mro_object PySem.F.lk_object_ga ?_; rw [hng]) | wp_step)
 show wpAny _ _ ((runValue (.builtin "proto.getattr_hooked" ⟨[.ref x, .str name t], []⟩)).onRaise (noteIf true (.ref x) (.str name t))) _ _ _
 refine wpAny_onRaise (wpAny_runValue (codeAny_builtin PySem.F.plainObj_entry_getattr_hooked (bound_entry hC hn hnh hf hfo hfc hB hx hc hnc hdx hns hsh hcopy ?_)))
 show wpAny _ _ (handedOut (.ref _)) _ _ _
 exact wpAny_pure hq
end
theorem e_iter : entryFor table "iter" = some Builtin.«iter» := entryFor_of_fast (by kernel_rfl)
theorem a_iter (a b : Value) : argsOk "iter" ⟨[a, b], []⟩ := by unfold argsOk; kernel_rfl
theorem tl_method_call : typeLookup (.type "method") "__call__" = pure (some (.builtin "method.__call__")) := by rw [typeLookup_type, builtinLookup_eq_fast]; kernel_rfl
namespace CF
theorem owner_cit : Manifest.owners.lookup "callable_iterator" = some Manifest.sig_callable_iterator := by kernel_rfl
theorem slot_cit_next : Slot "callable_iterator" "__next__" "callable_iterator.__next__" :=
 .of (owner := "callable_iterator") (n := "__next__") (by rw [typeLookup_type, builtinLookup_eq_fast]; kernel_rfl) (by decide +kernel) (by decide +kernel) (by decide +kernel)
  (by first | exact .inl (by decide +kernel) | exact .inr (by decide +kernel)) (by rw [isSubtype_type]; kernel_rfl)
theorem entry_cit_next : entryFor table "callable_iterator.__next__" = some Builtin.«callable_iterator.__next__» := entryFor_of_tree (by kernel_rfl)
theorem args_cit_next_1 (a : Value) : argsOk "callable_iterator.__next__" ⟨[a], []⟩ := by
 unfold argsOk; kernel_rfl
theorem slot_cit_iter : Slot "callable_iterator" "__iter__" "callable_iterator.__iter__" :=
 .of (owner := "callable_iterator") (n := "__iter__") (by rw [typeLookup_type, builtinLookup_eq_fast]; kernel_rfl) (by decide +kernel) (by decide +kernel) (by decide +kernel)
  (by first | exact .inl (by decide +kernel) | exact .inr (by decide +kernel)) (by rw [isSubtype_type]; kernel_rfl)
theorem args_cit_iter_1 (a : Value) : argsOk "callable_iterator.__iter__" ⟨[a], []⟩ := by
 unfold argsOk; kernel_rfl
theorem entry_cit_iter : entryFor table "callable_iterator.__iter__" = some Builtin.«dict_keyiterator.__iter__» :=
 entryFor_alias (id' := "dict_keyiterator.__iter__") (by kernel_rfl) (by first | rfl | decide +kernel | (unfold String.splitOn; simp +decide [String.splitOnAux])) (by decide +kernel) (by kernel_rfl)
end CF
section
variable {prog : Program} {w : World} {A : Around} {E : Value -> Shared -> Prop} {s : Shared}
noncomputable def citObj (V W : Value) (e : Bool) : Obj := { cls := .type "callable_iterator", data := .fields #[V, W, .bool e] }
theorem call_iter2 {b : Addr} {f x : Value} {W : Value} {Q : Value -> Shared -> Prop} (hb : s.heap.get? b = some (methodObj f x)) (h : Q (.ref s.heap.objs.size) { s with heap := s.heap.push (citObj (.ref b) W false) }) :
  wpAny (model prog w) A (call (.builtin "iter") [.ref b, W]) Q E s := by
 refine Calls.call_function_entry (by decide +kernel) (by decide +kernel) e_iter (a_iter _ _) ?_
 unfold Builtin.«iter»
 refine wpAny_bind (wpAny_of_eq (a := [.ref b, W]) rfl ?_)
 dsimp only
 refine wpAny_bind (wpAny_specialOf (T := "method") ⟨_, hb, rfl⟩ tl_method_call ?_)
 show wpAny _ _ (do rule "iter.sentinel"; let r <- newFields "callable_iterator" [Value.ref b, W, Value.bool false]; ret r) _ _ _
 refine wpAny_bind (wpAny_rule (wpAny_bind ?_))
 unfold newFields
 exact wpAny_newObj_type (wpAny_pure ⟨_, rfl, h⟩) (by size_fits)
theorem iter_cit {it : Addr} {V W : Value} {e : Bool} {Q : Value -> Shared -> Prop} (hit : s.heap.get? it = some (citObj V W e)) (h : Q (.ref it) s) : wpAny (model prog w) A (pyIter (.ref it)) Q E s := by
 refine wpAny_pyIter_slot ⟨_, hit, rfl⟩ CF.slot_cit_iter (wpAny_call_entry CF.slot_cit_iter ⟨_, hit, rfl⟩ CF.entry_cit_iter ?_ (CF.args_cit_iter_1 _))
 show wpAny _ _ (ret (.ref it)) _ _ s
 exact wpAny_pure ⟨_, rfl, "callable_iterator", _, ⟨_, hit, rfl⟩, CF.slot_cit_next.lookup, h⟩
theorem call_borrowed {f : Value} {pos : List Value} {Q : Value -> Shared -> Prop} (h : codeAny (model prog w) A (.call f ⟨pos, []⟩) (fun r s' => match r with | .ok (.ret v) => Q v s' | .ok _ => False | .error e => E e s') s) :
  wpAny (model prog w) A (callBorrowed f pos) Q E s := fun Γ p hΓ => by
 have h' := h (Γ.enter (.call f ⟨pos, []⟩) none p) p rfl (hΓ.enter _ none p (by intro x; cases x))
 refine wpCode_mono (fun r s' hr => ?_) h'
 cases r with
 | error e => exact hr
 | ok fl => cases fl <;> first | exact hr | exact hr.elim
theorem stop_any {α : Type} {Q : α -> Shared -> Prop} (hh : A.handled = none) (h : ∀ e h', (∀ b o, s.heap.get? b = some o -> h'.get? b = some o) -> ({ s with heap := h' } : Shared).TypeIs e "StopIteration" -> E e { s with heap := h' }) :
  wpAny (model prog w) A (Builtin.SmallTypes.stopIteration : Sem α) Q E s := by
 unfold Builtin.SmallTypes.stopIteration
 refine wpAny_bind ?_
 unfold newExc newTuple
 refine wpAny_bind (wpAny_newObj_type ?_ (by size_fits))
 refine wpAny_bind (m := firstArgMember _ _) (wpAny_of_eq (a := Value.none) (by first | rfl | (simp only [firstArgMember]; rfl)) ?_)
 refine wpAny_newObj_type ?_ (by size_fits)
 unfold raiseNew
 refine wpAny_bind (wpAny_handled ?_)
 rw [hh]
 refine wpAny_bind (wpAny_pure (wpAny_throw ?_))
 exact h _ _ (fun b o e => Heap.get?_push_of_some _ (Heap.get?_push_of_some _ e)) ⟨_, Heap.get?_push_size _ rfl, rfl⟩
theorem borrows_method {b f : Addr} {x : Value} {of : Obj} {fd : FuncData} {Q : Bool -> Shared -> Prop} (hb : s.heap.get? b = some (methodObj (.ref f) x)) (hf : s.heap.get? f = some of) (hfd : of.data = .func fd) (h : Q true s) :
  wpAny (model prog w) A (borrowsExactly (.ref b)) Q E s := by
 unfold borrowsExactly
 refine wpAny_bind (wpAny_load hb ?_)
 show wpAny _ _ (do match (<- load f).data with | .func _ => pure true | _ => pure false) _ _ _
 refine wpAny_bind (wpAny_load hf ?_)
 rw [hfd]
 exact wpAny_pure h
theorem cit_done {it : Addr} {V W : Value} {Q : Option Value -> Shared -> Prop} (hh : A.handled = none) (hit : s.heap.get? it = some (citObj V W true)) (hQ : ∀ h', (∀ b o, s.heap.get? b = some o -> h'.get? b = some o) -> Q none { s with heap := h' }) : wpAny (model prog w) A (pyNext (.ref it)) Q E s := by
 unfold pyNext
 refine wpAny_bind (wpAny_attempt (wpAny_callSpecial?_slot (name := Str.ofString "__next__") ⟨_, hit, rfl⟩ CF.slot_cit_next
  (wpAny_call_entry CF.slot_cit_next ⟨_, hit, rfl⟩ CF.entry_cit_next ?_ (CF.args_cit_next_1 _))))
 unfold Builtin.«callable_iterator.__next__»
 refine wpAny_bind (wpAny_of_eq (a := (Value.ref it, [])) rfl ?_)
 try dsimp only
 refine wpAny_bind (wpAny_field hit rfl (x := .bool true) rfl ?_)
 show wpAny _ _ (do rule "callable_iterator.__next__.ended"; let _ <- (Builtin.SmallTypes.stopIteration : Sem PUnit); _) _ _ _
 refine wpAny_bind (wpAny_rule (wpAny_bind (stop_any hh fun e h' k ht => ?_)))
 refine wpAny_bind (wpAny_isInstance (T := "StopIteration") (b := true) ht isSubtype_stop ?_)
 exact wpAny_pure (hQ _ k)
inductive CitR (it b f : Addr) (x : Value) (tk : Tok) (of : Obj) (Q : Option Value -> Shared -> Prop) (r : Result) (s' : Shared) : Prop where
 | mk (V : Value) (c : Str) (u : Tok) (h1 : r = .ok (.ret V)) (h2 : s'.heap.get? it = some (citObj (.ref b) (.str ⟨#[]⟩ tk) false)) (h3 : s'.heap.get? b = some (methodObj (.ref f) x)) (h4 : s'.heap.get? f = some of) (h5 : V = .str c u) (h6 : (c ≠ ⟨#[]⟩ -> Q (some V) s')) (h7 : (c = ⟨#[]⟩ -> ∀ h', h'.get? it = some (citObj .none .none true) -> (∀ a o, a ≠ it -> s'.heap.get? a = some o -> h'.get? a = some o) -> Q none { s' with heap := h' })) : CitR it b f x tk of Q r s'
theorem cit_next {it b f : Addr} {x : Value} {tk : Tok} {of : Obj} {fd : FuncData} {Q : Option Value -> Shared -> Prop} (hh : A.handled = none) (hit : s.heap.get? it = some (citObj (.ref b) (.str ⟨#[]⟩ tk) false)) (hb : s.heap.get? b = some (methodObj (.ref f) x))
  (hf : s.heap.get? f = some of) (hfd : of.data = .func fd)
  (hcall : codeAny (model prog w) A.in1 (.call (.ref f) ⟨[x], []⟩) (CitR it b f x tk of Q) s) :
  wpAny (model prog w) A (pyNext (.ref it)) Q E s := by
 unfold pyNext
 refine wpAny_bind (wpAny_attempt (wpAny_callSpecial?_slot (name := Str.ofString "__next__") ⟨_, hit, rfl⟩ CF.slot_cit_next
  (wpAny_call_entry CF.slot_cit_next ⟨_, hit, rfl⟩ CF.entry_cit_next ?_ (CF.args_cit_next_1 _))))
 unfold Builtin.«callable_iterator.__next__»
 refine wpAny_bind (wpAny_of_eq (a := (Value.ref it, [])) rfl ?_)
 try dsimp only
 refine wpAny_bind (wpAny_field hit rfl (x := .bool false) rfl ?_)
 show wpAny _ _ (field (.ref it) 0 >>= _) _ _ _
 refine wpAny_bind (wpAny_field hit rfl (x := .ref b) rfl ?_)
 refine wpAny_bind (wpAny_attempt ?_)
 unfold callOutOfASlot
 refine wpAny_bind (borrows_method hb hf hfd ?_)
 show wpAny _ _ (callBorrowed (.ref b) []) _ _ _
 refine call_borrowed (method_call hb ?_)
 refine codeAny_mono hcall fun r s' hr => ?_
 refine nG fun ng => ?_
 obtain ⟨V, c, u, rfl, hit', hb', hf', rfl, h1, h2⟩ := hr
 refine ng ?_
 clear ng
 dsimp only
 refine wpAny_bind (wpAny_field hit' rfl (x := .bool false) rfl ?_)
 show wpAny _ _ (field (.ref it) 1 >>= _) _ _ _
 refine wpAny_bind (wpAny_field hit' rfl (x := .str ⟨#[]⟩ tk) rfl ?_)
 refine wpAny_bind (wpAny_holding (wpAny_eqBool_str ?_))
 by_cases hc : c = ⟨#[]⟩
 ·have e : decide ((⟨#[]⟩ : Str) = c) = true := decide_eq_true hc.symm
  rw [e]
  show wpAny _ _ (rule "callable_iterator.__next__.sentinel" >>= _) _ _ _
  refine wpAny_bind (wpAny_rule (wpAny_bind ?_))
  show wpAny _ _ (do slotLetsGo "callable_iterator.__next__" (<- field (.ref it) 0) _; setField (.ref it) 0 .none; setField (.ref it) 1 .none; setField (.ref it) 2 (.bool true)) _ _ _
  refine wpAny_bind (wpAny_field hit' rfl (x := .ref b) rfl ?_)
  refine wpAny_bind ?_
  unfold slotLetsGo
  dsimp only
  refine wpAny_bind (borrows_method hb' hf' hfd ?_)
  show wpAny _ _ (pure ()) _ _ _
  refine wpAny_pure ?_
  refine wpAny_bind (wpAny_setField_rec hit' (by simp) fun h1' e1 k1 => ?_)
  refine wpAny_bind (wpAny_setField_rec e1 (by simp) fun h2' e2 k2 => ?_)
  refine wpAny_setField_rec e2 (by simp) fun h3' e3 k3 => ?_
  refine stop_any hh fun e h4' k ht => ?_
  refine wpAny_bind (wpAny_isInstance (T := "StopIteration") (b := true) ht isSubtype_stop ?_)
  refine wpAny_pure (h2 hc _ (k _ _ e3) fun a o hne ho => k _ _ ?_)
  exact (k3.2 a hne).trans ((k2.2 a hne).trans ((k1.2 a hne).trans ho))
 ·have e : decide ((⟨#[]⟩ : Str) = c) = false := decide_eq_false (Ne.symm hc)
  rw [e]
  show wpAny _ _ (ret (.str c u)) _ _ _
  exact wpAny_pure ⟨_, rfl, wpAny_pure (h1 hc)⟩
end
end
section
variable {C : Cx} {X : zj}
noncomputable def OpSc (C : Cx) (Z : LX) (n : Nat) (a : Addr) (h : List PV -> List zA -> Option (PV × List zA)) : Prop :=
 ∀ A F P ρ s as Vs os c os', AL n A -> zb C NL F P ρ os s.heap -> (∀ i a, (i, a) ∈ Z.pins -> ρ i = a) -> os.length = 4 -> RepL F as Vs -> h as os = some (c, os') ->
  codeAny C.M A (.call (.ref a) ⟨Vs, []⟩) (fun r s' => ∃ V, r = .ok (.ret V) /\ OpR C F P ρ s os' c V s') s
theorem OpSc.op {Z : LX} {n : Nat} {a : Addr} {h : List PV -> List zA -> Option (PV × List zA)} (x : OpSc C Z n a h) : OpS C Z n (fun vs => call (.ref a) vs) h := by
 intro A F P ρ s as Vs os c os' hA I hp hl r hc
 refine wpAny_call (codeAny_mono (x A F P ρ s as Vs os c os' hA I hp hl r hc) fun r s' hr => ?_)
 refine nG fun ng => ?_
 obtain ⟨V, rfl, h⟩ := hr
 refine ng ?_
 clear ng
 exact h
theorem OpS.mono {Z : LX} {n m : Nat} {t : List Value -> Sem Value} {h : List PV -> List zA -> Option (PV × List zA)} (x : OpS C Z n t h) (hm : m <= n) : OpS C Z m t h :=
 fun A F P ρ s as Vs os c os' hA => x A F P ρ s as Vs os c os' (hA.mono hm)
theorem fn_runC {n : Nat} {A : Around} {a : Addr} {fd : FuncData} {body : List Stmt} {is : List Nat} {clo : List (Str × Nat)} {ps : List Str} {pls : List Pl} {F P : PH} {ρ : Nat -> Addr} {σ0 σ1 σ' : List zA} {s : Shared} {as : List PV} {Vs : List Value} {nv : Nat} {f : CC Fl} {v : Fl}
  (FA : DefAt C a fd body ps) (En : EntOK X fd.scope is clo ps pls) (hclo : fd.closure = clA ρ clo) (hb : zi C X body f) (hA : AL n A) (hn : n <= 40) (hXn : X.n = n + 1)
  (I : zb C X.N F P ρ σ0 s.heap) (hpin : ∀ i a, (i, a) ∈ X.pins -> ρ i = a) (hl : (X.fi :: is).all (· < σ0.length) = true) (r : RepL F as Vs) (hlen : as.length = ps.length)
  (hf : bindS X.fi pls as (compIn X.fi nv is σ0) = some σ1) (he : f σ1 = some (v, σ')) :
  codeAny C.M A (.call (.ref a) ⟨Vs, []⟩) (fun r s' => ∃ V, r = .ok (.ret V) /\ FnR C X F P ρ s σ' (flv v) is V s') s := by
 refine nG fun ng => ?_
 obtain ⟨o, ho, hd⟩ := FA.o
 have hP := I.top.trans I.p
 refine ng ?_
 clear ng
 refine codeAny_call_function (hA.room hn) (hP _ _ ho) hd FA.co FA.gen FA.body (FA.code _ hP) ?_
 rw [FA.bind Vs (by rw [r.length]; exact hlen), FA.glob, FA.blt, hclo]
 refine wpAny_pure (wpAny_mono (fn_env En I hpin (fun i hi => of_decide_eq_true (List.all_eq_true.mp hl i hi)) r hf) (fun env s₁ ⟨ρ1, E, I₁, pu, hρ⟩ => ⟨I₁.lim, codeAny_func ?_⟩) fun _ _ x => x.elim)
 have hA' : AL X.n (A.deeper env) := by rw [hXn]; exact hA.deeper
 refine wpAny_mono (hb (A.deeper env) env F P ρ1 σ1 s₁ v σ' hA' E I₁ he) (fun fl s₂ zq => ?_) fun _ _ x => x.elim
 obtain ⟨F2, ρ₂, n₂, r₂⟩ := zq
 refine ⟨_, rfl, F2, ρ₂, n₂.inv, pu.trans n₂.pu, flv_rep r₂, fun i h1 h2 h3 => (n₂.rho i h2 h3).trans (hρ i h1)⟩
theorem lex_fnC {Z : LX} {n : Nat} {a : Addr} {fd : FuncData} {body : List Stmt} {is : List Nat} {clo : List (Str × Nat)} {ps : List Str} {pls : List Pl} {f : CC Fl} {h : List PV -> List zA -> Option (PV × List zA)} (nv len : Nat)
  (FA : DefAt C a fd body ps) (En : EntOK X fd.scope is clo ps pls) (hclo : ∀ ρ : Nat -> Addr, (∀ i a, (i, a) ∈ Z.pins -> ρ i = a) -> fd.closure = clA ρ clo) (hb : zi C X body f) (hn : n <= 40) (hXn : X.n = n + 1) (hN : ∀ i, i < 4 -> X.N i = NL i) (hp : X.pins = Z.pins)
  (hfi : ∀ i, i < 4 -> i ∉ X.fi :: is /\ i ∉ X.tmp /\ i ∉ X.own) (hl : (X.fi :: is).all (· < 4 + len) = true)
  (hrun : ∀ as os c os', os.length = 4 -> h as os = some (c, os') -> as.length = ps.length /\ os'.all noObj = true /\ RunL X pls nv len is f as os c os') :
  OpSc C Z n a h := by
 intro A F P ρ s as Vs os c os' hA I hpin hos r hc
 refine nG fun ng => ?_
 obtain ⟨h0, hno, σ1, v, σ', h1, h2, h3, h4⟩ := hrun as os c os' hos hc
 have I' := I.ext (N' := X.N) len (fun i hi => hN i (by omega))
 refine ng ?_
 clear ng
 refine codeAny_mono (fn_runC (C := C) (X := X) (nv := nv) FA En (hclo ρ hpin) hb hA hn hXn I' (fun i a m => hpin i a (hp ▸ m)) (by rw [List.length_append, List.length_replicate, hos]; exact hl) r h0 h1 h2) fun r s' hr => ?_
 refine nG fun ng => ?_
 obtain ⟨V, rfl, F', ρ', J, pu, rr, hρ⟩ := hr
 refine ng ?_
 clear ng
 subst h3 h4
 exact ⟨V, rfl, F', J.cut hN (fun i hi => hρ i (hfi i hi).1 (hfi i hi).2.1 (hfi i hi).2.2) hno, pu, rr⟩
theorem lex_runC {Z : LX} {a : Addr} {n : Nat} {h : List PV -> List zA -> Option (PV × List zA)} {A : Around} {env : Env} {F P : PH} {ρ : Nat -> Addr} {σ σ' : List zA} {s : Shared} {as : List PV} {Vs : List Value} {c : PV}
  (ho : OpSc C Z n a h) (hX : LexX X Z) (hA : AL n A) (E : zZ X ρ env) (I : zb C X.N F P ρ σ s.heap) (r : RepL F as Vs) (hf : yA h as σ = some (c, σ')) :
  codeAny C.M A (.call (.ref a) ⟨Vs, []⟩) (fun r s' => ∃ V, r = .ok (.ret V) /\ ∃ F', Nx C X F P ρ s F' ρ σ' s' /\ Rep F' c V /\ ∀ b o, partP ρ σ s.heap b = some o -> s'.heap.get? b = some o) s := by
 unfold yA at hf
 refine nG fun ng => ?_
 refine ivP hf ?_; clear hf; intro c' os' e hf
 refine i1 hf ?_; clear hf; intro hl hf
 cases hf
 refine ng ?_
 clear ng
 refine codeAny_mono (ho A F _ ρ s as Vs (σ.take 4) c os' hA (I.part hX.names) (fun i a m => (E.pin i a (hX.pins _ m)).1) (by rw [List.length_take]; omega) r e) fun r s' hr => ?_
 refine nG fun ng => ?_
 obtain ⟨V, rfl, F', J, pu, rr⟩ := hr
 refine ng ?_
 clear ng
 refine ⟨V, rfl, F', ⟨I.join J hX.names hl.1 pu.le pu.ag, ⟨pu.gx, pu.le, fun a ha => pu.ag a fun q => ?_⟩, fun _ _ => rfl⟩, rr, fun b o hb => J.p b o hb⟩
 cases w : P a with
 | none => exact ha w
 | some o =>
  unfold partP at q
  refine nG fun ng => ?_
  split at q
  ·rename_i hg
   obtain ⟨j, y, _, hy, ly, hr⟩ := giv_iff.mp hg
   have := (I.fr j y hy ly).2
   rw [hr, w] at this; cases this
  ·rw [I.p _ _ w] at q; cases q
structure FeedC (C : Cx) (Z : LX) (feed take : Addr) : Prop where
 lex : LexC C Z.L Z.D Z.K Z.N Z.mN
 inst : ∀ h : Heap, PH.le C.P0 h.get? -> ∃ m, h.Inst feed Z.K m /\ m ("read" : Str) = some (.ref take)
 no : Z.mN ("read" : Str) = none
 fn : ∃ o fd, C.P0 take = some o /\ o.data = .func fd
theorem tl_read : typeLookup (.type "object") ("read" : Str) = pure none := by rw [typeLookup_type, builtinLookup_eq_fast]; kernel_rfl
noncomputable def cRead (feed : Addr) (h : List PV -> List zA -> Option (PV × List zA)) (g : CC AV) (f : CC (List PV)) : CC PV := fun σ => match g σ with
 | some (.imm (.ref a), σ1) => if a = feed then (match f σ1 with
  | some (as, σ₂) => yA h as σ₂
  | none => none) else none
 | _ => none
theorem evp_read {o : Expr} {apos pos : Pos} {e0 : Expr} {rest : List Expr} {Z : LX} {feed take : Addr} {h : List PV -> List zA -> Option (PV × List zA)} {g : CC AV} {f : CC (List PV)} (D : FeedC C Z feed take) (ho : OpS C Z X.n (fun vs => call (.ref take) vs) h) (hX : LexX X Z) (hb : notCall o = true) (hline : (apos.endLine == pos.line) = true) (hes : (e0 :: rest).all zW = true) (hlen : (e0 :: rest).length < 20)
  (hg : EvOK C X o g) (hs : EvsP C X (e0 :: rest) f) : EvP C X (.Call (.Attribute o "read" apos) (e0 :: rest) [] pos) (cRead feed h g f) := by
 intro A env F P ρ σ s v σ' hA E I hf
 unfold cRead at hf
 refine nG fun ng => ?_
 refine ivAr hf ?_; clear hf; intro a σ1 e1 hf
 refine i1 hf ?_; clear hf; intro hc hf
 subst hc
 refine ivL hf ?_; clear hf; intro as σ₂ e2 hf
 refine ng ?_
 clear ng
 refine callm hb hline hes hlen (wpAny_mono (hg A env F P ρ σ s _ σ1 hA E I e1) (fun V s₁ zq pl => ?_) fun _ _ x => x)
 refine nG fun ng => ?_
 obtain ⟨F1, ρ1, n₁, r₁⟩ := zq
 have r' : Rep F1 (.ref a) V := r₁
 cases r'
 have hP := n₁.inv.top.trans n₁.inv.p
 obtain ⟨m, hI, hm⟩ := D.inst _ hP
 have cl := D.lex.cls _ hP
 obtain ⟨nm, q, bs, sn, sub, col, dd, k0, k1, k2, k3, k5, hC⟩ := clsX cl
 obtain ⟨ob, fd, hob, hod⟩ := D.fn
 have hn : zW e0 = true := (Bool.and_eq_true_iff.mp (show (zW e0 && rest.all zW) = true from hes)).1
 have key : wpAny C.M A (callWith pos (.ref take) [] (backTo pos (starEach (e0 :: rest) env)) []) (PoV C X F P ρ s σ' v) (fun _ _ => False) { s₁ with toks := s₁.toks + 1 } := by
  have n1' := n₁.toks (t := s₁.toks + 1)
  refine callWith_function (a := take) (o := ob) (fd := fd) (evargs hn (wpAny_mono (hs A env F1 P ρ1 σ1 _ as σ₂ pos hA (n1'.env E) n1'.inv e2) (fun Vs s₂ ⟨F2, ρ₂, n₂, r₂⟩ => ⟨⟨n₂.inv.p _ _ (n₂.inv.top _ _ hob), hod⟩, ?_⟩) fun _ _ x => x))
  exact wpAny_mono (lex_run ho hX hA ((n1'.trans n₂).env E) n₂.inv r₂ hf) (fun W s₃ ⟨F3, ρ3, n₃, r₃⟩ => ⟨F3, ρ3, (n1'.trans n₂).trans n₃, r₃⟩) fun _ _ x => x
 obtain ⟨hh, gg, d, t, os⟩ := s₁
 refine ng ?_
 clear ng
 exact method_attr hC cl.ns D.lex.ga D.lex.gt D.no tl_read hI hm rfl key
end
section
variable {C : Cx} {X : zj}
noncomputable def chP (c : Nat) : PV := .str [c]
noncomputable def chOf : PV -> Option Nat
 | .str [c] => if c < 1114112 then some c else none
 | _ => none
noncomputable def chsOf : List PV -> Option (List Nat)
 | [] => some []
 | p :: ps => (match chOf p, chsOf ps with | some c, some cs => some (c :: cs) | _, _ => none)
theorem chsOf_map : ∀ {cs : List Nat}, cs.all (· < 1114112) = true -> chsOf (cs.map chP) = some cs
 | [], _ => rfl
 | c :: cs, h => by
  simp only [List.all_cons, Bool.and_eq_true] at h
  have h1 : chOf (chP c) = some c := if_pos (of_decide_eq_true h.1)
  show (match chOf (chP c), chsOf (cs.map chP) with | some c, some cs => some (c :: cs) | _, _ => none) = _
  rw [h1, chsOf_map h.2]
noncomputable abbrev LS (Z : LX) (feed : Addr) (n : Int) (bs : List PV) (ss : List Nat) : List zA :=
 [.attrs [some (.imm (.int n)), some (.imm (.ref feed)), some (.imm (.str [10, 9, 13, 32])), some (.imm (.ref Z.B))], .lst bs, .lst (ss.map chP), .cell (some (.imm (.ref Z.S)))]
noncomputable def decL (Z : LX) (feed : Addr) (os : List zA) : Option (Int × List PV × List Nat) := specO fun r => os = LS Z feed r.1 r.2.1 r.2.2 /\ r.2.2.all (· < 1114112) = true
theorem decL_eq {Z : LX} {feed : Addr} {os : List zA} {n : Int} {bs : List PV} {ss : List Nat} (h : decL Z feed os = some (n, bs, ss)) : os = LS Z feed n bs ss /\ ss.all (· < 1114112) = true := by have := specO_some (P := fun r : Int × List PV × List Nat => os = LS Z feed r.1 r.2.1 r.2.2 /\ r.2.2.all (· < 1114112) = true) h; exact this
theorem decL_LS {Z : LX} {feed : Addr} {n : Int} {bs : List PV} {ss : List Nat} (h : ss.all (· < 1114112) = true) : decL Z feed (LS Z feed n bs ss) = some (n, bs, ss) :=
 specO_eq ⟨rfl, h⟩ fun zq0 zq1 => by
  obtain ⟨n', bs', ss'⟩ := zq0
  obtain ⟨e, h'⟩ := zq1
  obtain ⟨e0, e1⟩ := List.cons.inj e
  obtain ⟨e1, e2⟩ := List.cons.inj e1
  cases e0
  cases e1
  have e3 := chsOf_map h
  rw [zA.lst.inj (List.cons.inj e2).1, chsOf_map h'] at e3
  cases e3; rfl
noncomputable def lexH (Z : LX) (feed : Addr) (g : List PV -> Int -> List PV -> List Nat -> Option (PV × Int × List PV × List Nat)) : List PV -> List zA -> Option (PV × List zA) := fun as os => match decL Z feed os with
 | some (n, bs, ss) => (match g as n bs ss with | some (c, n', bs', ss') => some (c, LS Z feed n' bs' ss') | none => none)
 | none => none
theorem lexRun_LS {Z : LX} {feed : Addr} {g : List PV -> Int -> List PV -> List Nat -> Option (PV × Int × List PV × List Nat)} {as : List PV} {n n' : Int} {bs bs' : List PV} {ss ss' : List Nat} {c : PV} {rest : List zA} (h : g as n bs ss = some (c, n', bs', ss')) (hs : ss.all (· < 1114112) = true) :
  yA (lexH Z feed g) as (LS Z feed n bs ss ++ rest) = some (c, LS Z feed n' bs' ss' ++ rest) := by
 have e1 : (LS Z feed n bs ss ++ rest).take 4 = LS Z feed n bs ss := rfl
 have e2 : (LS Z feed n bs ss ++ rest).drop 4 = rest := rfl
 unfold yA
 rw [e1]
 unfold lexH
 rw [decL_LS hs]
 dsimp only
 rw [h]
 dsimp only
 rw [if_pos ⟨rfl, by simp⟩, e2]
noncomputable def readSt : Stmt := fdIn (zD 12) 1
noncomputable abbrev X_rc (Z : LX) (n : Nat) : zj :=
 { n := n + 1, fi := 4, N := fun | 0 => ["lineno", "instream", "whitespace", "pushback", "read"] | 4 => ["self", "ch"] | _ => [], cells := [], scope := zQ readSt, tmp := [], own := [], pins := Z.pins }
noncomputable abbrev f_rc (Z : LX) (feed : Addr) : CC Fl := zJ (zl 4 (.loc 1) (cRead feed (h_take Z) (cAttr Z.L 0 1 (zC 4 0)) (zB (cQ (.int 1)) zG)))
 (zJ (cIf (zP (zM hEq (zE (zC 4 1)) (zX (cQ (.str [10]))))) (zJ (cInc Z.L 0 0 (zC 4 0) 1) (zL .next)) (zL .next)) (zJ (cRet (zE (zC 4 1))) (zL .next)))
theorem lexX_of {Z : LX} (hN : ∀ i, i < 4 -> X.N i = NL i) (hp : X.pins = Z.pins) : LexX X Z := ⟨hN, fun p h => by rw [hp]; exact h⟩
theorem nl4 {N : Nat -> List Str} (h0 : N 0 = NL 0) (h1 : N 1 = []) (h2 : N 2 = []) (h3 : N 3 = []) : ∀ i, i < 4 -> N i = NL i := by
 intro i hi
 have : i = 0 \/ i = 1 \/ i = 2 \/ i = 3 := lt4 hi
 refine nG fun ng => ?_
 rcases this with rfl | rfl | rfl | rfl
 ·refine ng ?_
  clear ng
  exact h0
 ·refine ng ?_
  clear ng
  exact h1
 ·refine ng ?_
  clear ng
  exact h2
 ·refine ng ?_
  clear ng
  exact h3
theorem ok_rc {Z : LX} {feed take : Addr} {n : Nat} (hn : n <= 30) (K : LexK C Z) (D : FeedC C Z feed take) (S : OpS C Z (n + 1) (fun vs => call (.ref take) vs) (h_take Z)) : zi C (X_rc Z n) (zN readSt) (f_rc Z feed) := by
 change zi C _ (List.cons _ _) _
 have hp0 : (0, Z.D) ∈ (X_rc Z n).pins := by simp [LX.pins]
 refine zT (st_asgA (X := X_rc Z n) ?_ (by kernel_rfl) (by kernel_rfl)) (zT (st_if (ts_cmp (op_eq (by show n + 1 <= 40; omega)) (evp (z8 (X := X_rc Z n) (by kernel_rfl) (by kernel_rfl))) (yC (evp_str (by kernel_rfl))) (by kernel_rfl)) (zT ?_ zd) zd) (zT (st_ret (evp (z8 (X := X_rc Z n) (by kernel_rfl) (by kernel_rfl)))) zd))
 ·refine evp_read D S (lexX_of (nl4 rfl rfl rfl rfl) rfl) (by kernel_rfl) (by kernel_rfl) (by kernel_rfl) (by simp) ?_ (evs_cons evp_int evs_nil rfl)
  exact ev_attr K.lex hp0 (by kernel_rfl) (K.at' _ (by decide +kernel)) tl_instream (z8 (X := X_rc Z n) (by kernel_rfl) (by kernel_rfl))
 ·exact st_inc K.lex hp0 (by kernel_rfl) (K.at' _ (by decide +kernel)) tl_lineno (by show 5 <= 100; decide) (z8 (X := X_rc Z n) (by kernel_rfl) (by kernel_rfl))
noncomputable def nl (c : Nat) (n : Int) : Int := if c = 10 then n + 1 else n
noncomputable def g_rc (Z : LX) : List PV -> Int -> List PV -> List Nat -> Option (PV × Int × List PV × List Nat)
 | [.ref a], n, bs, ss => if a = Z.L then (match ss with | [] => some (.str [], n, bs, []) | c :: ss => some (.str [c], nl c n, bs, ss)) else none
 | _, _, _, _ => none
noncomputable abbrev h_rc (Z : LX) (feed : Addr) := lexH Z feed (g_rc Z)
theorem sh_chars {ss : List Nat} (h : ss.all (· < 1114112) = true) : (ss.map chP).all (sh 2) = true := by
 rw [List.all_eq_true] at h ⊢
 intro p hp
 refine nG fun ng => ?_
 obtain ⟨c, hc, rfl⟩ := List.mem_map.mp hp
 refine ng ?_
 clear ng
 show (List.all [c] (· < 0x110000)) = true
 have := h c hc
 simpa using this
theorem take_run {Z : LX} {feed : Addr} {n : Int} {bs : List PV} {ss : List Nat} {rest : List zA} (h : ss.all (· < 1114112) = true) :
  yA (h_take Z) [.int 1] (LS Z feed n bs ss ++ rest) = (match ss with | [] => some (.str [], LS Z feed n bs [] ++ rest) | c :: ss => some (.str [c], LS Z feed n bs ss ++ rest)) := by
 have e1 : (LS Z feed n bs ss ++ rest).take 4 = LS Z feed n bs ss := rfl
 have e2 : (LS Z feed n bs ss ++ rest).drop 4 = rest := rfl
 unfold yA
 rw [e1, e2]
 have e3 : h_take Z [.int 1] (LS Z feed n bs ss) = (match ss with | [] => some (.str [], LS Z feed n bs []) | c :: ss => some (.str [c], LS Z feed n bs ss)) := by
  refine (h_take_at rfl rfl (sh_chars h)).trans ?_
  cases ss <;> rfl
 rw [e3]
 cases ss with
 | nil => dsimp only; rw [if_pos ⟨rfl, by simp⟩]
 | cons c ss => dsimp only; rw [if_pos ⟨rfl, by simp⟩]
theorem rc_attr {Z : LX} {feed : Addr} {n : Int} {bs : List PV} {ss : List Nat} {vs : List (Option AV)} {rest : List zA} (h : vs[0]? = some (some (.imm (.ref Z.L)))) :
  cAttr Z.L 0 1 (zC 4 0) (LS Z feed n bs ss ++ .frame vs :: rest) = some (.imm (.ref feed), LS Z feed n bs ss ++ .frame vs :: rest) := by
 have e : zC 4 0 (LS Z feed n bs ss ++ .frame vs :: rest) = some (.imm (.ref Z.L), LS Z feed n bs ss ++ .frame vs :: rest) := by
  show (match vs[0]? with | some (some v) => some (v, _) | _ => none) = _
  rw [h]
 unfold cAttr
 rw [e]
 show (if Z.L = Z.L then _ else none) = _
 rw [if_pos rfl]; rfl
theorem z0 {f : CC PV} {σ σ1 : List zA} {a : PV} (h1 : f σ = some (a, σ1)) : zB f zG σ = some ([a], σ1) := z4 h1 rfl
theorem e_read {feed : Addr} {h : List PV -> List zA -> Option (PV × List zA)} {g : CC AV} {f : CC (List PV)} {σ σ1 σ₂ : List zA} {as : List PV} {r : Option (PV × List zA)} (h1 : g σ = some (.imm (.ref feed), σ1)) (h2 : f σ1 = some (as, σ₂)) (h3 : yA h as σ₂ = r) : cRead feed h g f σ = r := by
 unfold cRead; rw [h1]; dsimp only; rw [if_pos rfl, h2]; exact h3
theorem eq_str {a b : List Nat} (ha : a.all (· < 1114112) = true) (hb : b.all (· < 1114112) = true) : hEq (.str a) (.str b) = some (.bool (a == b)) := by
 show (if (a.all (· < 0x110000) && b.all (· < 0x110000)) = true then some (PV.bool (a == b)) else none) = _
 rw [if_pos (by rw [Bool.and_eq_true]; exact ⟨ha, hb⟩)]
theorem rc_eval {Z : LX} {feed : Addr} {n : Int} {bs : List PV} {ss : List Nat} (h : ss.all (· < 1114112) = true) :
  ∃ v ch n' ss', g_rc Z [.ref Z.L] n bs ss = some (v, n', bs, ss') /\ f_rc Z feed (LS Z feed n bs ss ++ [.frame [some (.imm (.ref Z.L)), none]]) = some (.ret v, LS Z feed n' bs ss' ++ [.frame [some (.imm (.ref Z.L)), ch]]) := by
 have ha := rc_attr (Z := Z) (feed := feed) (n := n) (bs := bs) (ss := ss) (vs := [some (.imm (.ref Z.L)), none]) (rest := []) rfl
 cases ss with
 | nil =>
  refine ⟨.str [], some (.imm (.str [])), n, [], by show (if Z.L = Z.L then _ else _) = _; rw [if_pos rfl], ?_⟩
  refine zF (zp (e_read ha (z0 rfl) (take_run h)) rfl) (zF (zv (z1 (zY rfl rfl rfl rfl rfl)) rfl) (z6 (e_ret rfl)))
 | cons c ss =>
  refine ⟨.str [c], some (.imm (.str [c])), nl c n, ss, by show (if Z.L = Z.L then _ else _) = _; rw [if_pos rfl], ?_⟩
  have hc : ([c] : List Nat).all (· < 1114112) = true := by
   simp only [List.all_cons, Bool.and_eq_true] at h
   simp only [List.all_cons, List.all_nil, Bool.and_true]; exact h.1
  have ht : ∀ r : Bool, ([c] == [10]) = r -> zP (zM hEq (zE (zC 4 1)) (zX (cQ (.str [10])))) (LS Z feed n bs ss ++ [.frame [some (.imm (.ref Z.L)), some (.imm (.str [c]))]]) = some (r, LS Z feed n bs ss ++ [.frame [some (.imm (.ref Z.L)), some (.imm (.str [c]))]]) := fun r hr =>
   z1 (zY (a := .str [c]) rfl rfl rfl (by rw [eq_str hc (by decide), hr]) rfl)
  by_cases h10 : c = 10
  ·refine nG fun ng => ?_
   subst h10
   have hi : cInc Z.L 0 0 (zC 4 0) 1 (LS Z feed n bs ss ++ [.frame [some (.imm (.ref Z.L)), some (.imm (.str [10]))]]) = some (.next, LS Z feed (n + 1) bs ss ++ [.frame [some (.imm (.ref Z.L)), some (.imm (.str [10]))]]) := by
    have e : cAttr Z.L 0 0 (zC 4 0) (LS Z feed n bs ss ++ [.frame [some (.imm (.ref Z.L)), some (.imm (.str [10]))]]) = some (.imm (.int n), LS Z feed n bs ss ++ [.frame [some (.imm (.ref Z.L)), some (.imm (.str [10]))]]) := by
     show (if Z.L = Z.L then _ else none) = _
     rw [if_pos rfl]
    unfold cInc
    rw [e]; rfl
   refine ng ?_
   clear ng
   exact zF (zp (e_read ha (z0 rfl) (take_run h)) rfl) (zF (e_ifT (ht true rfl) (zF hi rfl)) (z6 (e_ret rfl)))
  ·have e : nl c n = n := if_neg h10
   rw [e]
   exact zF (zp (e_read ha (z0 rfl) (take_run h)) rfl) (zF (zv (ht false (by simpa using h10)) rfl) (z6 (e_ret rfl)))
theorem lex_bind {Z : LX} {feed : Addr} {n : Int} {bs : List PV} {ss : List Nat} {nv k : Nat} {pls : List Pl} {as : List PV} {r : List zA}
  (h : bindS 4 pls as (LS Z feed n bs ss ++ .frame (List.replicate nv none) :: List.replicate k zA.dead) = some r) : bindS 4 pls as (compIn 4 nv [] (LS Z feed n bs ss ++ List.replicate (k + 1) zA.dead)) = some r := by
 have e : compIn 4 nv [] (LS Z feed n bs ss ++ List.replicate (k + 1) zA.dead) = LS Z feed n bs ss ++ .frame (List.replicate nv none) :: List.replicate k zA.dead := by
  have hm : ∀ xs : List PV, clr 4 (.lst xs) = .lst xs := fun _ => rfl
  show (newOwn 4 _ _) = _
  unfold newOwn
  rw [List.map_append, List.map_replicate]
  rfl
 rw [e]; exact h
theorem sp_rc {Z : LX} {feed take : Addr} {n : Nat} {a : Addr} {fd : FuncData} (hn : n <= 30) (K : LexK C Z) (D : FeedC C Z feed take) (S : OpS C Z (n + 1) (fun vs => call (.ref take) vs) (h_take Z))
  (FA : DefAt C a fd (zN readSt) ["self"]) (hs : fd.scope = zQ readSt) (hc : fd.closure = []) : OpSc C Z n a (h_rc Z feed) := by
 refine lex_fnC (X := X_rc Z n) (is := []) (clo := []) (pls := [.loc 0]) 2 1 FA (entOK_of hs.symm (by rw [hs]; kernel_rfl) (lex_pins rfl)) (fun ρ _ => hc) (ok_rc hn K D S) (by omega) rfl (nl4 rfl rfl rfl rfl) rfl (fun i hi => ⟨by simp; omega, List.not_mem_nil, List.not_mem_nil⟩) (by rfl) fun as os c os' hos h => ?_
 unfold h_rc lexH at h
 refine nG fun ng => ?_
 split at h
 ·rename_i m bs ss e
  obtain ⟨rfl, hss⟩ := decL_eq e
  split at h
  ·rename_i c' n' bs' ss' e2
   cases h
   unfold g_rc at e2
   split at e2
   ·rename_i a'
    split at e2
    ·rename_i ha
     subst ha
     obtain ⟨v, ch, n'', ss'', e3, e4⟩ := rc_eval (Z := Z) (feed := feed) (n := m) (bs := bs) hss
     have e3' : g_rc Z [.ref Z.L] m bs ss = some (c, n', bs', ss') := by
      show (if Z.L = Z.L then _ else _) = _
      rw [if_pos rfl]; exact e2
     rw [e3'] at e3
     cases e3
     refine ng ?_
     clear ng
     exact ⟨rfl, rfl, _, _, _, lex_bind (k := 0) rfl, e4, rfl, rfl⟩
    ·cases e2
   ·cases e2
  ·cases h
 ·cases h
end
section
variable {C : Cx} {X : zj}
noncomputable def cAugS (fi j : Nat) (f : CC PV) : CC Fl := fun σ => match zC fi j σ with
 | some (.imm (.str a), σ1) => (match f σ1 with
  | some (.str b, σ₂) => if a.length + b.length <= 16777216 then (match Pl.set fi (.loc j) (.imm (.str (a ++ b))) σ₂ with | some σ3 => some (.next, σ3) | none => none) else none
  | _ => none)
 | _ => none
theorem st_augs {x : Str} {np pos : Pos} {value : Expr} {j : Nat} {f : CC PV} (hp : plChk X x (.loc j) = true) (hv : EvP C X value f) : StOK C X (.AugAssign (.Name x np) .Add value pos) (cAugS X.fi j f) := by
 intro A env F P ρ σ s v σ' hA E I hf
 have hp := zg hp
 unfold cAugS at hf
 refine nG fun ng => ?_
 split at hf
 ·rename_i a σ1 e1
  split at hf
  ·rename_i b σ₂ e2
   split at hf
   ·rename_i hl
    split at hf
    ·rename_i σ3 e3
     refine ng ?_
     clear ng
     refine pf hf ?_; clear hf
     refine wpAny_AugAssign_Name (load_loc hp.1 hp.2 E I e1 fun V es r => ?_)
     refine nG fun ng => ?_
     subst es
     refine ng ?_
     clear ng
     refine wpAny_mono (hv A env F P ρ _ s _ σ₂ hA E I e2) (fun W s₂ zq => ?_) fun _ _ x => x
     refine nG fun ng => ?_
     obtain ⟨F2, ρ₂, n₂, r₂⟩ := zq
     have r' : Rep F (.str a) V := r
     cases r'
     cases r₂
     refine ng ?_
     clear ng
     refine PyProof.Rows.iadd_str (fun t' tk => ?_) (by rw [str_len, str_len, sizeLine_eq]; exact hl)
     rw [str_app]
     exact wpAny_mono (store_ok (v := .imm (.str (a ++ b))) hp ((n₂.toks (t := tk)).env E) (n₂.toks (t := tk)).inv (.str _ _) e3) (fun _ s₃ n₃ => ⟨F2, ρ₂, (n₂.toks (t := tk)).sx.trans n₃, rfl⟩) fun _ _ x => x
    ·cases hf
   ·cases hf
  ·cases hf
 ·cases hf
theorem PH.add_le2 {F : PH} {h : Heap} {o : Obj} (hF : PH.le F h.get?) (hf : o.isFreed = false) : PH.le F (F.add h.objs.size o) /\ PH.le (F.add h.objs.size o) (h.push o).get? /\ (∀ a, Alive h a -> F.add h.objs.size o a = F a) := by
 have hn : F h.objs.size = none := by
  cases q : F h.objs.size with
  | none => rfl
  | some o' => exact absurd (Heap.lt_size (hF _ _ q)) (Nat.lt_irrefl _)
 refine ⟨PH.le_add hn, fun a o' e' => ?_, fun a ha => ?_⟩
 ·by_cases q : a = h.objs.size
  ·subst q; rw [PH.add_self] at e'; cases e'; exact Heap.get?_push_size _ hf
  ·rw [PH.add_off F o q] at e'; exact Heap.get?_push_of_some o (hF a o' e')
 ·refine nG fun ng => ?_
  obtain ⟨o', ho⟩ := ha
  refine ng ?_
  clear ng
  exact PH.add_off F o (Nat.ne_of_lt (Heap.lt_size ho))
theorem copied_rc : ([("__module__" : Str), "__name__", "__qualname__", "__doc__", "__annotations__"] : List Str).contains ("_read_char" : Str) = false := by decide +kernel
noncomputable def cIter (fi k : Nat) (p : Pl) (L fa : Addr) (g : CC AV) : CC Fl := fun σ => match g σ with
 | some (.imm (.ref a), σ1) => if a = L /\ isAt σ1[0]? = true /\ k < σ1.length then (match p.set fi (.obj k) (newOwn k (.fit false fa L) σ1) with | some σ₂ => some (.next, σ₂) | none => none) else none
 | _ => none
theorem st_iter {x y : Str} {px np ap fp cp pos : Pos} {k kk : Nat} {p : Pl} {Z : LX} {fa : Addr} {g : CC AV} (M : MethC C Z "_read_char" fa) (hX : LexX X Z) (hg : C.mg "iter" = none) (hk : X.scope.names.lookup ("iter" : Str) = some .globalImplicit)
  (hp : plChk X x p = true) (ho : X.own.contains k = true) (h : EvOK C X (.Name y np) g) : StOK C X (.Assign [.Name x px] (.Call (.Name "iter" fp) [.Attribute (.Name y np) "_read_char" ap, .Constant (.str "") kk cp] [] pos) pos) (cIter X.fi k p Z.L fa g) := by
 intro A env F P ρ σ s v σ' hA E I hf
 unfold cIter at hf
 refine nG fun ng => ?_
 refine ivAr hf ?_; clear hf; intro a σ1 e1 hf
 refine i1 hf ?_; clear hf; intro hc hf
 obtain ⟨rfl, hat, hkl⟩ := hc
 refine ivS hf ?_; clear hf; intro σ₂ e2 hf
 obtain ⟨rfl, rfl⟩ := Prod.mk.inj (Option.some.inj hf)
 refine ng ?_
 clear ng
 refine wpAny_Assign_Name ?_ (swaps_no rfl)
 refine wpAny_Call_ofName (wpAny_Name (load_blt hk hg PyProof.Rows.Boot.«iter» (by decide +kernel) E I ?_) (by decide +kernel))
 refine callWith_builtin (backTo_any pos env _ rfl) (evargs rfl (wpAny_items_cons (PyProof.Rows.Attribute_name (wpAny_mono (h A env F P ρ σ s _ σ1 hA E I e1) (fun V s₁ zq => ?_) fun _ _ x => x)) (zR rfl)))
 refine nG fun ng => ?_
 obtain ⟨F1, ρ1, n₁, r₁⟩ := zq
 have r' : Rep F1 (.ref Z.L) V := r₁
 cases r'
 obtain ⟨vs, e3⟩ := isAt_eq hat
 have hP := n₁.inv.top.trans n₁.inv.p
 have cl := M.lex.cls _ hP
 obtain ⟨nm, q, bs, sn, sub, col, dd, k0, k1, k2, k3, k5, hC⟩ := clsX cl
 obtain ⟨of, fd, hof, hoc, hod⟩ := M.ob
 obtain ⟨yy, hy⟩ := M.bo
 obtain ⟨oL, w1, w2, w3, w4⟩ := M.lex.obj
 obtain ⟨m, hm, hin, hfr⟩ := n₁.inv.ob _ _ e3
 have hρ : ρ1 0 = Z.D := ((n₁.env E).pin 0 Z.D (hX.pins _ List.mem_cons_self)).1
 rw [hρ] at hm
 have hno : m "_read_char" = none := by
  cases q : m "_read_char" with
  | none => rfl
  | some v =>
   have := hin _ (by rw [q]; exact nofun)
   rw [hX.names 0 (by decide)] at this
   exact absurd this M.out
 have fin : ∀ t₁ : Nat, wpAny C.M A (spliced (backTo pos (starEach [.Constant (.str "") kk cp] env))) (fun vs s' => wpAny C.M A (call (.builtin "iter") (.ref s₁.heap.objs.size :: vs)) (fun V s' => wpAny C.M A (storeName env x V) (fun _ s' => PoF C X F P ρ s σ₂ .next .next s') (fun _ _ => False) s') (fun _ _ => False) s') (fun _ _ => False) { s₁ with heap := s₁.heap.push (methodObj (.ref fa) (.ref Z.L)), toks := t₁ } := by
  intro t₁
  refine wpAny_items_cons (wpAny_Constant_str (wpAny_items_nil ?_)) (zR rfl)
  obtain ⟨a1, a2, a3⟩ := PH.add_le2 (o := methodObj (.ref fa) (.ref Z.L)) n₁.inv.f rfl
  have hb : (s₁.heap.push (methodObj (.ref fa) (.ref Z.L))).get? s₁.heap.objs.size = some (methodObj (.ref fa) (.ref Z.L)) := Heap.get?_push_size _ rfl
  have I₂ := n₁.inv.keeps (h' := s₁.heap.push (methodObj (.ref fa) (.ref Z.L))) (fun b o e => Heap.get?_push_of_some _ e) a1 a2 a3
  refine call_iter2 hb ?_
  generalize hH : s₁.heap.push (methodObj (.ref fa) (.ref Z.L)) = H at *
  obtain ⟨q1, q2, q3⟩ := I₂.fresh (a := H.objs.size) size_fresh
  have I₃ := I₂.kept (h' := H.push (citObj (.ref s₁.heap.objs.size) (.str "" t₁) false)) fun b o e => Heap.get?_push_of_some _ e
  have I₄ := I₃.newOwn (i := k) (a := H.objs.size) (o' := .fit false fa Z.L) hkl q1 q2 q3 ⟨_, _, Heap.get?_push_size _ rfl, fun _ => ⟨_, _, rfl, rfl, PH.add_self ..⟩⟩
  have n₂ : Sx C X F P ρ s (F1.add s₁.heap.objs.size (methodObj (.ref fa) (.ref Z.L))) (upd ρ1 k H.objs.size) (newOwn k (.fit false fa Z.L) σ1) { s₁ with heap := H.push (citObj (.ref s₁.heap.objs.size) (.str "" t₁) false), toks := t₁ + 1 } := by
   refine n₁.sx.trans ⟨I₄, ⟨.of, a1, fun b hb => ?_⟩, fun j _ h => if_neg fun (z : j = k) => h (z ▸ List.contains_iff_mem.mp ho)⟩
   refine a3 b ?_
   cases w : P b with
   | none => exact absurd w hb
   | some o => exact ⟨o, n₁.inv.p _ _ w⟩
  refine wpAny_mono (store_ok (zg hp) (n₂.env E) n₂.inv (v := .obj k) (by show _ = Value.ref (upd _ _ _ _); rw [show upd ρ1 k H.objs.size k = H.objs.size from if_pos rfl]) e2) (fun _ s₃ n₃ => ⟨_, _, n₂.trans n₃, rfl⟩) fun _ _ x => x
 obtain ⟨hh, gg, d, t, os⟩ := s₁
 refine ng ?_
 clear ng
 refine bound_attr hC cl.ns M.lex.ga M.lex.gt M.fn (hP _ _ hof) hoc hy (hP _ _ w1) w2 w3 w4 hm hno copied_rc ?_
 exact fin (t + 1)
noncomputable def cFitL (fi k : Nat) (p : Pl) (L fa : Addr) (h : List PV -> List zA -> Option (PV × List zA)) (b : CC Fl) : Nat -> CC Fl
 | 0 => fun _ => none
 | n + 1 => fun σ => match σ[k]? with
  | some (.fit true f x) => some (.next, σ)
  | some (.fit false f x) => if f = fa /\ x = L then (match yA h [.ref L] σ with
   | some (.str c, σ1) => if c = [] then (match σ1[k]? with
     | some (.fit false f' x') => some (.next, σ1.set k (.fit true f' x'))
     | _ => none)
    else (match p.set fi (.imm (.str c)) σ1 with
     | some σ₂ => (match b σ₂ with
      | some (.next, σ3) => cFitL fi k p L fa h b n σ3
      | some (.cont, σ3) => cFitL fi k p L fa h b n σ3
      | some (.brk, σ3) => some (.next, σ3)
      | some (.ret q, σ3) => some (.ret q, σ3)
      | none => none)
     | none => none)
   | _ => none) else none
  | _ => none
noncomputable def cForFit (fi k : Nat) (p : Pl) (L fa : Addr) (h : List PV -> List zA -> Option (PV × List zA)) (g : CC AV) (b : CC Fl) (n : Nat) : CC Fl := fun σ => match g σ with
 | some (.obj j, σ1) => if j = k /\ 4 <= k then (match σ1[k]? with | some (.fit _ _ _) => cFitL fi k p L fa h b n σ1 | _ => none) else none
 | _ => none
theorem Sx.ofNoOwn {F P : PH} {ρ : Nat -> Addr} {s : Shared} {F' : PH} {ρ' : Nat -> Addr} {σ' : List zA} {s' : Shared} (x : Sx C (noOwn X) F P ρ s F' ρ' σ' s') : Sx C X F P ρ s F' ρ' σ' s' :=
 ⟨x.inv, x.pu, fun i _ _ => x.rho i List.not_mem_nil List.not_mem_nil⟩
theorem st_forFit {x : Str} {px pos : Pos} {iter : Expr} {body : List Stmt} {g : CC AV} {b : CC Fl} {p : Pl} {k n : Nat} {Z : LX} {fa : Addr} {h : List PV -> List zA -> Option (PV × List zA)} (M : MethC C Z "_read_char" fa) (hX : LexX X Z) (hp : plChk X x p = true)
  (S : OpSc C Z (X.n + 1) fa h) (hi : EvOK C X iter g) (hb : zi C (noOwn X) body b) (hs : ∀ env v, foldedSetIterable iter env v = pure v) :
  StOK C X (.For (.Name x px) iter body [] pos) (cForFit X.fi k p Z.L fa h g b n) := by
 intro A env F P ρ σ s v σ' hA E I hf
 have hp := zg hp
 have hX' : LexX (noOwn X) Z := ⟨hX.names, hX.pins⟩
 have hp' : PlOK (noOwn X) x p := by cases p <;> exact hp
 unfold cForFit at hf
 refine nG fun ng => ?_
 refine ivO hf ?_; clear hf; intro j σ1 e1 hf
 refine i1 hf ?_; clear hf; intro hjk hf
 obtain ⟨rfl, hj4⟩ := hjk
 split at hf
 ·rename_i e0 f0 x0 ek
  refine ng ?_
  clear ng
  refine wpAny_For (wpAny_mono (hi A env F P ρ σ s _ σ1 hA E I e1) (fun V s₁ zq => ?_) fun _ _ x => x) (hs env)
  refine nG fun ng => ?_
  obtain ⟨F1, ρ1, n₁, r₁⟩ := zq
  have hV : V = .ref (ρ1 j) := r₁
  subst hV
  obtain ⟨V0, W0, hob, _⟩ := n₁.inv.ob _ _ ek
  refine ng ?_
  clear ng
  refine iter_cit (V := V0) (W := W0) (e := e0) hob ?_
  refine codeAny_mono (codeAny_forLoop (R := fun r s' => match r with | .ok fl => PoF C X F P ρ s σ' v fl s' | .error _ => False)
   (LoopJ C (noOwn X) F1 P ρ1 s₁ (cFitL X.fi j p Z.L fa h b) (v, σ')) (fun m s₃ hI => ?_) n ⟨F1, ρ1, σ1, .refl n₁.inv, hf⟩) (fun r s' h => by cases r with | ok fl => exact h | error e => exact h.elim)
  refine wpQ fun Q Ex hQ _ => ?_
  refine nG fun ng => ?_
  obtain ⟨F3, ρ3, σ3, n₃, hw⟩ := hI
  have hρj : ρ3 j = ρ1 j := n₃.rho j List.not_mem_nil List.not_mem_nil
  have fin : ∀ {F6 ρ6 σ6 s₆}, Sx C (noOwn X) F1 P ρ1 s₁ F6 ρ6 σ6 s₆ -> Sx C X F P ρ s F6 ρ6 σ6 s₆ := fun n₆ => n₁.sx.trans n₆.ofNoOwn
  refine ng ?_
  clear ng
  cases m with
  | zero => cases hw
  | succ m =>
   dsimp only [cFitL] at hw
   refine nG fun ng => ?_
   split at hw
   ·rename_i f x e4
    cases hw
    obtain ⟨V, W, ho, _⟩ := n₃.inv.ob _ _ e4
    rw [hρj] at ho
    refine ng ?_
    clear ng
    refine cit_done hA.handled ho fun h' k => ?_
    refine hQ _ _ ?_
    exact wpAny_execs_nil ⟨F3, ρ3, fin (n₃.trans ⟨n₃.inv.kept k, ⟨.ofh, .refl _, fun _ _ => rfl⟩, fun _ _ _ => rfl⟩), rfl⟩
   ·rename_i f x e4
    split at hw
    ·rename_i hfx
     obtain ⟨e0', rfl⟩ := hfx
     have e0' := e0'.symm
     subst e0'
     split at hw
     ·rename_i c σ4 e5
      obtain ⟨V, W, ho, hfx⟩ := n₃.inv.ob _ _ e4
      obtain ⟨bm, tk, rfl, rfl, hFb⟩ := hfx rfl
      have hPP := n₃.inv.top.trans n₃.inv.p
      obtain ⟨of, fd, hof, hoc, hod⟩ := M.ob
      have hEn : zZ (noOwn X) ρ3 env := n₃.env (env_noOwn (n₁.env E))
      have part : ∀ a o, s₃.heap.get? a = some o -> (∀ i, i < 4 -> ∀ y, σ3[i]? = some y -> y.live = true -> ρ3 i ≠ a) -> partP ρ3 σ3 s₃.heap a = some o := fun a o ha hne => by
       unfold partP
       rw [if_neg]
       ·exact ha
       ·intro q
        obtain ⟨i, y, hi', hy, ly, hr⟩ := giv_iff.mp q
        exact hne i hi' y hy ly hr
      have p1 := part _ _ ho fun i hi' y hy ly q => by
       have := n₃.inv.inj _ _ _ _ hy e4 ly rfl q
       omega
      have p2 := part _ _ (n₃.inv.f _ _ hFb) fun i hi' y hy ly q => by
       have := (n₃.inv.fr i y hy ly).1
       rw [q, hFb] at this; cases this
      have p3 := part _ _ (hPP _ _ hof) fun i hi' y hy ly q => by
       have := (n₃.inv.fr i y hy ly).2
       rw [q, n₃.inv.top _ _ hof] at this; cases this
      refine ng ?_
      clear ng
      rw [<- hρj]
      refine cit_next hA.handled ho (n₃.inv.f _ _ hFb) (hPP _ _ hof) hod ?_
      refine codeAny_mono (lex_runC S hX' hA.in1 hEn n₃.inv (.cons (.ref Z.L) .nil) e5) fun r s₄ hr => ?_
      refine nG fun ng => ?_
      obtain ⟨V, rfl, F4, n₄, r₄, keep⟩ := hr
      have n34 := n₃.trans n₄.sx
      refine ng ?_
      clear ng
      cases r₄ with
      | str c t =>
      refine ⟨_, _, t, rfl, keep _ _ p1, keep _ _ p2, keep _ _ p3, rfl, fun hc => ?_, fun hc h' hit' hk => ?_⟩
      ·have hc' : c ≠ [] := fun q => hc (by subst q; rfl)
       rw [if_neg hc'] at hw
       refine nG fun ng => ?_
       split at hw
       ·rename_i σ5 e6
        refine ng ?_
        clear ng
        refine hQ _ _ ?_
        refine wpAny_mono (bind_ok (X := noOwn X) (v := .imm (.str c)) hp' (n34.env (env_noOwn (n₁.env E))) n34.inv (.str c t) e6) (fun _ s₅ n₅ => ?_) fun _ _ x => x.elim
        refine wpQ fun Q2 Ex2 hQ2 _ => ?_
        have n5' := n34.trans n₅
        refine body_ok hb hA (n5'.env (env_noOwn (n₁.env E))) n₅.inv hw (fun F6 ρ6 σ6 s₆ n₆ k => ?_) (fun F6 ρ6 s₆ n₆ q => ?_) (fun V F6 ρ6 s₆ n₆ q => ?_)
        ·exact ⟨hQ2 _ _ ⟨m, Nat.lt_succ_self m, F6, ρ6, σ6, n5'.trans n₆, k⟩, hQ2 _ _ ⟨m, Nat.lt_succ_self m, F6, ρ6, σ6, n5'.trans n₆, k⟩⟩
        ·subst q; exact hQ2 _ _ ⟨F6, ρ6, fin (n5'.trans n₆), rfl⟩
        ·exact hQ2 _ _ ⟨F6, ρ6, fin (n5'.trans n₆), q⟩
       ·cases hw
      ·have hc' : c = [] := by
        have := congrArg Str.cps hc
        simpa using this
       rw [if_pos hc'] at hw
       refine nG fun ng => ?_
       split at hw
       ·rename_i f' x' e6
        cases hw
        have n₅ : Sx C (noOwn X) F4 P ρ3 s₄ F4 ρ3 (σ4.set j (.fit true f' x')) { s₄ with heap := h' } :=
         ⟨n34.inv.mutK e6 rfl (fun a o hne ho => hk a o hne ho) ⟨.none, .none, hit', fun q => by cases q⟩, ⟨.ofh, .refl _, fun _ _ => rfl⟩, fun _ _ _ => rfl⟩
        refine ng ?_
        clear ng
        refine hQ _ _ ?_
        exact wpAny_execs_nil ⟨_, _, fin (n34.trans n₅), rfl⟩
       ·cases hw
     ·cases hw
    ·cases hw
   ·cases hw
 ·cases hf
end
section
set_option maxHeartbeats 0
variable {C : Cx} {X : zj}
noncomputable def getSt : Stmt := fdIn (zD 12) 2
noncomputable abbrev X_get (Z : LX) (n : Nat) : zj :=
 { n := n + 1, fi := 4, N := fun | 0 => ["lineno", "instream", "whitespace", "pushback", "read"] | 4 => ["self", "token", "fiter", "ch"] | _ => [], cells := [], scope := zQ getSt, tmp := [], own := [5], pins := Z.pins }
noncomputable abbrev t_eq (c : Nat) : CC Bool := zP (zM hEq (zE (zC 4 3)) (zX (cQ (.str [c]))))
noncomputable abbrev t_ws (Z : LX) : CC Bool := zP (zM hIn (zE (zC 4 3)) (cAttr Z.L 0 2 (zC 4 0)))
noncomputable abbrev f_rd (Z : LX) (feed : Addr) : CC Fl := zl 4 (.loc 3) (cLexM Z.L (h_rc Z feed) (zC 4 0) zG)
noncomputable abbrev f_esc (Z : LX) (feed : Addr) : CC Fl := cIf (t_eq 92) (zJ (f_rd Z feed) (zL .next)) (zL .next)
noncomputable abbrev f_aug : CC Fl := cAugS 4 1 (zE (zC 4 3))
noncomputable abbrev f_rt : CC Fl := cRet (zE (zC 4 1))
noncomputable abbrev b_get_3 (Z : LX) (feed : Addr) : CC Fl := zJ (cIf (t_ws Z) (zJ f_rt (zL .next)) (zJ (f_esc Z feed) (zL .next))) (zJ f_aug (zL .next))
noncomputable abbrev b_get_2 (Z : LX) (feed : Addr) : CC Fl := zJ (cIf (t_eq 34) (zJ f_rt (zL .next)) (zJ (f_esc Z feed) (zL .next))) (zJ f_aug (zL .next))
noncomputable abbrev b_get_1 (Z : LX) (feed fa : Addr) (fu : Nat) : CC Fl := zJ (cIf (t_ws Z) (zJ (zL .cont) (zL .next)) (zL .next))
 (zJ (cIf (t_eq 34) (zJ (cForFit 4 5 (.loc 3) Z.L fa (h_rc Z feed) (zC 4 2) (b_get_2 Z feed) fu) (zL .next))
  (zJ (f_esc Z feed) (zJ f_aug (zJ (cForFit 4 5 (.loc 3) Z.L fa (h_rc Z feed) (zC 4 2) (b_get_3 Z feed) fu) (zL .next))))) (zL .next))
noncomputable abbrev f_get (Z : LX) (feed fa : Addr) (fu : Nat) : CC Fl := zJ (cIf (cTruth (cPin Z.B 1 (cAttr Z.L 0 3 (zC 4 0)))) (zJ (cRet (cPop0 (cPin Z.B 1 (cAttr Z.L 0 3 (zC 4 0))))) (zL .next)) (zL .next))
 (zJ (zl 4 (.loc 1) (cQ (.str []))) (zJ (cIter 4 5 (.loc 2) Z.L fa (zC 4 0)) (zJ (cForFit 4 5 (.loc 3) Z.L fa (h_rc Z feed) (zC 4 2) (b_get_1 Z feed fa fu) fu) (zJ f_rt (zL .next)))))
theorem ok_get {Z : LX} {feed fa : Addr} {n fu : Nat} (hn : n <= 30) (G : GlB C) (K : LexK C Z) (M : MethC C Z "_read_char" fa) (S : OpSc C Z (n + 2) fa (h_rc Z feed)) : zi C (X_get Z n) (zN getSt) (f_get Z feed fa fu) := by
 change zi C _ (List.cons _ _) _
 have hp0 : (0, Z.D) ∈ (X_get Z n).pins := by simp [LX.pins]
 have hp1 : (1, Z.B) ∈ (X_get Z n).pins := by simp [LX.pins]
 have hX : LexX (X_get Z n) Z := lexX_of (nl4 rfl rfl rfl rfl) rfl
 have hX' : LexX (noOwn (X_get Z n)) Z := ⟨hX.names, hX.pins⟩
 have hu : (X_get Z n).n <= 40 := by show n + 1 <= 40; omega
 have hu' : (noOwn (X_get Z n)).n <= 40 := by show n + 1 <= 40; omega
 have hS : OpS C Z (noOwn (X_get Z n)).n (fun vs => call (.ref fa) vs) (h_rc Z feed) := S.op.mono (by show n + 1 <= n + 2; omega)
 refine zT (st_if (ts_val (ev_pin hp1 (ev_attr K.lex hp0 (by kernel_rfl) (K.at' _ (by decide +kernel)) tl_pushback (z8 (X := X_get Z n) (by kernel_rfl) (by kernel_rfl)))) (by intro _ _; with_unfolding_all rfl))
  (zT (st_ret (evp_pop0 rfl (by kernel_rfl) (ev_pin hp1 (ev_attr K.lex hp0 (by kernel_rfl) (K.at' _ (by decide +kernel)) tl_pushback (z8 (X := X_get Z n) (by kernel_rfl) (by kernel_rfl)))))) zd) zd) ?_
 refine zT (st_asgA (X := X_get Z n) (evp_str (by kernel_rfl)) (by kernel_rfl) (by kernel_rfl)) ?_
 refine zT (st_iter (X := X_get Z n) M hX (G.no _ (by kernel_rfl)) (by kernel_rfl) (by kernel_rfl) (by kernel_rfl) (z8 (X := X_get Z n) (by kernel_rfl) (by kernel_rfl))) ?_
 have ech : ∀ {pos : Pos}, EvP C (noOwn (X_get Z n)) (.Name "ch" pos) (zE (zC 4 3)) := evp (z8 (X := noOwn (X_get Z n)) (by kernel_rfl) (by kernel_rfl))
 have etk : ∀ {pos : Pos}, EvP C (noOwn (X_get Z n)) (.Name "token" pos) (zE (zC 4 1)) := evp (z8 (X := noOwn (X_get Z n)) (by kernel_rfl) (by kernel_rfl))
 have eit : ∀ {pos : Pos}, EvOK C (noOwn (X_get Z n)) (.Name "fiter" pos) (zC 4 2) := z8 (X := noOwn (X_get Z n)) (by kernel_rfl) (by kernel_rfl)
 have esf : ∀ {pos : Pos}, EvOK C (noOwn (X_get Z n)) (.Name "self" pos) (zC 4 0) := z8 (X := noOwn (X_get Z n)) (by kernel_rfl) (by kernel_rfl)
 have eeq : ∀ {c : Nat} {x : Str} {k : Nat} {p1 p2 p3 : Pos}, x = ⟨[c].toArray⟩ -> TsOK C (noOwn (X_get Z n)) (.Compare (.Name "ch" p1) [.Eq] [.Constant (.str x) k p2] p3) (t_eq c) := fun hx => ts_cmp (op_eq hu') ech (yC (evp_str hx)) (by with_unfolding_all rfl)
 have ews : ∀ {p1 p2 p3 p4 : Pos}, TsOK C (noOwn (X_get Z n)) (.Compare (.Name "ch" p1) [.In] [.Attribute (.Name "self" p2) "whitespace" p3] p4) (t_ws Z) := ts_cmp op_in ech (ev_attr K.lex hp0 (by kernel_rfl) (K.at' _ (by decide +kernel)) tl_whitespace esf) (by with_unfolding_all rfl)
 have eaug : ∀ {p1 p2 p3 : Pos}, StOK C (noOwn (X_get Z n)) (.AugAssign (.Name "token" p1) .Add (.Name "ch" p2) p3) f_aug := st_augs (X := noOwn (X_get Z n)) (by kernel_rfl) ech
 refine zT (st_forFit (X := X_get Z n) M hX (by kernel_rfl) S (z8 (X := X_get Z n) (by kernel_rfl) (by kernel_rfl)) ?_ (by intro _ _; with_unfolding_all rfl)) (zT (st_ret (evp (z8 (X := X_get Z n) (by kernel_rfl) (by kernel_rfl)))) zd)
 have erd : ∀ {p1 p2 p3 p4 p5 : Pos}, (p3.endLine == p4.line) = true -> StOK C (noOwn (X_get Z n)) (.Assign [.Name "ch" p1] (.Call (.Attribute (.Name "self" p2) "_read_char" p3) [] [] p4) p5) (f_rd Z feed) := fun hl => st_asgA (X := noOwn (X_get Z n)) (evp_lexM0 M hS hX' rfl hl esf) (by kernel_rfl) (by kernel_rfl)
 refine zT (st_if ews (zT st_cont zd) zd) (zT (st_if (eeq (by kernel_rfl)) (zT ?_ zd) (zT (st_if (eeq (by kernel_rfl)) (zT (erd (by kernel_rfl)) zd) zd) (zT eaug (zT ?_ zd)))) zd)
 ·refine st_forFit (X := noOwn (X_get Z n)) M hX' (by kernel_rfl) S eit ?_ (by intro _ _; with_unfolding_all rfl)
  exact zT (st_if (eeq (by kernel_rfl)) (zT (st_ret etk) zd) (zT (st_if (eeq (by kernel_rfl)) (zT (erd (by kernel_rfl)) zd) zd) zd)) (zT eaug zd)
 ·refine st_forFit (X := noOwn (X_get Z n)) M hX' (by kernel_rfl) S eit ?_ (by intro _ _; with_unfolding_all rfl)
  exact zT (st_if ews (zT (st_ret etk) zd) (zT (st_if (eeq (by kernel_rfl)) (zT (erd (by kernel_rfl)) zd) zd) zd)) (zT eaug zd)
end
section
variable {C : Cx} {X : zj}
noncomputable def wsS : List Nat := [10, 9, 13, 32]
noncomputable def tokQ : List Nat -> List Nat -> Int -> List Nat × Int × List Nat × Bool
 | [], t, n => (t, n, [], false)
 | c :: ss, t, n => if c = 34 then (t, n, ss, true) else if c = 92 then (match ss with | [] => (t, n, [], false) | d :: ss' => tokQ ss' (t ++ [d]) (nl d n)) else tokQ ss (t ++ [c]) (nl c n)
noncomputable def tokU : List Nat -> List Nat -> Int -> List Nat × Int × List Nat × Bool
 | [], t, n => (t, n, [], false)
 | c :: ss, t, n => if c ∈ wsS then (t, nl c n, ss, true) else if c = 92 then (match ss with | [] => (t, n, [], false) | d :: ss' => tokU ss' (t ++ [d]) (nl d n)) else tokU ss (t ++ [c]) n
noncomputable def z7 : List Nat -> Int -> List Nat × Int × List Nat × Bool
 | [], n => ([], n, [], false)
 | c :: ss, n => if c ∈ wsS then z7 ss (nl c n) else if c = 34 then tokQ ss [] n else if c = 92 then (match ss with | [] => ([], n, [], false) | d :: ss' => tokU ss' [d] (nl d n)) else tokU ss [c] n
noncomputable abbrev GS (Z : LX) (feed fa : Addr) (n : Int) (ss : List Nat) (t : List Nat) (e : Bool) (ch : Option AV) : List zA :=
 LS Z feed n [] ss ++ [.frame [some (.imm (.ref Z.L)), some (.imm (.str t)), some (.obj 5), ch], .fit e fa Z.L]
theorem rc_run {Z : LX} {feed : Addr} {n : Int} {bs : List PV} {ss : List Nat} {rest : List zA} (h : ss.all (· < 1114112) = true) :
  yA (h_rc Z feed) [.ref Z.L] (LS Z feed n bs ss ++ rest) = (match ss with | [] => some (.str [], LS Z feed n bs [] ++ rest) | c :: ss => some (.str [c], LS Z feed (nl c n) bs ss ++ rest)) := by
 cases ss with
 | nil => exact lexRun_LS (by show (if Z.L = Z.L then _ else _) = _; rw [if_pos rfl]) h
 | cons c ss => exact lexRun_LS (by show (if Z.L = Z.L then _ else _) = _; rw [if_pos rfl]) h
theorem fit_done {Z : LX} {feed fa : Addr} {b : CC Fl} {m : Nat} {n : Int} {ss t : List Nat} {ch : Option AV} : cFitL 4 5 (.loc 3) Z.L fa (h_rc Z feed) b (m + 1) (GS Z feed fa n ss t true ch) = some (.next, GS Z feed fa n ss t true ch) := rfl
theorem fit_nil {Z : LX} {feed fa : Addr} {b : CC Fl} {m : Nat} {n : Int} {t : List Nat} {ch : Option AV} : cFitL 4 5 (.loc 3) Z.L fa (h_rc Z feed) b (m + 1) (GS Z feed fa n [] t false ch) = some (.next, GS Z feed fa n [] t true ch) := by
 have e := rc_run (Z := Z) (feed := feed) (n := n) (bs := []) (ss := []) (rest := [.frame [some (.imm (.ref Z.L)), some (.imm (.str t)), some (.obj 5), ch], .fit false fa Z.L]) rfl
 dsimp only [cFitL]
 show (if fa = fa /\ Z.L = Z.L then _ else none) = _
 rw [if_pos ⟨rfl, rfl⟩, e]
 rfl
theorem fit_cons {Z : LX} {feed fa : Addr} {b : CC Fl} {m : Nat} {n : Int} {c : Nat} {ss t : List Nat} {ch : Option AV} (h : (c :: ss).all (· < 1114112) = true) :
  cFitL 4 5 (.loc 3) Z.L fa (h_rc Z feed) b (m + 1) (GS Z feed fa n (c :: ss) t false ch) = (match b (GS Z feed fa (nl c n) ss t false (some (.imm (.str [c])))) with
   | some (.next, σ3) => cFitL 4 5 (.loc 3) Z.L fa (h_rc Z feed) b m σ3
   | some (.cont, σ3) => cFitL 4 5 (.loc 3) Z.L fa (h_rc Z feed) b m σ3
   | some (.brk, σ3) => some (.next, σ3)
   | some (.ret q, σ3) => some (.ret q, σ3)
   | none => none) := by
 have e := rc_run (Z := Z) (feed := feed) (n := n) (bs := []) (rest := [.frame [some (.imm (.ref Z.L)), some (.imm (.str t)), some (.obj 5), ch], .fit false fa Z.L]) h
 rw [cFitL.eq_def]
 show (if fa = fa /\ Z.L = Z.L then _ else none) = _
 rw [if_pos ⟨rfl, rfl⟩, e]
 rfl
section
variable {Z : LX} {feed fa : Addr} {n : Int} {ss t : List Nat} {e : Bool} {c d : Nat} {ch : Option AV}
theorem one_ok (h : c < 1114112) : [c].all (· < 1114112) = true := by simp [h]
theorem ev_teq (k : Nat) (h : c < 1114112) (hk : k < 1114112) : t_eq k (GS Z feed fa n ss t e (some (.imm (.str [c])))) = some (c == k, GS Z feed fa n ss t e (some (.imm (.str [c])))) := by
 refine z1 (zY (a := .str [c]) rfl rfl rfl (by rw [eq_str (one_ok h) (one_ok hk)]) rfl) |>.trans ?_
 simp
theorem ev_tws : t_ws Z (GS Z feed fa n ss t e (some (.imm (.str [c])))) = some (decide (c ∈ wsS), GS Z feed fa n ss t e (some (.imm (.str [c])))) := by
 have e1 : cAttr Z.L 0 2 (zC 4 0) (GS Z feed fa n ss t e (some (.imm (.str [c])))) = some (.imm (.str [10, 9, 13, 32]), GS Z feed fa n ss t e (some (.imm (.str [c])))) := by
  show (if Z.L = Z.L then _ else none) = _
  rw [if_pos rfl]
 exact z1 (zY (a := .str [c]) rfl e1 rfl rfl rfl)
theorem ev_aug {v : List Nat} (hl : t.length + v.length <= 16777216) : f_aug (GS Z feed fa n ss t e (some (.imm (.str v)))) = some (.next, GS Z feed fa n ss (t ++ v) e (some (.imm (.str v)))) := by
 show (if t.length + v.length <= 16777216 then _ else none) = _
 rw [if_pos hl]; rfl
theorem ev_rt : f_rt (GS Z feed fa n ss t e ch) = some (.ret (.str t), GS Z feed fa n ss t e ch) := rfl
theorem ev_rd (h : ss.all (· < 1114112) = true) : f_rd Z feed (GS Z feed fa n ss t e ch) = (match ss with
  | [] => some (.next, GS Z feed fa n [] t e (some (.imm (.str []))))
  | d :: ss' => some (.next, GS Z feed fa (nl d n) ss' t e (some (.imm (.str [d]))))) := by
 have e1 := rc_run (Z := Z) (feed := feed) (n := n) (bs := []) (rest := [.frame [some (.imm (.ref Z.L)), some (.imm (.str t)), some (.obj 5), ch], .fit e fa Z.L]) h
 have e2 : cLexM Z.L (h_rc Z feed) (zC 4 0) zG (GS Z feed fa n ss t e ch) = yA (h_rc Z feed) [.ref Z.L] (GS Z feed fa n ss t e ch) := by
  show (if Z.L = Z.L /\ true = true then _ else none) = _
  rw [if_pos ⟨rfl, rfl⟩]
 cases ss with
 | nil => exact zp (e2.trans e1) rfl
 | cons d ss' => exact zp (e2.trans e1) rfl
theorem ev_esc (hc : c < 1114112) (h : ss.all (· < 1114112) = true) : f_esc Z feed (GS Z feed fa n ss t e (some (.imm (.str [c])))) = (if c = 92 then (match ss with
  | [] => some (.next, GS Z feed fa n [] t e (some (.imm (.str []))))
  | d :: ss' => some (.next, GS Z feed fa (nl d n) ss' t e (some (.imm (.str [d])))))
  else some (.next, GS Z feed fa n ss t e (some (.imm (.str [c]))))) := by
 by_cases h92 : c = 92
 ·rw [if_pos h92]
  have ht := ev_teq (Z := Z) (feed := feed) (fa := fa) (n := n) (ss := ss) (t := t) (e := e) 92 hc (by decide)
  rw [show (c == 92) = true by simpa using h92] at ht
  refine e_ifT ht ?_
  have := ev_rd (Z := Z) (feed := feed) (fa := fa) (n := n) (t := t) (e := e) (ch := some (.imm (.str [c]))) h
  cases ss with
  | nil => exact zF this rfl
  | cons d ss' => exact zF this rfl
 ·rw [if_neg h92]
  have ht := ev_teq (Z := Z) (feed := feed) (fa := fa) (n := n) (ss := ss) (t := t) (e := e) 92 hc (by decide)
  rw [show (c == 92) = false by simpa using h92] at ht
  exact zv ht rfl
end
theorem e_seqC {f g : CC Fl} {σ σ1 : List zA} (h : f σ = some (.cont, σ1)) : zJ f g σ = some (.cont, σ1) := by unfold zJ; rw [h]
noncomputable def endFl (r : List Nat × Int × List Nat × Bool) : Fl := if r.2.2.2 then .ret (.str r.1) else .next
theorem nl_of {c : Nat} {n : Int} (h : c ≠ 10) : nl c n = n := if_neg h
theorem all_tail {c : Nat} {ss : List Nat} (h : (c :: ss).all (· < 1114112) = true) : c < 1114112 /\ ss.all (· < 1114112) = true := by
 simp only [List.all_cons, Bool.and_eq_true] at h
 exact ⟨of_decide_eq_true h.1, h.2⟩
section
variable {Z : LX} {feed fa : Addr}
theorem b2_turn {n : Int} {ss t : List Nat} {c : Nat} (hc : c < 1114112) (h : ss.all (· < 1114112) = true) (hl : t.length + 1 <= 16777216) : b_get_2 Z feed (GS Z feed fa n ss t false (some (.imm (.str [c])))) =
  (if c = 34 then some (.ret (.str t), GS Z feed fa n ss t false (some (.imm (.str [c])))) else if c = 92 then (match ss with
   | [] => some (.next, GS Z feed fa n [] t false (some (.imm (.str []))))
   | d :: ss' => some (.next, GS Z feed fa (nl d n) ss' (t ++ [d]) false (some (.imm (.str [d])))))
  else some (.next, GS Z feed fa n ss (t ++ [c]) false (some (.imm (.str [c]))))) := by
 have ht := ev_teq (Z := Z) (feed := feed) (fa := fa) (n := n) (ss := ss) (t := t) (e := false) 34 hc (by decide)
 have he := ev_esc (Z := Z) (feed := feed) (fa := fa) (n := n) (ss := ss) (t := t) (e := false) hc h
 by_cases h1 : c = 34
 ·rw [if_pos h1]
  rw [show (c == 34) = true by simpa using h1] at ht
  exact z6 (e_ifT ht (z6 ev_rt))
 ·rw [if_neg h1]
  rw [show (c == 34) = false by simpa using h1] at ht
  by_cases h2 : c = 92
  ·rw [if_pos h2] at he ⊢
   cases ss with
   | nil =>
    refine zF (zv ht (zF he rfl)) (zF (ev_aug (by simp; omega)) ?_)
    rw [List.append_nil]; rfl
   | cons d ss' => exact zF (zv ht (zF he rfl)) (zF (ev_aug (by simpa using hl)) rfl)
  ·rw [if_neg h2] at he ⊢
   exact zF (zv ht (zF he rfl)) (zF (ev_aug (by simpa using hl)) rfl)
theorem b3_turn {n : Int} {ss t : List Nat} {c : Nat} (hc : c < 1114112) (h : ss.all (· < 1114112) = true) (hl : t.length + 1 <= 16777216) : b_get_3 Z feed (GS Z feed fa n ss t false (some (.imm (.str [c])))) =
  (if c ∈ wsS then some (.ret (.str t), GS Z feed fa n ss t false (some (.imm (.str [c])))) else if c = 92 then (match ss with
   | [] => some (.next, GS Z feed fa n [] t false (some (.imm (.str []))))
   | d :: ss' => some (.next, GS Z feed fa (nl d n) ss' (t ++ [d]) false (some (.imm (.str [d])))))
  else some (.next, GS Z feed fa n ss (t ++ [c]) false (some (.imm (.str [c]))))) := by
 have ht := ev_tws (Z := Z) (feed := feed) (fa := fa) (n := n) (ss := ss) (t := t) (e := false) (c := c)
 have he := ev_esc (Z := Z) (feed := feed) (fa := fa) (n := n) (ss := ss) (t := t) (e := false) hc h
 by_cases h1 : c ∈ wsS
 ·rw [if_pos h1]
  rw [decide_eq_true h1] at ht
  exact z6 (e_ifT ht (z6 ev_rt))
 ·rw [if_neg h1]
  rw [decide_eq_false h1] at ht
  by_cases h2 : c = 92
  ·rw [if_pos h2] at he ⊢
   cases ss with
   | nil =>
    refine zF (zv ht (zF he rfl)) (zF (ev_aug (by simp; omega)) ?_)
    rw [List.append_nil]; rfl
   | cons d ss' => exact zF (zv ht (zF he rfl)) (zF (ev_aug (by simpa using hl)) rfl)
  ·rw [if_neg h2] at he ⊢
   exact zF (zv ht (zF he rfl)) (zF (ev_aug (by simpa using hl)) rfl)
theorem q_loop : ∀ (m : Nat) (ss t : List Nat) (n : Int) (ch : Option AV), ss.all (· < 1114112) = true -> ss.length < m -> t.length + ss.length <= 16777000 ->
  ∃ ch', cFitL 4 5 (.loc 3) Z.L fa (h_rc Z feed) (b_get_2 Z feed) m (GS Z feed fa n ss t false ch) = some (endFl (tokQ ss t n), GS Z feed fa (tokQ ss t n).2.1 (tokQ ss t n).2.2.1 (tokQ ss t n).1 (!(tokQ ss t n).2.2.2) ch')
 | 0, ss, t, n, ch, _, h, _ => absurd h (Nat.not_lt_zero _)
 | m + 1, [], t, n, ch, _, _, _ => ⟨ch, fit_nil⟩
 | m + 1, c :: ss, t, n, ch, h, hm, hl => by
  obtain ⟨hc, hs⟩ := all_tail h
  simp only [List.length_cons] at hm hl
  rw [fit_cons h, b2_turn hc hs (by omega)]
  unfold tokQ
  by_cases h1 : c = 34
  ·subst h1
   exact ⟨_, rfl⟩
  ·rw [if_neg h1, if_neg h1]
   by_cases h2 : c = 92
   ·subst h2
    rw [if_pos rfl, if_pos rfl]
    cases ss with
    | nil =>
     dsimp only
     cases m with
     | zero => simp at hm
     | succ m => exact ⟨_, fit_nil⟩
    | cons d ss' =>
     obtain ⟨hd, hs'⟩ := all_tail hs
     simp only [List.length_cons] at hm hl
     exact q_loop m ss' (t ++ [d]) _ _ hs' (by omega) (by simp; omega)
   ·rw [if_neg h2, if_neg h2]
    exact q_loop m ss (t ++ [c]) _ _ hs (by omega) (by simp; omega)
theorem u_loop : ∀ (m : Nat) (ss t : List Nat) (n : Int) (ch : Option AV), ss.all (· < 1114112) = true -> ss.length < m -> t.length + ss.length <= 16777000 ->
  ∃ ch', cFitL 4 5 (.loc 3) Z.L fa (h_rc Z feed) (b_get_3 Z feed) m (GS Z feed fa n ss t false ch) = some (endFl (tokU ss t n), GS Z feed fa (tokU ss t n).2.1 (tokU ss t n).2.2.1 (tokU ss t n).1 (!(tokU ss t n).2.2.2) ch')
 | 0, ss, t, n, ch, _, h, _ => absurd h (Nat.not_lt_zero _)
 | m + 1, [], t, n, ch, _, _, _ => ⟨ch, fit_nil⟩
 | m + 1, c :: ss, t, n, ch, h, hm, hl => by
  obtain ⟨hc, hs⟩ := all_tail h
  simp only [List.length_cons] at hm hl
  rw [fit_cons h, b3_turn hc hs (by omega)]
  unfold tokU
  by_cases h1 : c ∈ wsS
  ·rw [if_pos h1, if_pos h1]
   exact ⟨_, rfl⟩
  ·rw [if_neg h1, if_neg h1]
   have hn : nl c n = n := nl_of fun q => h1 (by rw [q]; decide)
   rw [hn]
   by_cases h2 : c = 92
   ·subst h2
    rw [if_pos rfl, if_pos rfl]
    cases ss with
    | nil =>
     dsimp only
     cases m with
     | zero => simp at hm
     | succ m => exact ⟨_, fit_nil⟩
    | cons d ss' =>
     obtain ⟨hd, hs'⟩ := all_tail hs
     simp only [List.length_cons] at hm hl
     exact u_loop m ss' (t ++ [d]) _ _ hs' (by omega) (by simp; omega)
   ·rw [if_neg h2, if_neg h2]
    exact u_loop m ss (t ++ [c]) _ _ hs (by omega) (by simp; omega)
theorem o_loop {fu : Nat} : ∀ (m : Nat) (ss : List Nat) (n : Int) (ch : Option AV), ss.all (· < 1114112) = true -> ss.length + 1 < m -> ss.length < fu -> ss.length <= 16777000 ->
  ∃ ch', cFitL 4 5 (.loc 3) Z.L fa (h_rc Z feed) (b_get_1 Z feed fa fu) m (GS Z feed fa n ss [] false ch) = some (endFl (z7 ss n), GS Z feed fa (z7 ss n).2.1 (z7 ss n).2.2.1 (z7 ss n).1 (!(z7 ss n).2.2.2) ch')
 | 0, ss, n, ch, _, h, _, _ => absurd h (Nat.not_lt_zero _)
 | m + 1, [], n, ch, _, _, _, _ => ⟨ch, fit_nil⟩
 | m + 1, c :: ss, n, ch, h, hm, hf, hl => by
  obtain ⟨hc, hs⟩ := all_tail h
  simp only [List.length_cons] at hm hl hf
  rw [fit_cons h]
  have tw := ev_tws (Z := Z) (feed := feed) (fa := fa) (n := nl c n) (ss := ss) (t := []) (e := false) (c := c)
  have tq := ev_teq (Z := Z) (feed := feed) (fa := fa) (n := nl c n) (ss := ss) (t := []) (e := false) 34 hc (by decide)
  have he := ev_esc (Z := Z) (feed := feed) (fa := fa) (n := nl c n) (ss := ss) (t := []) (e := false) hc hs
  unfold z7
  by_cases h1 : c ∈ wsS
  ·rw [if_pos h1]
   rw [decide_eq_true h1] at tw
   have hb : b_get_1 Z feed fa fu (GS Z feed fa (nl c n) ss [] false (some (.imm (.str [c])))) = some (.cont, GS Z feed fa (nl c n) ss [] false (some (.imm (.str [c])))) := by
    have e1 : cIf (t_ws Z) (zJ (zL .cont) (zL .next)) (zL .next) (GS Z feed fa (nl c n) ss [] false (some (.imm (.str [c])))) = some (.cont, GS Z feed fa (nl c n) ss [] false (some (.imm (.str [c])))) := e_ifT tw rfl
    exact e_seqC e1
   rw [hb]
   exact o_loop m ss _ _ hs (by omega) (by omega) (by omega)
  ·rw [if_neg h1]
   have hn : nl c n = n := nl_of fun q => h1 (by rw [q]; decide)
   rw [hn] at tw tq he ⊢
   rw [decide_eq_false h1] at tw
   -- an inner loop, then the rest of this turn and the outer loop's end
   have join : ∀ (bb : CC Fl) (n₀ : Int) (ss0 t₀ : List Nat) (c₀ : Option AV) (R : List Nat × Int × List Nat × Bool) (ch' : Option AV), cFitL 4 5 (.loc 3) Z.L fa (h_rc Z feed) bb fu (GS Z feed fa n₀ ss0 t₀ false c₀) = some (endFl R, GS Z feed fa R.2.1 R.2.2.1 R.1 (!R.2.2.2) ch') ->
     zJ (cForFit 4 5 (.loc 3) Z.L fa (h_rc Z feed) (zC 4 2) bb fu) (zL .next) (GS Z feed fa n₀ ss0 t₀ false c₀) = some (endFl R, GS Z feed fa R.2.1 R.2.2.1 R.1 (!R.2.2.2) ch') := fun bb n₀ ss0 t₀ c₀ R ch' e => by
    have e1 : cForFit 4 5 (.loc 3) Z.L fa (h_rc Z feed) (zC 4 2) bb fu (GS Z feed fa n₀ ss0 t₀ false c₀) = some (endFl R, GS Z feed fa R.2.1 R.2.2.1 R.1 (!R.2.2.2) ch') := by
     rw [<- e]; rfl
    unfold endFl at e1 ⊢
    cases hR : R.2.2.2 with
    | true => rw [hR] at e1; exact z6 e1
    | false => rw [hR] at e1; exact zF e1 rfl
   have out : ∀ (R : List Nat × Int × List Nat × Bool) (ch' : Option AV), (match (some (endFl R, GS Z feed fa R.2.1 R.2.2.1 R.1 (!R.2.2.2) ch') : Option (Fl × List zA)) with
     | some (.next, σ3) => cFitL 4 5 (.loc 3) Z.L fa (h_rc Z feed) (b_get_1 Z feed fa fu) m σ3
     | some (.cont, σ3) => cFitL 4 5 (.loc 3) Z.L fa (h_rc Z feed) (b_get_1 Z feed fa fu) m σ3
     | some (.brk, σ3) => some (.next, σ3)
     | some (.ret q, σ3) => some (.ret q, σ3)
     | none => none) = some (endFl R, GS Z feed fa R.2.1 R.2.2.1 R.1 (!R.2.2.2) ch') := fun R ch' => by
    unfold endFl
    cases hR : R.2.2.2 with
    | true => rfl
    | false =>
     cases m with
     | zero => omega
     | succ m => exact fit_done
   by_cases h2 : c = 34
   ·rw [if_pos h2]
    rw [show (c == 34) = true by simpa using h2] at tq
    obtain ⟨ch', e⟩ := q_loop (Z := Z) (feed := feed) (fa := fa) fu ss [] n (some (.imm (.str [c]))) hs (by omega) (by simpa using (by omega : ss.length <= 16777000))
    have hb : b_get_1 Z feed fa fu (GS Z feed fa n ss [] false (some (.imm (.str [c])))) = some (endFl (tokQ ss [] n), GS Z feed fa (tokQ ss [] n).2.1 (tokQ ss [] n).2.2.1 (tokQ ss [] n).1 (!(tokQ ss [] n).2.2.2) ch') := by
     refine zF (zv tw rfl) ?_
     have e2 := e_ifT (g := zJ (f_esc Z feed) (zJ f_aug (zJ (cForFit 4 5 (.loc 3) Z.L fa (h_rc Z feed) (zC 4 2) (b_get_3 Z feed) fu) (zL .next)))) tq (join _ _ _ _ _ _ _ e)
     unfold endFl at e2 ⊢
     cases hR : (tokQ ss [] n).2.2.2 with
     | true => rw [hR] at e2; exact z6 e2
     | false => rw [hR] at e2; exact zF e2 rfl
    rw [hb]
    exact ⟨ch', out _ _⟩
   ·rw [if_neg h2]
    rw [show (c == 34) = false by simpa using h2] at tq
    -- the first sign, escaped or not
    have go : ∀ (n₁ : Int) (ss1 v : List Nat), f_esc Z feed (GS Z feed fa n ss [] false (some (.imm (.str [c])))) = some (.next, GS Z feed fa n₁ ss1 [] false (some (.imm (.str v)))) -> ss1.all (· < 1114112) = true -> ss1.length < fu -> v.length + ss1.length <= 16777000 ->
      ∃ ch', b_get_1 Z feed fa fu (GS Z feed fa n ss [] false (some (.imm (.str [c])))) = some (endFl (tokU ss1 v n₁), GS Z feed fa (tokU ss1 v n₁).2.1 (tokU ss1 v n₁).2.2.1 (tokU ss1 v n₁).1 (!(tokU ss1 v n₁).2.2.2) ch') := fun n₁ ss1 v e0 h1 h2 h3 => by
     obtain ⟨ch', e⟩ := u_loop (Z := Z) (feed := feed) (fa := fa) fu ss1 v n₁ (some (.imm (.str v))) h1 h2 h3
     refine ⟨ch', zF (zv tw rfl) ?_⟩
     have ea : f_aug (GS Z feed fa n₁ ss1 [] false (some (.imm (.str v)))) = some (.next, GS Z feed fa n₁ ss1 v false (some (.imm (.str v)))) := (ev_aug (by simp; omega)).trans (by rw [List.nil_append])
     have e2 := zv (f := zJ (cForFit 4 5 (.loc 3) Z.L fa (h_rc Z feed) (zC 4 2) (b_get_2 Z feed) fu) (zL .next)) tq (zF e0 (zF ea (join _ _ _ _ _ _ _ e)))
     unfold endFl at e2 ⊢
     cases hR : (tokU ss1 v n₁).2.2.2 with
     | true => rw [hR] at e2; exact z6 e2
     | false => rw [hR] at e2; exact zF e2 rfl
    by_cases h3 : c = 92
    ·rw [if_pos h3] at he ⊢
     cases ss with
     | nil =>
      obtain ⟨ch', hb⟩ := go _ _ _ he rfl (by simp; omega) (by simp)
      rw [hb]
      exact ⟨ch', out (tokU [] [] n) ch'⟩
     | cons d ss' =>
      obtain ⟨hd, hs'⟩ := all_tail hs
      simp only [List.length_cons] at hm hl hf
      obtain ⟨ch', hb⟩ := go _ _ _ he hs' (by omega) (by simp; omega)
      rw [hb]
      exact ⟨ch', out (tokU ss' [d] (nl d n)) ch'⟩
    ·rw [if_neg h3] at he ⊢
     obtain ⟨ch', hb⟩ := go _ _ _ he hs (by omega) (by simp; omega)
     rw [hb]
     exact ⟨ch', out _ _⟩
end
noncomputable def g_get (Z : LX) (fu : Nat) : List PV -> Int -> List PV -> List Nat -> Option (PV × Int × List PV × List Nat)
 | [.ref a], n, bs, ss => if a = Z.L /\ ss.length + 2 <= fu /\ fu <= 16777000 then (match bs with
  | b :: bs => some (b, n, bs, ss)
  | [] => some (.str (z7 ss n).1, (z7 ss n).2.1, [], (z7 ss n).2.2.1)) else none
 | _, _, _, _ => none
noncomputable abbrev h_get (Z : LX) (feed : Addr) (fu : Nat) := lexH Z feed (g_get Z fu)
theorem get_pb {Z : LX} {feed : Addr} {n : Int} {bs : List PV} {ss : List Nat} {vs : List (Option AV)} {rest : List zA} (h : vs[0]? = some (some (.imm (.ref Z.L)))) :
  cPin Z.B 1 (cAttr Z.L 0 3 (zC 4 0)) (LS Z feed n bs ss ++ .frame vs :: rest) = some (.obj 1, LS Z feed n bs ss ++ .frame vs :: rest) := by
 have e : zC 4 0 (LS Z feed n bs ss ++ .frame vs :: rest) = some (.imm (.ref Z.L), LS Z feed n bs ss ++ .frame vs :: rest) := by
  show (match vs[0]? with | some (some v) => some (v, _) | _ => none) = _
  rw [h]
 have e2 : cAttr Z.L 0 3 (zC 4 0) (LS Z feed n bs ss ++ .frame vs :: rest) = some (.imm (.ref Z.B), LS Z feed n bs ss ++ .frame vs :: rest) := by
  unfold cAttr
  rw [e]
  show (if Z.L = Z.L then _ else none) = _
  rw [if_pos rfl]; rfl
 unfold cPin
 rw [e2]
 show (if Z.B = Z.B then _ else none) = _
 rw [if_pos rfl]
theorem get_eval {Z : LX} {feed fa : Addr} {fu : Nat} {n : Int} {bs : List PV} {ss : List Nat} (h : ss.all (· < 1114112) = true) (hf : ss.length + 2 <= fu) (hf2 : fu <= 16777000) :
  ∃ v n' bs' ss' rest, g_get Z fu [.ref Z.L] n bs ss = some (v, n', bs', ss') /\ f_get Z feed fa fu (LS Z feed n bs ss ++ [.frame [some (.imm (.ref Z.L)), none, none, none], .dead]) = some (.ret v, LS Z feed n' bs' ss' ++ rest) := by
 have hp := get_pb (Z := Z) (feed := feed) (n := n) (bs := bs) (ss := ss) (vs := [some (.imm (.ref Z.L)), none, none, none]) (rest := [.dead]) rfl
 cases bs with
 | cons b bs =>
  refine ⟨b, n, bs, ss, [.frame [some (.imm (.ref Z.L)), none, none, none], .dead], by show (if Z.L = Z.L /\ _ then _ else _) = _; rw [if_pos ⟨rfl, hf, hf2⟩], z6 (e_ifT (e_truth hp rfl rfl) (z6 (e_ret ?_)))⟩
  unfold cPop0
  rw [hp]
  rfl
 | nil =>
  refine nG fun ng => ?_
  obtain ⟨ch', e⟩ := o_loop (Z := Z) (feed := feed) (fa := fa) (fu := fu) fu ss n none h (by omega) (by omega) (by omega)
  have e1 : cIter 4 5 (.loc 2) Z.L fa (zC 4 0) (LS Z feed n [] ss ++ [.frame [some (.imm (.ref Z.L)), some (.imm (.str [])), none, none], .dead]) = some (.next, GS Z feed fa n ss [] false none) := by
   have e0 : zC 4 0 (LS Z feed n [] ss ++ [.frame [some (.imm (.ref Z.L)), some (.imm (.str [])), none, none], .dead]) = some (.imm (.ref Z.L), LS Z feed n [] ss ++ [.frame [some (.imm (.ref Z.L)), some (.imm (.str [])), none, none], .dead]) := rfl
   unfold cIter
   rw [e0]
   dsimp only
   rw [if_pos ⟨rfl, rfl, by simp⟩]; rfl
  have e2 : cForFit 4 5 (.loc 3) Z.L fa (h_rc Z feed) (zC 4 2) (b_get_1 Z feed fa fu) fu (GS Z feed fa n ss [] false none) = some (endFl (z7 ss n), GS Z feed fa (z7 ss n).2.1 (z7 ss n).2.2.1 (z7 ss n).1 (!(z7 ss n).2.2.2) ch') := by
   rw [<- e]; rfl
  refine ng ?_
  clear ng
  refine ⟨.str (z7 ss n).1, (z7 ss n).2.1, [], (z7 ss n).2.2.1, [.frame [some (.imm (.ref Z.L)), some (.imm (.str (z7 ss n).1)), some (.obj 5), ch'], .fit (!(z7 ss n).2.2.2) fa Z.L], by show (if Z.L = Z.L /\ _ then _ else _) = _; rw [if_pos ⟨rfl, hf, hf2⟩], ?_⟩
  refine zF (zv (e_truth hp rfl rfl) rfl) (zF (zp rfl rfl) (zF e1 ?_))
  unfold endFl at e2
  cases hR : (z7 ss n).2.2.2 with
  | true => rw [hR] at e2; exact z6 e2
  | false => rw [hR] at e2; exact zF e2 (z6 ev_rt)
theorem sp_get {Z : LX} {feed fa : Addr} {n fu : Nat} {a : Addr} {fd : FuncData} (hn : n <= 30) (G : GlB C) (K : LexK C Z) (M : MethC C Z "_read_char" fa) (S : OpSc C Z (n + 2) fa (h_rc Z feed))
  (FA : DefAt C a fd (zN getSt) ["self"]) (hs : fd.scope = zQ getSt) (hc : fd.closure = []) : OpSc C Z n a (h_get Z feed fu) := by
 refine lex_fnC (X := X_get Z n) (is := []) (clo := []) (pls := [.loc 0]) 4 2 FA (entOK_of hs.symm (by rw [hs]; kernel_rfl) ?_) (fun ρ _ => hc) (ok_get (feed := feed) (fu := fu) hn G K M S) (by omega) rfl (nl4 rfl rfl rfl rfl) rfl (fun i hi => ⟨by simp; omega, List.not_mem_nil, by simp; omega⟩) (by rfl) fun as os c os' hos h => ?_
 ·intro i b m
  simp only [LX.pins, List.mem_cons, Prod.mk.injEq, List.not_mem_nil, or_false] at m
  rcases m with ⟨rfl, -⟩ | ⟨rfl, -⟩ | ⟨rfl, -⟩ | ⟨rfl, -⟩ <;> simp
 unfold h_get lexH at h
 refine nG fun ng => ?_
 split at h
 ·rename_i m bs ss e
  obtain ⟨rfl, hss⟩ := decL_eq e
  split at h
  ·rename_i c' n' bs' ss' e2
   cases h
   unfold g_get at e2
   split at e2
   ·rename_i a'
    split at e2
    ·rename_i ha
     obtain ⟨rfl, hf, hf2⟩ := ha
     obtain ⟨v, n'', bs'', ss'', rest, e3, e4⟩ := get_eval (Z := Z) (feed := feed) (fa := fa) (n := m) (bs := bs) hss hf hf2
     have e3' : g_get Z fu [.ref Z.L] m bs ss = some (c, n', bs', ss') := by
      show (if Z.L = Z.L /\ _ then _ else _) = _
      rw [if_pos ⟨rfl, hf, hf2⟩]; exact e2
     rw [e3'] at e3
     cases e3
     refine ng ?_
     clear ng
     exact ⟨rfl, rfl, _, _, _, lex_bind (k := 1) rfl, e4, rfl, rfl⟩
    ·cases e2
   ·cases e2
  ·cases h
 ·cases h
end
section
set_option maxHeartbeats 0
variable {C : Cx} {X : zj}
noncomputable abbrev X_turned (Z : LX) (n : Nat) : zj :=
 { n := n + 1, fi := 4, N := fun | 0 => ["lineno", "instream", "whitespace", "pushback", "read"] | 4 => ["mark", "leads", "first", "good", "symbols", "rows", "row", "some", "new", "told"] | 11 => ["m"] | 12 => ["row"] | _ => [], cells := [("led", 7), ("symbol", 6), ("lexer", 5)], scope := zQ (zD 22), tmp := [11, 12], own := [8, 9, 10], pins := Z.pins }
noncomputable abbrev e_turned_1 (Z : LX) (feed : Addr) (fu : Nat) : CC PV := (z5 (zB (z3 [11] zH (zC 12 0) (cQ (.int 0))) (zB (zO h_number (zB (cLexM Z.L (h_get Z feed fu) (zK 5) zG) zG)) (zB (zO h_number (zB (cLexM Z.L (h_get Z feed fu) (zK 5) zG) zG)) zG))))
noncomputable abbrev b_turned_1 (Z : LX) (feed : Addr) (fu : Nat) : CC Fl := (zJ (cDrop (cLexM Z.L (h_push Z) (zK 5) (zB (zO zo (zB (z3 [11, 12] zH (zC 4 6) (cQ (.int 1))) zG)) zG))) (zJ (cDrop (cLexM Z.L (h_push Z) (zK 5) (zB (zO zo (zB (z3 [11, 12] zH (zC 4 6) (cQ (.int 2))) zG)) zG))) (zL .next)))
noncomputable abbrev e_turned_2 (Z : LX) (feed : Addr) (fu : Nat) : CC PV := (zh hPow (cQ (.int 2)) (zE (zC 11 0)))
noncomputable abbrev t_turned_2 (Z : LX) (feed : Addr) (fu : Nat) : CC Bool := (zP (zM hIs (zO h_iseof (zB (zh hAnd (z3 [12] zH (zK 7) (zE (zC 11 0))) (zO hAbs (zB (zh hSub (zE (zK 6)) (cQ (.int 255))) zG))) zG)) (zX (cQ (.bool false)))))
noncomputable abbrev b_turned_2 (Z : LX) (feed : Addr) (fu : Nat) : CC Fl := (zJ (zl 4 (.loc 7) (zO hSum (zB (zy (.loc 0) 11 1 [] (zO zz (zB (zw hLen (zK 7)) zG)) (t_turned_2 Z feed fu) (e_turned_2 Z feed fu)) zG))) (zJ (zl 4 (.loc 8) (zO h_symbol (zB (zE (zC 4 7)) (zB (zE (zC 4 3)) zG)))) (zJ (cIf (zP (zM hNotIn (zE (zC 4 8)) (zC 4 4))) (zJ (zf [11, 12] (zC 4 4) (zE (zC 4 8))) (zJ (cDrop (cLexM Z.L (h_push Z) (zK 5) (zB (zO zo (zB (cUn hNeg (zE (zC 4 8))) zG)) zG))) (zL .next))) (zL .next)) (zJ (zf [11, 12] (zC 4 6) (cMeth [11, 12] "list" hIndex (zC 4 4) (zB (zE (zC 4 8)) zG))) (zL .next)))))
noncomputable abbrev b_turned_3 (Z : LX) (feed : Addr) (fu : Nat) : CC Fl := (zJ (zl 4 (.cell 6) (zO h_number (zB (cLexM Z.L (h_get Z feed fu) (zK 5) zG) zG))) (zJ (cOwn 4 (.loc 6) 10 (zB (zO h_kind (zB (zE (zK 6)) zG)) zG)) (zJ (cFor 4 (.cell 7) (zE (zC 4 1)) (b_turned_2 Z feed fu)) (zJ (zf [11, 12] (zC 4 5) (zE (zC 4 6))) (zL .next)))))
noncomputable abbrev f_turned (Z : LX) (feed : Addr) (fu : Nat) : CC Fl := (zJ (cOwn 4 (.loc 4) 8 (zB (zO h_symbol (zB (zE (zC 4 2)) (zB (zE (zC 4 3)) zG))) zG)) (zJ (cOwn 4 (.loc 5) 9 zG) (zJ (cIf (zP (zM hIsNot (cLexM Z.L (h_push Z) (zK 5) (zB (zO zo (zB (z3 [11, 12] zH (zC 4 4) (cQ (.int 0))) zG)) zG)) (zX (cQ .none)))) (zJ (cRet (zE (zC 4 5))) (zL .next)) (zL .next)) (zJ (cWhile (zP (zM hLt (zw hLen (zC 4 5)) (zX (zw hLen (zC 4 4))))) (b_turned_3 Z feed fu) 20) (zJ (cFor 4 (.loc 6) (zE (zC 4 5)) (b_turned_1 Z feed fu)) (zJ (cCompS 4 9 (.loc 0) 12 1 [] (zE (zC 4 5)) zc (e_turned_1 Z feed fu)) (zJ (cRet (cIf (zP (zM hEq (cLexM Z.L (h_get Z feed fu) (zK 5) zG) (zC 4 0))) (zE (zC 4 9)) (z5 zG))) (zL .next))))))))
theorem ok_turned {Z : LX} {feed fp fg : Addr} {fu n : Nat} (hn : n <= 25) (G : GlB C) (M1 : MethC C Z "push_token" fp) (O1 : OpS C Z (n + 1) (fun vs => call (.ref fp) vs) (h_push Z)) (M2 : MethC C Z "get_token" fg) (O2 : OpS C Z (n + 1) (fun vs => call (.ref fg) vs) (h_get Z feed fu))
  (S1 : zU C (n + 1) "_law_symbol" h_symbol) (S2 : zU C (n + 1) "_law_letters" zo) (S3 : zU C (n + 1) "_law_number" h_number) (S4 : zU C (n + 1) "_law_kind" h_kind) (S5 : zU C (n + 1) "ISEOF" h_iseof) : zi C (X_turned Z n) (zN (zD 22)) (f_turned Z feed fu) := by
 change zi C _ (List.cons _ _) _
 repeat' first
 | with_reducible first
  | exact zd
  | refine zT ?_ ?_
  | exact evs_nil
  | refine evs_cons ?_ ?_ rfl
  | exact tf_nil
  | refine tf_one ?_
  | refine st_ret ?_
  | refine st_if ?_ ?_ ?_
  | refine st_whileA ?_ ?_
  | refine st_forA (by kernel_rfl) ?_ ?_ (by intro _ _; with_unfolding_all rfl)
  | refine st_ownA ?_ (by kernel_rfl) (by kernel_rfl)
  | refine st_compA (by kernel_rfl) (by kernel_rfl) ?_ (by kernel_rfl) ?_ ?_ (by kernel_rfl) (by kernel_rfl) (by intro _ _; with_unfolding_all rfl)
  | refine st_asgcA ?_ (by kernel_rfl)
  | refine st_asgA ?_ (by kernel_rfl) (by kernel_rfl)
  | refine st_append rfl (by kernel_rfl) rfl ?_ ?_
  | refine st_expr ?_ (by intro _; with_unfolding_all rfl)
  | refine z8 (by kernel_rfl) (by kernel_rfl)
  | refine ev_cellA (by kernel_rfl)
  | refine yC ?_
  | refine ts_cmp (op_eq (by first | (change _ + 1 <= 40; omega) | (exact Nat.le_trans (by assumption) (by decide : 36 <= 40)) | omega)) ?_ ?_ (by kernel_rfl)
  | refine ts_cmp (op_notIn (by first | (change _ + 1 <= 40; omega) | (exact Nat.le_trans (by assumption) (by decide : 36 <= 40)) | omega)) ?_ ?_ (by kernel_rfl)
  | refine ts_cmp op_is ?_ ?_ (by kernel_rfl)
  | refine ts_cmp op_isNot ?_ ?_ (by kernel_rfl)
  | refine ts_cmp op_lt ?_ ?_ (by kernel_rfl)
  | exact evp_int
  | exact evp_none
  | exact evp_bool
  | refine evp ?_
  | refine evp_bin op_sub ?_ ?_
  | refine evp_bin op_pow ?_ ?_
  | refine evp_bin op_and ?_ ?_
  | refine evp_un op_neg ?_
  | refine evp_if ?_ ?_ ?_
  | refine evp_list ?_
  | refine evp_compA (by kernel_rfl) ?_ (by kernel_rfl) ?_ ?_ (by intro _ _; with_unfolding_all rfl)
  | refine evp_sub it_item ?_ ?_ (by intro _ _; with_unfolding_all rfl)
  | refine evp_lexM (by assumption) (by assumption) (by with_unfolding_all exact lexX_of (nl4 rfl rfl rfl rfl) rfl) rfl (by kernel_rfl) (by kernel_rfl) (Nat.le_of_ble_eq_true (by kernel_rfl)) ?_ ?_
  | refine evp_lexM0 (by assumption) (by assumption) (by with_unfolding_all exact lexX_of (nl4 rfl rfl rfl rfl) rfl) rfl (by kernel_rfl) ?_
  | refine evp_callS (by assumption) ?_ rfl (by kernel_rfl) (by kernel_rfl)
  | refine evp_blt (GlB.no (by assumption) _ (by kernel_rfl)) PyProof.Rows.Boot.«abs» (by decide +kernel) (by kernel_rfl) fn_abs ?_ (by kernel_rfl) (by kernel_rfl)
  | refine evp_blt (GlB.no (by assumption) _ (by kernel_rfl)) PyProof.Rows.Boot.«sum» (by decide +kernel) (by kernel_rfl) fn_sum ?_ (by kernel_rfl) (by kernel_rfl)
  | refine evp_typ (GlB.no (by assumption) _ (by kernel_rfl)) PyProof.Rows.Boot.«range» (by decide +kernel) (by kernel_rfl) fn_range ?_ (by kernel_rfl) (by kernel_rfl)
  | refine evp_bltV (GlB.no (by assumption) _ (by kernel_rfl)) PyProof.Rows.Boot.«len» (by decide +kernel) rfl fn_len ?_ (by kernel_rfl) (by kernel_rfl)
  | refine evp_meth m_list_index (by decide) rfl (by kernel_rfl) (by kernel_rfl) (Nat.le_of_ble_eq_true (by kernel_rfl)) (fn_index (by first | (change _ + 1 <= 40; omega) | (exact Nat.le_trans (by assumption) (by decide : 36 <= 40)) | omega)) ?_ ?_
 | refine evp_sub it_item ?_ ?_ (by intro _ _; with_unfolding_all rfl)
 | refine evp_meth m_list_index (by decide) rfl (by kernel_rfl) (by kernel_rfl) (Nat.le_of_ble_eq_true (by kernel_rfl)) (fn_index (by first | (change _ + 1 <= 40; omega) | (exact Nat.le_trans (by assumption) (by decide : 36 <= 40)) | omega)) ?_ ?_
end
section
variable {C : Cx} {X : zj}
structure CallSpL (C : Cx) (Z : LX) (n : Nat) (x : Str) (h : List PV -> List zA -> Option (PV × List zA)) : Prop where
 ex : ∃ a o fd, C.mg x = some (.ref a) /\ C.P0 a = some o /\ o.data = .func fd /\ OpS C Z n (fun vs => call (.ref a) vs) h
noncomputable def cCallL (h : List PV -> List zA -> Option (PV × List zA)) (f : CC (List PV)) : CC PV := fun σ => match f σ with
 | some (as, σ1) => yA h as σ1
 | none => none
theorem evp_callL {x : Str} {np pos : Pos} {e : Expr} {r : List Expr} {f : CC (List PV)} {Z : LX} {h : List PV -> List zA -> Option (PV × List zA)} (S : CallSpL C Z X.n x h) (hX : LexX X Z) (hs : EvsP C X (e :: r) f) (hn : zW e = true) (hk : X.scope.names.lookup x = some .globalImplicit) (hdb : (x == ("__debug__" : Str)) = false) :
  EvP C X (.Call (.Name x np) (e :: r) [] pos) (cCallL h f) := by
 refine nG fun ng => ?_
 obtain ⟨a, o, fd, hg, hP, hd, ho⟩ := S.ex
 refine ng ?_
 clear ng
 intro A env F P ρ σ s v σ' hA E I hf
 unfold cCallL at hf
 refine nG fun ng => ?_
 refine ivL hf ?_; clear hf; intro as σ1 e1 hf
 refine ng ?_
 clear ng
 refine wpAny_Call_ofName (wpAny_Name (load_glob hk hg E I ?_) hdb)
 refine callWith_function (a := a) (o := o) (fd := fd) (evargs hn (wpAny_mono (hs A env F P ρ σ s as σ1 pos hA E I e1) (fun Vs s₁ ⟨F1, ρ1, n₁, r₁⟩ => ⟨⟨n₁.inv.p _ _ (n₁.inv.top _ _ hP), hd⟩, ?_⟩) fun _ _ x => x))
 exact wpAny_mono (lex_run ho hX hA (n₁.env E) n₁.inv r₁ hf) (fun W s₂ ⟨F2, ρ₂, n₂, r₂⟩ => ⟨F2, ρ₂, n₁.trans n₂, r₂⟩) fun _ _ x => x
theorem pin0 {Z : LX} {l : List (Nat × Addr)} (h : l = Z.pins) : (0, Z.D) ∈ l := by rw [h]; simp [LX.pins]
noncomputable def zV (led : List Nat) (s : Nat) : Nat := (((List.range led.length).filter fun m => (led.getD m 0) &&& s != 0).map fun m => 2 ^ m).sum
noncomputable def zS (key : Nat -> Nat) (t : Nat) (l : List Nat) : List Nat := if key t ∈ l.map key then l else l ++ [t]
noncomputable def yB (key : Nat -> Nat) (t : Nat) (l : List Nat) : Nat := (l.map key).idxOf (key t)
noncomputable def bfsK (key k p0 p1 : Nat -> Nat) : Nat -> List Nat -> List (Nat × Nat × Nat) -> Option (List Nat × List (Nat × Nat × Nat))
 | 0, _, _ => none
 | m + 1, l, rows => match l[rows.length]? with
  | none => some (l, rows)
  | some s => bfsK key k p0 p1 m (zS key (p1 s) (zS key (p0 s) l)) (rows ++ [(k s, yB key (p0 s) (zS key (p0 s) l), yB key (p1 s) (zS key (p1 s) (zS key (p0 s) l)))])
noncomputable def zI (r : Nat × Nat × Nat) : PV := .list [.int r.1, .int r.2.1, .int r.2.2]
noncomputable def kd (good s : Nat) : Nat := if s &&& good = 0 then 0 else 1
noncomputable abbrev nI (n : Nat) : PV := .int (n : Int)
noncomputable abbrev nL (l : List Nat) : PV := .list (l.map nI)
inductive TurnS (Z : LX) (fu : Nat) (as : List PV) (n : Int) (bs : List PV) (ss : List Nat) (r : PV × Int × List PV × List Nat) : Prop where
 | mk (mark l0 l1 : List Nat) (first good : Nat) (l' : List Nat) (rows : List (Nat × Nat × Nat)) (h1 : as = [.ref Z.L, .str mark, .list [nL l0, nL l1], nI first, nI good]) (h2 : bs = []) (h3 : first < 256) (h4 : l0.length <= 8) (h5 : l1.length <= 8) (h6 : ss.length + 2 <= fu) (h7 : fu <= 16777000) (h8 : mark.all (· < 1114112) = true)
  (h9 : bfsK id (kd good) (zV l0) (zV l1) 20 [first] [] = some (l', rows)) (h10 : r = (.list (if (z7 ss n).1 = mark then rows.map zI else []), (z7 ss n).2.1, [], (z7 ss n).2.2.1)) : TurnS Z fu as n bs ss r
noncomputable def g_turned (Z : LX) (fu : Nat) (as : List PV) (n : Int) (bs : List PV) (ss : List Nat) : Option (PV × Int × List PV × List Nat) := specO (TurnS Z fu as n bs ss)
noncomputable abbrev h_turned (Z : LX) (feed : Addr) (fu : Nat) := lexH Z feed (g_turned Z fu)
noncomputable def fwd (led : List Nat) (s : Nat) : Nat := ((List.range 3).filter fun m => s.testBit m).foldl (fun a m => a ||| led.getD m 0) 0
noncomputable def moore (d0 d1 : Nat -> Nat) (kinds : List Nat) : List Nat :=
 let lines := (List.range 8).map fun s => (kinds.getD s 0, kinds.getD (d0 s) 0, kinds.getD (d1 s) 0)
 lines.map fun l => lines.idxOf l
noncomputable def zx (kinds : List Nat) : Nat := (PyProof.Rows.firstMet (fun i => (kinds.map fun (n : Nat) => (n : Int)).getD i 0) kinds.length).length
noncomputable def mooreL (d0 d1 : Nat -> Nat) : Nat -> Nat -> List Nat -> Option (List Nat)
 | 0, _, _ => none
 | m + 1, count, kinds => if count < zx kinds then mooreL d0 d1 m (zx kinds) (moore d0 d1 kinds) else some kinds
noncomputable def leastR (l0 l1 : List Nat) (first ends : Nat) : Option (List (Nat × Nat × Nat)) :=
 match mooreL (fwd l0) (fwd l1) 20 0 ((List.range 8).map fun s => kd ends s) with
 | some kinds => (match bfsK (fun s => kinds.getD s 0) (kd ends) (fwd l0) (fwd l1) 20 [first] [] with | some (_, rows) => some rows | none => none)
 | none => none
inductive LeastS (as : List PV) (r : PV) : Prop where
 | mk (l0 l1 : List Nat) (first ends : Nat) (rows : List (Nat × Nat × Nat)) (h1 : as = [.list [nL l0, nL l1], nI first, nI ends]) (h2 : first < 8) (h3 : ends < 8) (h4 : l0.length = 3) (h5 : l1.length = 3) (h6 : l0.all (· < 8) = true) (h7 : l1.all (· < 8) = true) (h8 : leastR l0 l1 first ends = some rows) (h9 : r = .list (rows.map zI)) : LeastS as r
noncomputable def h_least (as : List PV) : Option PV := specO (LeastS as)
theorem nL_inj {l l' : List Nat} (h : nL l = nL l') : l = l' := by
 have h : l.map nI = l'.map nI := PV.list.inj h
 exact (List.map_inj_right fun a b e => by have := PV.int.inj e; omega).mp h
theorem nI_inj {a b : Nat} (h : nI a = nI b) : a = b := by have := PV.int.inj h; omega
end
section
theorem ins_sim {key key' φ : Nat -> Nat} {l : List Nat} {t : Nat} (h : ∀ s ∈ l, key' (φ s) = key' (φ t) ↔ key s = key t) : zS key' (φ t) (l.map φ) = (zS key t l).map φ := by
 unfold zS
 have e : key' (φ t) ∈ (l.map φ).map key' ↔ key t ∈ l.map key := by
  simp only [List.mem_map]
  constructor
  ·rintro ⟨_, ⟨s, hs, rfl⟩, e⟩; exact ⟨s, hs, (h s hs).mp e⟩
  ·rintro ⟨s, hs, e⟩; exact ⟨φ s, ⟨s, hs, rfl⟩, (h s hs).mpr e⟩
 by_cases q : key t ∈ l.map key
 ·rw [if_pos q, if_pos (e.mpr q)]
 ·rw [if_neg q, if_neg (fun w => q (e.mp w)), List.map_append]; rfl
theorem idx_sim {key key' φ : Nat -> Nat} {t : Nat} : ∀ {l : List Nat}, (∀ s ∈ l, key' (φ s) = key' (φ t) ↔ key s = key t) -> yB key' (φ t) (l.map φ) = yB key t l
 | [], _ => rfl
 | a :: l, h => by
  have ih := idx_sim (l := l) fun s hs => h s (List.mem_cons_of_mem _ hs)
  unfold yB at ih ⊢
  simp only [List.map_cons, List.idxOf_cons]
  have h0 := h a List.mem_cons_self
  by_cases q : key a = key t
  ·rw [show (key a == key t) = true by simpa using q, show (key' (φ a) == key' (φ t)) = true by simpa using h0.mpr q]
   rfl
  ·rw [show (key a == key t) = false by simpa using q, show (key' (φ a) == key' (φ t)) = false by simpa using fun w => q (h0.mp w)]
   simp only [cond_false, List.map_map] at ih ⊢
   rw [ih]
theorem ins_lt {key : Nat -> Nat} {t : Nat} {l : List Nat} {n : Nat} (h : ∀ s ∈ l, s < n) (ht : t < n) : ∀ s ∈ zS key t l, s < n := by
 unfold zS
 split
 ·exact h
 ·intro s hs
  refine nG fun ng => ?_
  rcases List.mem_append.mp hs with hs | hs
  ·refine ng ?_
   clear ng
   exact h s hs
  ·refine ng ?_
   clear ng
   rw [List.mem_singleton.mp hs]; exact ht
theorem bfs_sim {key key' k k' p0 p1 p0' p1' φ : Nat -> Nat} (hp0 : ∀ s, s < 8 -> p0 s < 8) (hp1 : ∀ s, s < 8 -> p1 s < 8) (h0 : ∀ s, s < 8 -> p0' (φ s) = φ (p0 s)) (h1 : ∀ s, s < 8 -> p1' (φ s) = φ (p1 s)) (hk : ∀ s, s < 8 -> k' (φ s) = k s)
  (hkey : ∀ s t, s < 8 -> t < 8 -> (key' (φ s) = key' (φ t) ↔ key s = key t)) : ∀ (m : Nat) (l : List Nat) (rows : List (Nat × Nat × Nat)), (∀ s ∈ l, s < 8) ->
   bfsK key' k' p0' p1' m (l.map φ) rows = (bfsK key k p0 p1 m l rows).map fun r => (r.1.map φ, r.2)
 | 0, _, _, _ => rfl
 | m + 1, l, rows, hl => by
  dsimp only [bfsK]
  rw [List.getElem?_map]
  cases e : l[rows.length]? with
  | none => rfl
  | some s =>
   have hs : s < 8 := hl s (List.mem_of_getElem? e)
   dsimp only [Option.map_some]
   rw [h0 s hs, h1 s hs, hk s hs]
   have hl1 := ins_lt (key := key) hl (hp0 s hs)
   have hl2 := ins_lt (key := key) hl1 (hp1 s hs)
   have i1 : zS key' (φ (p0 s)) (l.map φ) = (zS key (p0 s) l).map φ := ins_sim fun x hx => hkey _ _ (hl x hx) (hp0 s hs)
   rw [i1]
   have i2 : zS key' (φ (p1 s)) ((zS key (p0 s) l).map φ) = (zS key (p1 s) (zS key (p0 s) l)).map φ := ins_sim fun x hx => hkey _ _ (hl1 x hx) (hp1 s hs)
   rw [i2]
   have j1 : yB key' (φ (p0 s)) ((zS key (p0 s) l).map φ) = yB key (p0 s) (zS key (p0 s) l) := idx_sim fun x hx => hkey _ _ (hl1 x hx) (hp0 s hs)
   have j2 : yB key' (φ (p1 s)) ((zS key (p1 s) (zS key (p0 s) l)).map φ) = yB key (p1 s) (zS key (p1 s) (zS key (p0 s) l)) := idx_sim fun x hx => hkey _ _ (hl2 x hx) (hp1 s hs)
   rw [j1, j2]
   exact bfs_sim hp0 hp1 h0 h1 hk hkey m _ _ hl2
theorem nodup_le : ∀ (n : Nat) (l : List Nat), l.Nodup -> (∀ s ∈ l, s < n) -> l.length <= n
 | 0, [], _, _ => Nat.le_refl _
 | 0, s :: _, _, h => absurd (h s List.mem_cons_self) (Nat.not_lt_zero _)
 | n + 1, l, hn, h => by
  by_cases q : n ∈ l
  ·have h2 := nodup_le n (l.erase n) (hn.erase n) fun s hs => by
    have hs' := (List.Nodup.mem_erase_iff hn).mp hs
    have := h s hs'.2
    have := hs'.1
    (first | lia | omega (config := {}))
   rw [List.length_erase_of_mem q] at h2
   (first | lia | omega (config := {}))
  ·have := nodup_le n l hn fun s hs => by
    have h1 := h s hs
    have h2 : s ≠ n := fun e => q (e ▸ hs)
    (first | lia | omega (config := {}))
   (first | lia | omega (config := {}))
structure BfsOK (key k p0 p1 : Nat -> Nat) (s0 : Nat) (l : List Nat) (rows : List (Nat × Nat × Nat)) (d : Nat) : Prop where
 at0 : l[0]? = some s0
 nd : (l.map key).Nodup
 lt : ∀ s ∈ l, s < 8
 len : rows.length = d
 le : d <= l.length
 row : ∀ m s, m < d -> l[m]? = some s -> rows[m]? = some (k s, yB key (p0 s) l, yB key (p1 s) l) /\ key (p0 s) ∈ l.map key /\ key (p1 s) ∈ l.map key
 from' : ∀ m t, l[m]? = some t -> m = 0 \/ ∃ j s, j < m /\ j < d /\ l[j]? = some s /\ (t = p0 s \/ t = p1 s)
theorem ins_pre {key : Nat -> Nat} {t : Nat} {l : List Nat} : ∃ r, zS key t l = l ++ r /\ (r = [] \/ r = [t]) := by
 unfold zS
 split
 ·exact ⟨[], by simp, .inl rfl⟩
 ·exact ⟨[t], rfl, .inr rfl⟩
theorem ins_mem {key : Nat -> Nat} {t : Nat} {l : List Nat} : key t ∈ (zS key t l).map key := by
 unfold zS
 split
 ·assumption
 ·rw [List.map_append]; exact List.mem_append_right _ (List.mem_singleton.mpr rfl)
theorem ins_nd {key : Nat -> Nat} {t : Nat} {l : List Nat} (h : (l.map key).Nodup) : ((zS key t l).map key).Nodup := by
 unfold zS
 split
 ·exact h
 ·rename_i q
  rw [List.map_append, List.nodup_append]
  refine ⟨h, by simp, fun a ha b hb => ?_⟩
  simp only [List.map_cons, List.map_nil, List.mem_singleton] at hb
  refine nG fun ng => ?_
  subst hb
  refine ng ?_
  clear ng
  exact fun e => q (e ▸ ha)
theorem idx_pre {key : Nat -> Nat} {t : Nat} {l r : List Nat} (h : key t ∈ l.map key) : yB key t (l ++ r) = yB key t l := by
 unfold yB
 rw [List.map_append, List.idxOf_append, if_pos h]
theorem mem_pre {key : Nat -> Nat} {t : Nat} {l r : List Nat} (h : key t ∈ l.map key) : key t ∈ (l ++ r).map key := by
 rw [List.map_append]; exact List.mem_append_left _ h
theorem bfs_ends {key k p0 p1 : Nat -> Nat} {s0 : Nat} (hp0 : ∀ s, s < 8 -> p0 s < 8) (hp1 : ∀ s, s < 8 -> p1 s < 8) : ∀ (m : Nat) (l : List Nat) (rows : List (Nat × Nat × Nat)) (d : Nat), BfsOK key k p0 p1 s0 l rows d -> 9 <= m + d ->
  ∃ l' rows', bfsK key k p0 p1 m l rows = some (l', rows') /\ BfsOK key k p0 p1 s0 l' rows' l'.length
 | 0, l, rows, d, B, hm => by
  have h1 := nodup_le 8 l (by
   have := B.nd
   exact List.Pairwise.of_map key (fun a b h e => h (by rw [e])) this) B.lt
  have := B.le
  (first | lia | omega (config := {}))
 | m + 1, l, rows, d, B, hm => by
  dsimp only [bfsK]
  rw [B.len]
  cases e : l[d]? with
  | none =>
   have hd : l.length <= d := List.getElem?_eq_none_iff.mp e
   have hd' : d = l.length := Nat.le_antisymm B.le hd
   subst hd'
   exact ⟨l, rows, rfl, B⟩
  | some s =>
   have hs : s < 8 := B.lt s (List.mem_of_getElem? e)
   have hdl : d < l.length := (List.getElem?_eq_some_iff.mp e).1
   obtain ⟨r1, e1, c1⟩ := ins_pre (key := key) (t := p0 s) (l := l)
   obtain ⟨r2, e2, c2⟩ := ins_pre (key := key) (t := p1 s) (l := zS key (p0 s) l)
   have m1 := ins_mem (key := key) (t := p0 s) (l := l)
   have m2 := ins_mem (key := key) (t := p1 s) (l := zS key (p0 s) l)
   have n1 := ins_nd (t := p0 s) B.nd
   have n2 := ins_nd (t := p1 s) n1
   have t1 := ins_lt (key := key) B.lt (hp0 s hs)
   have t2 := ins_lt (key := key) t1 (hp1 s hs)
   dsimp only
   generalize hL1 : zS key (p0 s) l = L1 at *
   generalize hL2 : zS key (p1 s) L1 = L2 at *
   have pre : L2 = l ++ (r1 ++ r2) := by rw [e2, e1, List.append_assoc]
   have getl : ∀ (j : Nat) (x : Nat), j < l.length -> L2[j]? = some x -> l[j]? = some x := fun j x hj ex => by
    rw [pre, List.getElem?_append_left hj] at ex; exact ex
   have getl' : ∀ (j : Nat) (x : Nat), l[j]? = some x -> L2[j]? = some x := fun j x ex => by
    rw [pre, List.getElem?_append_left (List.getElem?_eq_some_iff.mp ex).1]; exact ex
   refine bfs_ends hp0 hp1 m L2 _ (d + 1) ⟨getl' _ _ B.at0, n2, t2, by rw [List.length_append, B.len]; rfl, by rw [pre, List.length_append]; (first | lia | omega (config := {})), fun j x hj ex => ?_, fun j t et => ?_⟩ (by (first | lia | omega (config := {})))
   ·have ex' := getl j x (by (first | lia | omega (config := {}))) ex
    by_cases q : j < d
    ·obtain ⟨w1, w2, w3⟩ := B.row j x q ex'
     refine ⟨?_, by rw [pre]; exact mem_pre w2, by rw [pre]; exact mem_pre w3⟩
     rw [List.getElem?_append_left (by rw [B.len]; exact q), w1, pre, idx_pre w2, idx_pre w3]
    ·have hjd : j = d := by (first | lia | omega (config := {}))
     subst hjd
     rw [e] at ex'; cases ex'
     refine ⟨?_, by rw [e2]; exact mem_pre m1, m2⟩
     rw [List.getElem?_append_right (by rw [B.len]; exact Nat.le_refl _), B.len, Nat.sub_self]
     show some _ = some _
     rw [show yB key (p0 s) L2 = yB key (p0 s) L1 by rw [e2, idx_pre m1]]
   ·by_cases q : j < l.length
    ·rcases B.from' j t (getl j t q et) with h | ⟨i, x, h1, h2, h3, h4⟩
     ·exact .inl h
     ·exact .inr ⟨i, x, h1, by (first | lia | omega (config := {})), getl' _ _ h3, h4⟩
    ·right
     refine ⟨d, s, by (first | lia | omega (config := {})), by (first | lia | omega (config := {})), getl' _ _ e, ?_⟩
     rw [pre, List.getElem?_append_right (by (first | lia | omega (config := {})))] at et
     have hm := List.mem_of_getElem? et
     rcases List.mem_append.mp hm with h | h
     ·rcases c1 with c | c
      ·rw [c] at h; cases h
      ·rw [c] at h; exact .inl (List.mem_singleton.mp h)
     ·rcases c2 with c | c
      ·rw [c] at h; cases h
      ·rw [c] at h; exact .inr (List.mem_singleton.mp h)
theorem bfs_start {key k p0 p1 : Nat -> Nat} {s0 : Nat} (h : s0 < 8) (hp0 : ∀ s, s < 8 -> p0 s < 8) (hp1 : ∀ s, s < 8 -> p1 s < 8) :
  ∃ l rows, bfsK key k p0 p1 20 [s0] [] = some (l, rows) /\ BfsOK key k p0 p1 s0 l rows l.length :=
 bfs_ends hp0 hp1 20 [s0] [] 0 ⟨rfl, by simp, by simpa using h, rfl, Nat.zero_le _, fun m s hm => absurd hm (Nat.not_lt_zero _), fun m t e => by
  cases m with
  | zero => exact .inl rfl
  | succ m => simp at e⟩ (by (first | lia | omega (config := {})))
end
section
noncomputable def mask (n : Nat) (c : Nat -> Bool) : Nat := (((List.range n).filter c).map fun m => 2 ^ m).sum
theorem mask_succ (n : Nat) (c : Nat -> Bool) : mask (n + 1) c = mask n c + (if c n then 2 ^ n else 0) := by
 unfold mask
 rw [List.range_succ, List.filter_append, List.map_append, List.sum_append]
 congr 1
 cases h : c n <;> simp [h]
theorem mask_lt : ∀ (n : Nat) (c : Nat -> Bool), mask n c < 2 ^ n
 | 0, c => by simp [mask]
 | n + 1, c => by
  rw [mask_succ, Nat.pow_succ]
  have := mask_lt n c
  split <;> (first | lia | omega (config := {}))
theorem mask_bit : ∀ (n : Nat) (c : Nat -> Bool) (m : Nat), (mask n c).testBit m = (decide (m < n) && c m)
 | 0, c, m => by simp [mask]
 | n + 1, c, m => by
  rw [mask_succ]
  have hl := mask_lt n c
  by_cases h : c n = true
  ·rw [if_pos h, Nat.add_comm]
   by_cases q : m = n
   ·subst q
    rw [Nat.testBit_two_pow_add_eq, mask_bit m c m]
    simp [h]
   ·by_cases q2 : m < n
    ·rw [Nat.testBit_two_pow_add_gt q2, mask_bit n c m]
     simp [q2, Nat.lt_succ_of_lt q2]
    ·have : 2 ^ n + mask n c < 2 ^ m := by
      have : 2 ^ (n + 1) <= 2 ^ m := Nat.pow_le_pow_right (by decide) (by (first | lia | omega (config := {})))
      rw [Nat.pow_succ] at this
      (first | lia | omega (config := {}))
     rw [Nat.testBit_lt_two_pow this]
     have : ¬ m < n + 1 := by (first | lia | omega (config := {}))
     simp [this]
  ·rw [if_neg h, Nat.add_zero, mask_bit n c m]
   by_cases q : m = n
   ·subst q
    have : c m = false := by simpa using h
    simp [this]
   ·have : (m < n) ↔ (m < n + 1) := by (first | lia | omega (config := {}))
    simp [this]
theorem mask_congr {n : Nat} {c d : Nat -> Bool} (h : ∀ m, m < n -> c m = d m) : mask n c = mask n d := by
 unfold mask
 congr 2
 exact List.filter_congr fun m hm => h m (List.mem_range.mp hm)
theorem preS_mask (led : List Nat) (s : Nat) : zV led s = mask led.length fun m => led.getD m 0 &&& s != 0 := rfl
noncomputable def mt (a b : Nat) : Bool := a &&& b != 0
theorem mt_iff {a b : Nat} : mt a b = true ↔ ∃ i, a.testBit i = true /\ b.testBit i = true := by
 unfold mt
 constructor
 ·intro h
  have h' : a &&& b ≠ 0 := by simpa using h
  refine nG fun ng => ?_
  obtain ⟨i, hi⟩ := Nat.exists_testBit_of_ne_zero h'
  rw [Nat.testBit_and, Bool.and_eq_true] at hi
  refine ng ?_
  clear ng
  exact ⟨i, hi⟩
 ·rintro ⟨i, h1, h2⟩
  have : (a &&& b).testBit i = true := by rw [Nat.testBit_and, h1, h2]; rfl
  have : a &&& b ≠ 0 := fun e => by rw [e, Nat.zero_testBit] at this; cases this
  simpa using this
theorem mt_comm (a b : Nat) : mt a b = mt b a := by unfold mt; rw [Nat.and_comm]
theorem mt_pow (i s : Nat) : mt (2 ^ i) s = s.testBit i := by
 rw [Bool.eq_iff_iff, mt_iff]
 constructor
 ·rintro ⟨j, h1, h2⟩
  rw [Nat.testBit_two_pow] at h1
  have : i = j := by simpa using h1
  subst this; exact h2
 ·intro h; exact ⟨i, by rw [Nat.testBit_two_pow]; simp, h⟩
theorem bit3 {s i : Nat} (hs : s < 8) (h : s.testBit i = true) : i < 3 := by
 refine Decidable.byContradiction fun q => ?_
 have : s < 2 ^ i := Nat.lt_of_lt_of_le hs (Nat.pow_le_pow_right (n := 2) (by decide) (by (first | lia | omega (config := {})) : 3 <= i))
 refine nG fun ng => ?_
 rw [Nat.testBit_lt_two_pow this] at h; cases h
theorem fold_bit (led : List Nat) (i : Nat) : ∀ (l : List Nat) (a : Nat), (l.foldl (fun a m => a ||| led.getD m 0) a).testBit i = (a.testBit i || l.any fun m => (led.getD m 0).testBit i)
 | [], a => by simp
 | m :: l, a => by
  rw [List.foldl_cons, fold_bit led i l, Nat.testBit_or, List.any_cons, Bool.or_assoc]
theorem fwd_bit (led : List Nat) (s i : Nat) : (fwd led s).testBit i = (List.range 3).any fun m => s.testBit m && (led.getD m 0).testBit i := by
 unfold fwd
 rw [fold_bit, Nat.zero_testBit, Bool.false_or, List.any_filter]
theorem or_lt8 {a b : Nat} (ha : a < 8) (hb : b < 8) : a ||| b < 8 := Nat.or_lt_two_pow (n := 3) ha hb
theorem fold_lt (led : List Nat) (h : ∀ m, led.getD m 0 < 8) : ∀ (l : List Nat) (a : Nat), a < 8 -> l.foldl (fun a m => a ||| led.getD m 0) a < 8
 | [], a, ha => ha
 | m :: l, a, ha => fold_lt led h l _ (or_lt8 ha (h m))
theorem fwd_lt {led : List Nat} (h : ∀ m, led.getD m 0 < 8) (s : Nat) : fwd led s < 8 := fold_lt led h _ 0 (by decide)
theorem getD_lt {led : List Nat} (h : led.all (· < 8) = true) (m : Nat) : led.getD m 0 < 8 := by
 rw [List.getD_eq_getElem?_getD]
 cases e : led[m]? with
 | none => decide
 | some x =>
  have := List.all_eq_true.mp h x (List.mem_of_getElem? e)
  simpa using this
theorem galois {led : List Nat} (hl : led.length = 3) (s T : Nat) (hs : s < 8) : mt s (zV led T) = mt (fwd led s) T := by
 rw [Bool.eq_iff_iff, mt_iff, mt_iff]
 constructor
 ·rintro ⟨m, h1, h2⟩
  rw [preS_mask, mask_bit, Bool.and_eq_true] at h2
  have h2' : mt (led.getD m 0) T = true := h2.2
  refine nG fun ng => ?_
  obtain ⟨i, h3, h4⟩ := mt_iff.mp h2'
  refine ng ?_
  clear ng
  refine ⟨i, ?_, h4⟩
  rw [fwd_bit, List.any_eq_true]
  exact ⟨m, List.mem_range.mpr (bit3 hs h1), by rw [h1, h3]; rfl⟩
 ·rintro ⟨i, h1, h2⟩
  rw [fwd_bit, List.any_eq_true] at h1
  refine nG fun ng => ?_
  obtain ⟨m, hm, h3⟩ := h1
  rw [Bool.and_eq_true] at h3
  refine ng ?_
  clear ng
  refine ⟨m, h3.1, ?_⟩
  rw [preS_mask, mask_bit, Bool.and_eq_true]
  exact ⟨by rw [hl]; exact decide_eq_true (List.mem_range.mp hm), mt_iff.mpr ⟨i, h3.2, h2⟩⟩
open PyProof.Rows in
theorem any_range {val : Nat -> Int} {i : Nat} {k : Int} : ((List.range i).map val).any (· == k) = true ↔ ∃ t, t < i /\ val t = k := by
 rw [List.any_eq_true]
 constructor
 ·rintro ⟨x, hx, e⟩
  refine nG fun ng => ?_
  obtain ⟨t, ht, rfl⟩ := List.mem_map.mp hx
  refine ng ?_
  clear ng
  exact ⟨t, List.mem_range.mp ht, by simpa using e⟩
 ·rintro ⟨t, ht, e⟩
  exact ⟨val t, List.mem_map.mpr ⟨t, List.mem_range.mpr ht, rfl⟩, by simpa using e⟩
open Classical in
theorem firstMet_count (val : Nat -> Int) : ∀ n, (PyProof.Rows.firstMet val n).length = ((List.range n).filter fun s => decide (∀ t, t < s -> val t ≠ val s)).length
 | 0 => rfl
 | n + 1 => by
  have ih := firstMet_count val n
  rw [PyProof.Rows.firstMet_succ, List.range_succ, List.filter_append, List.length_append, <- ih]
  unfold PyProof.Rows.step_dedup
  by_cases h : (PyProof.Rows.firstMet val n).any (· == val n) = true
  ·rw [if_pos h]
   rw [PyProof.Rows.firstMet_any, any_range] at h
   obtain ⟨t, ht, e⟩ := h
   have : ¬ ∀ t, t < n -> val t ≠ val n := fun q => q t ht e
   rw [List.filter_cons_of_neg (p := fun s => decide (∀ t, t < s -> val t ≠ val s)) (fun q => this (of_decide_eq_true q))]; rfl
  ·rw [if_neg h]
   rw [PyProof.Rows.firstMet_any, any_range] at h
   have : ∀ t, t < n -> val t ≠ val n := fun t ht e => h ⟨t, ht, e⟩
   rw [List.length_append, List.filter_cons_of_pos (p := fun s => decide (∀ t, t < s -> val t ≠ val s)) (decide_eq_true this)]; rfl
theorem filter_eq {p q : Nat -> Bool} : ∀ (l : List Nat), (∀ x ∈ l, p x = true -> q x = true) -> (l.filter q).length <= (l.filter p).length -> ∀ x ∈ l, q x = true -> p x = true
 | [], _, _, x, hx, _ => by cases hx
 | a :: l, h, hl, x, hx, e => by
  have hsub : ∀ x ∈ l, p x = true -> q x = true := fun x hx => h x (List.mem_cons_of_mem _ hx)
  have mono : (l.filter p).length <= (l.filter q).length := by
   clear hl hx e
   induction l with
   | nil => exact Nat.le_refl _
   | cons b l ih =>
    have := ih (fun x hx => h x (by rcases List.mem_cons.mp hx with r | r <;> simp [r])) fun x hx => hsub x (List.mem_cons_of_mem _ hx)
    have hb := hsub b List.mem_cons_self
    cases hp : p b <;> cases hq : q b <;> simp_all <;> (first | lia | omega (config := {}))
  have fp : ∀ r : Nat -> Bool, (List.filter r (a :: l)).length = (List.filter r l).length + (if r a then 1 else 0) := fun r => by
   cases hr : r a
   ·rw [List.filter_cons_of_neg (p := r) (by simp [hr])]; rfl
   ·rw [List.filter_cons_of_pos (p := r) hr]; rfl
  rw [fp p, fp q] at hl
  have h1 := h a List.mem_cons_self
  rcases List.mem_cons.mp hx with r | r
  ·subst r
   rw [if_pos e] at hl
   cases hp : p x with
   | true => rfl
   | false => rw [hp] at hl; simp at hl; (first | lia | omega (config := {}))
  ·refine filter_eq l hsub ?_ x r e
   cases hp : p a with
   | true =>
    rw [hp, h1 hp] at hl
    simp at hl; exact hl
   | false =>
    rw [hp] at hl
    have : (if (false : Bool) = true then 1 else 0) = 0 := rfl
    rw [this] at hl
    (first | lia | omega (config := {}))
theorem same_parts {f g : Nat -> Int} {n : Nat} (href : ∀ s t, s < n -> t < n -> g s = g t -> f s = f t) (hc : (PyProof.Rows.firstMet g n).length <= (PyProof.Rows.firstMet f n).length) : ∀ s t, s < n -> t < n -> f s = f t -> g s = g t := by
 classical
 rw [firstMet_count, firstMet_count] at hc
 have key := filter_eq (p := fun s => decide (∀ t, t < s -> f t ≠ f s)) (q := fun s => decide (∀ t, t < s -> g t ≠ g s)) (List.range n) (fun x hx h => by
  have h' := of_decide_eq_true h
  exact decide_eq_true fun t ht e => h' t ht (href t x (Nat.lt_trans ht (List.mem_range.mp hx)) (List.mem_range.mp hx) e)) hc
 have least : ∀ s, s < n -> ∃ r, r <= s /\ g r = g s /\ ∀ t, t < r -> g t ≠ g r := by
  intro s
  induction s using Nat.strongRecOn with
  | _ s ih =>
   intro hs
   by_cases h : ∃ t, t < s /\ g t = g s
   ·obtain ⟨t, ht, e⟩ := h
    obtain ⟨r, h1, h2, h3⟩ := ih t ht (Nat.lt_trans ht hs)
    exact ⟨r, by (first | lia | omega (config := {})), h2.trans e, h3⟩
   ·exact ⟨s, Nat.le_refl _, rfl, fun t ht e => h ⟨t, ht, e⟩⟩
 intro s t hs ht e
 refine nG fun ng => ?_
 obtain ⟨r, r1, r2, r3⟩ := least s hs
 obtain ⟨r', q1, q2, q3⟩ := least t ht
 have fr := of_decide_eq_true (key r (List.mem_range.mpr (by (first | lia | omega (config := {})))) (decide_eq_true r3))
 have fr' := of_decide_eq_true (key r' (List.mem_range.mpr (by (first | lia | omega (config := {})))) (decide_eq_true q3))
 have e1 : f r = f s := href r s (by (first | lia | omega (config := {}))) hs r2
 have e2 : f r' = f t := href r' t (by (first | lia | omega (config := {}))) ht q2
 have e3 : f r = f r' := e1.trans (e.trans e2.symm)
 have : r = r' := by
  rcases Nat.lt_trichotomy r r' with h | h | h
  ·exact absurd e3 (fr' r h)
  ·exact h
  ·exact absurd e3.symm (fr r' h)
 subst this
 refine ng ?_
 clear ng
 exact r2.symm.trans q2
end
section
theorem getElem?_idx {α : Type} [BEq α] [LawfulBEq α] {a : α} : ∀ {l : List α}, a ∈ l -> l[l.idxOf a]? = some a
 | [], h => by cases h
 | b :: l, h => by
  rw [List.idxOf_cons]
  by_cases q : b = a
  ·subst q; simp
  ·rw [show (b == a) = false by simpa using q]
   have h' : a ∈ l := by
    rcases List.mem_cons.mp h with r | r
    ·exact absurd r.symm q
    ·exact r
   simpa using getElem?_idx h'
theorem idxOf_inj {α : Type} [BEq α] [LawfulBEq α] {l : List α} {a b : α} (ha : a ∈ l) (hb : b ∈ l) (h : l.idxOf a = l.idxOf b) : a = b := by
 have h1 := getElem?_idx ha
 have h2 := getElem?_idx hb
 rw [h, h2] at h1
 exact (Option.some.inj h1).symm
noncomputable abbrev kf (kinds : List Nat) (s : Nat) : Nat := kinds.getD s 0
noncomputable abbrev lineOf (d0 d1 : Nat -> Nat) (kinds : List Nat) (s : Nat) : Nat × Nat × Nat := (kf kinds s, kf kinds (d0 s), kf kinds (d1 s))
theorem moore_len (d0 d1 : Nat -> Nat) (kinds : List Nat) : (moore d0 d1 kinds).length = 8 := by simp [moore]
theorem moore_at {d0 d1 : Nat -> Nat} {kinds : List Nat} {s : Nat} (hs : s < 8) : kf (moore d0 d1 kinds) s = ((List.range 8).map (lineOf d0 d1 kinds)).idxOf (lineOf d0 d1 kinds s) := by
 show (moore d0 d1 kinds).getD s 0 = _
 unfold moore
 rw [List.getD_eq_getElem?_getD, List.getElem?_map, List.getElem?_map, List.getElem?_range hs]
 rfl
theorem moore_eq {d0 d1 : Nat -> Nat} {kinds : List Nat} {s t : Nat} (hs : s < 8) (ht : t < 8) : kf (moore d0 d1 kinds) s = kf (moore d0 d1 kinds) t ↔ lineOf d0 d1 kinds s = lineOf d0 d1 kinds t := by
 rw [moore_at hs, moore_at ht]
 constructor
 ·exact idxOf_inj (List.mem_map.mpr ⟨s, List.mem_range.mpr hs, rfl⟩) (List.mem_map.mpr ⟨t, List.mem_range.mpr ht, rfl⟩)
 ·intro e; rw [e]
theorem val_kf (kinds : List Nat) (i : Nat) : (kinds.map fun (n : Nat) => (n : Int)).getD i 0 = (kf kinds i : Int) := by
 show _ = ((kinds.getD i 0 : Nat) : Int)
 rw [List.getD_eq_getElem?_getD, List.getD_eq_getElem?_getD, List.getElem?_map]
 cases kinds[i]? <;> rfl
theorem nkinds_eq {kinds : List Nat} (h : kinds.length = 8) : zx kinds = (PyProof.Rows.firstMet (fun i => (kf kinds i : Int)) 8).length := by
 unfold zx
 rw [h]
 congr 2
 funext i
 exact val_kf kinds i
theorem nkinds_le {kinds : List Nat} (h : kinds.length = 8) : zx kinds <= 8 := by
 rw [nkinds_eq h]; exact PyProof.Rows.firstMet_length_le _ 8
theorem nkinds_pos {kinds : List Nat} (h : kinds.length = 8) : 0 < zx kinds := by
 rw [nkinds_eq h, firstMet_count]
 have : 0 ∈ (List.range 8).filter fun s => decide (∀ t, t < s -> ((kf kinds t : Nat) : Int) ≠ ((kf kinds s : Nat) : Int)) := by
  rw [List.mem_filter]
  exact ⟨by decide, decide_eq_true fun t ht => absurd ht (Nat.not_lt_zero _)⟩
 exact List.length_pos_of_mem this
structure Kin (φ : Nat -> Nat) (ends : Nat) (kinds : List Nat) : Prop where
 len : kinds.length = 8
 coarse : ∀ s t, s < 8 -> t < 8 -> φ s = φ t -> kf kinds s = kf kinds t
 fine : ∀ s t, s < 8 -> t < 8 -> kf kinds s = kf kinds t -> kd ends s = kd ends t
theorem Kin.next {φ d0 d1 : Nat -> Nat} {ends : Nat} {kinds : List Nat} (h0 : ∀ s, s < 8 -> d0 s < 8) (h1 : ∀ s, s < 8 -> d1 s < 8) (c0 : ∀ s t, s < 8 -> t < 8 -> φ s = φ t -> φ (d0 s) = φ (d0 t)) (c1 : ∀ s t, s < 8 -> t < 8 -> φ s = φ t -> φ (d1 s) = φ (d1 t)) (K : Kin φ ends kinds) : Kin φ ends (moore d0 d1 kinds) := by
 refine ⟨moore_len .., fun s t hs ht e => (moore_eq hs ht).mpr ?_, fun s t hs ht e => ?_⟩
 ·show (_, _, _) = (_, _, _)
  rw [K.coarse s t hs ht e, K.coarse _ _ (h0 s hs) (h0 t ht) (c0 s t hs ht e), K.coarse _ _ (h1 s hs) (h1 t ht) (c1 s t hs ht e)]
 ·exact K.fine s t hs ht (congrArg (·.1) ((moore_eq hs ht).mp e))
theorem moore_ends {φ d0 d1 : Nat -> Nat} {ends : Nat} (h0 : ∀ s, s < 8 -> d0 s < 8) (h1 : ∀ s, s < 8 -> d1 s < 8) (c0 : ∀ s t, s < 8 -> t < 8 -> φ s = φ t -> φ (d0 s) = φ (d0 t)) (c1 : ∀ s t, s < 8 -> t < 8 -> φ s = φ t -> φ (d1 s) = φ (d1 t)) :
  ∀ (m count : Nat) (kinds : List Nat), Kin φ ends kinds -> (count = 0 \/ ∃ k, Kin φ ends k /\ count = zx k /\ kinds = moore d0 d1 k) -> 9 <= m + count ->
   ∃ ks, mooreL d0 d1 m count kinds = some ks /\ Kin φ ends ks /\ ∀ s t, s < 8 -> t < 8 -> kf ks s = kf ks t -> kf ks (d0 s) = kf ks (d0 t) /\ kf ks (d1 s) = kf ks (d1 t)
 | 0, count, kinds, K, hc, hm => by
  exfalso
  rcases hc with h | ⟨k, Kk, h, _⟩
  ·(first | lia | omega (config := {}))
  ·have := nkinds_le Kk.len; (first | lia | omega (config := {}))
 | m + 1, count, kinds, K, hc, hm => by
  dsimp only [mooreL]
  by_cases q : count < zx kinds
  ·rw [if_pos q]
   exact moore_ends h0 h1 c0 c1 m _ _ (K.next h0 h1 c0 c1) (.inr ⟨kinds, K, rfl, rfl⟩) (by (first | lia | omega (config := {})))
  ·rw [if_neg q]
   refine ⟨kinds, rfl, K, ?_⟩
   rcases hc with h | ⟨k, Kk, h, hk⟩
   ·have := nkinds_pos K.len; (first | lia | omega (config := {}))
   ·subst hk
    have hsame := same_parts (f := fun i => (kf k i : Int)) (g := fun i => (kf (moore d0 d1 k) i : Int)) (n := 8) (fun s t hs ht e => by
     have e' : kf (moore d0 d1 k) s = kf (moore d0 d1 k) t := Int.ofNat.inj e
     have := congrArg (·.1) ((moore_eq hs ht).mp e')
     exact congrArg Int.ofNat this) (by rw [<- nkinds_eq K.len, <- nkinds_eq Kk.len]; (first | lia | omega (config := {})))
    intro s t hs ht e
    have hl := (moore_eq hs ht).mp e
    have e0 : kf k (d0 s) = kf k (d0 t) := congrArg (·.2.1) hl
    have e1 : kf k (d1 s) = kf k (d1 t) := congrArg (·.2.2) hl
    exact ⟨Int.ofNat.inj (hsame _ _ (h0 s hs) (h0 t ht) (congrArg Int.ofNat e0)), Int.ofNat.inj (hsame _ _ (h1 s hs) (h1 t ht) (congrArg Int.ofNat e1))⟩
noncomputable abbrev rowL (a : Nat) (rows : List (Nat × Nat × Nat)) : List Nat := rows.map fun r => 2 ^ (if a = 0 then r.2.1 else r.2.2)
noncomputable abbrev good1 (rows : List (Nat × Nat × Nat)) : Nat := mask rows.length fun m => (rows.getD m (0, 0, 0)).1 == 1
theorem kd_mt (g s : Nat) : kd g s = if mt s g then 1 else 0 := by
 unfold kd mt
 by_cases h : s &&& g = 0 <;> simp [h]
theorem turned_at {l : List Nat} {k p0 p1 : Nat -> Nat} {s0 : Nat} {B : List Nat} {rows : List (Nat × Nat × Nat)} (H : BfsOK id k p0 p1 s0 B rows B.length) {m : Nat} (hm : m < B.length) :
  rows.getD m (0, 0, 0) = (k (B.getD m 0), B.idxOf (p0 (B.getD m 0)), B.idxOf (p1 (B.getD m 0))) /\ p0 (B.getD m 0) ∈ B /\ p1 (B.getD m 0) ∈ B := by
 refine nG fun ng => ?_
 obtain ⟨s, hs⟩ : ∃ s, B[m]? = some s := ⟨_, List.getElem?_eq_getElem hm⟩
 have hg : B.getD m 0 = s := by rw [List.getD_eq_getElem?_getD, hs]; rfl
 obtain ⟨h1, h2, h3⟩ := H.row m s hm hs
 refine ng ?_
 clear ng
 rw [hg]
 rw [List.map_id] at h2 h3
 refine ⟨?_, h2, h3⟩
 rw [List.getD_eq_getElem?_getD, h1]
 unfold yB
 rw [List.map_id]; rfl
theorem step_phi {led : List Nat} {B : List Nat} {f : Nat -> Nat} (hl : led.length = 3) (hB : ∀ m, m < B.length -> f m < B.length /\ B.getD (f m) 0 = zV led (B.getD m 0)) {L : List Nat} (hL : L.length = B.length) (hLm : ∀ m, m < B.length -> L.getD m 0 = 2 ^ f m) {s : Nat} (hs : s < 8) :
  zV L (zV B s) = zV B (fwd led s) := by
 rw [preS_mask L, preS_mask B (fwd led s), hL]
 refine mask_congr fun m hm => ?_
 refine nG fun ng => ?_
 obtain ⟨h1, h2⟩ := hB m hm
 refine ng ?_
 clear ng
 show mt (L.getD m 0) (zV B s) = mt (B.getD m 0) (fwd led s)
 rw [hLm m hm, mt_pow, preS_mask B s, mask_bit, decide_eq_true h1, Bool.true_and]
 show mt (B.getD (f m) 0) s = _
 rw [h2, mt_comm, galois hl s _ hs, mt_comm]
inductive TwiceR (l0 l1 : List Nat) (first ends : Nat) : Prop where
 | mk (B : List Nat) (rows : List (Nat × Nat × Nat)) (U : List Nat) (out : List (Nat × Nat × Nat)) (h1 : bfsK id (kd first) (zV l0) (zV l1) 20 [ends] [] = some (B, rows)) (h2 : rows.length = B.length) (h3 : B.length <= 8) (h4 : rows ≠ []) (h5 : (∀ r ∈ rows, r.1 < 2 /\ r.2.1 < B.length /\ r.2.2 < B.length)) (h6 : bfsK id (kd 1) (zV (rowL 0 rows)) (zV (rowL 1 rows)) 20 [good1 rows] [] = some (U, out)) (h7 : leastR l0 l1 first ends = some out) (h8 : U.length <= 8) : TwiceR l0 l1 first ends
theorem twice {l0 l1 : List Nat} {first ends : Nat} (h0 : l0.length = 3) (h1 : l1.length = 3) (a0 : l0.all (· < 8) = true) (a1 : l1.all (· < 8) = true) (hf : first < 8) (he : ends < 8) :
  TwiceR l0 l1 first ends := by
 have p0lt : ∀ s, s < 8 -> zV l0 s < 8 := fun s _ => by rw [preS_mask, h0]; exact mask_lt 3 _
 have p1lt : ∀ s, s < 8 -> zV l1 s < 8 := fun s _ => by rw [preS_mask, h1]; exact mask_lt 3 _
 have d0lt : ∀ s, s < 8 -> fwd l0 s < 8 := fun s _ => fwd_lt (getD_lt a0) s
 have d1lt : ∀ s, s < 8 -> fwd l1 s < 8 := fun s _ => fwd_lt (getD_lt a1) s
 refine nG fun ng => ?_
 obtain ⟨B, rows, e1, H⟩ := bfs_start (key := id) (k := kd first) he p0lt p1lt
 have hBl : B.length <= 8 := by
  have := H.nd
  rw [List.map_id] at this
  exact nodup_le 8 B this H.lt
 have tat : ∀ m, m < B.length -> _ := fun m hm => turned_at (l := B) H hm
 have idx : ∀ t, t ∈ B -> B.idxOf t < B.length /\ B.getD (B.idxOf t) 0 = t := fun t ht => ⟨List.idxOf_lt_length_of_mem ht, by rw [List.getD_eq_getElem?_getD, getElem?_idx ht]; rfl⟩
 have rl0 : ∀ m, m < B.length -> (rowL 0 rows).getD m 0 = 2 ^ B.idxOf (zV l0 (B.getD m 0)) := fun m hm => by
  have := (tat m hm).1
  have hm' : m < rows.length := by rw [H.len]; exact hm
  rw [List.getD_eq_getElem?_getD, List.getElem?_map, List.getElem?_eq_getElem hm']
  rw [List.getD_eq_getElem?_getD, List.getElem?_eq_getElem hm'] at this
  have this' : rows[m] = _ := this
  show 2 ^ rows[m].2.1 = _
  rw [this']
 have rl1 : ∀ m, m < B.length -> (rowL 1 rows).getD m 0 = 2 ^ B.idxOf (zV l1 (B.getD m 0)) := fun m hm => by
  have := (tat m hm).1
  have hm' : m < rows.length := by rw [H.len]; exact hm
  rw [List.getD_eq_getElem?_getD, List.getElem?_map, List.getElem?_eq_getElem hm']
  rw [List.getD_eq_getElem?_getD, List.getElem?_eq_getElem hm'] at this
  have this' : rows[m] = _ := this
  show 2 ^ rows[m].2.2 = _
  rw [this']
 have sp0 : ∀ s, s < 8 -> zV (rowL 0 rows) (zV B s) = zV B (fwd l0 s) := fun s hs => step_phi (f := fun m => B.idxOf (zV l0 (B.getD m 0))) h0 (fun m hm => idx _ (tat m hm).2.1) (by rw [List.length_map, H.len]) rl0 hs
 have sp1 : ∀ s, s < 8 -> zV (rowL 1 rows) (zV B s) = zV B (fwd l1 s) := fun s hs => step_phi (f := fun m => B.idxOf (zV l1 (B.getD m 0))) h1 (fun m hm => idx _ (tat m hm).2.2) (by rw [List.length_map, H.len]) rl1 hs
 have hB0 : B.getD 0 0 = ends := by rw [List.getD_eq_getElem?_getD, H.at0]; rfl
 have hBpos : 0 < B.length := (List.getElem?_eq_some_iff.mp H.at0).1
 have skd : ∀ s, s < 8 -> kd 1 (zV B s) = kd ends s := fun s hs => by
  rw [kd_mt, kd_mt]
  have : mt (zV B s) 1 = mt s ends := by
   rw [mt_comm, show (1 : Nat) = 2 ^ 0 from rfl, mt_pow, preS_mask, mask_bit, decide_eq_true hBpos, Bool.true_and, hB0]
   exact mt_comm _ _
  rw [this]
 have hg1 : good1 rows = zV B first := by
  rw [preS_mask]
  show mask rows.length _ = _
  rw [H.len]
  refine mask_congr fun m hm => ?_
  rw [(tat m hm).1]
  show (kd first (B.getD m 0) == 1) = mt (B.getD m 0) first
  rw [kd_mt]
  cases mt (B.getD m 0) first <;> rfl
 have cph0 : ∀ s t, s < 8 -> t < 8 -> zV B s = zV B t -> zV B (fwd l0 s) = zV B (fwd l0 t) := fun s t hs ht e => by rw [<- sp0 s hs, <- sp0 t ht, e]
 have cph1 : ∀ s t, s < 8 -> t < 8 -> zV B s = zV B t -> zV B (fwd l1 s) = zV B (fwd l1 t) := fun s t hs ht e => by rw [<- sp1 s hs, <- sp1 t ht, e]
 have k0at : ∀ s, s < 8 -> kf ((List.range 8).map fun s => kd ends s) s = kd ends s := fun s hs => by
  show List.getD _ s 0 = _
  rw [List.getD_eq_getElem?_getD, List.getElem?_map, List.getElem?_range hs]; rfl
 have K0 : Kin (zV B) ends ((List.range 8).map fun s => kd ends s) := ⟨by simp, fun s t hs ht e => by rw [k0at s hs, k0at t ht, <- skd s hs, <- skd t ht, e], fun s t hs ht e => by rw [k0at s hs, k0at t ht] at e; exact e⟩
 obtain ⟨ks, e2, Kk, stab⟩ := moore_ends d0lt d1lt cph0 cph1 20 0 _ K0 (.inl rfl) (by (first | lia | omega (config := {})))
 have meets : ∀ (m : Nat), ∀ s t, m < B.length -> s < 8 -> t < 8 -> kf ks s = kf ks t -> mt s (B.getD m 0) = mt t (B.getD m 0) := by
  intro m
  induction m using Nat.strongRecOn with
  | _ m ih =>
   intro s t hm hs ht e
   obtain ⟨x, hx⟩ : ∃ x, B[m]? = some x := ⟨_, List.getElem?_eq_getElem hm⟩
   have hgx : B.getD m 0 = x := by rw [List.getD_eq_getElem?_getD, hx]; rfl
   rcases H.from' m x hx with h | ⟨j, y, hj, _, hy, h⟩
   ·subst h
    rw [hB0]
    have := Kk.fine s t hs ht e
    rw [kd_mt, kd_mt] at this
    cases h1 : mt s ends <;> cases h2 : mt t ends <;> rw [h1, h2] at this <;> first | rfl | (simp at this)
   ·have hgy : B.getD j 0 = y := by rw [List.getD_eq_getElem?_getD, hy]; rfl
    obtain ⟨s0, s1⟩ := stab s t hs ht e
    rw [hgx]
    rcases h with rfl | rfl
    ·rw [galois h0 s _ hs, galois h0 t _ ht, <- hgy]
     exact ih j hj _ _ (by (first | lia | omega (config := {}))) (d0lt s hs) (d0lt t ht) s0
    ·rw [galois h1 s _ hs, galois h1 t _ ht, <- hgy]
     exact ih j hj _ _ (by (first | lia | omega (config := {}))) (d1lt s hs) (d1lt t ht) s1
 have hkey : ∀ s t, s < 8 -> t < 8 -> (id (zV B s) = id (zV B t) ↔ kf ks s = kf ks t) := fun s t hs ht => by
  constructor
  ·exact Kk.coarse s t hs ht
  ·intro e
   show zV B s = zV B t
   rw [preS_mask, preS_mask]
   refine mask_congr fun m hm => ?_
   show mt (B.getD m 0) s = mt (B.getD m 0) t
   rw [mt_comm _ s, mt_comm _ t]
   exact meets m s t hm hs ht e
 obtain ⟨S, out, e3, HS⟩ := bfs_start (key := kf ks) (k := kd ends) hf d0lt d1lt
 have sim := bfs_sim (key := kf ks) (key' := id) (k := kd ends) (k' := kd 1) (φ := zV B) d0lt d1lt sp0 sp1 skd hkey 20 [first] [] (by simpa using hf)
 rw [e3] at sim
 have e4 : leastR l0 l1 first ends = some out := by
  unfold leastR
  rw [e2]
  dsimp only
  rw [e3]
 refine ng ?_
 clear ng
 refine ⟨B, rows, S.map (zV B), out, e1, H.len, hBl, fun q => ?_, fun r hr => ?_, ?_, e4, ?_⟩
 ·have := H.len; rw [q] at this
  simp at this; (first | lia | omega (config := {}))
 ·refine nG fun ng => ?_
  obtain ⟨m, hm, rfl⟩ := List.mem_iff_getElem.mp hr
  have hm' : m < B.length := by rw [<- H.len]; exact hm
  have t := tat m hm'
  have g : rows.getD m (0, 0, 0) = rows[m] := by rw [List.getD_eq_getElem?_getD, List.getElem?_eq_getElem hm]; rfl
  rw [g] at t
  refine ng ?_
  clear ng
  rw [t.1]
  refine ⟨?_, (idx _ t.2.1).1, (idx _ t.2.2).1⟩
  show kd first _ < 2
  unfold kd; split <;> decide
 ·rw [hg1]; exact sim
 ·rw [List.length_map]
  have := HS.nd
  exact nodup_le 8 S (List.Pairwise.of_map (kf ks) (fun a b h e => h (by rw [e])) this) HS.lt
end
section
variable {C : Cx} {X : zj}
theorem item_nL {l : List Nat} {i x : Nat} (h : l[i]? = some x) (hi : i < 4096) : zH (nL l) (nI i) = some (nI x) := by
 show (if 0 <= (i : Int) /\ (i : Int) < 4096 then (l.map nI)[(i : Int).toNat]? else none) = _
 rw [if_pos ⟨by omega, by omega⟩, Int.toNat_natCast, List.getElem?_map, h]; rfl
theorem item_L {l : List PV} {i : Nat} {x : PV} (h : l[i]? = some x) (hi : i < 4096) : zH (.list l) (nI i) = some x := by
 show (if 0 <= (i : Int) /\ (i : Int) < 4096 then l[(i : Int).toNat]? else none) = _
 rw [if_pos ⟨by omega, by omega⟩, Int.toNat_natCast, h]
theorem sh_nL (l : List Nat) : (l.map nI).all (sh 3) = true := by
 rw [List.all_eq_true]
 intro p hp
 refine nG fun ng => ?_
 obtain ⟨a, _, rfl⟩ := List.mem_map.mp hp
 refine ng ?_
 clear ng
 rfl
theorem eqp_nI (a b : Nat) : eqp (nI a) (nI b) = (a == b) := by
 show ((a : Int) == (b : Int)) = (a == b)
 by_cases h : a = b
 ·subst h; simp
 ·rw [show (a == b) = false by simpa using h]
  simpa using fun e : (a : Int) = b => h (by omega)
theorem any_nL (l : List Nat) (x : Nat) : ((l.map nI).any fun y => eqp y (nI x)) = decide (x ∈ l) := by
 rw [List.any_map]
 induction l with
 | nil => rfl
 | cons a l ih =>
  rw [List.any_cons, ih]
  show (eqp (nI a) (nI x) || _) = _
  rw [eqp_nI]
  by_cases h : a = x
  ·subst h; simp
  ·rw [show (a == x) = false by simpa using h]
   simp [Ne.symm h]
theorem notIn_nL (l : List Nat) (x : Nat) : hNotIn (nI x) (nL l) = some (.bool (!decide (x ∈ l))) := by
 show (if (sh 3 (nI x) && (l.map nI).all (sh 3)) = true then some (PV.bool (!(l.map nI).any fun y => eqp y (nI x))) else none) = _
 rw [sh_nL, if_pos (show (sh 3 (nI x) && true) = true from rfl), any_nL]
theorem findIdx_nL (x : Nat) : ∀ l : List Nat, (l.map nI).findIdx (fun y => eqp y (nI x)) = l.idxOf x
 | [] => rfl
 | a :: l => by
  rw [List.map_cons, List.findIdx_cons, List.idxOf_cons, eqp_nI, findIdx_nL x l]
theorem index_nL {l : List Nat} {x : Nat} (h : x ∈ l) : hIndex [nL l, nI x] = some (nI (l.idxOf x)) := by
 show (if (sh 3 (nI x) && (l.map nI).all (sh 3) && (l.map nI).any (fun y => eqp y (nI x))) = true then some (PV.int (((l.map nI).findIdx (fun y => eqp y (nI x)) : Nat) : Int)) else none) = _
 rw [sh_nL, any_nL, decide_eq_true h, if_pos (show (sh 3 (nI x) && true && true) = true from rfl), findIdx_nL]
theorem or_nI (a b : Nat) : hOr (nI a) (nI b) = some (nI (a ||| b)) := by
 show (if 0 <= (a : Int) /\ 0 <= (b : Int) then some (PV.int (((a : Int).toNat ||| (b : Int).toNat : Nat) : Int)) else none) = _
 rw [if_pos ⟨by omega, by omega⟩, Int.toNat_natCast, Int.toNat_natCast]
theorem and_nI (a b : Nat) : hAnd (nI a) (nI b) = some (nI (a &&& b)) := by
 show (if 0 <= (a : Int) /\ 0 <= (b : Int) then some (PV.int (((a : Int).toNat &&& (b : Int).toNat : Nat) : Int)) else none) = _
 rw [if_pos ⟨by omega, by omega⟩, Int.toNat_natCast, Int.toNat_natCast]
theorem e_own {fi : Nat} {p : Pl} {i : Nat} {f : CC (List PV)} {σ σ1 σ₂ : List zA} {xs : List PV} (h : f σ = some (xs, σ1)) (hl : xs.length <= 4096 /\ i < σ1.length) (h2 : p.set fi (.obj i) (newOwn i (.lst xs) σ1) = some σ₂) : cOwn fi p i f σ = some (.next, σ₂) := by
 unfold cOwn; rw [h]; dsimp only; rw [if_pos hl, h2]
theorem forL_next {fi : Nat} {p : Pl} {b : CC Fl} {x : PV} {xs : List PV} {σ σ1 σ₂ : List zA} {r : Option (Fl × List zA)} (h1 : p.set fi (.imm x) σ = some σ1) (h2 : b σ1 = some (.next, σ₂)) (h3 : cForL fi p b xs σ₂ = r) : cForL fi p b (x :: xs) σ = r := by
 dsimp only [cForL]; rw [h1]; dsimp only; rw [h2]; exact h3
theorem e_append {T : List Nat} {g : CC AV} {f : CC PV} {σ σ1 σ₂ : List zA} {i : Nat} {p : PV} {ys xs : List PV} (h1 : g σ = some (.obj i, σ1)) (h2 : f σ1 = some (p, σ₂)) (h3 : σ1[i]? = some (.lst ys)) (h4 : σ₂[i]? = some (.lst xs)) (h5 : xs.length < 4096) (h6 : T.contains i = false) : zf T g f σ = some (.next, σ₂.set i (.lst (xs ++ [p]))) := by
 unfold zf; rw [h1]; dsimp only; rw [h2]; dsimp only; rw [h3, h4]; dsimp only; rw [if_pos ⟨h5, h6⟩]
noncomputable abbrev SA (L : PV) (first ends : Nat) (tb : PV) (led m : Option AV) (xs : List PV) : List zA :=
 [.frame [some (.imm L), some (.imm (nI first)), some (.imm tb), none, none, none, none, none, none], .cell (some (.imm (nI ends))), .cell (some (.obj 7)), .cell led, .cell m, .cell none, .cell none, .lst xs, .dead, .dead, .dead, .dead, .dead, .dead, .dead, .dead, .dead]
theorem tbl_step {L : PV} {first ends : Nat} {t l : List Nat} {m x : Nat} {xs : List PV} (hx : l[m]? = some x) (hm : m < 4096) (ht : t.length <= 64) :
  b_least_4 (SA L first ends (nL t) (some (.imm (nL l))) (some (.imm (nI m))) xs) = some (.next, SA L first ends (nL (t ++ t.map (· ||| x))) (some (.imm (nL l))) (some (.imm (nI m))) xs) := by
 have e1 : zy (.loc 0) 12 1 [] (zE (zC 0 2)) zc e_least_5 (SA L first ends (nL t) (some (.imm (nL l))) (some (.imm (nI m))) xs) = some (.list ((t.map nI).map fun p => match p with | .int i => nI (i.toNat ||| x) | _ => .none), SA L first ends (nL t) (some (.imm (nL l))) (some (.imm (nI m))) xs) :=
  comp_eval' (ci := 12) (f := zE (zC 0 2)) (fe := e_least_5) (fun p => match p with | .int i => nI (i.toNat ||| x) | _ => .none) (σ1 := SA L first ends (nL t) (some (.imm (nL l))) (some (.imm (nI m))) xs) (u := nL t) rfl rfl (by rw [List.length_map]; omega) (by show 12 < 17; decide) (fun p hp => by
   obtain ⟨a, _, rfl⟩ := List.mem_map.mp hp
   refine zr rfl (z9 rfl rfl (item_nL hx hm)) ?_
   rw [or_nI]
   show some (nI (a ||| x)) = some (nI ((a : Int).toNat ||| x))
   rw [Int.toNat_natCast])
 have e2 : ((t.map nI).map fun p => match p with | .int i => nI (i.toNat ||| x) | _ => .none) = (t.map (· ||| x)).map nI := by
  rw [List.map_map, List.map_map]
  refine List.map_congr_left fun a _ => ?_
  show nI ((a : Int).toNat ||| x) = nI (a ||| x)
  rw [Int.toNat_natCast]
 rw [e2] at e1
 refine zF (zp (zr rfl e1 ?_) rfl) rfl
 show (if (t.map nI).length + ((t.map (· ||| x)).map nI).length <= 4096 then some (PV.list (t.map nI ++ (t.map (· ||| x)).map nI)) else none) = _
 rw [if_pos (by simp; omega), <- List.map_append]
noncomputable abbrev tabOf (a b c : Nat) : List Nat := (List.range 8).map (fwd [a, b, c])
theorem tab_eq (a b c : Nat) : (((([0] ++ [0].map (· ||| a)) ++ ([0] ++ [0].map (· ||| a)).map (· ||| b))) ++ ((([0] ++ [0].map (· ||| a)) ++ ([0] ++ [0].map (· ||| a)).map (· ||| b))).map (· ||| c)) = tabOf a b c := by
 simp only [List.map_cons, List.map_nil, List.cons_append, List.nil_append, Nat.zero_or]
 show _ = [fwd [a, b, c] 0, fwd [a, b, c] 1, fwd [a, b, c] 2, fwd [a, b, c] 3, fwd [a, b, c] 4, fwd [a, b, c] 5, fwd [a, b, c] 6, fwd [a, b, c] 7]
 have f : ∀ s, fwd [a, b, c] s = ((List.range 3).filter fun m => s.testBit m).foldl (fun x m => x ||| [a, b, c].getD m 0) 0 := fun _ => rfl
 rw [f 0, f 1, f 2, f 3, f 4, f 5, f 6, f 7]
 have g0 : ((List.range 3).filter fun m => Nat.testBit 0 m) = [] := by decide
 have g1 : ((List.range 3).filter fun m => Nat.testBit 1 m) = [0] := by decide
 have g2 : ((List.range 3).filter fun m => Nat.testBit 2 m) = [1] := by decide
 have g3 : ((List.range 3).filter fun m => Nat.testBit 3 m) = [0, 1] := by decide
 have g4 : ((List.range 3).filter fun m => Nat.testBit 4 m) = [2] := by decide
 have g5 : ((List.range 3).filter fun m => Nat.testBit 5 m) = [0, 2] := by decide
 have g6 : ((List.range 3).filter fun m => Nat.testBit 6 m) = [1, 2] := by decide
 have g7 : ((List.range 3).filter fun m => Nat.testBit 7 m) = [0, 1, 2] := by decide
 rw [g0, g1, g2, g3, g4, g5, g6, g7]
 simp
theorem led_step {L : PV} {first ends : Nat} {tb : PV} {m : Option AV} {xs : List PV} (a b c : Nat) (hx : xs.length < 4000) {fr : List (Option AV)} (hfr : fr = [some (.imm L), some (.imm (nI first)), some (.imm tb), none, none, none, none, none, none] \/ fr = [some (.imm L), some (.imm (nI first)), none, none, none, none, none, none, none]) :
  b_least_5 [.frame fr, .cell (some (.imm (nI ends))), .cell (some (.obj 7)), .cell (some (.imm (nL [a, b, c]))), .cell m, .cell none, .cell none, .lst xs, .dead, .dead, .dead, .dead, .dead, .dead, .dead, .dead, .dead] =
   some (.next, SA L first ends (nL (tabOf a b c)) (some (.imm (nL [a, b, c]))) (some (.imm (nI 2))) (xs ++ [nL (tabOf a b c)])) := by
 have e0 : zl 0 (.loc 2) (z5 (zB (cQ (.int 0)) zG)) [.frame fr, .cell (some (.imm (nI ends))), .cell (some (.obj 7)), .cell (some (.imm (nL [a, b, c]))), .cell m, .cell none, .cell none, .lst xs, .dead, .dead, .dead, .dead, .dead, .dead, .dead, .dead, .dead] =
   some (.next, SA L first ends (nL [0]) (some (.imm (nL [a, b, c]))) m xs) := by
  rcases hfr with rfl | rfl <;> exact zp rfl rfl
 have e1 : cFor 0 (.cell 4) (zO zz (zB (cQ (.int 3)) zG)) b_least_4 (SA L first ends (nL [0]) (some (.imm (nL [a, b, c]))) m xs) = some (.next, SA L first ends (nL (tabOf a b c)) (some (.imm (nL [a, b, c]))) (some (.imm (nI 2))) xs) := by
  refine e_for (v := .rng 0 3) rfl (xs := [nI 0, nI 1, nI 2]) rfl ?_
  refine forL_next rfl (tbl_step (m := 0) (x := a) rfl (by decide) (by simp)) ?_
  refine forL_next rfl (tbl_step (m := 1) (x := b) rfl (by decide) (by simp)) ?_
  refine forL_next rfl (tbl_step (m := 2) (x := c) rfl (by decide) (by simp)) ?_
  rw [tab_eq]; rfl
 refine zF e0 (zF e1 (zF (e_append rfl rfl rfl rfl (by omega) rfl) rfl))
end
section
variable {C : Cx} {X : zj}
theorem rng_items {n : Nat} (h : n < 2147483648) : items (.rng 0 (n : Int)) = some ((List.range n).map nI) := by
 show (if (-2147483648 : Int) < 0 /\ (n : Int) < 2147483648 /\ (-2147483648 : Int) < (n : Int) /\ (0 : Int) < 2147483648 then some (intsFrom 0 ((n : Int) - 0).toNat) else none) = _
 rw [if_pos ⟨by omega, by omega, by omega, by omega⟩]
 unfold intsFrom
 rw [Int.sub_zero, Int.toNat_natCast]
 congr 1
 exact List.map_congr_left fun k _ => by show PV.int (0 + (k : Int)) = nI k; rw [Int.zero_add]
theorem eq0_nI (n : Nat) : hEq (nI n) (.int 0) = some (.bool (n == 0)) := by
 have := eqp_nI n 0
 show some (PV.bool (eqp (nI n) (.int 0))) = _
 exact congrArg (fun b => some (PV.bool b)) this
theorem eqp_row (a b : Nat × Nat × Nat) : eqp (zI a) (zI b) = (a == b) := by
 refine nG fun ng => ?_
 obtain ⟨a1, a2, a3⟩ := a
 obtain ⟨b1, b2, b3⟩ := b
 refine ng ?_
 clear ng
 show (eqp (nI a1) (nI b1) && (eqp (nI a2) (nI b2) && (eqp (nI a3) (nI b3) && true))) = _
 rw [eqp_nI, eqp_nI, eqp_nI, Bool.and_true]
 rfl
theorem sh_row (l : List (Nat × Nat × Nat)) : (l.map zI).all (sh 3) = true := by
 rw [List.all_eq_true]
 intro p hp
 refine nG fun ng => ?_
 obtain ⟨a, _, rfl⟩ := List.mem_map.mp hp
 refine ng ?_
 clear ng
 rfl
theorem index_row {l : List (Nat × Nat × Nat)} {x : Nat × Nat × Nat} (h : x ∈ l) : hIndex [.list (l.map zI), zI x] = some (nI (l.idxOf x)) := by
 have h1 : ((l.map zI).any fun y => eqp y (zI x)) = true := by
  rw [List.any_eq_true]
  exact ⟨zI x, List.mem_map.mpr ⟨x, h, rfl⟩, by rw [eqp_row]; simp⟩
 have h2 : ∀ l : List (Nat × Nat × Nat), (l.map zI).findIdx (fun y => eqp y (zI x)) = l.idxOf x := fun l => by
  induction l with
  | nil => rfl
  | cons a l ih => rw [List.map_cons, List.findIdx_cons, List.idxOf_cons, eqp_row, ih]
 show (if (sh 3 (zI x) && (l.map zI).all (sh 3) && (l.map zI).any (fun y => eqp y (zI x))) = true then some (PV.int (((l.map zI).findIdx (fun y => eqp y (zI x)) : Nat) : Int)) else none) = _
 rw [sh_row, h1, if_pos (show (sh 3 (zI x) && true && true) = true from rfl), h2]
noncomputable abbrev SB (L tb ledP mP : PV) (first ends : Nat) (ct kinds lines : Option AV) (T0 T1 : List Nat) : List zA :=
 [.frame [some (.imm L), some (.imm (nI first)), some (.imm tb), ct, none, none, none, none, none], .cell (some (.imm (nI ends))), .cell (some (.obj 7)), .cell (some (.imm ledP)), .cell (some (.imm mP)), .cell kinds, .cell lines, .lst [nL T0, nL T1], .dead, .dead, .dead, .dead, .dead, .dead, .dead, .dead, .dead]
theorem kinds0 {L tb ledP mP : PV} {first ends : Nat} {T0 T1 : List Nat} :
  zl 0 (.cell 5) (zy (.loc 0) 13 1 [] (zO zz (zB (cQ (.int 8)) zG)) zc e_least_4) (SB L tb ledP mP first ends none none none T0 T1) = some (.next, SB L tb ledP mP first ends none (some (.imm (nL ((List.range 8).map (kd ends))))) none T0 T1) := by
 have e1 : zy (.loc 0) 13 1 [] (zO zz (zB (cQ (.int 8)) zG)) zc e_least_4 (SB L tb ledP mP first ends none none none T0 T1) = some (.list (((List.range 8).map nI).map fun p => match p with | .int i => nI (kd ends i.toNat) | _ => .none), SB L tb ledP mP first ends none none none T0 T1) :=
  comp_eval' (ci := 13) (fe := e_least_4) (fun p => match p with | .int i => nI (kd ends i.toNat) | _ => .none) (σ1 := SB L tb ledP mP first ends none none none T0 T1) (u := .rng 0 8) rfl (rng_items (n := 8) (by decide)) (by simp) (by show 13 < 17; decide) (fun p hp => by
   obtain ⟨a, _, rfl⟩ := List.mem_map.mp hp
   have ht : ∀ r, (a &&& ends == 0) = r -> zP (zM hEq (zh hAnd (zE (zC 13 0)) (zE (zK 1))) (zX (cQ (.int 0)))) (((SB L tb ledP mP first ends none none none T0 T1).map (clr 13)).set 13 (.frame [some (.imm (nI a))])) = some (r, ((SB L tb ledP mP first ends none none none T0 T1).map (clr 13)).set 13 (.frame [some (.imm (nI a))])) := fun r hr =>
    z1 (zY (zr rfl rfl (and_nI a ends)) rfl rfl (by rw [eq0_nI, hr]) rfl)
   show _ = some (nI (kd ends (a : Int).toNat), _)
   rw [Int.toNat_natCast]
   unfold kd
   by_cases h : a &&& ends = 0
   ·rw [if_pos h]; exact e_ifT (ht true (by simpa using h)) rfl
   ·rw [if_neg h]; exact zv (ht false (by simpa using h)) rfl)
 have e2 : (((List.range 8).map nI).map fun p => match p with | .int i => nI (kd ends i.toNat) | _ => .none) = ((List.range 8).map (kd ends)).map nI := by
  rw [List.map_map, List.map_map]
  refine List.map_congr_left fun a _ => ?_
  show nI (kd ends (a : Int).toNat) = nI (kd ends a)
  rw [Int.toNat_natCast]
 rw [e2] at e1
 exact zp e1 rfl
structure Tab (T : List Nat) (d : Nat -> Nat) : Prop where
 at' : ∀ k, k < 8 -> T[k]? = some (d k)
 lt : ∀ k, k < 8 -> d k < 8
theorem kf_at {K : List Nat} (hK : K.length = 8) {k : Nat} (h : k < 8) : K[k]? = some (kf K k) := by
 show _ = some (K.getD k 0)
 rw [List.getD_eq_getElem?_getD, List.getElem?_eq_getElem (by omega)]; rfl
theorem round_step {L tb ledP mP : PV} {first ends c : Nat} {T0 T1 K : List Nat} {d0 d1 : Nat -> Nat} (h0 : Tab T0 d0) (h1 : Tab T1 d1) (hK : K.length = 8) {lines : Option AV} (hl : lines = none \/ ∃ p, lines = some (.imm p)) :
  ∃ lines', b_least_3 (SB L tb ledP mP first ends (some (.imm (nI c))) (some (.imm (nL K))) lines T0 T1) = some (.next, SB L tb ledP mP first ends (some (.imm (nI (zx K)))) (some (.imm (nL (moore d0 d1 K)))) (some (.imm lines')) T0 T1) := by
 have key : ∀ lines, (lines = none \/ ∃ p, lines = some (AV.imm p)) -> ∃ lines', b_least_3 (SB L tb ledP mP first ends (some (.imm (nI c))) (some (.imm (nL K))) lines T0 T1) = some (.next, SB L tb ledP mP first ends (some (.imm (nI (zx K)))) (some (.imm (nL (moore d0 d1 K)))) (some (.imm lines')) T0 T1) := by
  intro lines hl
  have e0 : zl 0 (.loc 3) (cLenSet (zE (zK 5))) (SB L tb ledP mP first ends (some (.imm (nI c))) (some (.imm (nL K))) lines T0 T1) = some (.next, SB L tb ledP mP first ends (some (.imm (nI (zx K)))) (some (.imm (nL K))) lines T0 T1) := by
   refine zp (v := nI (zx K)) (σ1 := SB L tb ledP mP first ends (some (.imm (nI c))) (some (.imm (nL K))) lines T0 T1) ?_ rfl
   have hi : intsOf (K.map nI) = some (K.map fun (n : Nat) => (n : Int)) := by
    have : K.map nI = (K.map fun (n : Nat) => (n : Int)).map PV.int := by rw [List.map_map]; rfl
    rw [this, intsOf_map]
   show (match intsOf (K.map nI) with | some ns => if ns.length <= 1000 then some (PV.int (firstMet (fun i => ns.getD i 0) ns.length).length, _) else none | none => none) = _
   rw [hi]
   dsimp only
   rw [if_pos (by rw [List.length_map]; omega), List.length_map]
   rfl
  have eL : ∀ lines, (lines = none \/ ∃ p, lines = some (AV.imm p)) -> zl 0 (.cell 6) (zy (.loc 0) 14 1 [] (zO zz (zB (cQ (.int 8)) zG)) zc e_least_3) (SB L tb ledP mP first ends (some (.imm (nI (zx K)))) (some (.imm (nL K))) lines T0 T1) =
    some (.next, SB L tb ledP mP first ends (some (.imm (nI (zx K)))) (some (.imm (nL K))) (some (.imm (.list (((List.range 8).map (lineOf d0 d1 K)).map zI)))) T0 T1) := by
   intro lines hl
   have go : ∀ ln : Option AV, (ln = none \/ ∃ p, ln = some (AV.imm p)) -> (SB L tb ledP mP first ends (some (.imm (nI (zx K)))) (some (.imm (nL K))) ln T0 T1).map (clr 14) = SB L tb ledP mP first ends (some (.imm (nI (zx K)))) (some (.imm (nL K))) ln T0 T1 := by
    rintro ln (rfl | ⟨p, rfl⟩) <;> rfl
   have e1 := comp_eval' (ci := 14) (f := zO zz (zB (cQ (.int 8)) zG)) (fe := e_least_3) (fun p => match p with | .int i => zI (lineOf d0 d1 K i.toNat) | _ => .none) (σ := SB L tb ledP mP first ends (some (.imm (nI (zx K)))) (some (.imm (nL K))) lines T0 T1) (σ1 := SB L tb ledP mP first ends (some (.imm (nI (zx K)))) (some (.imm (nL K))) lines T0 T1) (u := .rng 0 8) rfl (rng_items (n := 8) (by decide)) (by simp) (by show 14 < 17; decide) (fun p hp => by
    obtain ⟨a, ha, rfl⟩ := List.mem_map.mp hp
    have ha' : a < 8 := List.mem_range.mp ha
    rw [go lines hl]
    show _ = some (zI (lineOf d0 d1 K (a : Int).toNat), _)
    rw [Int.toNat_natCast]
    refine e_list (z4 (z9 rfl rfl (item_nL (kf_at hK ha') (by omega))) (z4 (z9 rfl (z9 (e_imm (p := nL T0) rfl) rfl (item_nL (h0.at' a ha') (by omega))) (item_nL (kf_at hK (h0.lt a ha')) (by have := h0.lt a ha'; omega)))
     (z4 (z9 rfl (z9 (e_imm (p := nL T1) rfl) rfl (item_nL (h1.at' a ha') (by omega))) (item_nL (kf_at hK (h1.lt a ha')) (by have := h1.lt a ha'; omega))) rfl))) (by simp))
   rw [go lines hl] at e1
   have e2 : (((List.range 8).map nI).map fun p => match p with | .int i => zI (lineOf d0 d1 K i.toNat) | _ => .none) = ((List.range 8).map (lineOf d0 d1 K)).map zI := by
    rw [List.map_map, List.map_map]
    refine List.map_congr_left fun a _ => ?_
    show zI (lineOf d0 d1 K (a : Int).toNat) = zI (lineOf d0 d1 K a)
    rw [Int.toNat_natCast]
   rw [e2] at e1
   exact zp e1 rfl
  generalize hls : (List.range 8).map (lineOf d0 d1 K) = ls at eL
  have e3 : zy (.loc 0) 15 1 [] (zE (zK 6)) zc e_least_2 (SB L tb ledP mP first ends (some (.imm (nI (zx K)))) (some (.imm (nL K))) (some (.imm (.list (ls.map zI)))) T0 T1) = some (.list ((ls.map zI).map fun p => (hIndex [.list (ls.map zI), p]).getD .none), SB L tb ledP mP first ends (some (.imm (nI (zx K)))) (some (.imm (nL K))) (some (.imm (.list (ls.map zI)))) T0 T1) :=
   comp_eval' (ci := 15) (f := zE (zK 6)) (fe := e_least_2) (fun p => (hIndex [.list (ls.map zI), p]).getD .none) (σ1 := SB L tb ledP mP first ends (some (.imm (nI (zx K)))) (some (.imm (nL K))) (some (.imm (.list (ls.map zI)))) T0 T1) (u := .list (ls.map zI)) rfl rfl (by rw [List.length_map, <- hls]; simp) (by show 15 < 17; decide) (fun p hp => by
    obtain ⟨a, ha, rfl⟩ := List.mem_map.mp hp
    rw [index_row ha]
    exact e_methI rfl (z4 rfl rfl) rfl (index_row ha) rfl)
  have e4 : ((ls.map zI).map fun p => (hIndex [.list (ls.map zI), p]).getD .none) = (moore d0 d1 K).map nI := by
   have hm : moore d0 d1 K = ls.map fun l => ls.idxOf l := by rw [<- hls]; rfl
   rw [hm, List.map_map, List.map_map]
   refine List.map_congr_left fun a ha => ?_
   show (hIndex [.list (ls.map zI), zI a]).getD .none = nI (ls.idxOf a)
   rw [index_row ha]; rfl
  rw [e4] at e3
  exact ⟨_, zF e0 (zF (eL lines hl) (zF (zp e3 rfl) rfl))⟩
 exact key lines hl
end
section
variable {C : Cx} {X : zj}
theorem e_compOwn {fi j k ci i : Nat} {T : List Nat} {fe : CC PV} {g : CC AV} (f : PV -> PV) {σ σ1 σ3 : List zA} {xs : List PV} (h1 : g σ = some (.obj i, σ1)) (h2 : σ1[i]? = some (.lst xs)) (h3 : xs.length <= 4096) (h4 : ci < σ1.length) (h5 : T.contains i = false) (h6 : i ≠ k) (h7 : i < σ1.length /\ k < σ1.length)
  (h : ∀ x ∈ xs, fe (((σ1.set i .dead).map (clr ci)).set ci (.frame [some (.imm x)])) = some (f x, ((σ1.set i .dead).map (clr ci)).set ci (.frame [some (.imm x)])))
  (h8 : ∀ v, ∃ w, sLoc fi j (.obj k) (newOwn k (.lst (xs.map f)) ((((σ1.set i .dead).map (clr ci)).set ci (.frame [v])).set i (.lst xs))) = some w /\ w.set ci .dead = σ3) :
  cCompOwn fi T j k (.loc 0) ci 1 [] g zc fe σ = some (.next, σ3) := by
 refine nG fun ng => ?_
 obtain ⟨v1, e⟩ := compL_eval (t := zc) (tt := fun _ => true) xs ((σ1.set i .dead).map (clr ci)) none (by simpa using h4) (fun x hx => ⟨rfl, fun _ => h x hx⟩)
 rw [show xs.filter (fun _ => true) = xs from List.filter_eq_self.mpr fun _ _ => rfl] at e
 refine ng ?_
 clear ng
 unfold cCompOwn
 rw [h1]
 dsimp only
 rw [h2]
 dsimp only
 rw [if_pos ⟨h3, by simp [h4], h5, h6⟩]
 have e0 : compIn ci 1 [] (σ1.set i .dead) = ((σ1.set i .dead).map (clr ci)).set ci (.frame [none]) := rfl
 rw [e0, e]
 dsimp only
 rw [List.getElem?_set_self (by simpa using h4)]
 dsimp only
 rw [if_pos ⟨by rw [List.length_map]; exact h3, by simpa using h7.1, by simpa using h7.2⟩]
 refine nG fun ng => ?_
 obtain ⟨w, hw, hd⟩ := h8 v1
 refine ng ?_
 clear ng
 rw [hw]
 dsimp only
 rw [hd]
theorem e_subO {T : List Nat} {h : PV -> PV -> Option PV} {g : CC AV} {f : CC PV} {σ σ1 σ₂ : List zA} {k : Nat} {n : Int} {xs : List PV} {c : PV} (h1 : g σ = some (.obj k, σ1)) (h2 : f σ1 = some (.int n, σ₂)) (h3 : T.contains k = false) (h4 : σ₂[k]? = some (.lst xs)) (h5 : 0 <= n /\ n < 4096) (h6 : xs[n.toNat]? = some c) : z3 T h g f σ = some (c, σ₂) := by
 unfold z3; rw [h1]; dsimp only; rw [h2]; dsimp only; rw [h3, h4]; dsimp only; rw [if_pos h5, h6]; rfl
theorem e_methO {T : List Nat} {ty : String} {h : List PV -> Option PV} {g : CC AV} {f : CC (List PV)} {σ σ1 σ₂ : List zA} {k : Nat} {p₀ p c : PV} {as : List PV} (h1 : g σ = some (.obj k, σ1)) (h2 : f σ1 = some (as, σ₂)) (l1 : look (.obj k) σ1 = some p₀) (l2 : look (.obj k) σ₂ = some p) (h3 : pvType p₀ = ty) (hT : T.contains k = false) (h4 : h (p :: as) = some c) (h5 : c.flat = true) : cMeth T ty h g f σ = some (c, σ₂) := by
 unfold cMeth; rw [h1]; dsimp only; rw [h2]; dsimp only; rw [l1, l2]; dsimp only; rw [if_pos ⟨h3, by show (!T.contains k) = true; rw [hT]; rfl⟩, h4]; dsimp only; rw [if_pos h5]
section
variable {L ledP mP lnP AH : PV} {first ends c s : Nat} {T0 T1 K : List Nat}
noncomputable abbrev SE (L ledP mP lnP AH : PV) (first ends c : Nat) (K : List Nat) (tb : AV) (s : Nat) (kn : Option AV) (P : List Nat) (R : List (Nat × Nat × Nat)) (W : List Nat) (o11 : zA) : List zA :=
 [.frame [some (.imm L), some (.imm (nI first)), some tb, some (.imm (nI c)), some (.obj 8), some (.obj 9), some (.imm (nI s)), some (.obj 10), kn], .cell (some (.imm (nI ends))), .cell (some (.obj 7)), .cell (some (.imm ledP)), .cell (some (.imm mP)), .cell (some (.imm (nL K))), .cell (some (.imm lnP)), .frozen AH, .lst (P.map nI), .lst (R.map zI), .lst (W.map nI), o11, .dead, .dead, .dead, .dead, .dead]
theorem place_turn {T : List Nat} {d : Nat -> Nat} {P W : List Nat} {R : List (Nat × Nat × Nat)} {kn : Option AV} {o11 : zA} (hT : Tab T d) (hK : K.length = 8) (hs : s < 8) (hP : ∀ x ∈ P, x < 8) (hPl : P.length <= 100) (hW : W.length <= 100)
  (hk : (kn = none /\ o11 = .dead) \/ (kn = some (.obj 11) /\ ∃ ys, o11 = .lst ys)) :
  b_least_1 (SE L ledP mP lnP AH first ends c K (.imm (nL T)) s kn P R W o11) =
   some (.next, SE L ledP mP lnP AH first ends c K (.imm (nL T)) s (some (.obj 11)) (zS (kf K) (d s) P) R (W ++ [yB (kf K) (d s) (zS (kf K) (d s) P)]) (.lst (((zS (kf K) (d s) P).map (kf K)).map nI))) := by
 have hd := hT.lt s hs
 have e1 : cCompOwn 0 [12, 13, 14, 15, 16] 8 11 (.loc 0) 16 1 [] (zC 0 4) zc e_least_1 (SE L ledP mP lnP AH first ends c K (.imm (nL T)) s kn P R W o11) = some (.next, SE L ledP mP lnP AH first ends c K (.imm (nL T)) s (some (.obj 11)) P R W (.lst ((P.map nI).map fun p => match p with | .int i => nI (kf K i.toNat) | _ => .none))) := by
  refine e_compOwn (i := 8) (σ1 := SE L ledP mP lnP AH first ends c K (.imm (nL T)) s kn P R W o11) (fun p => match p with | .int i => nI (kf K i.toNat) | _ => .none) rfl rfl (by rw [List.length_map]; omega) (by show 16 < 17; decide) rfl (by decide) ⟨by show 8 < 17; decide, by show 11 < 17; decide⟩ (fun p hp => ?_) (fun v => ?_)
  ·obtain ⟨a, ha, rfl⟩ := List.mem_map.mp hp
   have ha' := hP a ha
   show _ = some (nI (kf K (a : Int).toNat), _)
   rw [Int.toNat_natCast]
   exact z9 rfl rfl (item_nL (kf_at hK ha') (by omega))
  ·rcases hk with ⟨rfl, rfl⟩ | ⟨rfl, ys, rfl⟩ <;> exact ⟨_, rfl, rfl⟩
 have e2 : ((P.map nI).map fun p => match p with | .int i => nI (kf K i.toNat) | _ => .none) = (P.map (kf K)).map nI := by
  rw [List.map_map, List.map_map]
  refine List.map_congr_left fun a _ => ?_
  show nI (kf K (a : Int).toNat) = nI (kf K a)
  rw [Int.toNat_natCast]
 rw [e2] at e1
 have ev : ∀ (P W : List Nat) (o : zA), z3 [12, 13, 14, 15, 16] zH (zC 0 2) (zE (zC 0 6)) (SE L ledP mP lnP AH first ends c K (.imm (nL T)) s (some (.obj 11)) P R W o) = some (nI (d s), SE L ledP mP lnP AH first ends c K (.imm (nL T)) s (some (.obj 11)) P R W o) := fun P W o =>
  z9 rfl rfl (item_nL (hT.at' s hs) (by omega))
 have ek : ∀ (P W : List Nat) (o : zA), z3 [12, 13, 14, 15, 16] zH (zK 5) (z3 [12, 13, 14, 15, 16] zH (zC 0 2) (zE (zC 0 6))) (SE L ledP mP lnP AH first ends c K (.imm (nL T)) s (some (.obj 11)) P R W o) = some (nI (kf K (d s)), SE L ledP mP lnP AH first ends c K (.imm (nL T)) s (some (.obj 11)) P R W o) := fun P W o =>
  z9 rfl (ev P W o) (item_nL (kf_at hK hd) (by omega))
 have et : ∀ r, (!decide (kf K (d s) ∈ P.map (kf K))) = r -> zP (zM hNotIn (z3 [12, 13, 14, 15, 16] zH (zK 5) (z3 [12, 13, 14, 15, 16] zH (zC 0 2) (zE (zC 0 6)))) (zC 0 8)) (SE L ledP mP lnP AH first ends c K (.imm (nL T)) s (some (.obj 11)) P R W (.lst ((P.map (kf K)).map nI))) =
   some (r, SE L ledP mP lnP AH first ends c K (.imm (nL T)) s (some (.obj 11)) P R W (.lst ((P.map (kf K)).map nI))) := fun r hr =>
  z1 (zY (ek P W _) rfl rfl (by rw [notIn_nL, hr]) rfl)
 have er : ∀ (P' : List Nat), kf K (d s) ∈ P'.map (kf K) -> P'.length <= 101 -> zf [12, 13, 14, 15, 16] (zC 0 7) (cMeth [12, 13, 14, 15, 16] "list" hIndex (zC 0 8) (zB (z3 [12, 13, 14, 15, 16] zH (zK 5) (z3 [12, 13, 14, 15, 16] zH (zC 0 2) (zE (zC 0 6)))) zG)) (SE L ledP mP lnP AH first ends c K (.imm (nL T)) s (some (.obj 11)) P' R W (.lst ((P'.map (kf K)).map nI))) =
   some (.next, SE L ledP mP lnP AH first ends c K (.imm (nL T)) s (some (.obj 11)) P' R (W ++ [yB (kf K) (d s) P']) (.lst ((P'.map (kf K)).map nI))) := fun P' hm hl => by
  have e := e_append (T := [12, 13, 14, 15, 16]) (g := zC 0 7) (σ := SE L ledP mP lnP AH first ends c K (.imm (nL T)) s (some (.obj 11)) P' R W (.lst ((P'.map (kf K)).map nI))) rfl (e_methO (T := [12, 13, 14, 15, 16]) (ty := "list") (h := hIndex) (g := zC 0 8) (k := 11) rfl (z0 (ek P' W (.lst ((P'.map (kf K)).map nI)))) rfl rfl rfl rfl (index_nL hm) rfl) rfl rfl (by rw [List.length_map]; omega) rfl
  rw [e]
  have : (W ++ [yB (kf K) (d s) P']).map nI = W.map nI ++ [nI ((P'.map (kf K)).idxOf (kf K (d s)))] := by simp [yB]
  show _ = some (Fl.next, [_, _, _, _, _, _, _, _, _, _, zA.lst ((W ++ [yB (kf K) (d s) P']).map nI), _, _, _, _, _, _])
  rw [this]; rfl
 refine zF e1 ?_
 by_cases q : kf K (d s) ∈ P.map (kf K)
 ·have hi : zS (kf K) (d s) P = P := if_pos q
  rw [hi]
  exact zF (zv (et false (by rw [decide_eq_true q]; rfl)) rfl) (zF (er P q (by omega)) rfl)
 ·have hi : zS (kf K) (d s) P = P ++ [d s] := if_neg q
  rw [hi]
  have a1 : zf [12, 13, 14, 15, 16] (zC 0 4) (z3 [12, 13, 14, 15, 16] zH (zC 0 2) (zE (zC 0 6))) (SE L ledP mP lnP AH first ends c K (.imm (nL T)) s (some (.obj 11)) P R W (.lst ((P.map (kf K)).map nI))) = some (.next, SE L ledP mP lnP AH first ends c K (.imm (nL T)) s (some (.obj 11)) (P ++ [d s]) R W (.lst ((P.map (kf K)).map nI))) := by
   refine (e_append (i := 8) rfl (ev P W _) rfl rfl (by rw [List.length_map]; omega) rfl).trans ?_
   show some (Fl.next, [_, _, _, _, _, _, _, _, zA.lst (P.map nI ++ [nI (d s)]), _, _, _, _, _, _, _, _]) = some (Fl.next, [_, _, _, _, _, _, _, _, zA.lst ((P ++ [d s]).map nI), _, _, _, _, _, _, _, _])
   rw [List.map_append]; rfl
  have a2 : zf [12, 13, 14, 15, 16] (zC 0 8) (z3 [12, 13, 14, 15, 16] zH (zK 5) (z3 [12, 13, 14, 15, 16] zH (zC 0 2) (zE (zC 0 6)))) (SE L ledP mP lnP AH first ends c K (.imm (nL T)) s (some (.obj 11)) (P ++ [d s]) R W (.lst ((P.map (kf K)).map nI))) =
    some (.next, SE L ledP mP lnP AH first ends c K (.imm (nL T)) s (some (.obj 11)) (P ++ [d s]) R W (.lst (((P ++ [d s]).map (kf K)).map nI))) := by
   have h11 : ((P ++ [d s]).map (kf K)).map nI = (P.map (kf K)).map nI ++ [nI (kf K (d s))] := by simp
   rw [h11]
   exact e_append (i := 11) rfl (ek (P ++ [d s]) W (.lst ((P.map (kf K)).map nI))) rfl rfl (by rw [List.length_map, List.length_map]; omega) rfl
  exact zF (e_ifT (et true (by rw [decide_eq_false q]; rfl)) (zF a1 (zF a2 rfl))) (zF (er _ (by rw [List.map_append]; exact List.mem_append_right _ (List.mem_singleton.mpr rfl)) (by simp; omega)) rfl)
end
end
section
variable {C : Cx} {X : zj}
theorem e_lenO {g : CC AV} {σ σ1 : List zA} {k : Nat} {xs : List PV} (h : g σ = some (.obj k, σ1)) (h2 : σ1[k]? = some (.lst xs)) : zw hLen g σ = some (.int (xs.length : Int), σ1) := by
 have hl : look (.obj k) σ1 = some (.list xs) := by unfold look; dsimp only; rw [h2]
 unfold zw; rw [h]; dsimp only; rw [hl]; rfl
section
variable {L ledP mP lnP : PV} {first ends c s : Nat} {T0 T1 K : List Nat} {d0 d1 : Nat -> Nat}
inductive Start (L ledP mP lnP : PV) (first ends c : Nat) (K T0 T1 : List Nat) (P : List Nat) (R : List (Nat × Nat × Nat)) : List zA -> Prop
 | first (tb : AV) (htb : ∃ p, tb = .imm p) : Start L ledP mP lnP first ends c K T0 T1 P R [.frame [some (.imm L), some (.imm (nI first)), some tb, some (.imm (nI c)), some (.obj 8), some (.obj 9), none, none, none], .cell (some (.imm (nI ends))), .cell (some (.obj 7)), .cell (some (.imm ledP)), .cell (some (.imm mP)), .cell (some (.imm (nL K))), .cell (some (.imm lnP)), .lst [nL T0, nL T1], .lst (P.map nI), .lst (R.map zI), .dead, .dead, .dead, .dead, .dead, .dead, .dead]
 | later (tb : AV) (htb : ∃ p, tb = .imm p) (s : Nat) (rv : PV) (ks : List PV) : Start L ledP mP lnP first ends c K T0 T1 P R [.frame [some (.imm L), some (.imm (nI first)), some tb, some (.imm (nI c)), some (.obj 8), some (.obj 9), some (.imm (nI s)), some (.obj 10), some (.obj 11)], .cell (some (.imm (nI ends))), .cell (some (.obj 7)), .cell (some (.imm ledP)), .cell (some (.imm mP)), .cell (some (.imm (nL K))), .cell (some (.imm lnP)), .frozen (.list [nL T0, nL T1]), .lst (P.map nI), .lst (R.map zI), .frozen rv, .lst ks, .dead, .dead, .dead, .dead, .dead]
theorem place_step {P : List Nat} {R : List (Nat × Nat × Nat)} {σ : List zA} (St : Start L ledP mP lnP first ends c K T0 T1 P R σ) (h0 : Tab T0 d0) (h1 : Tab T1 d1) (hK : K.length = 8) (hs : s < 8) (hP : ∀ x ∈ P, x < 8) (hPl : P.length <= 90) (hRl : R.length <= 90) (hx : P[R.length]? = some s) :
  ∃ σ', b_least_2 σ = some (.next, σ') /\ Start L ledP mP lnP first ends c K T0 T1 (zS (kf K) (d1 s) (zS (kf K) (d0 s) P)) (R ++ [(kd ends s, yB (kf K) (d0 s) (zS (kf K) (d0 s) P), yB (kf K) (d1 s) (zS (kf K) (d1 s) (zS (kf K) (d0 s) P)))]) σ' := by
 have hx' : (P.map nI)[R.length]? = some (nI s) := by rw [List.getElem?_map, hx]; rfl
 have hP1 := ins_lt (key := kf K) hP (h0.lt s hs)
 have hl1 : (zS (kf K) (d0 s) P).length <= 91 := by
  obtain ⟨r, e, h⟩ := ins_pre (key := kf K) (t := d0 s) (l := P)
  rw [e, List.length_append]
  rcases h with rfl | rfl <;> simp <;> omega
 have go : ∀ (kn : Option AV) (o11 : zA) (tb : AV), ((kn = none /\ o11 = .dead) \/ (kn = some (.obj 11) /\ ∃ ys, o11 = .lst ys)) -> ∀ σ₂, (∃ σ3, zE (zK 2) σ₂ = some (.list [nL T0, nL T1], σ3) /\ σ3 = SE L ledP mP lnP (.list [nL T0, nL T1]) first ends c K tb s kn P R [kd ends s] o11) ->
   ∃ σ', zJ (cFor 0 (.loc 2) (zE (zK 2)) b_least_1) (zJ (zf [12, 13, 14, 15, 16] (zC 0 5) (zE (zC 0 7))) (zL .next)) σ₂ = some (.next, σ') /\ Start L ledP mP lnP first ends c K T0 T1 (zS (kf K) (d1 s) (zS (kf K) (d0 s) P)) (R ++ [(kd ends s, yB (kf K) (d0 s) (zS (kf K) (d0 s) P), yB (kf K) (d1 s) (zS (kf K) (d1 s) (zS (kf K) (d0 s) P)))]) σ' := by
  intro kn o11 tb hk σ₂ ⟨σ3, e2, e3⟩
  subst e3
  refine ⟨_, zF (e_for e2 rfl (forL_next rfl (place_turn (L := L) (ledP := ledP) (mP := mP) (lnP := lnP) (AH := .list [nL T0, nL T1]) (first := first) (ends := ends) (c := c) h0 hK hs hP (by omega) (by simp) hk) (forL_next rfl (place_turn h1 hK hs hP1 (by omega) (by simp) (.inr ⟨rfl, _, rfl⟩)) rfl))) (zF (e_append (i := 9) rfl rfl rfl rfl (by rw [List.length_map]; omega) rfl) rfl), ?_⟩
  have hrow : (R ++ [(kd ends s, yB (kf K) (d0 s) (zS (kf K) (d0 s) P), yB (kf K) (d1 s) (zS (kf K) (d1 s) (zS (kf K) (d0 s) P)))]).map zI = R.map zI ++ [.list ([kd ends s] ++ [yB (kf K) (d0 s) (zS (kf K) (d0 s) P)] ++ [yB (kf K) (d1 s) (zS (kf K) (d1 s) (zS (kf K) (d0 s) P))] |>.map nI)] := by
   rw [List.map_append]; rfl
  have := Start.later (L := L) (ledP := ledP) (mP := mP) (lnP := lnP) (first := first) (ends := ends) (c := c) (K := K) (T0 := T0) (T1 := T1) (P := zS (kf K) (d1 s) (zS (kf K) (d0 s) P)) (R := R ++ [(kd ends s, yB (kf K) (d0 s) (zS (kf K) (d0 s) P), yB (kf K) (d1 s) (zS (kf K) (d1 s) (zS (kf K) (d0 s) P)))]) (.imm (nL T1)) ⟨_, rfl⟩ s (.list ([kd ends s] ++ [yB (kf K) (d0 s) (zS (kf K) (d0 s) P)] ++ [yB (kf K) (d1 s) (zS (kf K) (d1 s) (zS (kf K) (d0 s) P))] |>.map nI)) (((zS (kf K) (d1 s) (zS (kf K) (d0 s) P)).map (kf K)).map nI)
  rw [hrow] at this
  exact this
 have hkd : ∀ (σ : List zA), zE (zC 0 6) σ = some (nI s, σ) -> zE (zK 1) σ = some (nI ends, σ) -> zB (cIf (zP (zM hEq (zh hAnd (zE (zC 0 6)) (zE (zK 1))) (zX (cQ (.int 0))))) (cQ (.int 0)) (cQ (.int 1))) zG σ = some ([nI (kd ends s)], σ) := fun σ w1 w2 => by
  have ht : ∀ r, (s &&& ends == 0) = r -> zP (zM hEq (zh hAnd (zE (zC 0 6)) (zE (zK 1))) (zX (cQ (.int 0)))) σ = some (r, σ) := fun r hr => z1 (zY (zr w1 w2 (and_nI s ends)) rfl rfl (by rw [eq0_nI, hr]) rfl)
  refine z0 ?_
  unfold kd
  by_cases h : s &&& ends = 0
  ·rw [if_pos h]; exact e_ifT (ht true (by simpa using h)) rfl
  ·rw [if_neg h]; exact zv (ht false (by simpa using h)) rfl
 have hRi : (0 : Int) <= ((R.map zI).length : Int) /\ ((R.map zI).length : Int) < 4096 := by rw [List.length_map]; omega
 have hxi : (P.map nI)[((R.map zI).length : Int).toNat]? = some (nI s) := by rw [List.length_map, Int.toNat_natCast]; exact hx'
 cases St with
 | first tb htb =>
  refine nG fun ng => ?_
  obtain ⟨p, rfl⟩ := htb
  obtain ⟨σ', w1, w2⟩ := go none .dead (.imm p) (.inl ⟨rfl, rfl⟩) [.frame [some (.imm L), some (.imm (nI first)), some (.imm p), some (.imm (nI c)), some (.obj 8), some (.obj 9), some (.imm (nI s)), some (.obj 10), none], .cell (some (.imm (nI ends))), .cell (some (.obj 7)), .cell (some (.imm ledP)), .cell (some (.imm mP)), .cell (some (.imm (nL K))), .cell (some (.imm lnP)), .lst [nL T0, nL T1], .lst (P.map nI), .lst (R.map zI), .lst ([kd ends s].map nI), .dead, .dead, .dead, .dead, .dead, .dead] ⟨_, rfl, rfl⟩
  refine ng ?_
  clear ng
  exact ⟨σ', zF (zp (e_subO (k := 8) rfl (e_lenO (k := 9) rfl rfl) rfl rfl hRi hxi) rfl) (zF (e_own (hkd _ rfl rfl) ⟨by simp, by show 10 < 17; decide⟩ rfl) w1), w2⟩
 | later tb htb s' rv ks =>
  refine nG fun ng => ?_
  obtain ⟨p, rfl⟩ := htb
  obtain ⟨σ', w1, w2⟩ := go (some (.obj 11)) (.lst ks) (.imm p) (.inr ⟨rfl, ks, rfl⟩) [.frame [some (.imm L), some (.imm (nI first)), some (.imm p), some (.imm (nI c)), some (.obj 8), some (.obj 9), some (.imm (nI s)), some (.obj 10), some (.obj 11)], .cell (some (.imm (nI ends))), .cell (some (.obj 7)), .cell (some (.imm ledP)), .cell (some (.imm mP)), .cell (some (.imm (nL K))), .cell (some (.imm lnP)), .frozen (.list [nL T0, nL T1]), .lst (P.map nI), .lst (R.map zI), .lst ([kd ends s].map nI), .lst ks, .dead, .dead, .dead, .dead, .dead] ⟨_, rfl, rfl⟩
  refine ng ?_
  clear ng
  exact ⟨σ', zF (zp (e_subO (k := 8) rfl (e_lenO (k := 9) rfl rfl) rfl rfl hRi hxi) rfl) (zF (e_own (hkd _ rfl rfl) ⟨by simp, by show 10 < 17; decide⟩ rfl) w1), w2⟩
theorem places_test {P : List Nat} {R : List (Nat × Nat × Nat)} {σ : List zA} (St : Start L ledP mP lnP first ends c K T0 T1 P R σ) :
  zP (zM hLt (zw hLen (zC 0 5)) (zX (zw hLen (zC 0 4)))) σ = some (decide (R.length < P.length), σ) := by
 have key : zP (zM hLt (zw hLen (zC 0 5)) (zX (zw hLen (zC 0 4)))) σ = some (decide (((R.map zI).length : Int) < ((P.map nI).length : Int)), σ) := by
  cases St with
  | first tb htb => exact z1 (zY (e_lenO (k := 9) rfl rfl) (e_imm (e_lenO (k := 8) rfl rfl)) rfl rfl rfl)
  | later tb htb s' rv ks => exact z1 (zY (e_lenO (k := 9) rfl rfl) (e_imm (e_lenO (k := 8) rfl rfl)) rfl rfl rfl)
 rw [key, List.length_map, List.length_map]
 congr 2
 exact decide_eq_decide.mpr (by omega)
theorem places_loop (h0 : Tab T0 d0) (h1 : Tab T1 d1) (hK : K.length = 8) : ∀ (m : Nat) (P : List Nat) (R : List (Nat × Nat × Nat)) (σ : List zA) (l' : List Nat) (rows' : List (Nat × Nat × Nat)), Start L ledP mP lnP first ends c K T0 T1 P R σ -> (∀ x ∈ P, x < 8) -> P.length + 2 * m <= 90 -> R.length + m <= 90 ->
  bfsK (kf K) (kd ends) d0 d1 m P R = some (l', rows') -> ∃ σ', cWhile (zP (zM hLt (zw hLen (zC 0 5)) (zX (zw hLen (zC 0 4))))) b_least_2 m σ = some (.next, σ') /\ Start L ledP mP lnP first ends c K T0 T1 l' rows' σ'
 | 0, _, _, _, _, _, _, _, _, _, h => by cases h
 | m + 1, P, R, σ, l', rows', St, hP, hPl, hRl, h => by
  have ht := places_test St
  dsimp only [bfsK] at h
  cases e : P[R.length]? with
  | none =>
   rw [e] at h
   refine pf h ?_; clear h
   have : P.length <= R.length := List.getElem?_eq_none_iff.mp e
   refine ⟨σ, ?_, St⟩
   dsimp only [cWhile]
   rw [ht, decide_eq_false (by omega)]
  | some s =>
   rw [e] at h
   have hlt := (List.getElem?_eq_some_iff.mp e).1
   have hs : s < 8 := hP s (List.mem_of_getElem? e)
   obtain ⟨σ1, w1, w2⟩ := place_step St h0 h1 hK hs hP (by omega) (by omega) e
   have hP1 := ins_lt (key := kf K) hP (h0.lt s hs)
   have hP2 := ins_lt (key := kf K) hP1 (h1.lt s hs)
   have len2 : (zS (kf K) (d1 s) (zS (kf K) (d0 s) P)).length <= P.length + 2 := by
    obtain ⟨r, e1, g1⟩ := ins_pre (key := kf K) (t := d0 s) (l := P)
    obtain ⟨r', e2, g2⟩ := ins_pre (key := kf K) (t := d1 s) (l := zS (kf K) (d0 s) P)
    rw [e2, e1, List.length_append, List.length_append]
    rcases g1 with rfl | rfl <;> rcases g2 with rfl | rfl <;> simp
   obtain ⟨σ', w3, w4⟩ := places_loop h0 h1 hK m _ _ σ1 l' rows' w2 hP2 (by omega) (by rw [List.length_append]; simp; omega) h
   refine ⟨σ', ?_, w4⟩
   dsimp only [cWhile]
   rw [ht, decide_eq_true hlt]
   dsimp only
   rw [w1]
   exact w3
theorem start_rows {P : List Nat} {R : List (Nat × Nat × Nat)} {σ : List zA} (St : Start L ledP mP lnP first ends c K T0 T1 P R σ) : ∃ σ', zE (zC 0 5) σ = some (.list (R.map zI), σ') := by
 cases St with
 | first tb htb => exact ⟨_, rfl⟩
 | later tb htb s' rv ks => exact ⟨_, rfl⟩
end
theorem tab_of (a b c : Nat) (ha : a < 8) (hb : b < 8) (hc : c < 8) : Tab (tabOf a b c) (fwd [a, b, c]) := by
 refine ⟨fun k hk => ?_, fun k _ => fwd_lt (getD_lt (by simp [ha, hb, hc])) k⟩
 unfold tabOf
 rw [List.getElem?_map, List.getElem?_range hk]; rfl
theorem cnt_test {L tb ledP mP : PV} {first ends c : Nat} {K : List Nat} {lines : Option AV} {T0 T1 : List Nat} (hK : K.length = 8) : zP (zM hGt (cLenSet (zE (zK 5))) (zC 0 3)) (SB L tb ledP mP first ends (some (.imm (nI c))) (some (.imm (nL K))) lines T0 T1) = some (decide (c < zx K), SB L tb ledP mP first ends (some (.imm (nI c))) (some (.imm (nL K))) lines T0 T1) := by
 have hi : intsOf (K.map nI) = some (K.map fun (n : Nat) => (n : Int)) := by
  have : K.map nI = (K.map fun (n : Nat) => (n : Int)).map PV.int := by rw [List.map_map]; rfl
  rw [this, intsOf_map]
 have e : cLenSet (zE (zK 5)) (SB L tb ledP mP first ends (some (.imm (nI c))) (some (.imm (nL K))) lines T0 T1) = some (nI (zx K), SB L tb ledP mP first ends (some (.imm (nI c))) (some (.imm (nL K))) lines T0 T1) := by
  show (match intsOf (K.map nI) with | some ns => if ns.length <= 1000 then some (PV.int (firstMet (fun i => ns.getD i 0) ns.length).length, _) else none | none => none) = _
  rw [hi]
  dsimp only
  rw [if_pos (by rw [List.length_map]; omega), List.length_map]
  rfl
 refine z1 (zY e rfl rfl (c := .bool (decide (c < zx K))) ?_ rfl)
 show some (PV.bool (decide (((zx K : Nat) : Int) > (c : Int)))) = _
 congr 2
 exact decide_eq_decide.mpr (by omega)
theorem rounds2 {L tb ledP mP : PV} {first ends : Nat} {T0 T1 : List Nat} {d0 d1 : Nat -> Nat} (h0 : Tab T0 d0) (h1 : Tab T1 d1) : ∀ (m c : Nat) (K ks : List Nat) (lines : PV), K.length = 8 -> mooreL d0 d1 m c K = some ks ->
  ∃ c' lines', ks.length = 8 /\ True /\ cWhile (zP (zM hGt (cLenSet (zE (zK 5))) (zC 0 3))) b_least_3 m (SB L tb ledP mP first ends (some (.imm (nI c))) (some (.imm (nL K))) (some (.imm lines)) T0 T1) = some (.next, SB L tb ledP mP first ends (some (.imm (nI c'))) (some (.imm (nL ks))) (some (.imm lines')) T0 T1)
 | 0, c, K, ks, lines, _, h => by cases h
 | m + 1, c, K, ks, lines, hK, h => by
  dsimp only [mooreL] at h
  by_cases q : c < zx K
  ·rw [if_pos q] at h
   obtain ⟨lines', hb⟩ := round_step (L := L) (tb := tb) (ledP := ledP) (mP := mP) (first := first) (ends := ends) (c := c) h0 h1 hK (.inr ⟨lines, rfl⟩)
   obtain ⟨c', l', w1, w2, w3⟩ := rounds2 h0 h1 m (zx K) (moore d0 d1 K) ks lines' (moore_len ..) h
   refine ⟨c', l', w1, w2, ?_⟩
   dsimp only [cWhile]
   rw [cnt_test hK, decide_eq_true q]
   dsimp only
   rw [hb]
   exact w3
  ·rw [if_neg q] at h
   refine pe h ?_; clear h
   refine ⟨c, lines, hK, trivial, ?_⟩
   dsimp only [cWhile]
   rw [cnt_test hK, decide_eq_false q]
theorem len3 {l : List Nat} (h : l.length = 3) : ∃ a b c, l = [a, b, c] := by
 match l, h with
 | [a, b, c], _ => exact ⟨a, b, c, rfl⟩
theorem nkinds_pos' {K : List Nat} (h : K.length = 8) : 0 < zx K := nkinds_pos (by omega)
theorem least_run {a b c a' b' c' fn en : Nat} {rows : List (Nat × Nat × Nat)} (ha : a < 8) (hb : b < 8) (hc : c < 8) (ha' : a' < 8) (hb' : b' < 8) (hc' : c' < 8) (hf : fn < 8) (he : en < 8) (er : leastR [a, b, c] [a', b', c'] fn en = some rows) :
  ∃ σ', f_least [.frame [some (.imm (.list [nL [a, b, c], nL [a', b', c']])), some (.imm (nI fn)), none, none, none, none, none, none, none], .cell (some (.imm (nI en))), .cell none, .cell none, .cell none, .cell none, .cell none, .dead, .dead, .dead, .dead, .dead, .dead, .dead, .dead, .dead, .dead] = some (.ret (.list (rows.map zI)), σ') := by
 have t0 := tab_of a b c ha hb hc
 have t1 := tab_of a' b' c' ha' hb' hc'
 unfold leastR at er
 refine nG fun ng => ?_
 split at er
 ·rename_i ks ek
  split at er
  ·rename_i l' rows' eb
   cases er
   refine ng ?_
   clear ng
   generalize hL : PV.list [nL [a, b, c], nL [a', b', c']] = L
   have hk8 : ((List.range 8).map (kd en)).length = 8 := by simp
   rw [mooreL] at ek
   rw [if_pos (nkinds_pos' hk8)] at ek
   refine nG fun ng => ?_
   obtain ⟨l1, e1⟩ := round_step (L := L) (tb := nL (tabOf a' b' c')) (ledP := nL [a', b', c']) (mP := nI 2) (first := fn) (ends := en) (c := 0) t0 t1 hk8 (.inl rfl)
   obtain ⟨c1, lines', lk, hl', ew⟩ := rounds2 (L := L) (tb := nL (tabOf a' b' c')) (ledP := nL [a', b', c']) (mP := nI 2) (first := fn) (ends := en) t0 t1 19 _ _ ks l1 (moore_len ..) ek
   have ew' : cWhile (zP (zM hGt (cLenSet (zE (zK 5))) (zC 0 3))) b_least_3 20 (SB L (nL (tabOf a' b' c')) (nL [a', b', c']) (nI 2) fn en (some (.imm (nI 0))) (some (.imm (nL ((List.range 8).map (kd en))))) none (tabOf a b c) (tabOf a' b' c')) = some (.next, SB L (nL (tabOf a' b' c')) (nL [a', b', c']) (nI 2) fn en (some (.imm (nI c1))) (some (.imm (nL ks))) (some (.imm lines')) (tabOf a b c) (tabOf a' b' c')) := by
    rw [cWhile_s]
    rw [cnt_test hk8, decide_eq_true (nkinds_pos' hk8)]
    dsimp only
    rw [e1]
    exact ew
   have hP : ∀ x ∈ [fn], x < 8 := by simpa using hf
   obtain ⟨σ5, w1, St⟩ := places_loop (L := L) (ledP := nL [a', b', c']) (mP := nI 2) (lnP := lines') (first := fn) (ends := en) (c := c1) t0 t1 lk 20 [fn] [] _ l' rows (.first (.imm (nL (tabOf a' b' c'))) ⟨_, rfl⟩) hP (by simp) (by simp) eb
   obtain ⟨σ6, w2⟩ := start_rows St
   have f1 : cFor 0 (.cell 3) (zE (zC 0 0)) b_least_5 [.frame [some (.imm L), some (.imm (nI fn)), none, none, none, none, none, none, none], .cell (some (.imm (nI en))), .cell (some (.obj 7)), .cell none, .cell none, .cell none, .cell none, .lst [], .dead, .dead, .dead, .dead, .dead, .dead, .dead, .dead, .dead] =
     some (.next, SB L (nL (tabOf a' b' c')) (nL [a', b', c']) (nI 2) fn en none none none (tabOf a b c) (tabOf a' b' c')) := by
    refine e_for (v := L) rfl (xs := [nL [a, b, c], nL [a', b', c']]) (by rw [<- hL]; rfl) ?_
    refine forL_next rfl (led_step (m := none) (tb := .none) a b c (by decide) (.inr rfl)) ?_
    refine forL_next rfl (led_step (m := some (.imm (nI 2))) (tb := nL (tabOf a b c)) a' b' c' (by simp) (.inl rfl)) ?_
    rfl
   refine ng ?_
   clear ng
   refine ⟨σ6, zF (σ1 := [.frame [some (.imm L), some (.imm (nI fn)), none, none, none, none, none, none, none], .cell (some (.imm (nI en))), .cell (some (.obj 7)), .cell none, .cell none, .cell none, .cell none, .lst [], .dead, .dead, .dead, .dead, .dead, .dead, .dead, .dead, .dead]) rfl (zF f1 (zF kinds0 (zF (zp rfl rfl) (zF ew' ?_))))⟩
   refine zF (σ1 := [.frame [some (.imm L), some (.imm (nI fn)), some (.imm (nL (tabOf a' b' c'))), some (.imm (nI c1)), some (.obj 8), none, none, none, none], .cell (some (.imm (nI en))), .cell (some (.obj 7)), .cell (some (.imm (nL [a', b', c']))), .cell (some (.imm (nI 2))), .cell (some (.imm (nL ks))), .cell (some (.imm lines')), .lst [nL (tabOf a b c), nL (tabOf a' b' c')], .lst ([fn].map nI), .dead, .dead, .dead, .dead, .dead, .dead, .dead, .dead]) rfl ?_
   refine zF (σ1 := [.frame [some (.imm L), some (.imm (nI fn)), some (.imm (nL (tabOf a' b' c'))), some (.imm (nI c1)), some (.obj 8), some (.obj 9), none, none, none], .cell (some (.imm (nI en))), .cell (some (.obj 7)), .cell (some (.imm (nL [a', b', c']))), .cell (some (.imm (nI 2))), .cell (some (.imm (nL ks))), .cell (some (.imm lines')), .lst [nL (tabOf a b c), nL (tabOf a' b' c')], .lst ([fn].map nI), .lst (([] : List (Nat × Nat × Nat)).map zI), .dead, .dead, .dead, .dead, .dead, .dead, .dead]) rfl ?_
   exact zF w1 (z6 (e_ret w2))
  ·cases er
 ·cases er
theorem sp_least {n : Nat} (hn : n <= 25) (G : GlB C) (D : FnG C "_law_least" (zD 23) ["leads", "first", "ends"]) : zU C n "_law_least" h_least := by
 refine sp_of (X := X_least n) (is := [1, 2, 3, 4, 5, 6]) (pls := [.loc 0, .loc 1, .cell 1]) 9 17 D (by omega) rfl rfl rfl (by kernel_rfl) rfl (ok_least hn G) fun as cc hc => ?_
 refine nG fun ng => ?_
 obtain ⟨l0, l1, fn, en, rows, rfl, f8, n8, len0, len1, all0, all1, er, rfl⟩ := specO_some hc
 obtain ⟨a, b, c, rfl⟩ := len3 len0
 obtain ⟨a', b', c', rfl⟩ := len3 len1
 simp only [List.all_cons, List.all_nil, Bool.and_eq_true, decide_eq_true_eq, Bool.and_true] at all0 all1
 obtain ⟨ha, hb, hcc⟩ := all0
 obtain ⟨ha', hb', hcc'⟩ := all1
 obtain ⟨σ', w⟩ := least_run ha hb hcc ha' hb' hcc' f8 n8 er
 refine ng ?_
 clear ng
 exact ⟨rfl, _, _, σ', rfl, w, rfl⟩
end
section
variable {C : Cx} {X : zj}
theorem numOf_snoc (l : List Nat) (r : Nat) : numOf (l ++ [65 + r]) = 16 * numOf l + r := by
 unfold numOf
 rw [List.foldl_append]
 show 16 * List.foldl _ 0 l + ((65 + r : Nat) : Int) - 65 = _
 omega
theorem numOf_hex : ∀ (k n : Nat), n < 16 ^ k -> numOf (hexL k n) = n
 | 0, n, h => by
  have : n = 0 := by simpa using h
  subst this; rfl
 | k + 1, n, h => by
  dsimp only [hexL]
  by_cases q : n = 0
  ·subst q; rfl
  ·rw [if_neg q, numOf_snoc, numOf_hex k (n / 16) (by rw [Nat.pow_succ] at h; omega)]
   omega
noncomputable abbrev wd (x : Nat) : PV := .str (hexL 63 x)
theorem letters_wd {x : Nat} (h : x < 2000) : zo [nI x] = some (wd x) := by
 show (if (x : Int).natAbs < 2 ^ 200 then some (PV.str (hexL 63 (x : Int).natAbs)) else none) = _
 rw [Int.natAbs_natCast, if_pos (Nat.lt_of_lt_of_le h (by decide))]
theorem letters_neg {x : Nat} (h : x < 2000) : zo [.int (-(x : Int))] = some (wd x) := by
 show (if (-(x : Int)).natAbs < 2 ^ 200 then some (PV.str (hexL 63 (-(x : Int)).natAbs)) else none) = _
 rw [Int.natAbs_neg, Int.natAbs_natCast, if_pos (Nat.lt_of_lt_of_le h (by decide))]
theorem number_wd {x : Nat} (h : x < 2000) : h_number [wd x] = some (nI x) := by
 show some (PV.int (numOf (hexL 63 x))) = _
 rw [numOf_hex 63 x (Nat.lt_of_lt_of_le h (by decide))]
noncomputable def sy (g s : Nat) : Nat := if s &&& g = 0 then 255 - s else 255 + s
theorem sy_lt {g s : Nat} (h : s < 256) : sy g s < 511 := by unfold sy; split <;> omega
theorem sy_abs {g s : Nat} (h : s < 256) : ((sy g s : Int) - 255).natAbs = s := by unfold sy; split <;> omega
theorem sy_inj {g s t : Nat} (hs : s < 256) (ht : t < 256) (h : sy g s = sy g t) : s = t := by rw [<- sy_abs (g := g) hs, <- sy_abs (g := g) ht, h]
theorem symbol_sy {g s : Nat} (h : s < 256) : h_symbol [nI s, nI g] = some (nI (sy g s)) := by
 show (if 0 <= (s : Int) /\ 0 <= (g : Int) then some (PV.int (if (s : Int).toNat &&& (g : Int).toNat = 0 then 255 - (s : Int) else 255 + (s : Int))) else none) = _
 rw [if_pos ⟨by omega, by omega⟩, Int.toNat_natCast, Int.toNat_natCast]
 unfold sy
 congr 2
 split <;> omega
theorem kind_sy {g s : Nat} (h : s < 256) : h_kind [nI (sy g s)] = some (nI (kd g s)) := by
 have := sy_lt (g := g) h
 show (if 0 <= (sy g s : Int) /\ (sy g s : Int) < 511 then some (PV.int (if 256 <= (sy g s : Int) then 1 else 0)) else none) = _
 rw [if_pos ⟨by omega, by omega⟩]
 unfold sy kd
 congr 2
 by_cases q : s &&& g = 0
 ·rw [if_pos q, if_pos q, if_neg (by omega)]; rfl
 ·rw [if_neg q, if_neg q]
  have : s ≠ 0 := fun e => q (by rw [e]; simp)
  rw [if_pos (by omega)]; rfl
theorem idxOf_mapI {f : Nat -> Nat} {t : Nat} : ∀ {l : List Nat}, (∀ a ∈ l, f a = f t -> a = t) -> (l.map f).idxOf (f t) = l.idxOf t
 | [], _ => rfl
 | a :: l, h => by
  rw [List.map_cons, List.idxOf_cons, List.idxOf_cons, idxOf_mapI fun b hb => h b (List.mem_cons_of_mem _ hb)]
  by_cases q : a = t
  ·subst q; simp
  ·have : ¬ f a = f t := fun e => q (h a List.mem_cons_self e)
   rw [show (f a == f t) = false by simpa using this, show (a == t) = false by simpa using q]
theorem mem_mapI {f : Nat -> Nat} {t : Nat} {l : List Nat} (h : ∀ a ∈ l, f a = f t -> a = t) : f t ∈ l.map f ↔ t ∈ l := by
 constructor
 ·intro q
  refine nG fun ng => ?_
  obtain ⟨a, ha, e⟩ := List.mem_map.mp q
  refine ng ?_
  clear ng
  exact h a ha e ▸ ha
 ·exact fun q => List.mem_map.mpr ⟨t, q, rfl⟩
theorem e_lexM {L : Addr} {h : List PV -> List zA -> Option (PV × List zA)} {g : CC AV} {f : CC (List PV)} {σ σ1 σ₂ : List zA} {as : List PV} {r : Option (PV × List zA)} (h1 : g σ = some (.imm (.ref L), σ1)) (h2 : isAt σ1[0]? = true) (h3 : f σ1 = some (as, σ₂)) (h4 : yA h (.ref L :: as) σ₂ = r) : cLexM L h g f σ = r := by
 unfold cLexM; rw [h1]; dsimp only; rw [if_pos ⟨rfl, h2⟩, h3]; exact h4
theorem e_drop {f : CC PV} {σ σ1 : List zA} {p : PV} (h : f σ = some (p, σ1)) (hp : p.flat = true) : cDrop f σ = some (.next, σ1) := by unfold cDrop; rw [h]; dsimp only; rw [if_pos hp]
section
variable {Z : LX} {feed : Addr} {fu : Nat} {n : Int} {ss : List Nat}
theorem push_run {bs : List PV} {t : List Nat} {rest : List zA} (h : bs.length < 4096) : yA (h_push Z) [.ref Z.L, .str t] (LS Z feed n bs ss ++ rest) = some (.none, LS Z feed n (bs ++ [.str t]) ss ++ rest) := by
 have e1 : (LS Z feed n bs ss ++ rest).take 4 = LS Z feed n bs ss := rfl
 have e2 : (LS Z feed n bs ss ++ rest).drop 4 = rest := rfl
 have e3 : h_push Z [.ref Z.L, .str t] (LS Z feed n bs ss) = some (.none, LS Z feed n (bs ++ [.str t]) ss) := by
  exact h_push_at h rfl
 unfold yA
 rw [e1, e2, e3]
 dsimp only
 rw [if_pos ⟨rfl, by simp⟩]
theorem get_runQ {b : PV} {bs : List PV} {rest : List zA} (hs : ss.all (· < 1114112) = true) (h : ss.length + 2 <= fu) (h2 : fu <= 16777000) : yA (h_get Z feed fu) [.ref Z.L] (LS Z feed n (b :: bs) ss ++ rest) = some (b, LS Z feed n bs ss ++ rest) :=
 lexRun_LS (by show (if Z.L = Z.L /\ _ then _ else none) = _; rw [if_pos ⟨rfl, h, h2⟩]) hs
theorem get_run0 {rest : List zA} (hs : ss.all (· < 1114112) = true) (h : ss.length + 2 <= fu) (h2 : fu <= 16777000) : yA (h_get Z feed fu) [.ref Z.L] (LS Z feed n [] ss ++ rest) = some (.str (z7 ss n).1, LS Z feed (z7 ss n).2.1 [] (z7 ss n).2.2.1 ++ rest) :=
 lexRun_LS (by show (if Z.L = Z.L /\ _ then _ else none) = _; rw [if_pos ⟨rfl, h, h2⟩]) hs
end
theorem tokQ_all : ∀ (k : Nat) (ss t : List Nat) (n : Int), ss.length <= k -> ss.all (· < 1114112) = true -> t.all (· < 1114112) = true -> (tokQ ss t n).1.all (· < 1114112) = true /\ (tokQ ss t n).2.2.1.all (· < 1114112) = true
 | k, [], t, n, _, _, ht => ⟨ht, rfl⟩
 | 0, c :: ss, t, n, h, _, _ => by simp at h
 | k + 1, c :: ss, t, n, h, hs, ht => by
  simp only [List.length_cons] at h
  obtain ⟨hc, hs⟩ := all_tail hs
  have ap : ∀ d, d < 1114112 -> (t ++ [d]).all (· < 1114112) = true := fun d hd => by rw [List.all_append, ht, one_ok hd]; rfl
  unfold tokQ
  by_cases h1 : c = 34
  ·rw [if_pos h1]; exact ⟨ht, hs⟩
  ·rw [if_neg h1]
   by_cases h2 : c = 92
   ·rw [if_pos h2]
    cases ss with
    | nil => exact ⟨ht, rfl⟩
    | cons d ss' =>
     obtain ⟨hd, hs'⟩ := all_tail hs
     exact tokQ_all k ss' _ _ (by simp at h; omega) hs' (ap d hd)
   ·rw [if_neg h2]
    exact tokQ_all k ss _ _ (by omega) hs (ap c hc)
theorem tokU_all : ∀ (k : Nat) (ss t : List Nat) (n : Int), ss.length <= k -> ss.all (· < 1114112) = true -> t.all (· < 1114112) = true -> (tokU ss t n).1.all (· < 1114112) = true /\ (tokU ss t n).2.2.1.all (· < 1114112) = true
 | k, [], t, n, _, _, ht => ⟨ht, rfl⟩
 | 0, c :: ss, t, n, h, _, _ => by simp at h
 | k + 1, c :: ss, t, n, h, hs, ht => by
  simp only [List.length_cons] at h
  obtain ⟨hc, hs⟩ := all_tail hs
  have ap : ∀ d, d < 1114112 -> (t ++ [d]).all (· < 1114112) = true := fun d hd => by rw [List.all_append, ht, one_ok hd]; rfl
  unfold tokU
  by_cases h1 : c ∈ wsS
  ·rw [if_pos h1]; exact ⟨ht, hs⟩
  ·rw [if_neg h1]
   by_cases h2 : c = 92
   ·rw [if_pos h2]
    cases ss with
    | nil => exact ⟨ht, rfl⟩
    | cons d ss' =>
     obtain ⟨hd, hs'⟩ := all_tail hs
     exact tokU_all k ss' _ _ (by simp at h; omega) hs' (ap d hd)
   ·rw [if_neg h2]
    exact tokU_all k ss _ _ (by omega) hs (ap c hc)
theorem tokO_all : ∀ (ss : List Nat) (n : Int), ss.all (· < 1114112) = true -> (z7 ss n).1.all (· < 1114112) = true /\ (z7 ss n).2.2.1.all (· < 1114112) = true
 | [], n, _ => ⟨rfl, rfl⟩
 | c :: ss, n, hs => by
  obtain ⟨hc, hs⟩ := all_tail hs
  unfold z7
  by_cases h1 : c ∈ wsS
  ·rw [if_pos h1]; exact tokO_all ss _ hs
  ·rw [if_neg h1]
   by_cases h2 : c = 34
   ·rw [if_pos h2]; exact tokQ_all _ ss [] n (Nat.le_refl _) hs rfl
   ·rw [if_neg h2]
    by_cases h3 : c = 92
    ·rw [if_pos h3]
     cases ss with
     | nil => exact ⟨rfl, rfl⟩
     | cons d ss' =>
      obtain ⟨hd, hs'⟩ := all_tail hs
      exact tokU_all _ ss' _ _ (Nat.le_refl _) hs' (one_ok hd)
    ·rw [if_neg h3]
     exact tokU_all _ ss _ _ (Nat.le_refl _) hs (one_ok hc)
section
variable {Z : LX} {feed : Addr} {fu : Nat} {n : Int} {ss : List Nat} {mark leads : PV} {first good s : Nat}
noncomputable abbrev TR (Z : LX) (mark leads : PV) (first good : Nat) (row sm nw told sym led : Option AV) (S : List Nat) (o9 o10 : zA) : List zA :=
 [.frame [some (.imm mark), some (.imm leads), some (.imm (nI first)), some (.imm (nI good)), some (.obj 8), some (.obj 9), row, sm, nw, told], .cell (some (.imm (.ref Z.L))), .cell sym, .cell led, .lst (S.map nI), o9, o10, .dead, .dead]
noncomputable abbrev TS (Z : LX) (feed : Addr) (n : Int) (bs : List PV) (ss : List Nat) (mark leads : PV) (first good : Nat) (row sm nw told sym led : Option AV) (S : List Nat) (o9 o10 : zA) : List zA :=
 LS Z feed n bs ss ++ TR Z mark leads first good row sm nw told sym led S o9 o10
theorem TS_clr {i : Nat} (hi : i = 11 \/ i = 12) {bs : List PV} {row sm nw told sym led : Option AV} {S : List Nat} {o9 o10 : zA} (h1 : clrV i row = row) (h2 : clrV i sm = sm) (h3 : clrV i nw = nw) (h4 : clrV i told = told) (h5 : clrV i sym = sym) (h6 : clrV i led = led) (h7 : clr i o9 = o9) (h8 : clr i o10 = o10) :
  (TS Z feed n bs ss mark leads first good row sm nw told sym led S o9 o10).map (clr i) = TS Z feed n bs ss mark leads first good row sm nw told sym led S o9 o10 := by
 have e : (TS Z feed n bs ss mark leads first good row sm nw told sym led S o9 o10).map (clr i) = LS Z feed n bs ss ++ [.frame [some (.imm mark), some (.imm leads), some (.imm (nI first)), some (.imm (nI good)), some (.obj 8), some (.obj 9), clrV i row, clrV i sm, clrV i nw, clrV i told], .cell (some (.imm (.ref Z.L))), .cell (clrV i sym), .cell (clrV i led), .lst (S.map nI), clr i o9, clr i o10, .dead, .dead] := by
  rcases hi with rfl | rfl <;> rfl
 rw [e, h1, h2, h3, h4, h5, h6, h7, h8]
noncomputable def Im (v : Option AV) : Prop := v = none \/ ∃ p, v = some (.imm p)
theorem Im.clr {v : Option AV} (h : Im v) (i : Nat) : clrV i v = v := by rcases h with rfl | ⟨p, rfl⟩ <;> rfl
theorem sum_eval {bs : List PV} {l S W : List Nat} {o9 : zA} {sm nw : Option AV} (hs : s < 256) (hl : l.length <= 8) (h2 : Im sm) (h3 : Im nw) (h9 : clr 11 o9 = o9) :
  zO hSum (zB (zy (.loc 0) 11 1 [] (zO zz (zB (zw hLen (zK 7)) zG)) (t_turned_2 Z feed fu) (e_turned_2 Z feed fu)) zG) (TS Z feed n bs ss mark leads first good (some (.obj 10)) sm nw none (some (.imm (nI (sy good s)))) (some (.imm (nL l))) S o9 (.lst (W.map nI))) =
   some (nI (zV l s), TS Z feed n bs ss mark leads first good (some (.obj 10)) sm nw none (some (.imm (nI (sy good s)))) (some (.imm (nL l))) S o9 (.lst (W.map nI))) := by
 have hc := TS_clr (Z := Z) (feed := feed) (n := n) (ss := ss) (mark := mark) (leads := leads) (first := first) (good := good) (i := 11) (.inl rfl) (bs := bs) (row := some (.obj 10)) (sm := sm) (nw := nw) (told := none) (sym := some (.imm (nI (sy good s)))) (led := some (.imm (nL l))) (S := S) (o9 := o9) (o10 := .lst (W.map nI)) rfl (h2.clr _) (h3.clr _) rfl rfl rfl h9 rfl
 have e1 := comp_eval (ci := 11) (t := t_turned_2 Z feed fu) (fe := e_turned_2 Z feed fu) (f := zO zz (zB (zw hLen (zK 7)) zG)) (fun p => match p with | .int m => l.getD m.toNat 0 &&& s != 0 | _ => false) (fun p => match p with | .int m => nI (2 ^ m.toNat) | _ => .none)
  (σ := TS Z feed n bs ss mark leads first good (some (.obj 10)) sm nw none (some (.imm (nI (sy good s)))) (some (.imm (nL l))) S o9 (.lst (W.map nI))) (σ1 := TS Z feed n bs ss mark leads first good (some (.obj 10)) sm nw none (some (.imm (nI (sy good s)))) (some (.imm (nL l))) S o9 (.lst (W.map nI))) (u := .rng 0 ((l.map nI).length : Int)) (xs := (List.range l.length).map nI)
  rfl (by rw [List.length_map]; exact rng_items (by omega)) (by simp; omega) (by show 11 < 13; decide) (fun p hp => by
   obtain ⟨m, hm, rfl⟩ := List.mem_map.mp hp
   have hm' := List.mem_range.mp hm
   rw [hc]
   have hv : l[m]? = some (l.getD m 0) := by rw [List.getD_eq_getElem?_getD, List.getElem?_eq_getElem hm']; rfl
   constructor
   ·show _ = some (l.getD (m : Int).toNat 0 &&& s != 0, _)
    rw [Int.toNat_natCast]
    have ha : zO hAbs (zB (zh hSub (zE (zK 6)) (cQ (.int 255))) zG) ((TS Z feed n bs ss mark leads first good (some (.obj 10)) sm nw none (some (.imm (nI (sy good s)))) (some (.imm (nL l))) S o9 (.lst (W.map nI))).set 11 (.frame [some (.imm (nI m))])) = some (nI s, (TS Z feed n bs ss mark leads first good (some (.obj 10)) sm nw none (some (.imm (nI (sy good s)))) (some (.imm (nL l))) S o9 (.lst (W.map nI))).set 11 (.frame [some (.imm (nI m))])) := by
     refine za (z0 (a := .int ((sy good s : Int) - 255)) (zr rfl rfl rfl)) ?_
     show some (PV.int ((((sy good s : Int) - 255).natAbs : Nat) : Int)) = _
     rw [sy_abs hs]
    have hi : zO h_iseof (zB (zh hAnd (z3 [12] zH (zK 7) (zE (zC 11 0))) (zO hAbs (zB (zh hSub (zE (zK 6)) (cQ (.int 255))) zG))) zG) ((TS Z feed n bs ss mark leads first good (some (.obj 10)) sm nw none (some (.imm (nI (sy good s)))) (some (.imm (nL l))) S o9 (.lst (W.map nI))).set 11 (.frame [some (.imm (nI m))])) = some (.bool (l.getD m 0 &&& s == 0), (TS Z feed n bs ss mark leads first good (some (.obj 10)) sm nw none (some (.imm (nI (sy good s)))) (some (.imm (nL l))) S o9 (.lst (W.map nI))).set 11 (.frame [some (.imm (nI m))])) := by
     refine za (z0 (zr (z9 rfl rfl (item_nL hv (by omega))) ha (and_nI _ _))) ?_
     show some (PV.bool (((l.getD m 0 &&& s : Nat) : Int) == 0)) = _
     congr 2
     by_cases q : l.getD m 0 &&& s = 0
     ·rw [q]; rfl
     ·rw [show (l.getD m 0 &&& s == 0) = false by simpa using q]
      simpa using (by omega : ¬ ((l.getD m 0 &&& s : Nat) : Int) = 0)
    refine z1 (zY hi rfl rfl ?_ rfl)
    show some (PV.bool ((l.getD m 0 &&& s == 0) == false)) = _
    have hb : ∀ b : Bool, (b == false) = !b := by decide
    rw [hb]; rfl
   ·intro _
    show _ = some (nI (2 ^ (m : Int).toNat), _)
    rw [Int.toNat_natCast]
    refine zr rfl rfl ?_
    show (if ((2 : Int) = 2 \/ (2 : Int) = 16 \/ (2 : Int) = 3) /\ 0 <= (m : Int) /\ (m : Int) <= 64 then some (PV.int ((2 : Int) ^ (m : Int).toNat)) else none) = _
    rw [if_pos ⟨.inl rfl, by omega, by omega⟩, Int.toNat_natCast]
    show some (PV.int ((2 : Int) ^ m)) = some (PV.int ((2 ^ m : Nat) : Int))
    rw [Int.natCast_pow]; rfl)
 rw [hc] at e1
 have e2 : (((List.range l.length).map nI).filter fun p => match p with | .int m => l.getD m.toNat 0 &&& s != 0 | _ => false).map (fun p => match p with | .int m => nI (2 ^ m.toNat) | _ => .none) = (((List.range l.length).filter fun m => (l.getD m 0) &&& s != 0).map fun m => 2 ^ m).map nI := by
  rw [List.filter_map, List.map_map, List.map_map]
  have : ((fun p : PV => match p with | .int m => l.getD m.toNat 0 &&& s != 0 | _ => false) ∘ nI) = fun m => l.getD m 0 &&& s != 0 := by
   funext m
   show (l.getD (m : Int).toNat 0 &&& s != 0) = _
   rw [Int.toNat_natCast]
  rw [this]
  refine List.map_congr_left fun m _ => ?_
  show nI (2 ^ (m : Int).toNat) = nI (2 ^ m)
  rw [Int.toNat_natCast]
 rw [e2] at e1
 refine za (z0 e1) ?_
 have hi : ∀ K : List Nat, intsOf (K.map nI) = some (K.map fun (n : Nat) => (n : Int)) := fun K => by
  have : K.map nI = (K.map fun (n : Nat) => (n : Int)).map PV.int := by rw [List.map_map]; rfl
  rw [this, intsOf_map]
 have hsum : ∀ K : List Nat, (K.map fun (n : Nat) => (n : Int)).sum = ((K.sum : Nat) : Int) := fun K => by
  induction K with
  | nil => rfl
  | cons a K ih => rw [List.map_cons, List.sum_cons, List.sum_cons, ih]; push_cast; rfl
 show (match intsOf _ with | some ns => some (PV.int ns.sum) | none => none) = _
 rw [hi]
 dsimp only
 rw [hsum]; rfl
end
end
section
variable {C : Cx} {X : zj}
section
variable {Z : LX} {feed : Addr} {fu : Nat} {n : Int} {ss : List Nat} {mark leads : PV} {first good s : Nat}
theorem preS_lt {l : List Nat} (h : l.length <= 8) (s : Nat) : zV l s < 256 := by
 rw [preS_mask]
 exact Nat.lt_of_lt_of_le (mask_lt ..) (Nat.pow_le_pow_right (by decide) h)
theorem insK_id (t : Nat) (l : List Nat) : zS id t l = if t ∈ l then l else l ++ [t] := by unfold zS; rw [List.map_id]; rfl
theorem idxK_id (t : Nat) (l : List Nat) : yB id t l = l.idxOf t := by unfold yB; rw [List.map_id]; rfl
noncomputable abbrev wds (good : Nat) (P : List Nat) (r : Nat) : List PV := (P.drop r).map fun s => wd (sy good s)
theorem led_turn {P W l : List Nat} {r : Nat} {o9 : zA} {sm nw : Option AV} (hs : s < 256) (hl : l.length <= 8) (h2 : Im sm) (h3 : Im nw) (h9 : clr 11 o9 = o9) (hP : ∀ x ∈ P, x < 256) (hPl : P.length <= 100) (hW : W.length <= 100) (hr : r <= P.length) :
  b_turned_2 Z feed fu (TS Z feed n (wds good P r) ss mark leads first good (some (.obj 10)) sm nw none (some (.imm (nI (sy good s)))) (some (.imm (nL l))) (P.map (sy good)) o9 (.lst (W.map nI))) =
   some (.next, TS Z feed n (wds good (zS id (zV l s) P) r) ss mark leads first good (some (.obj 10)) (some (.imm (nI (zV l s)))) (some (.imm (nI (sy good (zV l s))))) none (some (.imm (nI (sy good s)))) (some (.imm (nL l))) ((zS id (zV l s) P).map (sy good)) o9 (.lst ((W ++ [yB id (zV l s) (zS id (zV l s) P)]).map nI))) := by
 have hp := preS_lt hl s
 generalize ht : zV l s = t at hp ⊢
 have e1 := sum_eval (Z := Z) (feed := feed) (fu := fu) (n := n) (ss := ss) (mark := mark) (leads := leads) (first := first) (good := good) (bs := wds good P r) (S := P.map (sy good)) (W := W) hs hl h2 h3 h9
 rw [ht] at e1
 have inj : ∀ Q : List Nat, (∀ x ∈ Q, x < 256) -> ∀ a ∈ Q, sy good a = sy good t -> a = t := fun Q hQ a ha e => sy_inj (hQ a ha) hp e
 refine zF (zp e1 rfl) (zF (zp (za (z4 (a := nI t) rfl (z0 (a := nI good) rfl)) (symbol_sy hp)) rfl) ?_)
 have et : ∀ q, (!decide (t ∈ P)) = q -> zP (zM hNotIn (zE (zC 4 8)) (zC 4 4)) (TS Z feed n (wds good P r) ss mark leads first good (some (.obj 10)) (some (.imm (nI t))) (some (.imm (nI (sy good t)))) none (some (.imm (nI (sy good s)))) (some (.imm (nL l))) (P.map (sy good)) o9 (.lst (W.map nI))) =
   some (q, TS Z feed n (wds good P r) ss mark leads first good (some (.obj 10)) (some (.imm (nI t))) (some (.imm (nI (sy good t)))) none (some (.imm (nI (sy good s)))) (some (.imm (nL l))) (P.map (sy good)) o9 (.lst (W.map nI))) := fun q hq =>
  z1 (zY (a := nI (sy good t)) rfl rfl rfl (by rw [notIn_nL, decide_eq_decide.mpr (mem_mapI (inj P hP)), hq]) rfl)
 have er : ∀ (P' : List Nat) (bs : List PV), t ∈ P' -> (∀ x ∈ P', x < 256) -> zf [11, 12] (zC 4 6) (cMeth [11, 12] "list" hIndex (zC 4 4) (zB (zE (zC 4 8)) zG)) (TS Z feed n bs ss mark leads first good (some (.obj 10)) (some (.imm (nI t))) (some (.imm (nI (sy good t)))) none (some (.imm (nI (sy good s)))) (some (.imm (nL l))) (P'.map (sy good)) o9 (.lst (W.map nI))) =
   some (.next, TS Z feed n bs ss mark leads first good (some (.obj 10)) (some (.imm (nI t))) (some (.imm (nI (sy good t)))) none (some (.imm (nI (sy good s)))) (some (.imm (nL l))) (P'.map (sy good)) o9 (.lst ((W ++ [yB id t P']).map nI))) := fun P' bs hm hP' => by
  have ei := index_nL (l := P'.map (sy good)) (x := sy good t) ((mem_mapI (inj P' hP')).mpr hm)
  rw [idxOf_mapI (inj P' hP')] at ei
  refine (e_append (i := 10) (p := nI (P'.idxOf t)) rfl (e_methO (ty := "list") (k := 8) (as := [nI (sy good t)]) rfl rfl rfl rfl rfl rfl ei rfl) rfl rfl (by rw [List.length_map]; omega) rfl).trans ?_
  rw [idxK_id]
  have : (W ++ [P'.idxOf t]).map nI = W.map nI ++ [nI (P'.idxOf t)] := by simp
  rw [this]; rfl
 rw [insK_id]
 by_cases q : t ∈ P
 ·rw [if_pos q]
  exact zF (zv (et false (by rw [decide_eq_true q]; rfl)) rfl) (zF (er P _ q hP) rfl)
 ·rw [if_neg q]
  have hP2 : ∀ x ∈ P ++ [t], x < 256 := by
   intro x hx
   rcases List.mem_append.mp hx with h | h
   ·exact hP x h
   ·rw [List.mem_singleton.mp h]; exact hp
  have hsy := sy_lt (g := good) hp
  have hw : wds good (P ++ [t]) r = wds good P r ++ [wd (sy good t)] := by
   show ((P ++ [t]).drop r).map _ = _
   rw [List.drop_append_of_le_length hr, List.map_append]; rfl
  have hm : (P ++ [t]).map (sy good) = P.map (sy good) ++ [sy good t] := by simp
  have a1 : zf [11, 12] (zC 4 4) (zE (zC 4 8)) (TS Z feed n (wds good P r) ss mark leads first good (some (.obj 10)) (some (.imm (nI t))) (some (.imm (nI (sy good t)))) none (some (.imm (nI (sy good s)))) (some (.imm (nL l))) (P.map (sy good)) o9 (.lst (W.map nI))) =
    some (.next, TS Z feed n (wds good P r) ss mark leads first good (some (.obj 10)) (some (.imm (nI t))) (some (.imm (nI (sy good t)))) none (some (.imm (nI (sy good s)))) (some (.imm (nL l))) ((P ++ [t]).map (sy good)) o9 (.lst (W.map nI))) := by
   refine (e_append (i := 8) (p := nI (sy good t)) rfl rfl rfl rfl (by rw [List.length_map, List.length_map]; omega) rfl).trans ?_
   have : ((P ++ [t]).map (sy good)).map nI = (P.map (sy good)).map nI ++ [nI (sy good t)] := by rw [hm, List.map_append]; rfl
   show some (Fl.next, LS Z feed n (wds good P r) ss ++ [_, _, _, _, zA.lst ((P.map (sy good)).map nI ++ [nI (sy good t)]), _, _, _, _]) = some (Fl.next, LS Z feed n (wds good P r) ss ++ [_, _, _, _, zA.lst (((P ++ [t]).map (sy good)).map nI), _, _, _, _])
   rw [this]
  have a2 : cDrop (cLexM Z.L (h_push Z) (zK 5) (zB (zO zo (zB (cUn hNeg (zE (zC 4 8))) zG)) zG)) (TS Z feed n (wds good P r) ss mark leads first good (some (.obj 10)) (some (.imm (nI t))) (some (.imm (nI (sy good t)))) none (some (.imm (nI (sy good s)))) (some (.imm (nL l))) ((P ++ [t]).map (sy good)) o9 (.lst (W.map nI))) =
    some (.next, TS Z feed n (wds good (P ++ [t]) r) ss mark leads first good (some (.obj 10)) (some (.imm (nI t))) (some (.imm (nI (sy good t)))) none (some (.imm (nI (sy good s)))) (some (.imm (nL l))) ((P ++ [t]).map (sy good)) o9 (.lst (W.map nI))) := by
   rw [hw]
   exact e_drop (p := .none) (e_lexM rfl rfl (z0 (za (z0 (a := .int (-(sy good t : Int))) rfl) (letters_neg (by omega)))) (push_run (by simp; omega))) rfl
  exact zF (e_ifT (et true (by rw [decide_eq_false q]; rfl)) (zF a1 (zF a2 rfl))) (zF (er _ _ (List.mem_append_right _ (List.mem_singleton.mpr rfl)) hP2) rfl)
inductive Beg (Z : LX) (feed : Addr) (n : Int) (ss : List Nat) (mark leads : PV) (first good : Nat) (P : List Nat) (R : List (Nat × Nat × Nat)) : List zA -> Prop
 | first : Beg Z feed n ss mark leads first good P R (TS Z feed n (wds good P R.length) ss mark leads first good none none none none none none (P.map (sy good)) (.lst (R.map zI)) .dead)
 | later (sm nw sym led rv : PV) : Beg Z feed n ss mark leads first good P R (TS Z feed n (wds good P R.length) ss mark leads first good (some (.obj 10)) (some (.imm sm)) (some (.imm nw)) none (some (.imm sym)) (some (.imm led)) (P.map (sy good)) (.lst (R.map zI)) (.frozen rv))
theorem turned_step {l0 l1 P : List Nat} {R : List (Nat × Nat × Nat)} {σ : List zA} (St : Beg Z feed n ss mark (.list [nL l0, nL l1]) first good P R σ) (hss : ss.all (· < 1114112) = true) (hfu : ss.length + 2 <= fu) (hfu2 : fu <= 16777000) (h0 : l0.length <= 8) (h1 : l1.length <= 8)
  (hP : ∀ x ∈ P, x < 256) (hPl : P.length <= 90) (hRl : R.length <= 90) (hx : P[R.length]? = some s) :
  ∃ σ', b_turned_3 Z feed fu σ = some (.next, σ') /\ Beg Z feed n ss mark (.list [nL l0, nL l1]) first good (zS id (zV l1 s) (zS id (zV l0 s) P)) (R ++ [(kd good s, yB id (zV l0 s) (zS id (zV l0 s) P), yB id (zV l1 s) (zS id (zV l1 s) (zS id (zV l0 s) P)))]) σ' := by
 have hlt := (List.getElem?_eq_some_iff.mp hx).1
 have hs : s < 256 := hP s (List.mem_of_getElem? hx)
 have hsy := sy_lt (g := good) hs
 have hw : wds good P R.length = wd (sy good s) :: wds good P (R.length + 1) := by
  show (P.drop R.length).map _ = _
  rw [List.drop_eq_getElem_cons hlt, (List.getElem?_eq_some_iff.mp hx).2]; rfl
 have hP1 := ins_lt (key := id) hP (preS_lt h0 s)
 refine nG fun ng => ?_
 obtain ⟨r1, e1, g1⟩ := ins_pre (key := id) (t := zV l0 s) (l := P)
 have hl1 : P.length <= (zS id (zV l0 s) P).length /\ (zS id (zV l0 s) P).length <= 91 := by
  rw [e1, List.length_append]
  rcases g1 with rfl | rfl <;> simp <;> omega
 have go : ∀ sm nw sym led : Option AV, Im sm -> Im nw -> Im sym -> Im led -> ∃ σ', zJ (cFor 4 (.cell 7) (zE (zC 4 1)) (b_turned_2 Z feed fu)) (zJ (zf [11, 12] (zC 4 5) (zE (zC 4 6))) (zL .next)) (TS Z feed n (wds good P (R.length + 1)) ss mark (.list [nL l0, nL l1]) first good (some (.obj 10)) sm nw none (some (.imm (nI (sy good s)))) led (P.map (sy good)) (.lst (R.map zI)) (.lst ([kd good s].map nI))) = some (.next, σ') /\
   Beg Z feed n ss mark (.list [nL l0, nL l1]) first good (zS id (zV l1 s) (zS id (zV l0 s) P)) (R ++ [(kd good s, yB id (zV l0 s) (zS id (zV l0 s) P), yB id (zV l1 s) (zS id (zV l1 s) (zS id (zV l0 s) P)))]) σ' := by
  intro sm nw sym led i1 i2 i3 i4
  refine ⟨_, zF (e_for rfl rfl (forL_next rfl (led_turn (P := P) (W := [kd good s]) (l := l0) (r := R.length + 1) hs h0 i1 i2 rfl hP (by omega) (by simp) (by omega)) (forL_next rfl (led_turn (W := [kd good s] ++ [_]) (l := l1) (r := R.length + 1) hs h1 (.inr ⟨_, rfl⟩) (.inr ⟨_, rfl⟩) rfl hP1 (by omega) (by simp) (by omega)) rfl))) (zF (e_append (i := 9) rfl rfl rfl rfl (by rw [List.length_map]; omega) rfl) rfl), ?_⟩
  have hrow : (R ++ [(kd good s, yB id (zV l0 s) (zS id (zV l0 s) P), yB id (zV l1 s) (zS id (zV l1 s) (zS id (zV l0 s) P)))]).map zI = R.map zI ++ [.list ([kd good s] ++ [yB id (zV l0 s) (zS id (zV l0 s) P)] ++ [yB id (zV l1 s) (zS id (zV l1 s) (zS id (zV l0 s) P))] |>.map nI)] := by
   rw [List.map_append]; rfl
  have := Beg.later (Z := Z) (feed := feed) (n := n) (ss := ss) (mark := mark) (leads := .list [nL l0, nL l1]) (first := first) (good := good) (P := zS id (zV l1 s) (zS id (zV l0 s) P)) (R := R ++ [(kd good s, yB id (zV l0 s) (zS id (zV l0 s) P), yB id (zV l1 s) (zS id (zV l1 s) (zS id (zV l0 s) P)))]) (nI (zV l1 s)) (nI (sy good (zV l1 s))) (nI (sy good s)) (nL l1) (.list ([kd good s] ++ [yB id (zV l0 s) (zS id (zV l0 s) P)] ++ [yB id (zV l1 s) (zS id (zV l1 s) (zS id (zV l0 s) P))] |>.map nI))
  rw [hrow, List.length_append] at this
  exact this
 refine ng ?_
 clear ng
 cases St with
 | first =>
  refine nG fun ng => ?_
  obtain ⟨σ', w1, w2⟩ := go none none none none (.inl rfl) (.inl rfl) (.inl rfl) (.inl rfl)
  refine ng ?_
  clear ng
  refine ⟨σ', ?_, w2⟩
  rw [hw]
  exact zF (zp (za (z0 (e_lexM rfl rfl rfl (get_runQ hss hfu hfu2))) (number_wd (by omega))) rfl) (zF (e_own (z0 (za (z0 (a := nI (sy good s)) rfl) (kind_sy hs))) ⟨by simp, by show 10 < 13; decide⟩ rfl) w1)
 | later sm nw sym led rv =>
  refine nG fun ng => ?_
  obtain ⟨σ', w1, w2⟩ := go (some (.imm sm)) (some (.imm nw)) (some (.imm sym)) (some (.imm led)) (.inr ⟨_, rfl⟩) (.inr ⟨_, rfl⟩) (.inr ⟨_, rfl⟩) (.inr ⟨_, rfl⟩)
  refine ng ?_
  clear ng
  refine ⟨σ', ?_, w2⟩
  rw [hw]
  exact zF (zp (za (z0 (e_lexM rfl rfl rfl (get_runQ hss hfu hfu2))) (number_wd (by omega))) rfl) (zF (e_own (z0 (za (z0 (a := nI (sy good s)) rfl) (kind_sy hs))) ⟨by simp, by show 10 < 13; decide⟩ rfl) w1)
end
end
section
variable {C : Cx} {X : zj}
section
variable {Z : LX} {feed : Addr} {fu : Nat} {n : Int} {ss : List Nat} {mark leads : PV} {first good s : Nat}
theorem beg_test {P : List Nat} {R : List (Nat × Nat × Nat)} {σ : List zA} (St : Beg Z feed n ss mark leads first good P R σ) :
  zP (zM hLt (zw hLen (zC 4 5)) (zX (zw hLen (zC 4 4)))) σ = some (decide (R.length < P.length), σ) := by
 have key : zP (zM hLt (zw hLen (zC 4 5)) (zX (zw hLen (zC 4 4)))) σ = some (decide (((R.map zI).length : Int) < (((P.map (sy good)).map nI).length : Int)), σ) := by
  cases St with
  | first => exact z1 (zY (e_lenO (k := 9) rfl rfl) (e_imm (e_lenO (k := 8) rfl rfl)) rfl rfl rfl)
  | later sm nw sym led rv => exact z1 (zY (e_lenO (k := 9) rfl rfl) (e_imm (e_lenO (k := 8) rfl rfl)) rfl rfl rfl)
 rw [key, List.length_map, List.length_map, List.length_map]
 congr 2
 exact decide_eq_decide.mpr (by omega)
theorem turned_loop {l0 l1 : List Nat} (hss : ss.all (· < 1114112) = true) (hfu : ss.length + 2 <= fu) (hfu2 : fu <= 16777000) (h0 : l0.length <= 8) (h1 : l1.length <= 8) : ∀ (m : Nat) (P : List Nat) (R : List (Nat × Nat × Nat)) (σ : List zA) (l' : List Nat) (rows' : List (Nat × Nat × Nat)), Beg Z feed n ss mark (.list [nL l0, nL l1]) first good P R σ -> (∀ x ∈ P, x < 256) -> P.length + 2 * m <= 90 -> R.length + m <= 90 ->
  bfsK id (kd good) (zV l0) (zV l1) m P R = some (l', rows') -> ∃ σ', cWhile (zP (zM hLt (zw hLen (zC 4 5)) (zX (zw hLen (zC 4 4))))) (b_turned_3 Z feed fu) m σ = some (.next, σ') /\ Beg Z feed n ss mark (.list [nL l0, nL l1]) first good l' rows' σ' /\ l'.length <= rows'.length /\ l'.length <= 90 /\ rows'.length <= 90 /\ (R ++ [] = rows' \/ True)
 | 0, _, _, _, _, _, _, _, _, _, h => by cases h
 | m + 1, P, R, σ, l', rows', St, hP, hPl, hRl, h => by
  have ht := beg_test St
  dsimp only [bfsK] at h
  cases e : P[R.length]? with
  | none =>
   rw [e] at h
   refine pf h ?_; clear h
   have : P.length <= R.length := List.getElem?_eq_none_iff.mp e
   refine ⟨σ, ?_, St, this, by omega, by omega, .inr trivial⟩
   dsimp only [cWhile]
   rw [ht, decide_eq_false (by omega)]
  | some s =>
   rw [e] at h
   have hlt := (List.getElem?_eq_some_iff.mp e).1
   obtain ⟨σ1, w1, w2⟩ := turned_step St hss hfu hfu2 h0 h1 hP (by omega) (by omega) e
   have hP1 := ins_lt (key := id) hP (preS_lt h0 s)
   have hP2 := ins_lt (key := id) hP1 (preS_lt h1 s)
   have len2 : (zS id (zV l1 s) (zS id (zV l0 s) P)).length <= P.length + 2 := by
    obtain ⟨r, e1, g1⟩ := ins_pre (key := id) (t := zV l0 s) (l := P)
    obtain ⟨r', e2, g2⟩ := ins_pre (key := id) (t := zV l1 s) (l := zS id (zV l0 s) P)
    rw [e2, e1, List.length_append, List.length_append]
    rcases g1 with rfl | rfl <;> rcases g2 with rfl | rfl <;> simp
   obtain ⟨σ', w3, w4⟩ := turned_loop hss hfu hfu2 h0 h1 m _ _ σ1 l' rows' w2 hP2 (by omega) (by rw [List.length_append]; simp; omega) h
   refine ⟨σ', ?_, w4.1, w4.2.1, w4.2.2.1, w4.2.2.2.1, .inr trivial⟩
   dsimp only [cWhile]
   rw [ht, decide_eq_true hlt]
   dsimp only
   rw [w1]
   exact w3
theorem bfs_rows {key k p0 p1 : Nat -> Nat} : ∀ (m : Nat) (P : List Nat) (R : List (Nat × Nat × Nat)) (l' : List Nat) (rows' : List (Nat × Nat × Nat)), (∀ r ∈ R, r.1 < 2 /\ r.2.1 < P.length /\ r.2.2 < P.length) -> (∀ s, k s < 2) -> bfsK key k p0 p1 m P R = some (l', rows') -> ∀ r ∈ rows', r.1 < 2 /\ r.2.1 < l'.length /\ r.2.2 < l'.length
 | 0, _, _, _, _, _, _, h => by cases h
 | m + 1, P, R, l', rows', hR, hk, h => by
  dsimp only [bfsK] at h
  cases e : P[R.length]? with
  | none => rw [e] at h; cases h; exact hR
  | some s =>
   rw [e] at h
   refine bfs_rows m _ _ l' rows' (fun r hr => ?_) hk h
   obtain ⟨r1, e1, g1⟩ := ins_pre (key := key) (t := p0 s) (l := P)
   obtain ⟨r2, e2, g2⟩ := ins_pre (key := key) (t := p1 s) (l := zS key (p0 s) P)
   have hl : P.length <= (zS key (p0 s) P).length := by rw [e1, List.length_append]; omega
   have hl2 : (zS key (p0 s) P).length <= (zS key (p1 s) (zS key (p0 s) P)).length := by rw [e2, List.length_append]; omega
   rcases List.mem_append.mp hr with h | h
   ·obtain ⟨a, b, c⟩ := hR r h
    exact ⟨a, by omega, by omega⟩
   ·rw [List.mem_singleton.mp h]
    have i0 : yB key (p0 s) (zS key (p0 s) P) < (zS key (p0 s) P).length := by
     have := List.idxOf_lt_length_of_mem (ins_mem (key := key) (t := p0 s) (l := P))
     rwa [List.length_map] at this
    have i1 : yB key (p1 s) (zS key (p1 s) (zS key (p0 s) P)) < (zS key (p1 s) (zS key (p0 s) P)).length := by
     have := List.idxOf_lt_length_of_mem (ins_mem (key := key) (t := p1 s) (l := zS key (p0 s) P))
     rwa [List.length_map] at this
    exact ⟨hk s, by show yB _ _ _ < _; omega, i1⟩
noncomputable abbrev rws (R : List (Nat × Nat × Nat)) : List PV := R.flatMap fun r => [wd r.2.1, wd r.2.2]
theorem tell_loop {sm nw sym led : Option AV} {S : List Nat} {o9 o10 : zA} : ∀ (R : List (Nat × Nat × Nat)) (bs : List PV) (row : Option AV), (∀ r ∈ R, r.1 < 2 /\ r.2.1 < 100 /\ r.2.2 < 100) -> bs.length + 2 * R.length <= 4000 ->
  ∃ row', (Im row \/ row = some (.obj 10) -> Im row' \/ row' = some (.obj 10)) /\ cForL 4 (.loc 6) (b_turned_1 Z feed fu) (R.map zI) (TS Z feed n bs ss mark leads first good row sm nw none sym led S o9 o10) = some (.next, TS Z feed n (bs ++ rws R) ss mark leads first good row' sm nw none sym led S o9 o10)
 | [], bs, row, _, _ => ⟨row, id, by show some (Fl.next, _) = _; rw [show rws [] = [] from rfl, List.append_nil]⟩
 | r :: R, bs, row, hR, hl => by
  simp only [List.length_cons] at hl
  obtain ⟨a, b, c⟩ := hR r List.mem_cons_self
  obtain ⟨row', h1, h2⟩ := tell_loop R (bs ++ [wd r.2.1] ++ [wd r.2.2]) (some (.imm (zI r))) (fun q hq => hR q (List.mem_cons_of_mem _ hq)) (by simp; omega)
  refine ⟨row', fun _ => h1 (.inl (.inr ⟨_, rfl⟩)), ?_⟩
  have e : bs ++ rws (r :: R) = bs ++ [wd r.2.1] ++ [wd r.2.2] ++ rws R := by simp [rws]
  rw [e]
  refine forL_next rfl ?_ h2
  exact zF (e_drop (p := .none) (e_lexM rfl rfl (z0 (za (z0 (a := nI r.2.1) (z9 rfl rfl rfl)) (letters_wd (by omega)))) (push_run (by omega))) rfl)
   (zF (e_drop (p := .none) (e_lexM rfl rfl (z0 (za (z0 (a := nI r.2.2) (z9 rfl rfl rfl)) (letters_wd (by omega)))) (push_run (by simp; omega))) rfl) rfl)
theorem told_loop {row sm nw sym led : Option AV} {S : List Nat} {o9 o10 : zA} (hss : ss.all (· < 1114112) = true) (hfu : ss.length + 2 <= fu) (hfu2 : fu <= 16777000) : ∀ (R : List (Nat × Nat × Nat)) (v0 : Option AV), (∀ r ∈ R, r.1 < 2 /\ r.2.1 < 100 /\ r.2.2 < 100) ->
  ∃ v1, cCompL 12 (.loc 0) zc (e_turned_1 Z feed fu) (R.map zI) ((TS Z feed n (rws R) ss mark leads first good row sm nw none sym led S o9 o10).set 12 (.frame [v0])) = some (R.map zI, (TS Z feed n [] ss mark leads first good row sm nw none sym led S o9 o10).set 12 (.frame [v1]))
 | [], v0, _ => ⟨v0, rfl⟩
 | r :: R, v0, hR => by
  obtain ⟨a, b, c⟩ := hR r List.mem_cons_self
  obtain ⟨v1, h2⟩ := told_loop hss hfu hfu2 R (some (.imm (zI r))) (fun q hq => hR q (List.mem_cons_of_mem _ hq))
  refine ⟨v1, ?_⟩
  have e : rws (r :: R) = wd r.2.1 :: wd r.2.2 :: rws R := by simp [rws]
  have hb : e_turned_1 Z feed fu ((TS Z feed n (rws (r :: R)) ss mark leads first good row sm nw none sym led S o9 o10).set 12 (.frame [some (.imm (zI r))])) = some (zI r, (TS Z feed n (rws R) ss mark leads first good row sm nw none sym led S o9 o10).set 12 (.frame [some (.imm (zI r))])) := by
   rw [e]
   exact e_list (z4 (z9 rfl rfl rfl) (z4 (za (z0 (e_lexM rfl rfl rfl (get_runQ hss hfu hfu2))) (number_wd (by omega))) (z4 (za (z0 (e_lexM rfl rfl rfl (get_runQ hss hfu hfu2))) (number_wd (by omega))) rfl))) (by simp)
  have hs : Pl.set 12 (.loc 0) (.imm (zI r)) ((TS Z feed n (rws (r :: R)) ss mark leads first good row sm nw none sym led S o9 o10).set 12 (.frame [v0])) = some ((TS Z feed n (rws (r :: R)) ss mark leads first good row sm nw none sym led S o9 o10).set 12 (.frame [some (.imm (zI r))])) := rfl
  show cCompL 12 (.loc 0) zc (e_turned_1 Z feed fu) (zI r :: R.map zI) _ = _
  dsimp only [cCompL]
  rw [hs]
  dsimp only [zc]
  rw [hb]
  dsimp only
  rw [h2]
  rfl
theorem told_eval {row sm nw sym led : Option AV} {S : List Nat} {o10 : zA} {R : List (Nat × Nat × Nat)} (hss : ss.all (· < 1114112) = true) (hfu : ss.length + 2 <= fu) (hfu2 : fu <= 16777000) (hR : ∀ r ∈ R, r.1 < 2 /\ r.2.1 < 100 /\ r.2.2 < 100) (hRl : R.length <= 90)
  (h1 : clrV 12 row = row) (h2 : Im sm) (h3 : Im nw) (h5 : Im sym) (h6 : Im led) (h8 : clr 12 o10 = o10) :
  cCompS 4 9 (.loc 0) 12 1 [] (zE (zC 4 5)) zc (e_turned_1 Z feed fu) (TS Z feed n (rws R) ss mark leads first good row sm nw none sym led S (.frozen (.list (R.map zI))) o10) = some (.next, TS Z feed n [] ss mark leads first good row sm nw (some (.imm (.list (R.map zI)))) sym led S (.frozen (.list (R.map zI))) o10) := by
 have hc := TS_clr (Z := Z) (feed := feed) (n := n) (ss := ss) (mark := mark) (leads := leads) (first := first) (good := good) (i := 12) (.inr rfl) (bs := rws R) (row := row) (sm := sm) (nw := nw) (told := none) (sym := sym) (led := led) (S := S) (o9 := .frozen (.list (R.map zI))) (o10 := o10) h1 (h2.clr _) (h3.clr _) rfl (h5.clr _) (h6.clr _) rfl h8
 refine nG fun ng => ?_
 obtain ⟨v1, e⟩ := told_loop (Z := Z) (feed := feed) (n := n) (ss := ss) (mark := mark) (leads := leads) (first := first) (good := good) (row := row) (sm := sm) (nw := nw) (sym := sym) (led := led) (S := S) (o9 := .frozen (.list (R.map zI))) (o10 := o10) hss hfu hfu2 R none hR
 have e0 : compIn 12 1 [] (TS Z feed n (rws R) ss mark leads first good row sm nw none sym led S (.frozen (.list (R.map zI))) o10) = (TS Z feed n (rws R) ss mark leads first good row sm nw none sym led S (.frozen (.list (R.map zI))) o10).set 12 (.frame [none]) := by
  show ((TS Z feed n (rws R) ss mark leads first good row sm nw none sym led S (.frozen (.list (R.map zI))) o10).map (clr 12)).set 12 (.frame [none]) = _
  rw [hc]
 have ef : zE (zC 4 5) (TS Z feed n (rws R) ss mark leads first good row sm nw none sym led S (.frozen (.list (R.map zI))) o10) = some (.list (R.map zI), TS Z feed n (rws R) ss mark leads first good row sm nw none sym led S (.frozen (.list (R.map zI))) o10) := rfl
 refine ng ?_
 clear ng
 unfold cCompS
 rw [ef]
 show (if (R.map zI).length <= 4096 /\ _ then _ else none) = _
 rw [if_pos ⟨by rw [List.length_map]; omega, rfl⟩, e0, e]
 show (if (R.map zI).length <= 4096 then _ else none) = _
 rw [if_pos (by rw [List.length_map]; omega)]
 rfl
theorem turned_run {l0 l1 l' mk : List Nat} {rows : List (Nat × Nat × Nat)} (hss : ss.all (· < 1114112) = true) (hfu : ss.length + 2 <= fu) (hfu2 : fu <= 16777000) (h0 : l0.length <= 8) (h1 : l1.length <= 8) (hf : first < 256) (hmk : mk.all (· < 1114112) = true) (hb : bfsK id (kd good) (zV l0) (zV l1) 20 [first] [] = some (l', rows)) :
  ∃ rest, f_turned Z feed fu (LS Z feed n [] ss ++ [.frame [some (.imm (.str mk)), some (.imm (.list [nL l0, nL l1])), some (.imm (nI first)), some (.imm (nI good)), none, none, none, none, none, none], .cell (some (.imm (.ref Z.L))), .cell none, .cell none, .dead, .dead, .dead, .dead, .dead]) =
   some (.ret (.list (if (z7 ss n).1 = mk then rows.map zI else [])), LS Z feed (z7 ss n).2.1 [] (z7 ss n).2.2.1 ++ rest) := by
 have hsy := sy_lt (g := good) hf
 have hP : ∀ x ∈ [first], x < 256 := by simpa using hf
 have hrows : ∀ r ∈ rows, r.1 < 2 /\ r.2.1 < l'.length /\ r.2.2 < l'.length := bfs_rows 20 [first] [] l' rows (fun r hr => absurd hr List.not_mem_nil) (fun s => by unfold kd; split <;> omega) hb
 refine nG fun ng => ?_
 obtain ⟨σ1, w1, St, k1, k2, k3, _⟩ := turned_loop (Z := Z) (feed := feed) (fu := fu) (n := n) (ss := ss) (mark := .str mk) (first := first) (good := good) hss hfu hfu2 h0 h1 20 [first] [] _ l' rows .first hP (by simp) (by simp) hb
 have hR : ∀ r ∈ rows, r.1 < 2 /\ r.2.1 < 100 /\ r.2.2 < 100 := fun r hr => by
  obtain ⟨a, b, c⟩ := hrows r hr
  exact ⟨a, by omega, by omega⟩
 have hw : wds good l' rows.length = [] := by
  show (l'.drop rows.length).map _ = _
  rw [List.drop_eq_nil_of_le k1]; rfl
 have fin : ∀ (row sm nw sym led : Option AV) (o10 : zA), (Im row \/ row = some (.obj 10)) -> Im sm -> Im nw -> Im sym -> Im led -> clr 12 o10 = o10 -> ∃ rest, zJ (cFor 4 (.loc 6) (zE (zC 4 5)) (b_turned_1 Z feed fu)) (zJ (cCompS 4 9 (.loc 0) 12 1 [] (zE (zC 4 5)) zc (e_turned_1 Z feed fu)) (zJ (cRet (cIf (zP (zM hEq (cLexM Z.L (h_get Z feed fu) (zK 5) zG) (zC 4 0))) (zE (zC 4 9)) (z5 zG))) (zL .next)))
   (TS Z feed n [] ss (.str mk) (.list [nL l0, nL l1]) first good row sm nw none sym led (l'.map (sy good)) (.lst (rows.map zI)) o10) = some (.ret (.list (if (z7 ss n).1 = mk then rows.map zI else [])), LS Z feed (z7 ss n).2.1 [] (z7 ss n).2.2.1 ++ rest) := by
  intro row sm nw sym led o10 i0 i1 i2 i3 i4 i5
  obtain ⟨row', j0, j1⟩ := tell_loop (Z := Z) (feed := feed) (fu := fu) (n := n) (ss := ss) (mark := .str mk) (leads := .list [nL l0, nL l1]) (first := first) (good := good) (sm := sm) (nw := nw) (sym := sym) (led := led) (S := l'.map (sy good)) (o9 := .frozen (.list (rows.map zI))) (o10 := o10) rows [] row hR (by simp; omega)
  have hc : clrV 12 row' = row' := by
   rcases j0 i0 with h | rfl
   ·exact h.clr _
   ·rfl
  have et := told_eval (Z := Z) (feed := feed) (fu := fu) (n := n) (ss := ss) (mark := .str mk) (leads := .list [nL l0, nL l1]) (first := first) (good := good) (row := row') (sm := sm) (nw := nw) (sym := sym) (led := led) (S := l'.map (sy good)) (o10 := o10) hss hfu hfu2 hR k3 hc i1 i2 i3 i4 i5
  have ha := tokO_all ss n hss
  have eq : ∀ q, ((z7 ss n).1 == mk) = q -> zP (zM hEq (cLexM Z.L (h_get Z feed fu) (zK 5) zG) (zC 4 0)) (TS Z feed n [] ss (.str mk) (.list [nL l0, nL l1]) first good row' sm nw (some (.imm (.list (rows.map zI)))) sym led (l'.map (sy good)) (.frozen (.list (rows.map zI))) o10) =
    some (q, TS Z feed (z7 ss n).2.1 [] (z7 ss n).2.2.1 (.str mk) (.list [nL l0, nL l1]) first good row' sm nw (some (.imm (.list (rows.map zI)))) sym led (l'.map (sy good)) (.frozen (.list (rows.map zI))) o10) := fun q hq =>
   z1 (zY (a := .str (z7 ss n).1) (e_lexM rfl rfl rfl (get_run0 hss hfu hfu2)) rfl rfl (by rw [eq_str ha.1 hmk, hq]) rfl)
  have hfl : cFor 4 (.loc 6) (zE (zC 4 5)) (b_turned_1 Z feed fu) (TS Z feed n [] ss (.str mk) (.list [nL l0, nL l1]) first good row sm nw none sym led (l'.map (sy good)) (.lst (rows.map zI)) o10) = some (.next, TS Z feed n (rws rows) ss (.str mk) (.list [nL l0, nL l1]) first good row' sm nw none sym led (l'.map (sy good)) (.frozen (.list (rows.map zI))) o10) :=
   e_for (v := .list (rows.map zI)) rfl rfl j1
  by_cases q : (z7 ss n).1 = mk
  ·rw [if_pos q]
   exact ⟨_, zF hfl (zF et (z6 (e_ret (e_ifT (eq true (by simpa using q)) rfl))))⟩
  ·rw [if_neg q]
   exact ⟨_, zF hfl (zF et (z6 (e_ret (zv (eq false (by simpa using q)) rfl))))⟩
 have fin2 : ∃ rest, zJ (cFor 4 (.loc 6) (zE (zC 4 5)) (b_turned_1 Z feed fu)) (zJ (cCompS 4 9 (.loc 0) 12 1 [] (zE (zC 4 5)) zc (e_turned_1 Z feed fu)) (zJ (cRet (cIf (zP (zM hEq (cLexM Z.L (h_get Z feed fu) (zK 5) zG) (zC 4 0))) (zE (zC 4 9)) (z5 zG))) (zL .next))) σ1 = some (.ret (.list (if (z7 ss n).1 = mk then rows.map zI else [])), LS Z feed (z7 ss n).2.1 [] (z7 ss n).2.2.1 ++ rest) := by
  cases St with
  | first => rw [hw]; exact fin none none none none none .dead (.inl (.inl rfl)) (.inl rfl) (.inl rfl) (.inl rfl) (.inl rfl) rfl
  | later sm nw sym led rv => rw [hw]; exact fin _ _ _ _ _ _ (.inr rfl) (.inr ⟨_, rfl⟩) (.inr ⟨_, rfl⟩) (.inr ⟨_, rfl⟩) (.inr ⟨_, rfl⟩) rfl
 obtain ⟨rest, w2⟩ := fin2
 refine ng ?_
 clear ng
 refine ⟨rest, ?_⟩
 refine zF (σ1 := LS Z feed n [] ss ++ [.frame [some (.imm (.str mk)), some (.imm (.list [nL l0, nL l1])), some (.imm (nI first)), some (.imm (nI good)), some (.obj 8), none, none, none, none, none], .cell (some (.imm (.ref Z.L))), .cell none, .cell none, .lst [nI (sy good first)], .dead, .dead, .dead, .dead]) (e_own (z0 (za (z4 (a := nI first) rfl (z0 (a := nI good) rfl)) (symbol_sy hf))) ⟨by simp, by show 8 < 13; decide⟩ rfl) ?_
 refine zF (σ1 := TS Z feed n [] ss (.str mk) (.list [nL l0, nL l1]) first good none none none none none none [sy good first] (.lst []) .dead) rfl ?_
 refine zF (σ1 := TS Z feed n (wds good [first] 0) ss (.str mk) (.list [nL l0, nL l1]) first good none none none none none none ([first].map (sy good)) (.lst []) .dead) ?_ (zF w1 w2)
 have ep : cLexM Z.L (h_push Z) (zK 5) (zB (zO zo (zB (z3 [11, 12] zH (zC 4 4) (cQ (.int 0))) zG)) zG) (TS Z feed n [] ss (.str mk) (.list [nL l0, nL l1]) first good none none none none none none [sy good first] (.lst []) .dead) = some (.none, TS Z feed n (wds good [first] 0) ss (.str mk) (.list [nL l0, nL l1]) first good none none none none none none ([first].map (sy good)) (.lst []) .dead) :=
  e_lexM rfl rfl (z0 (za (z0 (a := nI (sy good first)) (e_subO (k := 8) (n := 0) rfl rfl rfl rfl ⟨by decide, by decide⟩ rfl)) (letters_wd (by omega)))) (push_run (bs := []) (by simp))
 exact zv (z1 (zY ep rfl rfl rfl rfl)) rfl
end
theorem sp_turned {Z : LX} {feed fp fg : Addr} {fu n : Nat} {a : Addr} {fd : FuncData} (hn : n <= 25) (G : GlB C) (M1 : MethC C Z "push_token" fp) (O1 : OpS C Z (n + 1) (fun vs => call (.ref fp) vs) (h_push Z)) (M2 : MethC C Z "get_token" fg) (O2 : OpS C Z (n + 1) (fun vs => call (.ref fg) vs) (h_get Z feed fu))
  (S1 : zU C (n + 1) "_law_symbol" h_symbol) (S2 : zU C (n + 1) "_law_letters" zo) (S3 : zU C (n + 1) "_law_number" h_number) (S4 : zU C (n + 1) "_law_kind" h_kind) (S5 : zU C (n + 1) "ISEOF" h_iseof)
  (FA : DefAt C a fd (zN (zD 22)) ["lexer", "mark", "leads", "first", "good"]) (hs : fd.scope = zQ (zD 22)) (hc : fd.closure = []) : OpSc C Z n a (h_turned Z feed fu) := by
 refine lex_fnC (X := X_turned Z n) (is := [5, 6, 7]) (clo := []) (pls := [.cell 5, .loc 0, .loc 1, .loc 2, .loc 3]) 10 9 FA (entOK_of hs.symm (by rw [hs]; kernel_rfl) ?_) (fun ρ _ => hc) (ok_turned (feed := feed) (fu := fu) hn G M1 O1 M2 O2 S1 S2 S3 S4 S5) (by omega) rfl (nl4 rfl rfl rfl rfl) rfl (fun i hi => ⟨by simp; omega, by simp; omega, by simp; omega⟩) (by rfl) fun as os c os' hos h => ?_
 ·intro i b m
  simp only [LX.pins, List.mem_cons, Prod.mk.injEq, List.not_mem_nil, or_false] at m
  rcases m with ⟨rfl, -⟩ | ⟨rfl, -⟩ | ⟨rfl, -⟩ | ⟨rfl, -⟩ <;> simp
 unfold h_turned lexH at h
 cases q : decL Z feed os with
 | none => rw [q] at h; cases h
 | some d =>
  refine nG fun ng => ?_
  obtain ⟨m, bs, ss⟩ := d
  rw [q] at h
  obtain ⟨rfl, hss⟩ := decL_eq q
  refine ng ?_
  clear ng
  cases q2 : g_turned Z fu as m bs ss with
  | none => simp only [q2] at h; cases h
  | some d2 =>
   simp only [q2] at h
   refine pf h ?_; clear h
   refine nG fun ng => ?_
   obtain ⟨mk, l0, l1, fn, gn, l', rows, rfl, rfl, f1, k0, k1, hfu, hfu2, hmk, eb, e⟩ := specO_some q2
   cases e
   obtain ⟨rest, w⟩ := turned_run (Z := Z) (feed := feed) (fu := fu) (n := m) (ss := ss) hss hfu hfu2 k0 k1 f1 hmk eb
   refine ng ?_
   clear ng
   exact ⟨rfl, rfl, _, _, _, rfl, w, rfl, rfl⟩
end
section
theorem nl_cnt (c : Nat) (n : Int) (ss : List Nat) : nl c n + (ss.count 10 : Nat) = n + ((c :: ss).count 10 : Nat) := by
 unfold nl
 rw [List.count_cons]
 by_cases h : c = 10
 ·subst h; simp; omega
 ·rw [if_neg h, if_neg (by simpa using h)]; rfl
theorem tokQ_cnt : ∀ (k : Nat) (ss t : List Nat) (n : Int), ss.length <= k -> (tokQ ss t n).2.1 + ((tokQ ss t n).2.2.1.count 10 : Nat) = n + (ss.count 10 : Nat)
 | k, [], t, n, _ => rfl
 | 0, c :: ss, t, n, h => by simp at h
 | k + 1, c :: ss, t, n, h => by
  simp only [List.length_cons] at h
  unfold tokQ
  by_cases h1 : c = 34
  ·subst h1
   rw [if_pos rfl, List.count_cons]; rfl
  ·rw [if_neg h1]
   by_cases h2 : c = 92
   ·subst h2
    rw [if_pos rfl]
    cases ss with
    | nil => rfl
    | cons d ss' =>
     refine (tokQ_cnt k ss' _ _ (by simp at h; omega)).trans ?_
     rw [nl_cnt, List.count_cons (a := 10) (b := 92)]; rfl
   ·rw [if_neg h2]
    exact (tokQ_cnt k ss _ _ (by omega)).trans (nl_cnt ..)
theorem tokU_cnt : ∀ (k : Nat) (ss t : List Nat) (n : Int), ss.length <= k -> (tokU ss t n).2.1 + ((tokU ss t n).2.2.1.count 10 : Nat) = n + (ss.count 10 : Nat)
 | k, [], t, n, _ => rfl
 | 0, c :: ss, t, n, h => by simp at h
 | k + 1, c :: ss, t, n, h => by
  simp only [List.length_cons] at h
  unfold tokU
  by_cases h1 : c ∈ wsS
  ·rw [if_pos h1]
   exact nl_cnt ..
  ·rw [if_neg h1]
   by_cases h2 : c = 92
   ·subst h2
    rw [if_pos rfl]
    cases ss with
    | nil => rfl
    | cons d ss' =>
     refine (tokU_cnt k ss' _ _ (by simp at h; omega)).trans ?_
     rw [nl_cnt, List.count_cons (a := 10) (b := 92)]; rfl
   ·rw [if_neg h2]
    refine (tokU_cnt k ss _ _ (by omega)).trans ?_
    have : c ≠ 10 := fun q => h1 (by rw [q]; decide)
    rw [List.count_cons, if_neg (by simpa using this)]; rfl
theorem tokO_cnt : ∀ (ss : List Nat) (n : Int), (z7 ss n).2.1 + ((z7 ss n).2.2.1.count 10 : Nat) = n + (ss.count 10 : Nat)
 | [], n => rfl
 | c :: ss, n => by
  unfold z7
  by_cases h1 : c ∈ wsS
  ·rw [if_pos h1]
   exact (tokO_cnt ss _).trans (nl_cnt ..)
  ·rw [if_neg h1]
   have h10 : c ≠ 10 := fun q => h1 (by rw [q]; decide)
   have e : ((c :: ss).count 10 : Nat) = ss.count 10 := by rw [List.count_cons, if_neg (by simpa using h10)]; rfl
   by_cases h2 : c = 34
   ·rw [if_pos h2, e]
    exact tokQ_cnt _ ss [] n (Nat.le_refl _)
   ·rw [if_neg h2]
    by_cases h3 : c = 92
    ·rw [if_pos h3, e]
     cases ss with
     | nil => rfl
     | cons d ss' => exact (tokU_cnt _ ss' _ _ (Nat.le_refl _)).trans (nl_cnt ..)
    ·rw [if_neg h3, e]
     exact tokU_cnt _ ss _ _ (Nat.le_refl _)
noncomputable def TokR (r : List Nat × Int × List Nat × Bool) (w rest : List Nat) : Prop := r.1 = w /\ r.2.2.1 = rest
noncomputable abbrev qE (c : Nat) : List Nat := if c ∈ [34, 92, 65, 66, 67, 68] then [92, c] else [c]
theorem tokQ_body (e : List Nat) : ∀ (w t : List Nat) (n : Int), ∃ n', tokQ (w.flatMap qE ++ e) t n = tokQ e (t ++ w) n'
 | [], t, n => ⟨n, by simp⟩
 | c :: w, t, n => by
  rw [List.flatMap_cons, List.append_assoc]
  have e1 : t ++ c :: w = t ++ [c] ++ w := by simp
  rw [e1]
  obtain ⟨n', h⟩ := tokQ_body e w (t ++ [c]) (nl c n)
  refine ⟨n', ?_⟩
  rw [<- h]
  by_cases q : c ∈ [34, 92, 65, 66, 67, 68]
  ·rw [show qE c = [92, c] from if_pos q]
   show tokQ (92 :: c :: _) t n = _
   rw [tokQ, if_neg (by decide), if_pos rfl]
   rfl
  ·rw [show qE c = [c] from if_neg q]
   show tokQ (c :: _) t n = _
   simp only [List.mem_cons, List.not_mem_nil, or_false, not_or] at q
   rw [tokQ.eq_def]
   dsimp only
   rw [if_neg q.1, if_neg q.2.1]
   rfl
noncomputable abbrev uE (c : Nat) : List Nat := if c ∈ [32, 10, 92] then [92, c] else [c]
theorem tokU_body (e : List Nat) : ∀ (w t : List Nat) (n : Int), (∀ c ∈ w, c ≠ 9 /\ c ≠ 13) -> ∃ n', tokU (w.flatMap uE ++ e) t n = tokU e (t ++ w) n'
 | [], t, n, _ => ⟨n, by simp⟩
 | c :: w, t, n, hw => by
  rw [List.flatMap_cons, List.append_assoc]
  have e1 : t ++ c :: w = t ++ [c] ++ w := by simp
  rw [e1]
  have hc := hw c List.mem_cons_self
  by_cases q : c ∈ [32, 10, 92]
  ·obtain ⟨n', h⟩ := tokU_body e w (t ++ [c]) (nl c n) (fun d hd => hw d (List.mem_cons_of_mem _ hd))
   refine ⟨n', ?_⟩
   rw [<- h, show uE c = [92, c] from if_pos q]
   show tokU (92 :: c :: _) t n = _
   rw [tokU, if_neg (by decide), if_pos rfl]
   rfl
  ·obtain ⟨n', h⟩ := tokU_body e w (t ++ [c]) n (fun d hd => hw d (List.mem_cons_of_mem _ hd))
   refine ⟨n', ?_⟩
   rw [<- h, show uE c = [c] from if_neg q]
   show tokU (c :: _) t n = _
   simp only [List.mem_cons, List.not_mem_nil, or_false, not_or] at q
   rw [tokU.eq_def]
   dsimp only
   rw [if_neg (by simp only [wsS, List.mem_cons, List.not_mem_nil, or_false, not_or]; exact ⟨q.2.1, hc.1, hc.2, q.1⟩), if_neg q.2.2]
   rfl
theorem tokU_all92 (e : List Nat) : ∀ (w t : List Nat) (n : Int), ∃ n', tokU ((w.flatMap fun c => [92, c]) ++ e) t n = tokU e (t ++ w) n'
 | [], t, n => ⟨n, by simp⟩
 | c :: w, t, n => by
  rw [List.flatMap_cons, List.append_assoc]
  have e1 : t ++ c :: w = t ++ [c] ++ w := by simp
  rw [e1]
  obtain ⟨n', h⟩ := tokU_all92 e w (t ++ [c]) (nl c n)
  refine ⟨n', ?_⟩
  rw [<- h]
  show tokU (92 :: c :: _) t n = _
  rw [tokU, if_neg (by decide), if_pos rfl]
  rfl
theorem tokO_ws {c : Nat} {ss : List Nat} {n : Int} (h : c ∈ wsS) : z7 (c :: ss) n = z7 ss (nl c n) := by rw [z7.eq_def]; dsimp only; rw [if_pos h]
theorem tokO_92 {d : Nat} {ss : List Nat} {n : Int} : z7 (92 :: d :: ss) n = tokU ss [d] (nl d n) := by rw [z7.eq_def]; dsimp only; rw [if_neg (by decide), if_neg (by decide), if_pos rfl]
theorem tokO_34 {ss : List Nat} {n : Int} : z7 (34 :: ss) n = tokQ ss [] n := by rw [z7.eq_def]; dsimp only; rw [if_neg (by decide), if_pos rfl]
theorem tokO_pl {c : Nat} {ss : List Nat} {n : Int} (h1 : c ∉ wsS) (h2 : c ≠ 34) (h3 : c ≠ 92) : z7 (c :: ss) n = tokU ss [c] n := by rw [z7.eq_def]; dsimp only; rw [if_neg h1, if_neg h2, if_neg h3]
theorem tokU_ws {c : Nat} {ss t : List Nat} {n : Int} (h : c ∈ wsS) : tokU (c :: ss) t n = (t, nl c n, ss, true) := by rw [tokU.eq_def]; dsimp only; rw [if_pos h]
theorem tokQ_34 {ss t : List Nat} {n : Int} : tokQ (34 :: ss) t n = (t, n, ss, true) := by rw [tokQ.eq_def]; dsimp only; rw [if_pos rfl]
theorem wrote_read (w : List Nat) (way : Int) (hw : ∀ c ∈ w, c ≠ 9 /\ c ≠ 13) : ∃ b e, zu w way = b ++ [e] /\ (∀ rest n, TokR (z7 (b ++ e :: rest) n) w rest) /\ (∀ n, TokR (z7 b n) w []) := by
 unfold zu
 by_cases h1 : way = 1 \/ w = []
 ·rw [if_pos h1]
  refine ⟨34 :: w.flatMap qE, 34, rfl, fun rest n => ?_, fun n => ?_⟩
  ·rw [List.cons_append, tokO_34]
   refine nG fun ng => ?_
   obtain ⟨n', h⟩ := tokQ_body (34 :: rest) w [] n
   refine ng ?_
   clear ng
   rw [h, tokQ_34]; exact ⟨rfl, rfl⟩
  ·rw [tokO_34]
   refine nG fun ng => ?_
   obtain ⟨n', h⟩ := tokQ_body [] w [] n
   rw [List.append_nil] at h
   refine ng ?_
   clear ng
   rw [h]; exact ⟨rfl, rfl⟩
 ·rw [if_neg h1]
  have hne : w ≠ [] := fun q => h1 (.inr q)
  refine nG fun ng => ?_
  obtain ⟨c, w', rfl⟩ := List.exists_cons_of_ne_nil hne
  refine ng ?_
  clear ng
  by_cases h0 : way = 0
  ·rw [if_pos h0]
   refine ⟨(c :: w').flatMap fun c => [92, c], 10, rfl, fun rest n => ?_, fun n => ?_⟩
   ·rw [List.flatMap_cons]
    show TokR (z7 (92 :: c :: ((w'.flatMap fun c => [92, c]) ++ 10 :: rest)) n) _ _
    rw [tokO_92]
    refine nG fun ng => ?_
    obtain ⟨n', h⟩ := tokU_all92 (10 :: rest) w' [c] (nl c n)
    refine ng ?_
    clear ng
    rw [h, tokU_ws (by decide)]; exact ⟨rfl, rfl⟩
   ·rw [List.flatMap_cons]
    show TokR (z7 (92 :: c :: (w'.flatMap fun c => [92, c])) n) _ _
    rw [tokO_92]
    refine nG fun ng => ?_
    obtain ⟨n', h⟩ := tokU_all92 [] w' [c] (nl c n)
    rw [List.append_nil] at h
    refine ng ?_
    clear ng
    rw [h]; exact ⟨rfl, rfl⟩
  ·rw [if_neg h0]
   have hc := hw c List.mem_cons_self
   have hw' : ∀ d ∈ w', d ≠ 9 /\ d ≠ 13 := fun d hd => hw d (List.mem_cons_of_mem _ hd)
   have hd : ∀ e : List Nat, ∀ n : Int, ∃ n', z7 ((if (c :: w').head? = some 34 then [92] else []) ++ (c :: w').flatMap uE ++ e) n = tokU (w'.flatMap uE ++ e) [c] n' := fun e n => by
    rw [List.flatMap_cons]
    by_cases q34 : c = 34
    ·subst q34
     exact ⟨nl 34 n, tokO_92⟩
    ·rw [if_neg (by simpa using q34)]
     by_cases q : c ∈ [32, 10, 92]
     ·rw [show uE c = [92, c] from if_pos q]
      exact ⟨nl c n, tokO_92⟩
     ·rw [show uE c = [c] from if_neg q]
      simp only [List.mem_cons, List.not_mem_nil, or_false, not_or] at q
      exact ⟨n, tokO_pl (by simp only [wsS, List.mem_cons, List.not_mem_nil, or_false, not_or]; exact ⟨q.2.1, hc.1, hc.2, q.1⟩) q34 q.2.2⟩
   refine ⟨9 :: 13 :: (if (c :: w').head? = some 34 then [92] else []) ++ (c :: w').flatMap uE, 32, rfl, fun rest n => ?_, fun n => ?_⟩
   ·show TokR (z7 (9 :: 13 :: ((if (c :: w').head? = some 34 then [92] else []) ++ (c :: w').flatMap uE ++ 32 :: rest)) n) _ _
    rw [tokO_ws (by decide), tokO_ws (by decide)]
    refine nG fun ng => ?_
    obtain ⟨n', h⟩ := hd (32 :: rest) (nl 13 (nl 9 n))
    obtain ⟨n'', h'⟩ := tokU_body (32 :: rest) w' [c] n' hw'
    refine ng ?_
    clear ng
    rw [h, h', tokU_ws (by decide)]; exact ⟨rfl, rfl⟩
   ·show TokR (z7 (9 :: 13 :: ((if (c :: w').head? = some 34 then [92] else []) ++ (c :: w').flatMap uE)) n) _ _
    rw [tokO_ws (by decide), tokO_ws (by decide)]
    refine nG fun ng => ?_
    obtain ⟨n', h⟩ := hd [] (nl 13 (nl 9 n))
    obtain ⟨n'', h'⟩ := tokU_body [] w' [c] n' hw'
    simp only [List.append_nil] at h h'
    refine ng ?_
    clear ng
    rw [h, h']; exact ⟨rfl, rfl⟩
theorem flat_all {f : Nat -> List Nat} (hf : ∀ c, c < 1114112 -> (f c).all (· < 1114112) = true) : ∀ {w : List Nat}, w.all (· < 1114112) = true -> (w.flatMap f).all (· < 1114112) = true
 | [], _ => rfl
 | c :: w, h => by
  obtain ⟨hc, hs⟩ := all_tail h
  rw [List.flatMap_cons, List.all_append, hf c hc, flat_all hf hs]; rfl
theorem flat_len {f : Nat -> List Nat} (hf : ∀ c, (f c).length <= 2) : ∀ {w : List Nat}, (w.flatMap f).length <= 2 * w.length
 | [] => by simp
 | c :: w => by
  have := hf c
  have := flat_len hf (w := w)
  rw [List.flatMap_cons, List.length_append, List.length_cons]; omega
theorem two_all {c : Nat} (h : c < 1114112) : ([92, c] : List Nat).all (· < 1114112) = true := by simp [h]
theorem wrote_all {w : List Nat} (way : Int) (h : w.all (· < 1114112) = true) : (zu w way).all (· < 1114112) = true := by
 unfold zu
 split
 ·rw [List.cons_append, List.all_cons, List.all_append, flat_all (fun c hc => by split <;> first | exact two_all hc | exact one_ok hc) h]; rfl
 ·split
  ·rw [List.all_append, flat_all (fun c hc => two_all hc) h]; rfl
  ·show List.all (9 :: 13 :: ((if w.head? = some 34 then [92] else []) ++ (w.flatMap fun c => if c ∈ [32, 10, 92] then [92, c] else [c]) ++ [32])) _ = _
   rw [List.all_cons, List.all_cons, List.all_append, List.all_append, flat_all (fun c hc => by split <;> first | exact two_all hc | exact one_ok hc) h]
   split <;> rfl
theorem wrote_len (w : List Nat) (way : Int) : (zu w way).length <= 2 * w.length + 4 := by
 unfold zu
 split
 ·have := flat_len (f := fun c => if c ∈ [34, 92, 65, 66, 67, 68] then [92, c] else [c]) (fun c => by split <;> simp) (w := w)
  simp only [List.cons_append, List.length_cons, List.length_append, List.length_nil]; omega
 ·split
  ·have := flat_len (f := fun c => [92, c]) (fun c => by simp) (w := w)
   simp only [List.length_append, List.length_cons, List.length_nil]; omega
  ·have := flat_len (f := fun c => if c ∈ [32, 10, 92] then [92, c] else [c]) (fun c => by split <;> simp) (w := w)
   have h2 : ((if w.head? = some 34 then [92] else []) : List Nat).length <= 1 := by split <;> simp
   simp only [List.cons_append, List.length_cons, List.length_append, List.length_nil]; omega
end
section
set_option maxHeartbeats 0
variable {C : Cx} {X : zj}
noncomputable abbrev X_law1 (tb : Addr) (n : Nat) : zj :=
 { n := n + 1, fi := 4, N := fun | 0 => ["lineno", "instream", "whitespace", "pushback", "read"] | 4 => ["form", "ruler", "marks", "number", "text", "lexer", "sizes", "pieces", "found", "leads", "forth", "due"] | 11 => ["k"] | 12 => ["k"] | 13 => ["k"] | 14 => ["piece"] | 15 => ["sign"] | 16 => [] | 18 => ["row"] | 19 => ["m"] | _ => [], cells := [("back", 10), ("words", 9), ("total", 8), ("cells", 7), ("base", 6), ("script", 5)], scope := zQ (zD 24), tmp := [11, 12, 13, 14, 15, 16, 17, 18, 19], own := [], pins := [(20, tb)] }
noncomputable abbrev e_law1_1 : CC PV := (zO h_written (zB (z3 [11, 12, 14, 15, 16, 17, 18, 19] zH (zK 9) (zE (zC 13 0))) (zB (zh hMod (zh hAdd (zh hFloor (zE (zK 8)) (zh hMul (cQ (.int 5)) (zh hPow (cQ (.int 3)) (zE (zC 13 0))))) (z3 [11, 12, 14, 15, 16, 17, 18, 19] zH (zX (z5 (zB (cQ (.int 1)) (zB (cQ (.int 2)) (zB (cQ (.int 0)) (zB (cQ (.int 0)) zG)))))) (zE (zC 13 0)))) (cQ (.int 3))) zG)))
noncomputable abbrev e_law1_2 : CC PV := (zh hMul (z3 [11, 13, 14, 15, 16, 17, 18, 19] zH (zK 7) (zE (zC 12 0))) (zh hPow (cQ (.int 16)) (zh hSub (cQ (.int 7)) (zE (zC 12 0)))))
noncomputable abbrev e_law1_3 : CC PV := (zh hMod (zh hAdd (z3 [12, 13, 14, 15, 16, 17, 18, 19] zH (zK 6) (zE (zC 11 0))) (zO hSum (zB (cSlice (zE (zK 5)) (cPt (zh hMod (zh hAdd (zE (zC 11 0)) (cQ (.int 3))) (cQ (.int 8)))) cNo (cPt (cQ (.int 8)))) zG))) (cQ (.int 8)))
noncomputable abbrev f_law1 (tail : CC Fl) : CC Fl := (zJ (zl 4 (.cell 6) (z5 (zB (cQ (.int 5)) (zB (cQ (.int 1)) (zB (cQ (.int 6)) (zB (cQ (.int 1)) (zB (cQ (.int 4)) (zB (cQ (.int 2)) (zB (cQ (.int 4)) (zB (cQ (.int 1)) zG)))))))))) (zJ (zl 4 (.cell 7) (zy (.loc 0) 11 1 [] (zO zz (zB (cQ (.int 8)) zG)) zc e_law1_3)) (zJ (zl 4 (.cell 8) (zO hSum (zB (zE (zK 5)) zG))) (zJ (zl 4 (.loc 0) (zh hMod (zE (zK 8)) (cQ (.int 5)))) (zJ (zl 4 (.loc 1) (z3 [11, 12, 13, 14, 15, 16, 17, 18, 19] zH (zX (z5 (zB (z5 (zB (cQ (.int 3)) (zB (cQ (.int 3)) (zB (cQ (.int 1)) (zB (cQ (.int 0)) zG))))) (zB (z5 (zB (cQ (.int 3)) (zB (cQ (.int 3)) (zB (cQ (.int 1)) (zB (cQ (.int 0)) (zB (cQ (.int 5)) zG)))))) (zB (z5 (zB (cQ (.int 3)) (zB (cQ (.int 3)) (zB (cQ (.int 1)) (zB (cQ (.int 1)) (zB (cQ (.int 1)) (zB (cQ (.int 1)) zG))))))) (zB (z5 (zB (cQ (.int 3)) (zB (cQ (.int 3)) (zB (cQ (.int 1)) (zB (cQ (.int 127)) (zB (cQ (.int 3)) zG)))))) (zB (z5 (zB (cQ (.int 3)) (zB (cQ (.int 3)) (zB (cQ (.int 1)) zG)))) zG))))))) (zE (zC 4 0)))) (zJ (zl 4 (.loc 2) (z5 (zB (cQ (.str [35, 110, 32, 34, 10, 11, 92])) (zB (cQ (.str [])) (zB (cQ (.str [34, 116, 92, 35, 10])) zG))))) (zJ (zl 4 (.loc 3) (zh hAdd (zh hPow (cQ (.int 16)) (cQ (.int 8))) (zO hSum (zB (zy (.loc 0) 12 1 [] (zO zz (zB (cQ (.int 8)) zG)) zc e_law1_2) zG)))) (zJ (zl 4 (.cell 9) (zh hAdd (z5 (zB (zO zo (zB (zE (zC 4 3)) zG)) zG)) (zE (zC 4 2)))) (zJ (zl 4 (.loc 4) (cSlice (cMeth [11, 12, 13, 14, 15, 16, 17, 18, 19] "str" hJoin (zX (cQ (.str []))) (zB (zy (.loc 0) 13 1 [] (zO zz (zB (cQ (.int 4)) zG)) zc e_law1_1) zG)) cNo (cPt (cUn hNeg (cQ (.int 1)))) cNo)) tail)))))))))
theorem ok_law1 {tail : CC Fl} {rest : List Stmt} {tb : Addr} {n : Nat} (hn : n <= 20) (G : GlB C) (S1 : zU C (n + 1) "_law_letters" zo) (S2 : zU C (n + 1) "_law_written" h_written) (T : zi C (X_law1 tb n) rest tail) : zi C (X_law1 tb n) ((zN (zD 24)).take 9 ++ rest) (f_law1 tail) := by
 iterate 9
  change zi C _ (List.cons _ _) _
  refine zT ?_ ?_
  ·
   repeat' first
   | with_reducible first
    | refine zT ?_ ?_
    | exact evs_nil
    | refine evs_cons ?_ ?_ rfl
    | exact tf_nil
    | exact pt_none
    | refine pt_some ?_
    | refine st_asgcA ?_ (by kernel_rfl)
    | refine st_asgA ?_ (by kernel_rfl) (by kernel_rfl)
    | refine z8 (by kernel_rfl) (by kernel_rfl)
    | refine ev_cellA (by kernel_rfl)
    | refine yC ?_
    | exact evp_int
    | exact evp_str (by kernel_rfl)
    | refine evp ?_
    | refine evp_bin op_add ?_ ?_
    | refine evp_bin op_sub ?_ ?_
    | refine evp_bin op_mul ?_ ?_
    | refine evp_bin op_floor ?_ ?_
    | refine evp_bin op_mod ?_ ?_
    | refine evp_bin op_pow ?_ ?_
    | refine evp_un op_neg ?_
    | refine evp_list ?_
    | refine evp_compA (by kernel_rfl) ?_ (by kernel_rfl) ?_ ?_ (by intro _ _; with_unfolding_all rfl)
    | refine evp_slice2 ?_ ?_ ?_
    | refine evp_slice3 ?_ ?_ ?_ ?_
    | refine evp_sub it_item ?_ ?_ (by intro _ _; with_unfolding_all rfl)
    | refine evp_callS (by assumption) ?_ rfl (by kernel_rfl) (by kernel_rfl)
    | refine evp_blt (GlB.no (by assumption) _ (by kernel_rfl)) PyProof.Rows.Boot.«sum» (by decide +kernel) (by kernel_rfl) fn_sum ?_ (by kernel_rfl) (by kernel_rfl)
    | refine evp_typ (GlB.no (by assumption) _ (by kernel_rfl)) PyProof.Rows.Boot.«range» (by decide +kernel) (by kernel_rfl) fn_range ?_ (by kernel_rfl) (by kernel_rfl)
    | refine evp_meth m_str_join (by decide) rfl (by kernel_rfl) (by kernel_rfl) (Nat.le_of_ble_eq_true (by kernel_rfl)) fn_join ?_ ?_
   | refine evp_sub it_item ?_ ?_ (by intro _ _; with_unfolding_all rfl)
   | refine evp_meth m_str_join (by decide) rfl (by kernel_rfl) (by kernel_rfl) (Nat.le_of_ble_eq_true (by kernel_rfl)) fn_join ?_ ?_
 exact T
end
section
set_option maxHeartbeats 0
variable {C : Cx} {X : zj}
noncomputable abbrev X_law2 (Z : LX) (n : Nat) : zj :=
 { n := n + 1, fi := 4, N := fun | 0 => ["lineno", "instream", "whitespace", "pushback", "read"] | 4 => ["form", "ruler", "marks", "number", "text", "lexer", "sizes", "pieces", "found", "leads", "forth", "due"] | 11 => ["k"] | 12 => ["k"] | 13 => ["k"] | 14 => ["piece"] | 15 => ["sign"] | 16 => [] | 18 => ["row"] | 19 => ["m"] | _ => [], cells := [("back", 10), ("words", 9), ("total", 8), ("cells", 7), ("base", 6), ("script", 5)], scope := zQ (zD 24), tmp := [11, 12, 13, 14, 15, 16, 17, 18, 19], own := [], pins := Z.pins }
noncomputable abbrev e_law2_1 (Z : LX) (feed : Addr) (fu : Nat) : CC PV := (zh hPow (cQ (.int 2)) (zE (zC 19 0)))
noncomputable abbrev t_law2_1 (Z : LX) (feed : Addr) (fu : Nat) : CC Bool := (zP (zM hEq (z3 [11, 12, 13, 14, 15, 16, 17, 18] zH (zX (z3 [11, 12, 13, 14, 15, 16, 17, 18] zH (zK 10) (zE (zC 19 0)))) (cQ (.int 0))) (zX (cQ (.int 1)))))
noncomputable abbrev e_law2_2 (Z : LX) (feed : Addr) (fu : Nat) : CC PV := (zh hPow (cQ (.int 2)) (z3 [11, 12, 13, 14, 15, 19] zH (zC 18 0) (zE (zK 17))))
noncomputable abbrev e_law2_3 (Z : LX) (feed : Addr) (fu : Nat) : CC PV := (zy (.loc 0) 18 1 [] (zE (zK 10)) zc (e_law2_2 Z feed fu))
noncomputable abbrev e_law2_4 (Z : LX) (feed : Addr) (fu : Nat) : CC PV := (zh hSub (zO hOrd (zB (zE (zC 15 0)) zG)) (cQ (.int 65)))
noncomputable abbrev e_law2_5 (Z : LX) (feed : Addr) (fu : Nat) : CC PV := (zy (.loc 0) 15 1 [] (cSlice (zE (zC 14 0)) cNo cNo (cPt (cUn hNeg (cQ (.int 1))))) zc (e_law2_4 Z feed fu))
noncomputable abbrev f_law2 (Z : LX) (feed : Addr) (fu : Nat) : CC Fl := (zJ (cAsg2 4 (.loc 6) (.loc 7) (zO h_cut (zB (cLexM Z.L (h_get Z feed fu) (zC 4 5) zG) (zB (zE (zC 4 1)) zG)))) (zJ (cIf (zP (zM hNe (zE (zC 4 6)) (zX (cIf (zP (zM hGt (zE (zC 4 0)) (zX (cQ (.int 2))))) (z5 (zB (cQ (.int 3)) (zB (cQ (.int 3)) (zB (cQ (.int 1)) zG)))) (z5 (zB (cQ (.int 3)) (zB (cQ (.int 3)) (zB (cQ (.int 1)) (zB (cQ (.int 1)) (zB (cQ (.int 1)) zG)))))))))) (zJ (cRet (cQ (.bool false))) (zL .next)) (zL .next)) (zJ (cCompS 4 8 (.loc 0) 14 1 [] (zE (zC 4 7)) zc (e_law2_5 Z feed fu)) (zJ (zl 4 (.cell 10) (cCallL (h_turned Z feed fu) (zB (zE (zC 4 5)) (zB (z3 [11, 12, 13, 14, 15, 16, 17, 18, 19] zH (zC 4 2) (cQ (.int 0))) (zB (z5 (zB (z3 [11, 12, 13, 14, 15, 16, 17, 18, 19] zH (zC 4 8) (cQ (.int 1))) (zB (z3 [11, 12, 13, 14, 15, 16, 17, 18, 19] zH (zC 4 8) (cQ (.int 0))) zG))) (zB (z3 [11, 12, 13, 14, 15, 16, 17, 18, 19] zH (zX (z3 [11, 12, 13, 14, 15, 16, 17, 18, 19] zH (zC 4 8) (cQ (.int 2)))) (cQ (.int 0))) (zB (z3 [11, 12, 13, 14, 15, 16, 17, 18, 19] zH (zX (z3 [11, 12, 13, 14, 15, 16, 17, 18, 19] zH (zC 4 8) (cQ (.int 3)))) (cQ (.int 0))) zG))))))) (zJ (cIf (zP (zM hEq (zE (zK 10)) (zX (z5 zG)))) (zJ (cRet (cQ (.bool false))) (zL .next)) (zL .next)) (zJ (cCompS 4 9 (.cell 17) 16 0 [17] (z5 (zB (cQ (.int 1)) (zB (cQ (.int 2)) zG))) zc (e_law2_3 Z feed fu)) (zJ (zl 4 (.loc 10) (cCallL (h_turned Z feed fu) (zB (zE (zC 4 5)) (zB (z3 [11, 12, 13, 14, 15, 16, 17, 18, 19] zH (zC 4 2) (cQ (.int 1))) (zB (zE (zC 4 9)) (zB (zO hSum (zB (zy (.loc 0) 19 1 [] (zO zz (zB (zw hLen (zK 10)) zG)) (t_law2_1 Z feed fu) (e_law2_1 Z feed fu)) zG)) (zB (cQ (.int 1)) zG))))))) (zJ (zl 4 (.loc 11) (zO h_least (zB (z5 (zB (z5 (zB (z3 [11, 12, 13, 14, 15, 16, 17, 18, 19] zH (zK 7) (cQ (.int 4))) (zB (z3 [11, 12, 13, 14, 15, 16, 17, 18, 19] zH (zK 7) (cQ (.int 3))) (zB (z3 [11, 12, 13, 14, 15, 16, 17, 18, 19] zH (zK 7) (cQ (.int 2))) zG)))) (zB (z5 (zB (z3 [11, 12, 13, 14, 15, 16, 17, 18, 19] zH (zK 7) (cQ (.int 7))) (zB (z3 [11, 12, 13, 14, 15, 16, 17, 18, 19] zH (zK 7) (cQ (.int 6))) (zB (z3 [11, 12, 13, 14, 15, 16, 17, 18, 19] zH (zK 7) (cQ (.int 5))) zG)))) zG))) (zB (z3 [11, 12, 13, 14, 15, 16, 17, 18, 19] zH (zK 7) (cQ (.int 0))) (zB (z3 [11, 12, 13, 14, 15, 16, 17, 18, 19] zH (zK 7) (cQ (.int 1))) zG))))) (zJ (cIf (zP (zM hNe (zE (zC 4 10)) (zC 4 11))) (zJ (cRet (cQ (.bool false))) (zL .next)) (zL .next)) (zJ (cRet (cAndV (zM hEq (z5 (zB (cLexM Z.L (h_get Z feed fu) (zC 4 5) zG) (zB (cLexM Z.L (h_get Z feed fu) (zC 4 5) zG) zG))) (zX (z5 (zB (z3 [11, 12, 13, 14, 15, 16, 17, 18, 19] zH (zC 4 2) (cQ (.int 2))) (zB (cQ (.str [])) zG))))) (zM hEq (zE (cAttr Z.L 0 0 (zC 4 5))) (zX (zh hAdd (cQ (.int 1)) (cMeth [11, 12, 13, 14, 15, 16, 17, 18, 19] "str" hCount (zC 4 4) (zB (cQ (.str [10])) zG))))))) (zL .next)))))))))))
theorem ok_law2 {Z : LX} {feed fg : Addr} {fu n : Nat} (hn : n <= 20) (G : GlB C) (K : LexK C Z) (M2 : MethC C Z "get_token" fg) (O2 : OpS C Z (n + 1) (fun vs => call (.ref fg) vs) (h_get Z feed fu))
  (S1 : zU C (n + 1) "_law_cut" h_cut) (S2 : CallSpL C Z (n + 1) "_law_turned" (h_turned Z feed fu)) (S3 : zU C (n + 1) "_law_least" h_least) : zi C (X_law2 Z n) ((zN (zD 24)).drop 10) (f_law2 Z feed fu) := by
 change zi C _ (List.cons _ _) _
 repeat' first
 | with_reducible first
  | exact zd
  | refine zT ?_ ?_
  | exact evs_nil
  | refine evs_cons ?_ ?_ rfl
  | exact tf_nil
  | refine tf_one ?_
  | exact pt_none
  | refine pt_some ?_
  | refine st_ret ?_
  | refine st_if ?_ ?_ ?_
  | refine st_asg2A ?_ (by kernel_rfl) (by kernel_rfl) (by intro _; with_unfolding_all rfl) (by intro _; with_unfolding_all rfl)
  | refine st_compA (by kernel_rfl) (by kernel_rfl) ?_ (by kernel_rfl) ?_ ?_ (by kernel_rfl) (by kernel_rfl) (by intro _ _; with_unfolding_all rfl)
  | refine st_asgcA ?_ (by kernel_rfl)
  | refine st_asgA ?_ (by kernel_rfl) (by kernel_rfl)
  | refine z8 (by kernel_rfl) (by kernel_rfl)
  | refine ev_attr (LexK.lex (by assumption)) (pin0 (by rfl)) (by kernel_rfl) (LexK.at' (by assumption) _ (by decide +kernel)) tl_lineno ?_
  | refine ev_cellA (by kernel_rfl)
  | refine yC ?_
  | refine ts_cmp (op_eq (by first | (change _ + 1 <= 40; omega) | (exact Nat.le_trans (by assumption) (by decide : 36 <= 40)) | omega)) ?_ ?_ (by kernel_rfl)
  | refine ts_cmp (op_ne (by first | (change _ + 1 <= 40; omega) | (exact Nat.le_trans (by assumption) (by decide : 36 <= 40)) | omega)) ?_ ?_ (by kernel_rfl)
  | refine ts_cmp op_gt ?_ ?_ (by kernel_rfl)
  | exact evp_int
  | exact evp_bool
  | exact evp_str (by kernel_rfl)
  | refine evp ?_
  | refine evp_bin op_add ?_ ?_
  | refine evp_bin op_sub ?_ ?_
  | refine evp_bin op_pow ?_ ?_
  | refine evp_un op_neg ?_
  | refine evp_cmp (op_eq (by first | (change _ + 1 <= 40; omega) | (exact Nat.le_trans (by assumption) (by decide : 36 <= 40)) | omega)) ?_ ?_ (by kernel_rfl)
  | refine evp_cmp (op_ne (by first | (change _ + 1 <= 40; omega) | (exact Nat.le_trans (by assumption) (by decide : 36 <= 40)) | omega)) ?_ ?_ (by kernel_rfl)
  | refine evp_cmp op_gt ?_ ?_ (by kernel_rfl)
  | refine evp_if ?_ ?_ ?_
  | refine evp_list ?_
  | refine evp_and ?_ ?_
  | refine evp_compA (by kernel_rfl) ?_ (by kernel_rfl) ?_ ?_ (by intro _ _; with_unfolding_all rfl)
  | refine evp_slice3 ?_ ?_ ?_ ?_
  | refine evp_sub it_item ?_ ?_ (by intro _ _; with_unfolding_all rfl)
  | refine evp_callL (by assumption) (by with_unfolding_all exact lexX_of (nl4 rfl rfl rfl rfl) rfl) ?_ rfl (by kernel_rfl) (by kernel_rfl)
  | refine evp_lexM0 (by assumption) (by assumption) (by with_unfolding_all exact lexX_of (nl4 rfl rfl rfl rfl) rfl) rfl (by kernel_rfl) ?_
  | refine evp_callS (by assumption) ?_ rfl (by kernel_rfl) (by kernel_rfl)
  | refine evp_blt (GlB.no (by assumption) _ (by kernel_rfl)) PyProof.Rows.Boot.«ord» (by decide +kernel) (by kernel_rfl) fn_ord ?_ (by kernel_rfl) (by kernel_rfl)
  | refine evp_blt (GlB.no (by assumption) _ (by kernel_rfl)) PyProof.Rows.Boot.«sum» (by decide +kernel) (by kernel_rfl) fn_sum ?_ (by kernel_rfl) (by kernel_rfl)
  | refine evp_typ (GlB.no (by assumption) _ (by kernel_rfl)) PyProof.Rows.Boot.«range» (by decide +kernel) (by kernel_rfl) fn_range ?_ (by kernel_rfl) (by kernel_rfl)
  | refine evp_bltV (GlB.no (by assumption) _ (by kernel_rfl)) PyProof.Rows.Boot.«len» (by decide +kernel) rfl fn_len ?_ (by kernel_rfl) (by kernel_rfl)
  | refine evp_meth m_str_count (by decide) rfl (by kernel_rfl) (by kernel_rfl) (Nat.le_of_ble_eq_true (by kernel_rfl)) fn_count ?_ ?_
 | refine evp_sub it_item ?_ ?_ (by intro _ _; with_unfolding_all rfl)
end
section
set_option autoImplicit false
section
variable {Z : LX} {feed : Addr} {fu : Nat} {n : Int} {ss : List Nat}
theorem turned_call {l0 l1 l' mk : List Nat} {first good : Nat} {rows : List (Nat × Nat × Nat)} {rest : List zA} (hss : ss.all (· < 1114112) = true) (hfu : ss.length + 2 <= fu) (hfu2 : fu <= 16777000) (h0 : l0.length <= 8) (h1 : l1.length <= 8) (hf : first < 256) (hmk : mk.all (· < 1114112) = true) (hb : bfsK id (kd good) (zV l0) (zV l1) 20 [first] [] = some (l', rows)) (ht : (z7 ss n).1 = mk) :
  yA (h_turned Z feed fu) [.ref Z.L, .str mk, .list [nL l0, nL l1], nI first, nI good] (LS Z feed n [] ss ++ rest) = some (.list (rows.map zI), LS Z feed (z7 ss n).2.1 [] (z7 ss n).2.2.1 ++ rest) := by
 refine lexRun_LS ?_ hss
 refine specO_eq ⟨mk, l0, l1, first, good, l', rows, rfl, rfl, hf, h0, h1, hfu, hfu2, hmk, hb, by rw [if_pos ht]⟩ fun r zq => ?_
 refine nG fun ng => ?_
 obtain ⟨mk', m0, m1, fn, gn, q', rows', e, _, _, _, _, _, _, _, eb, er⟩ := zq
 obtain ⟨-, ea⟩ := List.cons.inj e
 obtain ⟨e1, ec⟩ := List.cons.inj ea
 obtain ⟨e2, ed⟩ := List.cons.inj ec
 obtain ⟨e3, ee⟩ := List.cons.inj ed
 obtain ⟨e4, e5⟩ := List.cons.inj (PV.list.inj e2)
 obtain rfl := PV.str.inj e1
 obtain rfl := nL_inj e4
 obtain rfl := nL_inj (List.cons.inj e5).1
 obtain rfl := nI_inj e3
 obtain rfl := nI_inj (List.cons.inj ee).1
 rw [hb] at eb
 cases eb
 refine ng ?_
 clear ng
 rw [er, if_pos ht]
theorem least_call {l0 l1 : List Nat} {first ends : Nat} {out : List (Nat × Nat × Nat)} (h0 : l0.length = 3) (h1 : l1.length = 3) (a0 : l0.all (· < 8) = true) (a1 : l1.all (· < 8) = true) (hf : first < 8) (he : ends < 8) (h : leastR l0 l1 first ends = some out) :
  h_least [.list [nL l0, nL l1], nI first, nI ends] = some (.list (out.map zI)) := by
 refine specO_eq ⟨l0, l1, first, ends, out, rfl, hf, he, h0, h1, a0, a1, h, rfl⟩ fun r zq => ?_
 refine nG fun ng => ?_
 obtain ⟨m0, m1, fn, gn, rows', e, _, _, _, _, _, _, eb, er⟩ := zq
 obtain ⟨e2, ed⟩ := List.cons.inj e
 obtain ⟨e3, ee⟩ := List.cons.inj ed
 obtain ⟨e4, e5⟩ := List.cons.inj (PV.list.inj e2)
 obtain rfl := nL_inj e4
 obtain rfl := nL_inj (List.cons.inj e5).1
 obtain rfl := nI_inj e3
 obtain rfl := nI_inj (List.cons.inj ee).1
 rw [h] at eb
 cases eb
 refine ng ?_
 clear ng
 exact er
theorem eqps_rows : ∀ l : List (Nat × Nat × Nat), eqps (l.map zI) (l.map zI) = true
 | [] => rfl
 | a :: l => by
  show (eqp (zI a) (zI a) && eqps (l.map zI) (l.map zI)) = true
  rw [eqp_row, eqps_rows l]; simp
theorem sh_rows (l : List (Nat × Nat × Nat)) : sh 3 (.list (l.map zI)) = true := by
 show (l.map zI).all (sh 2) = true
 rw [List.all_eq_true]
 intro p hp
 refine nG fun ng => ?_
 obtain ⟨a, _, rfl⟩ := List.mem_map.mp hp
 refine ng ?_
 clear ng
 rfl
theorem rows_ne (l : List (Nat × Nat × Nat)) : hNe (.list (l.map zI)) (.list (l.map zI)) = some (.bool false) := by
 unfold hNe
 rw [sh_rows, if_pos (show (true && true) = true from rfl)]
 show some (PV.bool (!eqps (l.map zI) (l.map zI))) = _
 rw [eqps_rows]; rfl
theorem rows_nil {l : List (Nat × Nat × Nat)} (h : l ≠ []) : hEq (.list (l.map zI)) (.list []) = some (.bool false) := by
 unfold hEq
 rw [sh_rows, if_pos (show (true && sh 3 (.list [])) = true from rfl)]
 refine nG fun ng => ?_
 obtain ⟨a, l', rfl⟩ := List.exists_cons_of_ne_nil h
 refine ng ?_
 clear ng
 rfl
variable {fr : List (Option AV)} {sc ba tt wr : PV} {c0 c1 c2 c3 c4 c5 c6 c7 : Nat} {o17 : zA}
noncomputable abbrev LR (fr : List (Option AV)) (sc ba : PV) (cs : List Nat) (tt wr : PV) (bk : Option AV) (o17 : zA) : List zA :=
 [.frame fr, .cell (some (.imm sc)), .cell (some (.imm ba)), .cell (some (.imm (nL cs))), .cell (some (.imm tt)), .cell (some (.imm wr)), .cell bk, .dead, .dead, .dead, .dead, .dead, .dead, o17, .dead, .dead, .dead]
noncomputable abbrev LT (Z : LX) (feed : Addr) (n : Int) (ss : List Nat) (fr : List (Option AV)) (sc ba : PV) (cs : List Nat) (tt wr : PV) (bk : Option AV) (o17 : zA) : List zA :=
 LS Z feed n [] ss ++ LR fr sc ba cs tt wr bk o17
noncomputable abbrev FA (Z : LX) (fm : Int) (rl : List Int) (nb : PV) (tx : List Nat) (sz pc fd ld ft du : Option AV) : List (Option AV) :=
 [some (.imm (.int fm)), some (.imm (.list (rl.map .int))), some (.imm (.list [.str [35, 110, 32, 34, 10, 11, 92], .str [], .str [34, 116, 92, 35, 10]])), some (.imm nb), some (.imm (.str tx)), some (.imm (.ref Z.L)), sz, pc, fd, ld, ft, du]
noncomputable def digs (l : List Nat) : PV := .list (l.reverse.map fun (c : Nat) => .int ((c : Int) - 65))
theorem rev1 (a : Nat) : pvSlice (.str [a]) none none (some (-1)) = some (.str [a]) := by
 have h : idxs none none (some (-1)) [a].length = [0] := (by decide +kernel : idxs none none (some (-1)) 1 = [0])
 show (if some (-1 : Int) = some 0 \/ 16777216 < [a].length then none else some (PV.str (pickS [a] none none (some (-1))))) = _
 rw [if_neg (by simp)]
 unfold pickS pick; rw [h]; rfl
theorem rev2 (a b : Nat) : pvSlice (.str [a, b]) none none (some (-1)) = some (.str [b, a]) := by
 have h : idxs none none (some (-1)) [a, b].length = [1, 0] := (by decide +kernel : idxs none none (some (-1)) 2 = [1, 0])
 show (if some (-1 : Int) = some 0 \/ 16777216 < [a, b].length then none else some (PV.str (pickS [a, b] none none (some (-1))))) = _
 rw [if_neg (by simp)]
 unfold pickS pick; rw [h]; rfl
theorem rev3 (a b c : Nat) : pvSlice (.str [a, b, c]) none none (some (-1)) = some (.str [c, b, a]) := by
 have h : idxs none none (some (-1)) [a, b, c].length = [2, 1, 0] := (by decide +kernel : idxs none none (some (-1)) 3 = [2, 1, 0])
 show (if some (-1 : Int) = some 0 \/ 16777216 < [a, b, c].length then none else some (PV.str (pickS [a, b, c] none none (some (-1))))) = _
 rw [if_neg (by simp)]
 unfold pickS pick; rw [h]; rfl
theorem found_eval {fm : Int} {rl : List Int} {nb : PV} {tx : List Nat} {szP : PV} {cs : List Nat} {pcs : List (List Nat)} (hp : ∀ p ∈ pcs, ∃ a b c, p = [a] \/ p = [a, b] \/ p = [a, b, c]) (hl : pcs.length <= 5) :
  cCompS 4 8 (.loc 0) 14 1 [] (zE (zC 4 7)) zc (e_law2_5 Z feed fu) (LT Z feed n ss (FA Z fm rl nb tx (some (.imm szP)) (some (.imm (.list (pcs.map .str)))) none none none none) sc ba cs tt wr none .dead) =
   some (.next, LT Z feed n ss (FA Z fm rl nb tx (some (.imm szP)) (some (.imm (.list (pcs.map .str)))) (some (.imm (.list (pcs.map digs)))) none none none) sc ba cs tt wr none .dead) := by
 have e := e_compS (fi := 4) (j := 8) (ci := 14) (f := zE (zC 4 7)) (fe := e_law2_5 Z feed fu) (fun p => match p with | .str l => digs l | _ => .none)
  (σ := LT Z feed n ss (FA Z fm rl nb tx (some (.imm szP)) (some (.imm (.list (pcs.map .str)))) none none none none) sc ba cs tt wr none .dead) (σ1 := LT Z feed n ss (FA Z fm rl nb tx (some (.imm szP)) (some (.imm (.list (pcs.map .str)))) none none none none) sc ba cs tt wr none .dead) (u := .list (pcs.map .str)) (xs := pcs.map .str)
  (σ3 := LT Z feed n ss (FA Z fm rl nb tx (some (.imm szP)) (some (.imm (.list (pcs.map .str)))) (some (.imm (.list ((pcs.map PV.str).map (fun p => match p with | .str l => digs l | _ => .none))))) none none none) sc ba cs tt wr none .dead) rfl rfl (by rw [List.length_map]; omega) (by show 14 < 21; decide) (fun p hx => by
   obtain ⟨l, hl, rfl⟩ := List.mem_map.mp hx
   obtain ⟨a, b, c, h⟩ := hp l hl
   show _ = some (digs l, _)
   have key : ∀ r : List Nat, pvSlice (.str l) none none (some (-1)) = some (.str r) -> r = l.reverse -> r.length <= 3 -> e_law2_5 Z feed fu (((LT Z feed n ss (FA Z fm rl nb tx (some (.imm szP)) (some (.imm (.list (pcs.map .str)))) none none none none) sc ba cs tt wr none .dead).map (clr 14)).set 14 (.frame [some (.imm (.str l))])) =
     some (digs l, ((LT Z feed n ss (FA Z fm rl nb tx (some (.imm szP)) (some (.imm (.list (pcs.map .str)))) none none none none) sc ba cs tt wr none .dead).map (clr 14)).set 14 (.frame [some (.imm (.str l))])) := fun r h1 h2 h3 => by
    have e1 := comp_eval' (ci := 15) (f := cSlice (zE (zC 14 0)) cNo cNo (cPt (cUn hNeg (cQ (.int 1))))) (fe := e_law2_4 Z feed fu) (fun p => match p with | .str [c] => .int ((c : Int) - 65) | _ => .none)
     (σ := ((LT Z feed n ss (FA Z fm rl nb tx (some (.imm szP)) (some (.imm (.list (pcs.map .str)))) none none none none) sc ba cs tt wr none .dead).map (clr 14)).set 14 (.frame [some (.imm (.str l))])) (σ1 := ((LT Z feed n ss (FA Z fm rl nb tx (some (.imm szP)) (some (.imm (.list (pcs.map .str)))) none none none none) sc ba cs tt wr none .dead).map (clr 14)).set 14 (.frame [some (.imm (.str l))])) (u := .str r) (xs := r.map fun c => .str [c])
     (e_slice (p := .str l) rfl rfl rfl rfl h1) rfl (by rw [List.length_map]; omega) (by show 15 < 21; decide) (fun p hp => by
      obtain ⟨c, _, rfl⟩ := List.mem_map.mp hp
      exact zr (a := .int (c : Int)) (b := .int 65) (c := .int ((c : Int) - 65)) (za (z0 (a := .str [c]) rfl) rfl) rfl rfl)
    rw [List.map_map, h2] at e1
    exact e1
   rcases h with rfl | rfl | rfl
   ·exact key [a] (rev1 a) rfl (by simp)
   ·exact key [b, a] (rev2 a b) rfl (by simp)
   ·exact key [c, b, a] (rev3 a b c) rfl (by simp)) (fun v => ⟨_, rfl, rfl⟩)
 have e2 : (pcs.map PV.str).map (fun p => match p with | .str l => digs l | _ => .none) = pcs.map digs := by rw [List.map_map]; rfl
 rw [e2] at e
 exact e
end
end
section
set_option autoImplicit false
section
variable {Z : LX} {feed : Addr} {fu : Nat} {n : Int} {ss : List Nat}
variable {fr : List (Option AV)} {sc ba tt wr : PV} {cs : List Nat} {o17 : zA}
noncomputable abbrev LK (Z : LX) (feed : Addr) (n : Int) (ss : List Nat) (fr : List (Option AV)) (sc ba : PV) (cs : List Nat) (tt wr : PV) (bk : Option AV) (k : Option AV) : List zA :=
 LS Z feed n [] ss ++ [.frame fr, .cell (some (.imm sc)), .cell (some (.imm ba)), .cell (some (.imm (nL cs))), .cell (some (.imm tt)), .cell (some (.imm wr)), .cell bk, .dead, .dead, .dead, .dead, .dead, .frame [], .cell k, .dead, .dead, .dead]
theorem pow2 {m : Nat} (h : m <= 64) : hPow (.int 2) (nI m) = some (nI (2 ^ m)) := by
 show (if ((2 : Int) = 2 \/ (2 : Int) = 16 \/ (2 : Int) = 3) /\ 0 <= (m : Int) /\ (m : Int) <= 64 then some (PV.int ((2 : Int) ^ (m : Int).toNat)) else none) = _
 rw [if_pos ⟨.inl rfl, by omega, by omega⟩, Int.toNat_natCast]
 show some (PV.int ((2 : Int) ^ m)) = some (PV.int ((2 ^ m : Nat) : Int))
 rw [Int.natCast_pow]; rfl
theorem lead_eval {fm : Int} {rl : List Int} {nb : PV} {tx : List Nat} {szP pcP fdP : PV} {rows : List (Nat × Nat × Nat)} (f : Nat × Nat × Nat -> Nat) (k : Nat) (hk : ∀ r, zH (zI r) (nI k) = some (nI (f r))) (hf : ∀ r ∈ rows, f r <= 64) (hl : rows.length <= 4096) :
  e_law2_3 Z feed fu (LK Z feed n ss (FA Z fm rl nb tx (some (.imm szP)) (some (.imm pcP)) (some (.imm fdP)) none none none) sc ba cs tt wr (some (.imm (.list (rows.map zI)))) (some (.imm (nI k)))) =
   some (nL (rows.map fun r => 2 ^ f r), LK Z feed n ss (FA Z fm rl nb tx (some (.imm szP)) (some (.imm pcP)) (some (.imm fdP)) none none none) sc ba cs tt wr (some (.imm (.list (rows.map zI)))) (some (.imm (nI k)))) := by
 have e1 := comp_eval' (ci := 18) (f := zE (zK 10)) (fe := e_law2_2 Z feed fu) (fun p => match zH p (nI k) with | some (.int i) => nI (2 ^ i.toNat) | _ => .none)
  (σ := LK Z feed n ss (FA Z fm rl nb tx (some (.imm szP)) (some (.imm pcP)) (some (.imm fdP)) none none none) sc ba cs tt wr (some (.imm (.list (rows.map zI)))) (some (.imm (nI k)))) (σ1 := LK Z feed n ss (FA Z fm rl nb tx (some (.imm szP)) (some (.imm pcP)) (some (.imm fdP)) none none none) sc ba cs tt wr (some (.imm (.list (rows.map zI)))) (some (.imm (nI k)))) (u := .list (rows.map zI)) (xs := rows.map zI)
  rfl rfl (by rw [List.length_map]; exact hl) (by show 18 < 21; decide) (fun p hp => by
   obtain ⟨r, hr, rfl⟩ := List.mem_map.mp hp
   rw [hk r]
   show _ = some (nI (2 ^ ((f r : Nat) : Int).toNat), _)
   rw [Int.toNat_natCast]
   exact zr rfl (z9 (p := zI r) (i := nI k) rfl rfl (hk r)) (pow2 (hf r hr)))
 have e2 : (rows.map zI).map (fun p => match zH p (nI k) with | some (.int i) => nI (2 ^ i.toNat) | _ => .none) = (rows.map fun r => 2 ^ f r).map nI := by
  rw [List.map_map, List.map_map]
  refine List.map_congr_left fun r _ => ?_
  show (match zH (zI r) (nI k) with | some (.int i) => nI (2 ^ i.toNat) | _ => .none) = nI (2 ^ f r)
  rw [hk r]
  show nI (2 ^ ((f r : Nat) : Int).toNat) = _
  rw [Int.toNat_natCast]
 rw [e2] at e1
 exact e1
theorem leads_eval {fm : Int} {rl : List Int} {nb : PV} {tx : List Nat} {szP pcP fdP : PV} {rows : List (Nat × Nat × Nat)} (hb : ∀ r ∈ rows, r.2.1 <= 64 /\ r.2.2 <= 64) (hl : rows.length <= 4096) :
  cCompS 4 9 (.cell 17) 16 0 [17] (z5 (zB (cQ (.int 1)) (zB (cQ (.int 2)) zG))) zc (e_law2_3 Z feed fu) (LT Z feed n ss (FA Z fm rl nb tx (some (.imm szP)) (some (.imm pcP)) (some (.imm fdP)) none none none) sc ba cs tt wr (some (.imm (.list (rows.map zI)))) .dead) =
   some (.next, LT Z feed n ss (FA Z fm rl nb tx (some (.imm szP)) (some (.imm pcP)) (some (.imm fdP)) (some (.imm (.list [nL (rowL 0 rows), nL (rowL 1 rows)]))) none none) sc ba cs tt wr (some (.imm (.list (rows.map zI)))) (.cell (some (.imm (nI 2))))) := by
 have e1 := lead_eval (Z := Z) (feed := feed) (fu := fu) (n := n) (ss := ss) (sc := sc) (ba := ba) (cs := cs) (tt := tt) (wr := wr) (fm := fm) (rl := rl) (nb := nb) (tx := tx) (szP := szP) (pcP := pcP) (fdP := fdP) (rows := rows) (fun r => r.2.1) 1 (fun r => rfl) (fun r hr => (hb r hr).1) hl
 have e2 := lead_eval (Z := Z) (feed := feed) (fu := fu) (n := n) (ss := ss) (sc := sc) (ba := ba) (cs := cs) (tt := tt) (wr := wr) (fm := fm) (rl := rl) (nb := nb) (tx := tx) (szP := szP) (pcP := pcP) (fdP := fdP) (rows := rows) (fun r => r.2.2) 2 (fun r => rfl) (fun r hr => (hb r hr).2) hl
 have s1 : Pl.set 16 (.cell 17) (.imm (.int 1)) (LK Z feed n ss (FA Z fm rl nb tx (some (.imm szP)) (some (.imm pcP)) (some (.imm fdP)) none none none) sc ba cs tt wr (some (.imm (.list (rows.map zI)))) none) = some (LK Z feed n ss (FA Z fm rl nb tx (some (.imm szP)) (some (.imm pcP)) (some (.imm fdP)) none none none) sc ba cs tt wr (some (.imm (.list (rows.map zI)))) (some (.imm (nI 1)))) := rfl
 have s2 : Pl.set 16 (.cell 17) (.imm (.int 2)) (LK Z feed n ss (FA Z fm rl nb tx (some (.imm szP)) (some (.imm pcP)) (some (.imm fdP)) none none none) sc ba cs tt wr (some (.imm (.list (rows.map zI)))) (some (.imm (nI 1)))) = some (LK Z feed n ss (FA Z fm rl nb tx (some (.imm szP)) (some (.imm pcP)) (some (.imm fdP)) none none none) sc ba cs tt wr (some (.imm (.list (rows.map zI)))) (some (.imm (nI 2)))) := rfl
 have eL : cCompL 16 (.cell 17) zc (e_law2_3 Z feed fu) [.int 1, .int 2] (LK Z feed n ss (FA Z fm rl nb tx (some (.imm szP)) (some (.imm pcP)) (some (.imm fdP)) none none none) sc ba cs tt wr (some (.imm (.list (rows.map zI)))) none) =
   some ([nL (rowL 0 rows), nL (rowL 1 rows)], LK Z feed n ss (FA Z fm rl nb tx (some (.imm szP)) (some (.imm pcP)) (some (.imm fdP)) none none none) sc ba cs tt wr (some (.imm (.list (rows.map zI)))) (some (.imm (nI 2)))) := by
  rw [cCompL_s]
  rw [s1]
  dsimp only [zc]
  rw [e1]
  dsimp only
  rw [cCompL_s]
  rw [s2]
  dsimp only [zc]
  rw [e2]
  rfl
 have ef : z5 (zB (cQ (.int 1)) (zB (cQ (.int 2)) zG)) (LT Z feed n ss (FA Z fm rl nb tx (some (.imm szP)) (some (.imm pcP)) (some (.imm fdP)) none none none) sc ba cs tt wr (some (.imm (.list (rows.map zI)))) .dead) = some (.list [.int 1, .int 2], LT Z feed n ss (FA Z fm rl nb tx (some (.imm szP)) (some (.imm pcP)) (some (.imm fdP)) none none none) sc ba cs tt wr (some (.imm (.list (rows.map zI)))) .dead) := rfl
 have ec : compIn 16 0 [17] (LT Z feed n ss (FA Z fm rl nb tx (some (.imm szP)) (some (.imm pcP)) (some (.imm fdP)) none none none) sc ba cs tt wr (some (.imm (.list (rows.map zI)))) .dead) = LK Z feed n ss (FA Z fm rl nb tx (some (.imm szP)) (some (.imm pcP)) (some (.imm fdP)) none none none) sc ba cs tt wr (some (.imm (.list (rows.map zI)))) none := rfl
 unfold cCompS
 rw [ef]
 show (if [PV.int 1, PV.int 2].length <= 4096 /\ _ then _ else none) = _
 rw [if_pos ⟨by simp, rfl⟩, ec, eL]
 rfl
theorem good_eval {fm : Int} {rl : List Int} {nb : PV} {tx : List Nat} {szP pcP fdP ldP : PV} {rows : List (Nat × Nat × Nat)} (hl : rows.length <= 8) :
  zO hSum (zB (zy (.loc 0) 19 1 [] (zO zz (zB (zw hLen (zK 10)) zG)) (t_law2_1 Z feed fu) (e_law2_1 Z feed fu)) zG) (LT Z feed n ss (FA Z fm rl nb tx (some (.imm szP)) (some (.imm pcP)) (some (.imm fdP)) (some (.imm ldP)) none none) sc ba cs tt wr (some (.imm (.list (rows.map zI)))) (.cell (some (.imm (nI 2))))) =
   some (nI (good1 rows), LT Z feed n ss (FA Z fm rl nb tx (some (.imm szP)) (some (.imm pcP)) (some (.imm fdP)) (some (.imm ldP)) none none) sc ba cs tt wr (some (.imm (.list (rows.map zI)))) (.cell (some (.imm (nI 2))))) := by
 have e1 := comp_eval (ci := 19) (t := t_law2_1 Z feed fu) (fe := e_law2_1 Z feed fu) (f := zO zz (zB (zw hLen (zK 10)) zG)) (fun p => match p with | .int m => (rows.getD m.toNat (0, 0, 0)).1 == 1 | _ => false) (fun p => match p with | .int m => nI (2 ^ m.toNat) | _ => .none)
  (σ := LT Z feed n ss (FA Z fm rl nb tx (some (.imm szP)) (some (.imm pcP)) (some (.imm fdP)) (some (.imm ldP)) none none) sc ba cs tt wr (some (.imm (.list (rows.map zI)))) (.cell (some (.imm (nI 2))))) (σ1 := LT Z feed n ss (FA Z fm rl nb tx (some (.imm szP)) (some (.imm pcP)) (some (.imm fdP)) (some (.imm ldP)) none none) sc ba cs tt wr (some (.imm (.list (rows.map zI)))) (.cell (some (.imm (nI 2))))) (u := .rng 0 ((rows.map zI).length : Int)) (xs := (List.range rows.length).map nI)
  rfl (by rw [List.length_map]; exact rng_items (by omega)) (by simp; omega) (by show 19 < 21; decide) (fun p hp => by
   obtain ⟨m, hm, rfl⟩ := List.mem_map.mp hp
   have hm' := List.mem_range.mp hm
   have hv : (rows.map zI)[m]? = some (zI (rows.getD m (0, 0, 0))) := by rw [List.getElem?_map, List.getD_eq_getElem?_getD, List.getElem?_eq_getElem hm']; rfl
   constructor
   ·show _ = some ((rows.getD (m : Int).toNat (0, 0, 0)).1 == 1, _)
    rw [Int.toNat_natCast]
    generalize rows.getD m (0, 0, 0) = r at hv ⊢
    refine z1 (zY (a := nI r.1) (z9 (e_imm (p := zI r) (z9 rfl rfl (item_L hv (by omega)))) rfl rfl) rfl rfl ?_ rfl)
    have := eqp_nI r.1 1
    show some (PV.bool (eqp (nI r.1) (.int 1))) = _
    exact congrArg (fun b => some (PV.bool b)) this
   ·intro _
    show _ = some (nI (2 ^ (m : Int).toNat), _)
    rw [Int.toNat_natCast]
    exact zr rfl rfl (pow2 (by omega)))
 have e2 : (((List.range rows.length).map nI).filter fun p => match p with | .int m => (rows.getD m.toNat (0, 0, 0)).1 == 1 | _ => false).map (fun p => match p with | .int m => nI (2 ^ m.toNat) | _ => .none) = (((List.range rows.length).filter fun m => (rows.getD m (0, 0, 0)).1 == 1).map fun m => 2 ^ m).map nI := by
  rw [List.filter_map, List.map_map, List.map_map]
  have : ((fun p : PV => match p with | .int m => (rows.getD m.toNat (0, 0, 0)).1 == 1 | _ => false) ∘ nI) = fun m => (rows.getD m (0, 0, 0)).1 == 1 := by
   funext m
   show ((rows.getD (m : Int).toNat (0, 0, 0)).1 == 1) = _
   rw [Int.toNat_natCast]
  rw [this]
  refine List.map_congr_left fun m _ => ?_
  show nI (2 ^ (m : Int).toNat) = nI (2 ^ m)
  rw [Int.toNat_natCast]
 rw [e2] at e1
 refine za (z0 e1) ?_
 have hi : ∀ K : List Nat, intsOf (K.map nI) = some (K.map fun (n : Nat) => (n : Int)) := fun K => by
  have : K.map nI = (K.map fun (n : Nat) => (n : Int)).map PV.int := by rw [List.map_map]; rfl
  rw [this, intsOf_map]
 have hsum : ∀ K : List Nat, (K.map fun (n : Nat) => (n : Int)).sum = ((K.sum : Nat) : Int) := fun K => by
  induction K with
  | nil => rfl
  | cons a K ih => rw [List.map_cons, List.sum_cons, List.sum_cons, ih]; push_cast; rfl
 show (match intsOf _ with | some ns => some (PV.int ns.sum) | none => none) = _
 rw [hi]
 dsimp only
 rw [hsum]; rfl
end
end
section
set_option autoImplicit false
section
variable {Z : LX} {feed : Addr}
theorem get_tok {fu : Nat} {n : Int} {ss w r : List Nat} {rest : List zA} (hs : ss.all (· < 1114112) = true) (h : ss.length + 2 <= fu) (h2 : fu <= 16777000) (ht : TokR (z7 ss n) w r) : yA (h_get Z feed fu) [.ref Z.L] (LS Z feed n [] ss ++ rest) = some (.str w, LS Z feed (z7 ss n).2.1 [] r ++ rest) := by
 rw [get_run0 hs h h2, ht.1, ht.2]
theorem e_callL {h : List PV -> List zA -> Option (PV × List zA)} {f : CC (List PV)} {σ σ1 : List zA} {as : List PV} {r : Option (PV × List zA)} (h1 : f σ = some (as, σ1)) (h2 : yA h as σ1 = r) : cCallL h f σ = r := by
 unfold cCallL; rw [h1]; exact h2
theorem e_andVT {f g : CC PV} {σ σ1 : List zA} {r : Option (PV × List zA)} (h : f σ = some (.bool true, σ1)) (h2 : g σ1 = r) : cAndV f g σ = r := by unfold cAndV; rw [h]; exact h2
theorem digit (c : Nat) : (((65 + c : Nat) : Int) - 65) = (c : Int) := by omega
theorem cut_call {w : List Nat} {rl sz : List Int} {pcs : List (List Nat)} (hw : w.all (· < 1114112) = true) (h : cutOf w rl = some (sz, pcs)) : h_cut [.str w, .list (rl.map .int)] = some (.tup [.list (sz.map .int), .list (pcs.map .str)]) := by
 unfold h_cut
 dsimp only
 rw [intsOf_map]
 dsimp only
 rw [if_pos hw, h]
noncomputable abbrev FA2 (Z : LX) (fm : Int) (rl : List Int) (nb : PV) (tx : List Nat) (sz : List Int) (pcs : List (List Nat)) (fd ld ft du : Option AV) : List (Option AV) :=
 FA Z fm rl nb tx (some (.imm (.list (sz.map .int)))) (some (.imm (.list (pcs.map .str)))) fd ld ft du
noncomputable abbrev FA3 (Z : LX) (fm : Int) (rl : List Int) (nb : PV) (tx : List Nat) (sz : List Int) (pcs : List (List Nat)) (fdL : List PV) (rows : List (Nat × Nat × Nat)) (ft du : Option AV) : List (Option AV) :=
 FA2 Z fm rl nb tx sz pcs (some (.imm (.list fdL))) (some (.imm (.list [nL (rowL 0 rows), nL (rowL 1 rows)]))) ft du
theorem law2_run {fm : Int} {rl sz : List Int} {nb sc ba tt wr : PV} {text r1 r2 r3 : List Nat} {c0 c1 c2 c3 c4 c5 c6 c7 : Nat} {more : List (List Nat)}
  (hc0 : c0 < 8) (hc1 : c1 < 8) (hc2 : c2 < 8) (hc3 : c3 < 8) (hc4 : c4 < 8) (hc5 : c5 < 8) (hc6 : c6 < 8) (hc7 : c7 < 8)
  (hcut : cutOf [66, 65 + c0, 65 + c1, 65 + c2, 65 + c3, 65 + c4, 65 + c5, 65 + c6, 65 + c7] rl = some (sz, [[65 + c5, 65 + c6, 65 + c7], [65 + c2, 65 + c3, 65 + c4], [65 + c1]] ++ more))
  (hm : more = [[65 + c0], [66]] \/ more = [[66, 65 + c0]]) (hsz : sz = if 2 < fm then [3, 3, 1] else [3, 3, 1, 1, 1])
  (hall : text.all (· < 1114112) = true) (hlen : text.length <= 4000) (hl1 : r1.length <= 4000) (hl2 : r2.length <= 4000) (hl3 : r3.length <= 4000)
  (t1 : ∀ n, TokR (z7 text n) [66, 65 + c0, 65 + c1, 65 + c2, 65 + c3, 65 + c4, 65 + c5, 65 + c6, 65 + c7] r1) (t2 : ∀ n, TokR (z7 r1 n) [35, 110, 32, 34, 10, 11, 92] r2) (t3 : ∀ n, TokR (z7 r2 n) [] r3) (t4 : ∀ n, TokR (z7 r3 n) [34, 116, 92, 35, 10] []) :
  ∃ σ₂, f_law2 Z feed 8000 (LT Z feed 1 text (FA Z fm rl nb text none none none none none none) sc ba [c0, c1, c2, c3, c4, c5, c6, c7] tt wr none .dead) = some (.ret (.bool true), σ₂) := by
 have k1 := tokO_cnt text 1
 rw [(t1 1).2] at k1
 generalize hn1 : (z7 text 1).2.1 = n1 at k1
 have a1 : r1.all (· < 1114112) = true := by have := (tokO_all text 1 hall).2; rwa [(t1 1).2] at this
 have k2 := tokO_cnt r1 n1
 rw [(t2 n1).2] at k2
 generalize hn2 : (z7 r1 n1).2.1 = n2 at k2
 have a2 : r2.all (· < 1114112) = true := by have := (tokO_all r1 n1 a1).2; rwa [(t2 n1).2] at this
 have k3 := tokO_cnt r2 n2
 rw [(t3 n2).2] at k3
 generalize hn3 : (z7 r2 n2).2.1 = n3 at k3
 have a3 : r3.all (· < 1114112) = true := by have := (tokO_all r2 n2 a2).2; rwa [(t3 n2).2] at this
 have k4 := tokO_cnt r3 n3
 rw [(t4 n3).2] at k4
 generalize hn4 : (z7 r3 n3).2.1 = n4 at k4
 refine nG fun ng => ?_
 obtain ⟨B, rows, U, out, e1, hrl, hB, hne, hrow, e2, e3, hU⟩ := twice (l0 := [c4, c3, c2]) (l1 := [c7, c6, c5]) (first := c0) (ends := c1) rfl rfl (by simp; omega) (by simp; omega) hc0 hc1
 have hg8 : good1 rows < 256 := Nat.lt_of_lt_of_le (mask_lt ..) (Nat.pow_le_pow_right (n := 2) (j := 8) (by decide) (show rows.length <= 8 by omega))
 have hb64 : ∀ r ∈ rows, r.2.1 <= 64 /\ r.2.2 <= 64 := fun r hr => by have := hrow r hr; omega
 obtain ⟨q0, q1, hfd⟩ : ∃ q0 q1, ([[65 + c5, 65 + c6, 65 + c7], [65 + c2, 65 + c3, 65 + c4], [65 + c1]] ++ more).map digs = nL [c7, c6, c5] :: nL [c4, c3, c2] :: nL [c1] :: nL (c0 :: q0) :: q1 := by
  have d3 : ∀ a b c : Nat, digs [65 + a, 65 + b, 65 + c] = nL [c, b, a] := fun a b c => by
   show PV.list [.int (((65 + c : Nat) : Int) - 65), .int (((65 + b : Nat) : Int) - 65), .int (((65 + a : Nat) : Int) - 65)] = _
   rw [digit, digit, digit]; rfl
  have d1 : ∀ a : Nat, digs [65 + a] = nL [a] := fun a => by
   show PV.list [.int (((65 + a : Nat) : Int) - 65)] = _
   rw [digit]; rfl
  have d2 : digs [66, 65 + c0] = nL [c0, 1] := by
   show PV.list [.int (((65 + c0 : Nat) : Int) - 65), .int (((66 : Nat) : Int) - 65)] = _
   rw [digit]; rfl
  rcases hm with rfl | rfl
  ·exact ⟨[], [digs [66]], by simp only [List.cons_append, List.nil_append, List.map_cons, List.map_nil, d3, d1]⟩
  ·exact ⟨[1], [], by simp only [List.cons_append, List.nil_append, List.map_cons, List.map_nil, d3, d1, d2]⟩
 have hpc : ∀ p ∈ [[65 + c5, 65 + c6, 65 + c7], [65 + c2, 65 + c3, 65 + c4], [65 + c1]] ++ more, ∃ a b c, p = [a] \/ p = [a, b] \/ p = [a, b, c] := by
  rcases hm with rfl | rfl <;> intro p hp <;> simp only [List.cons_append, List.nil_append, List.mem_cons, List.not_mem_nil, or_false] at hp
  ·rcases hp with rfl | rfl | rfl | rfl | rfl
   ·exact ⟨_, _, _, .inr (.inr rfl)⟩
   ·exact ⟨_, _, _, .inr (.inr rfl)⟩
   ·exact ⟨_, 0, 0, .inl rfl⟩
   ·exact ⟨_, 0, 0, .inl rfl⟩
   ·exact ⟨_, 0, 0, .inl rfl⟩
  ·rcases hp with rfl | rfl | rfl | rfl
   ·exact ⟨_, _, _, .inr (.inr rfl)⟩
   ·exact ⟨_, _, _, .inr (.inr rfl)⟩
   ·exact ⟨_, 0, 0, .inl rfl⟩
   ·exact ⟨_, _, 0, .inr (.inl rfl)⟩
 have hpl : ([[65 + c5, 65 + c6, 65 + c7], [65 + c2, 65 + c3, 65 + c4], [65 + c1]] ++ more).length <= 5 := by rcases hm with rfl | rfl <;> simp
 generalize [[65 + c5, 65 + c6, 65 + c7], [65 + c2, 65 + c3, 65 + c4], [65 + c1]] ++ more = pcs at hcut hfd hpc hpl
 refine ng ?_
 clear ng
 generalize hcs : [c0, c1, c2, c3, c4, c5, c6, c7] = cs
 have hW : ([66, 65 + c0, 65 + c1, 65 + c2, 65 + c3, 65 + c4, 65 + c5, 65 + c6, 65 + c7] : List Nat).all (· < 1114112) = true := by
  simp only [List.all_cons, List.all_nil, Bool.and_true, Bool.and_eq_true, decide_eq_true_eq]
  exact ⟨by decide, lt8 hc0, lt8 hc1, lt8 hc2, lt8 hc3, lt8 hc4, lt8 hc5, lt8 hc6, lt8 hc7⟩
 generalize [66, 65 + c0, 65 + c1, 65 + c2, 65 + c3, 65 + c4, 65 + c5, 65 + c6, 65 + c7] = W at hcut t1 hW
 have g1 := get_tok (Z := Z) (feed := feed) (fu := 8000) (rest := LR (FA Z fm rl nb text none none none none none none) sc ba cs tt wr none .dead) hall (by omega) (by omega) (t1 1)
 rw [hn1] at g1
 have s1 : cAsg2 4 (.loc 6) (.loc 7) (zO h_cut (zB (cLexM Z.L (h_get Z feed 8000) (zC 4 5) zG) (zB (zE (zC 4 1)) zG))) (LT Z feed 1 text (FA Z fm rl nb text none none none none none none) sc ba cs tt wr none .dead) =
   some (.next, LT Z feed n1 r1 (FA2 Z fm rl nb text sz pcs none none none none) sc ba cs tt wr none .dead) :=
  e_asg2 (za (z4 (e_lexM rfl rfl rfl g1) (z0 rfl)) (cut_call hW hcut)) rfl rfl
 have s2 : cIf (zP (zM hNe (zE (zC 4 6)) (zX (cIf (zP (zM hGt (zE (zC 4 0)) (zX (cQ (.int 2))))) (z5 (zB (cQ (.int 3)) (zB (cQ (.int 3)) (zB (cQ (.int 1)) zG)))) (z5 (zB (cQ (.int 3)) (zB (cQ (.int 3)) (zB (cQ (.int 1)) (zB (cQ (.int 1)) (zB (cQ (.int 1)) zG)))))))))) (zJ (cRet (cQ (.bool false))) (zL .next)) (zL .next) (LT Z feed n1 r1 (FA2 Z fm rl nb text sz pcs none none none none) sc ba cs tt wr none .dead) =
   some (.next, LT Z feed n1 r1 (FA2 Z fm rl nb text sz pcs none none none none) sc ba cs tt wr none .dead) := by
  have tg : zP (zM hGt (zE (zC 4 0)) (zX (cQ (.int 2)))) (LT Z feed n1 r1 (FA2 Z fm rl nb text sz pcs none none none none) sc ba cs tt wr none .dead) = some (decide (fm > 2), LT Z feed n1 r1 (FA2 Z fm rl nb text sz pcs none none none none) sc ba cs tt wr none .dead) :=
   z1 (zY rfl rfl rfl rfl rfl)
  by_cases q : 2 < fm
  ·rw [if_pos q] at hsz
   rw [show decide (fm > 2) = true from decide_eq_true q] at tg
   exact zv (z1 (zY (a := .list (sz.map .int)) rfl (e_imm (e_ifT tg rfl)) rfl (by rw [hsz]; rfl) rfl)) rfl
  ·rw [if_neg q] at hsz
   rw [show decide (fm > 2) = false from decide_eq_false q] at tg
   exact zv (z1 (zY (a := .list (sz.map .int)) rfl (e_imm (zv tg rfl)) rfl (by rw [hsz]; rfl) rfl)) rfl
 have s3 := found_eval (Z := Z) (feed := feed) (fu := 8000) (n := n1) (ss := r1) (sc := sc) (ba := ba) (tt := tt) (wr := wr) (fm := fm) (rl := rl) (nb := nb) (tx := text) (szP := .list (sz.map .int)) (cs := cs) hpc hpl
 rw [hfd] at s3
 have g4 := turned_call (Z := Z) (feed := feed) (fu := 8000) (n := n1) (ss := r1) (rest := LR (FA2 Z fm rl nb text sz pcs (some (.imm (.list (nL [c7, c6, c5] :: nL [c4, c3, c2] :: nL [c1] :: nL (c0 :: q0) :: q1)))) none none none) sc ba cs tt wr none .dead) a1 (by omega) (by omega) (by simp) (by simp) (by omega) (by decide) e1 (t2 n1).1
 rw [hn2, (t2 n1).2] at g4
 have s4 : zl 4 (.cell 10) (cCallL (h_turned Z feed 8000) (zB (zE (zC 4 5)) (zB (z3 [11, 12, 13, 14, 15, 16, 17, 18, 19] zH (zC 4 2) (cQ (.int 0))) (zB (z5 (zB (z3 [11, 12, 13, 14, 15, 16, 17, 18, 19] zH (zC 4 8) (cQ (.int 1))) (zB (z3 [11, 12, 13, 14, 15, 16, 17, 18, 19] zH (zC 4 8) (cQ (.int 0))) zG))) (zB (z3 [11, 12, 13, 14, 15, 16, 17, 18, 19] zH (zX (z3 [11, 12, 13, 14, 15, 16, 17, 18, 19] zH (zC 4 8) (cQ (.int 2)))) (cQ (.int 0))) (zB (z3 [11, 12, 13, 14, 15, 16, 17, 18, 19] zH (zX (z3 [11, 12, 13, 14, 15, 16, 17, 18, 19] zH (zC 4 8) (cQ (.int 3)))) (cQ (.int 0))) zG)))))) (LT Z feed n1 r1 (FA2 Z fm rl nb text sz pcs (some (.imm (.list (nL [c7, c6, c5] :: nL [c4, c3, c2] :: nL [c1] :: nL (c0 :: q0) :: q1)))) none none none) sc ba cs tt wr none .dead) =
   some (.next, LT Z feed n2 r2 (FA2 Z fm rl nb text sz pcs (some (.imm (.list (nL [c7, c6, c5] :: nL [c4, c3, c2] :: nL [c1] :: nL (c0 :: q0) :: q1)))) none none none) sc ba cs tt wr (some (.imm (.list (rows.map zI)))) .dead) :=
  zp (e_callL (z4 rfl (z4 (z9 rfl rfl rfl) (z4 (e_list (z4 (z9 rfl rfl rfl) (z4 (z9 rfl rfl rfl) rfl)) (by simp)) (z4 (z9 (e_imm (z9 rfl rfl rfl)) rfl rfl) (z4 (z9 (e_imm (z9 rfl rfl rfl)) rfl rfl) rfl))))) g4) rfl
 have s5 : cIf (zP (zM hEq (zE (zK 10)) (zX (z5 zG)))) (zJ (cRet (cQ (.bool false))) (zL .next)) (zL .next) (LT Z feed n2 r2 (FA2 Z fm rl nb text sz pcs (some (.imm (.list (nL [c7, c6, c5] :: nL [c4, c3, c2] :: nL [c1] :: nL (c0 :: q0) :: q1)))) none none none) sc ba cs tt wr (some (.imm (.list (rows.map zI)))) .dead) =
   some (.next, LT Z feed n2 r2 (FA2 Z fm rl nb text sz pcs (some (.imm (.list (nL [c7, c6, c5] :: nL [c4, c3, c2] :: nL [c1] :: nL (c0 :: q0) :: q1)))) none none none) sc ba cs tt wr (some (.imm (.list (rows.map zI)))) .dead) :=
  zv (z1 (zY (a := .list (rows.map zI)) (b := .imm (.list [])) rfl rfl rfl (rows_nil hne) rfl)) rfl
 generalize hF : (nL [c7, c6, c5] :: nL [c4, c3, c2] :: nL [c1] :: nL (c0 :: q0) :: q1) = fdL at s3 s4 s5
 have s6 := leads_eval (Z := Z) (feed := feed) (fu := 8000) (n := n2) (ss := r2) (sc := sc) (ba := ba) (cs := cs) (tt := tt) (wr := wr) (fm := fm) (rl := rl) (nb := nb) (tx := text) (szP := .list (sz.map .int)) (pcP := .list (pcs.map .str)) (fdP := .list fdL) hb64 (by omega)
 have s7g := good_eval (Z := Z) (feed := feed) (fu := 8000) (n := n2) (ss := r2) (sc := sc) (ba := ba) (cs := cs) (tt := tt) (wr := wr) (fm := fm) (rl := rl) (nb := nb) (tx := text) (szP := .list (sz.map .int)) (pcP := .list (pcs.map .str)) (fdP := .list fdL) (ldP := .list [nL (rowL 0 rows), nL (rowL 1 rows)]) (rows := rows) (by omega)
 have g7 := turned_call (Z := Z) (feed := feed) (fu := 8000) (n := n2) (ss := r2) (mk := []) (rest := LR (FA3 Z fm rl nb text sz pcs fdL rows none none) sc ba cs tt wr (some (.imm (.list (rows.map zI)))) (.cell (some (.imm (nI 2))))) a2 (by omega) (by omega) (by rw [List.length_map]; omega) (by rw [List.length_map]; omega) hg8 rfl e2 (t3 n2).1
 rw [hn3, (t3 n2).2] at g7
 have s7 : zl 4 (.loc 10) (cCallL (h_turned Z feed 8000) (zB (zE (zC 4 5)) (zB (z3 [11, 12, 13, 14, 15, 16, 17, 18, 19] zH (zC 4 2) (cQ (.int 1))) (zB (zE (zC 4 9)) (zB (zO hSum (zB (zy (.loc 0) 19 1 [] (zO zz (zB (zw hLen (zK 10)) zG)) (t_law2_1 Z feed 8000) (e_law2_1 Z feed 8000)) zG)) (zB (cQ (.int 1)) zG)))))) (LT Z feed n2 r2 (FA3 Z fm rl nb text sz pcs fdL rows none none) sc ba cs tt wr (some (.imm (.list (rows.map zI)))) (.cell (some (.imm (nI 2))))) =
   some (.next, LT Z feed n3 r3 (FA3 Z fm rl nb text sz pcs fdL rows (some (.imm (.list (out.map zI)))) none) sc ba cs tt wr (some (.imm (.list (rows.map zI)))) (.cell (some (.imm (nI 2))))) :=
  zp (e_callL (z4 rfl (z4 (z9 rfl rfl rfl) (z4 rfl (z4 s7g (z4 (a := nI 1) rfl rfl))))) g7) rfl
 have g8 := least_call (l0 := [c4, c3, c2]) (l1 := [c7, c6, c5]) (first := c0) (ends := c1) rfl rfl (by simp; omega) (by simp; omega) hc0 hc1 e3
 have s8 : zl 4 (.loc 11) (zO h_least (zB (z5 (zB (z5 (zB (z3 [11, 12, 13, 14, 15, 16, 17, 18, 19] zH (zK 7) (cQ (.int 4))) (zB (z3 [11, 12, 13, 14, 15, 16, 17, 18, 19] zH (zK 7) (cQ (.int 3))) (zB (z3 [11, 12, 13, 14, 15, 16, 17, 18, 19] zH (zK 7) (cQ (.int 2))) zG)))) (zB (z5 (zB (z3 [11, 12, 13, 14, 15, 16, 17, 18, 19] zH (zK 7) (cQ (.int 7))) (zB (z3 [11, 12, 13, 14, 15, 16, 17, 18, 19] zH (zK 7) (cQ (.int 6))) (zB (z3 [11, 12, 13, 14, 15, 16, 17, 18, 19] zH (zK 7) (cQ (.int 5))) zG)))) zG))) (zB (z3 [11, 12, 13, 14, 15, 16, 17, 18, 19] zH (zK 7) (cQ (.int 0))) (zB (z3 [11, 12, 13, 14, 15, 16, 17, 18, 19] zH (zK 7) (cQ (.int 1))) zG)))) (LT Z feed n3 r3 (FA3 Z fm rl nb text sz pcs fdL rows (some (.imm (.list (out.map zI)))) none) sc ba cs tt wr (some (.imm (.list (rows.map zI)))) (.cell (some (.imm (nI 2))))) =
   some (.next, LT Z feed n3 r3 (FA3 Z fm rl nb text sz pcs fdL rows (some (.imm (.list (out.map zI)))) (some (.imm (.list (out.map zI))))) sc ba cs tt wr (some (.imm (.list (rows.map zI)))) (.cell (some (.imm (nI 2))))) := by
  clear s1 s2 s3 s4 s5 s6 s7 s7g g1 g4 g7
  subst hcs
  exact zp (za (z4 (e_list (z4 (e_list (z4 (z9 rfl rfl rfl) (z4 (z9 rfl rfl rfl) (z4 (z9 rfl rfl rfl) rfl))) (by simp)) (z4 (e_list (z4 (z9 rfl rfl rfl) (z4 (z9 rfl rfl rfl) (z4 (z9 rfl rfl rfl) rfl))) (by simp)) rfl)) (by simp)) (z4 (z9 rfl rfl rfl) (z4 (z9 rfl rfl rfl) rfl))) g8) rfl
 have s9 : cIf (zP (zM hNe (zE (zC 4 10)) (zC 4 11))) (zJ (cRet (cQ (.bool false))) (zL .next)) (zL .next) (LT Z feed n3 r3 (FA3 Z fm rl nb text sz pcs fdL rows (some (.imm (.list (out.map zI)))) (some (.imm (.list (out.map zI))))) sc ba cs tt wr (some (.imm (.list (rows.map zI)))) (.cell (some (.imm (nI 2))))) =
   some (.next, LT Z feed n3 r3 (FA3 Z fm rl nb text sz pcs fdL rows (some (.imm (.list (out.map zI)))) (some (.imm (.list (out.map zI))))) sc ba cs tt wr (some (.imm (.list (rows.map zI)))) (.cell (some (.imm (nI 2))))) :=
  zv (z1 (zY (a := .list (out.map zI)) rfl rfl rfl (rows_ne out) rfl)) rfl
 have gA := get_tok (Z := Z) (feed := feed) (fu := 8000) (rest := LR (FA3 Z fm rl nb text sz pcs fdL rows (some (.imm (.list (out.map zI)))) (some (.imm (.list (out.map zI))))) sc ba cs tt wr (some (.imm (.list (rows.map zI)))) (.cell (some (.imm (nI 2))))) a3 (by omega) (by omega) (t4 n3)
 rw [hn4] at gA
 have gB := get_tok (Z := Z) (feed := feed) (fu := 8000) (n := n4) (ss := []) (w := []) (r := []) (rest := LR (FA3 Z fm rl nb text sz pcs fdL rows (some (.imm (.list (out.map zI)))) (some (.imm (.list (out.map zI))))) sc ba cs tt wr (some (.imm (.list (rows.map zI)))) (.cell (some (.imm (nI 2))))) rfl (by simp) (by omega) ⟨rfl, rfl⟩
 have hn : n4 = 1 + ((text.count 10 : Nat) : Int) := by
  rw [List.count_nil] at k4
  omega
 have sA : zM hEq (z5 (zB (cLexM Z.L (h_get Z feed 8000) (zC 4 5) zG) (zB (cLexM Z.L (h_get Z feed 8000) (zC 4 5) zG) zG))) (zX (z5 (zB (z3 [11, 12, 13, 14, 15, 16, 17, 18, 19] zH (zC 4 2) (cQ (.int 2))) (zB (cQ (.str [])) zG)))) (LT Z feed n3 r3 (FA3 Z fm rl nb text sz pcs fdL rows (some (.imm (.list (out.map zI)))) (some (.imm (.list (out.map zI))))) sc ba cs tt wr (some (.imm (.list (rows.map zI)))) (.cell (some (.imm (nI 2))))) =
   some (.bool true, LT Z feed n4 [] (FA3 Z fm rl nb text sz pcs fdL rows (some (.imm (.list (out.map zI)))) (some (.imm (.list (out.map zI))))) sc ba cs tt wr (some (.imm (.list (rows.map zI)))) (.cell (some (.imm (nI 2))))) :=
  zY (e_list (z4 (e_lexM rfl rfl rfl gA) (z4 (e_lexM rfl rfl rfl gB) rfl)) (by simp)) (e_imm (e_list (z4 (z9 rfl rfl rfl) (z4 (a := .str []) rfl rfl)) (by simp))) rfl rfl rfl
 have sB : zM hEq (zE (cAttr Z.L 0 0 (zC 4 5))) (zX (zh hAdd (cQ (.int 1)) (cMeth [11, 12, 13, 14, 15, 16, 17, 18, 19] "str" hCount (zC 4 4) (zB (cQ (.str [10])) zG)))) (LT Z feed n4 [] (FA3 Z fm rl nb text sz pcs fdL rows (some (.imm (.list (out.map zI)))) (some (.imm (.list (out.map zI))))) sc ba cs tt wr (some (.imm (.list (rows.map zI)))) (.cell (some (.imm (nI 2))))) =
   some (.bool true, LT Z feed n4 [] (FA3 Z fm rl nb text sz pcs fdL rows (some (.imm (.list (out.map zI)))) (some (.imm (.list (out.map zI))))) sc ba cs tt wr (some (.imm (.list (rows.map zI)))) (.cell (some (.imm (nI 2))))) := by
  have ea : zE (cAttr Z.L 0 0 (zC 4 5)) (LT Z feed n4 [] (FA3 Z fm rl nb text sz pcs fdL rows (some (.imm (.list (out.map zI)))) (some (.imm (.list (out.map zI))))) sc ba cs tt wr (some (.imm (.list (rows.map zI)))) (.cell (some (.imm (nI 2))))) = some (.int n4, LT Z feed n4 [] (FA3 Z fm rl nb text sz pcs fdL rows (some (.imm (.list (out.map zI)))) (some (.imm (.list (out.map zI))))) sc ba cs tt wr (some (.imm (.list (rows.map zI)))) (.cell (some (.imm (nI 2))))) := by
   show (match (if Z.L = Z.L then _ else none) with | some (a, σ') => frz a σ' | none => none) = _
   rw [if_pos rfl]; rfl
  refine zY ea (e_imm (zr rfl (e_methI (p := .str text) (as := [.str [10]]) (c := nI (text.count 10)) rfl rfl rfl rfl rfl) rfl)) rfl ?_ rfl
  show some (PV.bool (n4 == 1 + ((text.count 10 : Nat) : Int))) = _
  rw [hn]; simp
 exact ⟨_, zF s1 (zF s2 (zF s3 (zF s4 (zF s5 (zF s6 (zF s7 (zF s8 (zF s9 (z6 (e_ret (e_andVT sA sB)))))))))))⟩
end
end
section
variable {C : Cx} {X : zj}
noncomputable def Cx.ext (C : Cx) (P1 : PH) (le : PH.le C.P0 P1) : Cx :=
 { C with P0 := P1, ns := fun h hh => C.ns h (le.trans hh), bns := fun h hh => C.bns h (le.trans hh), lim := fun h hh => C.lim h (le.trans hh) }
theorem GlB.ext {P1 : PH} (le : PH.le C.P0 P1) (x : GlB C) : GlB (C.ext P1 le) := ⟨x.no, x.nt, x.em⟩
theorem DefAt.ext {a : Addr} {fd : FuncData} {body : List Stmt} {ps : List Str} {P1 : PH} (le : PH.le C.P0 P1) (x : DefAt C a fd body ps) : DefAt (C.ext P1 le) a fd body ps :=
 ⟨let ⟨o, h, r⟩ := x.o; ⟨o, le _ _ h, r⟩, x.co, x.gen, x.body, fun h hh => x.code h (le.trans hh), x.glob, x.blt, x.bind⟩
theorem FnG.ext {x : Str} {st : Stmt} {ps : List Str} {P1 : PH} (le : PH.le C.P0 P1) (y : FnG C x st ps) : FnG (C.ext P1 le) x st ps :=
 ⟨let ⟨a, fd, h1, h2, r⟩ := y.ex; ⟨a, fd, h1, h2.ext le, r⟩⟩
theorem zb.cx {N : Nat -> List Str} {F P : PH} {ρ : Nat -> Addr} {σ : List zA} {h : Heap} {P1 : PH} (le : PH.le C.P0 P1) (I : zb C N F P ρ σ h) (top : PH.le P1 P) : zb (C.ext P1 le) N F P ρ σ h :=
 ⟨I.f, I.p, top, I.ob, I.fr, I.inj⟩
noncomputable def cSetA (L : Addr) (i j : Nat) (f : CC AV) (g : CC AV) : CC Fl := fun σ => match f σ with
 | some (v, σ1) => (match g σ1 with
  | some (.imm (.ref a), σ₂) => if a = L then (match σ₂[i]? with | some (.attrs vs) => some (.next, σ₂.set i (.attrs (vs.set j (some v)))) | _ => none) else none
  | _ => none)
 | none => none
theorem setA_ok {A : Around} {F P : PH} {ρ : Nat -> Addr} {σ : List zA} {s : Shared} {L D K N : Addr} {mN : Str -> Option Value} {i j : Nat} {attr : Str} {vs : List (Option AV)} {v : AV} {V : Value} (Lx : LexC C L D K N mN)
  (hρ : ρ i = D) (hj : (X.N i)[j]? = some attr) (hna : mN attr = none) (hB : typeLookup (.type "object") attr = pure none) (hN : (X.N i).length <= 100) (I : zb C X.N F P ρ σ s.heap) (e3 : σ[i]? = some (.attrs vs)) (rV : AVRep F ρ v V) :
  wpAny C.M A (setAttr (.ref L) attr V) (fun _ s' => Sx C X F P ρ s F ρ (σ.set i (.attrs (vs.set j (some v)))) s') (fun _ _ => False) s := by
 refine nG fun ng => ?_
 obtain ⟨m, hm, hin, hnd, hv⟩ := I.ob _ _ e3
 have hP := I.top.trans I.p
 have hm' := hm
 rw [hρ] at hm'
 have cl := Lx.cls _ hP
 obtain ⟨nm, q, bs, sn, sub, col, dd, k0, k1, k2, k3, k5, hC⟩ := clsX cl
 obtain ⟨hh, gg, d, tk, os⟩ := s
 refine ng ?_
 clear ng
 refine store_attr PySem.F.store_object hC cl.ns Lx.sa hna hB Lx.nk (Lx.inst hP hm') (fun h' tk' I' hk hsame => ?_) (ns := X.N i) hin (by rw [sizeLine_eq]; omega)
 refine nG fun ng => ?_
 obtain ⟨oL, h1, h2, h3, h4⟩ := Lx.obj
 have kp : ∀ b o, b ≠ D -> hh.get? b = some o -> h'.get? b = some o := fun b o hb e => by
  by_cases q : b = L
  ·have q := q.symm; subst q
   obtain ⟨o₁, w1, w2, w3, w4, w5⟩ := hsame o e
   have eo : oL = o := Option.some.inj ((hP _ _ h1).symm.trans e)
   rw [w1]
   subst eo
   have w6 := w5 D h4
   cases o₁; cases oL
   simp only at w2 w3 w4 w6 h4
   rw [w2, w3, w4, w6, h4]
  ·exact hk b o q (fun o0 dx e₀ ed => by
    have eo : oL = o0 := Option.some.inj ((hP _ _ h1).symm.trans e₀)
    subst eo
    rw [h4] at ed; cases ed; exact hb) e
 obtain ⟨oL', w1, w2, w3, w4⟩ := I'
 have hm2 : h'.Ns1 D (fun y => if y = attr then some V else m y) := by
  have eL : h'.get? L = some oL := kp L oL (Ne.symm Lx.ne) (hP _ _ h1)
  have : oL' = oL := Option.some.inj (w1.symm.trans eL)
  subst this
  rcases w4 with ⟨w4, _⟩ | ⟨d', w4, _, w5⟩
  ·rw [h4] at w4; cases w4
  ·rw [h4] at w4; cases w4; exact w5
 refine ng ?_
 clear ng
 refine ⟨I.mutK e3 rfl (by rw [hρ]; exact kp) ⟨_, by rw [hρ]; exact hm2, fun y hy => ?_, FrameOK.set ⟨hnd, hv⟩ hj rV⟩, ⟨.of, .refl _, fun _ _ => rfl⟩, fun _ _ _ => rfl⟩
 by_cases q : y = attr
 ·rw [q]; exact List.mem_of_getElem? hj
 ·rw [if_neg q] at hy; exact hin y hy
theorem st_setA {x attr : Str} {np tp pos : Pos} {value : Expr} {f g : CC AV} {L D K N : Addr} {mN : Str -> Option Value} {i j : Nat} (Lx : LexC C L D K N mN) (hpin : (i, D) ∈ X.pins) (hj : (X.N i)[j]? = some attr) (hna : mN attr = none) (hB : typeLookup (.type "object") attr = pure none) (hN : (X.N i).length <= 100)
  (hf : EvOK C X value f) (hg : EvOK C X (.Name x np) g) (hr : ∀ σ v σ', f σ = some (v, σ') -> ∃ p, v = .imm p) (hn : noComp value = true := by rfl) : StOK C X (.Assign [.Attribute (.Name x np) attr tp] value pos) (cSetA L i j f g) := by
 intro A env F P ρ σ s v σ' hA E I hc
 unfold cSetA at hc
 refine nG fun ng => ?_
 refine ivA hc ?_; clear hc; intro w σ1 e1 hc
 obtain ⟨pw, rfl⟩ := hr _ _ _ e1
 refine ivAr hc ?_; clear hc; intro a σ₂ e2 hc
 refine i1 hc ?_; clear hc; intro ha hc
 subst ha
 refine ivAt hc ?_; clear hc; intro vs e3 hc
 refine ng ?_
 clear ng
 refine pf hc ?_; clear hc
 refine plainObj_wpAny_Assign_Attribute (wpAny_mono (hf A env F P ρ σ s _ σ1 hA E I e1) (fun V s₁ zq => ?_) fun _ _ x => x) (by cases value <;> first | rfl | cases hn)
 obtain ⟨F1, ρ1, n₁, r₁⟩ := zq
 refine wpAny_mono (hg A env F1 P ρ1 σ1 s₁ _ σ₂ hA (n₁.env E) n₁.inv e2) (fun W s₂ zq => ?_) fun _ _ x => x
 refine nG fun ng => ?_
 obtain ⟨F2, ρ₂, n₂, r₂⟩ := zq
 have r' : Rep F2 (.ref a) W := r₂
 cases r'
 have hρ := (((n₁.trans n₂).env E).pin _ _ hpin).1
 refine ng ?_
 clear ng
 exact wpAny_mono (setA_ok (X := X) (v := .imm pw) Lx hρ hj hna hB hN n₂.inv e3 (AVRep.mono n₂.pu.le (a := .imm pw) r₁)) (fun _ s₃ n₃ => ⟨_, _, (n₁.trans n₂).sx.trans n₃, rfl⟩) fun _ _ x => x
noncomputable def cSetO (L : Addr) (i j k : Nat) (g : CC AV) : CC Fl := fun σ => if k < σ.length then (match g (newOwn k (.lst []) σ) with
  | some (.imm (.ref a), σ₂) => if a = L then (match σ₂[i]? with | some (.attrs vs) => some (.next, σ₂.set i (.attrs (vs.set j (some (.obj k))))) | _ => none) else none
  | _ => none) else none
theorem st_setO {x attr : Str} {np tp lp pos : Pos} {g : CC AV} {L D K N : Addr} {mN : Str -> Option Value} {i j k : Nat} (Lx : LexC C L D K N mN) (hpin : (i, D) ∈ X.pins) (hj : (X.N i)[j]? = some attr) (hna : mN attr = none) (hB : typeLookup (.type "object") attr = pure none) (hN : (X.N i).length <= 100)
  (hg : EvOK C X (.Name x np) g) (hk : k ∈ X.own) (hkt : k ∉ X.tmp) : StOK C X (.Assign [.Attribute (.Name x np) attr tp] (.List [] lp) pos) (cSetO L i j k g) := by
 intro A env F P ρ σ s v σ' hA E I hc
 unfold cSetO at hc
 refine nG fun ng => ?_
 refine i1 hc ?_; clear hc; intro hkl hc
 refine ivAr hc ?_; clear hc; intro a σ₂ e2 hc
 refine i1 hc ?_; clear hc; intro ha hc
 subst ha
 refine ivAt hc ?_; clear hc; intro vs e3 hc
 refine ng ?_
 clear ng
 refine pf hc ?_; clear hc
 refine plainObj_wpAny_Assign_Attribute (List_ (wpAny_items_nil (wpAny_newObj_type ?_ (by size_fits)))) rfl
 refine nG fun ng => ?_
 obtain ⟨q1, q2, q3⟩ := I.fresh (a := s.heap.objs.size) size_fresh
 have I' : zb C X.N F P ρ σ (s.heap.push { cls := .type "list", data := .seq #[] }) := I.kept fun b o e => Heap.get?_push_of_some _ e
 have I'' := I'.newOwn (o' := .lst []) hkl q1 q2 q3 ⟨[], ⟨_, Heap.get?_push_size _ rfl⟩, by simp, .nil⟩
 have n₁ : Sx C X F P ρ s F (upd ρ k s.heap.objs.size) (newOwn k (.lst []) σ) { s with heap := s.heap.push { cls := .type "list", data := .seq #[] } } :=
  ⟨I'', ⟨.ofh, .refl _, fun _ _ => rfl⟩, fun j _ h => if_neg fun (z : j = k) => h (z ▸ hk)⟩
 refine ng ?_
 clear ng
 refine wpAny_mono (hg A env F P _ _ _ _ σ₂ hA (n₁.env E) n₁.inv e2) (fun W s₂ zq => ?_) fun _ _ x => x
 refine nG fun ng => ?_
 obtain ⟨F2, ρ₂, n₂, r₂⟩ := zq
 have r' : Rep F2 (.ref a) W := r₂
 cases r'
 have hρ := (((n₁.trans n₂.sx).env E).pin _ _ hpin).1
 refine ng ?_
 clear ng
 refine wpAny_mono (setA_ok (X := X) (v := .obj k) Lx hρ hj hna hB hN n₂.inv e3 ?_) (fun _ s₃ n₃ => ⟨_, _, (n₁.trans n₂.sx).trans n₃, rfl⟩) fun _ _ x => x
 show _ = Value.ref (ρ₂ k)
 rw [n₂.rho k hkt, show upd ρ k s.heap.objs.size k = s.heap.objs.size from if_pos rfl]
end
section
variable {C : Cx} {X : zj}
noncomputable def initSt : Stmt := fdIn (zD 12) 0
noncomputable abbrev X_init (D : Addr) (n : Nat) : zj :=
 { n := n + 1, fi := 4, N := fun | 0 => ["lineno", "instream", "whitespace", "pushback", "read"] | 4 => ["self", "fp"] | _ => [], cells := [], scope := zQ initSt, tmp := [], own := [1], pins := [(0, D)] }
noncomputable abbrev f_init (L : Addr) : CC Fl := zJ (cSetA L 0 0 (zX (cQ (.int 1))) (zC 4 0)) (zJ (cSetA L 0 1 (zX (zE (zC 4 1))) (zC 4 0)) (zJ (cSetA L 0 2 (zX (cQ (.str [10, 9, 13, 32]))) (zC 4 0)) (zJ (cSetO L 0 3 1 (zC 4 0)) (zL .next))))
theorem cImm_imm {f : CC PV} : ∀ σ v σ', zX f σ = some (v, σ') -> ∃ p, v = .imm p := fun σ v σ' h => let ⟨p, e, _⟩ := cImm_eq h; ⟨p, e⟩
theorem ok_init {L D K N : Addr} {mN : Str -> Option Value} {n : Nat} (Lx : LexC C L D K N mN) (hat : ∀ a, a ∈ NL 0 -> mN a = none) : zi C (X_init D n) (zN initSt) (f_init L) := by
 change zi C _ (List.cons _ _) _
 have hp : (0, D) ∈ (X_init D n).pins := List.mem_cons_self
 refine zT (st_setA Lx hp (by kernel_rfl) (hat _ (by decide +kernel)) tl_lineno (by show 5 <= 100; decide) (yC evp_int) (z8 (X := X_init D n) (by kernel_rfl) (by kernel_rfl)) cImm_imm) ?_
 refine zT (st_setA Lx hp (by kernel_rfl) (hat _ (by decide +kernel)) tl_instream (by show 5 <= 100; decide) (yC (evp (z8 (X := X_init D n) (by kernel_rfl) (by kernel_rfl)))) (z8 (X := X_init D n) (by kernel_rfl) (by kernel_rfl)) cImm_imm) ?_
 refine zT (st_setA Lx hp (by kernel_rfl) (hat _ (by decide +kernel)) tl_whitespace (by show 5 <= 100; decide) (yC (evp_str (by kernel_rfl))) (z8 (X := X_init D n) (by kernel_rfl) (by kernel_rfl)) cImm_imm) ?_
 exact zT (st_setO Lx hp (by kernel_rfl) (hat _ (by decide +kernel)) tl_pushback (by show 5 <= 100; decide) (z8 (X := X_init D n) (by kernel_rfl) (by kernel_rfl)) List.mem_cons_self List.not_mem_nil) zd
structure KlsC (C : Cx) (K N : Addr) (mN : Str -> Option Value) (fI : Addr) : Prop where
 cls : ∀ h : Heap, PH.le C.P0 h.get? -> ClsAt h K N mN
 ga : mN "__getattribute__" = none
 gt : mN "__getattr__" = none
 sa : mN "__setattr__" = none
 init : mN "__init__" = some (.ref fI)
 initO : ∃ o, C.P0 fI = some o /\ o.cls = .type "function"
 at' : ∀ a, a ∈ NL 0 -> mN a = none
 FA : ∃ fd, DefAt C fI fd (zN initSt) ["self", "fp"] /\ fd.scope = zQ initSt /\ fd.closure = []
theorem KlsC.ext {K N fI : Addr} {mN : Str -> Option Value} {P1 : PH} (le : PH.le C.P0 P1) (x : KlsC C K N mN fI) : KlsC (C.ext P1 le) K N mN fI :=
 ⟨fun h hh => x.cls h (le.trans hh), x.ga, x.gt, x.sa, x.init, let ⟨o, a, b⟩ := x.initO; ⟨o, le _ _ a, b⟩, x.at', let ⟨fd, a, b⟩ := x.FA; ⟨fd, a.ext le, b⟩⟩
noncomputable abbrev noF : PH := fun _ => none
noncomputable abbrev newAttrs (p : PV) (B : Addr) : List (Option AV) := [some (.imm (.int 1)), some (.imm p), some (.imm (.str [10, 9, 13, 32])), some (.imm (.ref B)), none]
structure NewInst (K : Addr) (p : PV) (s : Shared) (s' : Shared) (L D B : Addr) : Prop where
 keeps : Keeps s.heap s'.heap
 gx : GX s s'
 nL : s.heap.get? L = none
 nD : s.heap.get? D = none
 nB : s.heap.get? B = none
 dl : D ≠ L
 bl : B ≠ L
 bd : B ≠ D
 obj : InstO s'.heap.get? L K D
 dict : ObjOK noF (fun _ => B) (NL 0) (.attrs (newAttrs p B)) D s'.heap
 back : ObjOK noF (fun _ => B) [] (.lst []) B s'.heap
inductive NewR (K : Addr) (p : PV) (s : Shared) (R : Value) (s' : Shared) : Prop where
 | mk (L D B : Addr) (e : R = .ref L) (h : NewInst K p s s' L D B) : NewR K p s R s'
theorem inst_new {K N fI : Addr} {mN : Str -> Option Value} (Kc : KlsC C K N mN fI) {n : Nat} {A : Around} {F : PH} {s : Shared} {p : PV} {V : Value} (hA : AL n A) (hn : n <= 30) (hF : PH.le F s.heap.get?) (hP : PH.le C.P0 s.heap.get?) (r : Rep F p V) (hp : ∀ F G V, Rep F p V -> Rep G p V) :
  wpAny C.M A (call (.ref K) [V]) (NewR K p s) (fun _ _ => False) s := by
 refine nG fun ng => ?_
 obtain ⟨hh, g, d, t, os⟩ := s
 have cl := Kc.cls hh hP
 obtain ⟨nm, q, bs, sn, sub, col, dd, k0, k1, k2, k3, k5, hC⟩ := clsX cl
 obtain ⟨oI, hoI, hcI⟩ := Kc.initO
 obtain ⟨fd, FA, hsc, hcl⟩ := Kc.FA
 refine ng ?_
 clear ng
 refine wpAny_call_obj_init PySem.F.objNew hC cl.ns Kc.init (hP _ _ hoI) hcI fun h' x dx hm => ?_
 have hA' : AL (n + 1) (A.under (.builtin "type.__call__" ⟨[.ref K, V], []⟩)) := by
  have hw : (Code.builtin "type.__call__" ⟨[.ref K, V], []⟩).weight = 1 := by kernel_rfl
  have hu : (Code.builtin "type.__call__" ⟨[.ref K, V], []⟩).cUnits <= 1 := by
   have : (Code.builtin "type.__call__" ⟨[.ref K, V], []⟩).cUnits = 1 := by kernel_rfl
   omega
  refine ⟨hA.handled, ?_, ?_⟩
  ·show A.depth + _ <= _
   rw [hw]; have := hA.depth; omega
  ·show A.units + _ <= _
   have := hA.units; omega
 refine nG fun ng => ?_
 obtain ⟨o, hx, hxc, hxd, hxi⟩ := hm.inst
 have hdx := hm.dict o hx
 obtain ⟨hns, hne⟩ : h'.Ns1 dx (fun _ => none) /\ dx ≠ x := by
  rcases hxi with ⟨w, _⟩ | ⟨d', w1, w2, w3⟩
  ·rw [hdx] at w; cases w
  ·rw [hdx] at w1; cases w1; exact ⟨w3, w2⟩
 have hx0 : C.P0 x = none := by
  cases q : C.P0 x with
  | none => rfl
  | some o' => have := hP _ _ q; rw [hm.newX] at this; cases this
 have le1 : PH.le C.P0 (C.P0.add x o) := PH.le_add hx0
 have hxK : x ≠ K := fun q => by rw [<- q, hm.newX] at hC; cases hC
 have Lx : LexC (C.ext _ le1) x dx K N mN := ⟨fun h hh => Kc.cls h (le1.trans hh), Kc.ga, Kc.gt, Kc.sa, ⟨o, PH.add_self .., hxc, hxd, hdx⟩, hne, hxK⟩
 refine ng ?_
 clear ng
 generalize hPP : (fun a => if a = dx then none else h'.get? a : PH) = PP
 have ppd : PP dx = none := by rw [<- hPP]; exact if_pos rfl
 have ppo : ∀ a, a ≠ dx -> PP a = h'.get? a := fun a q => by rw [<- hPP]; exact if_neg q
 have fdx : F dx = none := by
  cases q : F dx with
  | none => rfl
  | some o' => have := hF _ _ q; rw [hm.newD] at this; cases this
 have I0 : zb (C.ext _ le1) (X_init dx (n + 1)).N F PP (fun _ => dx) [.attrs [none, none, none, none, none], .dead, .dead, .dead, .dead] h' := by
  refine ⟨fun a o e => hm.keeps _ _ (hF _ _ e), fun a o e => ?_, fun a o' e => ?_, fun i o' e => ?_, fun i o' e l => ?_, fun i j o1 o2 e1 e2 l1 l2 _ => ?_⟩
  ·by_cases q : a = dx
   ·rw [q, ppd] at e; cases e
   ·rw [ppo a q] at e; exact e
  ·have hne' : a ≠ dx := fun q => by
    rw [q, show (C.ext _ le1).P0 = C.P0.add x o from rfl, PH.add_off _ _ hne] at e
    have := hP _ _ e; rw [hm.newD] at this; cases this
   rw [ppo a hne']
   by_cases q : a = x
   ·rw [q, show (C.ext _ le1).P0 = C.P0.add x o from rfl, PH.add_self] at e; rw [q, hx]; exact e
   ·rw [show (C.ext _ le1).P0 = C.P0.add x o from rfl, PH.add_off _ _ q] at e; exact hm.keeps _ _ (hP _ _ e)
  ·match i, e with
   | 0, e => cases e; exact ⟨_, hns, fun y hy => absurd rfl hy, by show (NL 0).Nodup; decide +kernel, fun k y v h1 h2 => by
     match k, h2 with
     | 0, h2 => cases h2
     | 1, h2 => cases h2
     | 2, h2 => cases h2
     | 3, h2 => cases h2
     | 4, h2 => cases h2⟩
   | 1, e => cases e; trivial
   | 2, e => cases e; trivial
   | 3, e => cases e; trivial
   | 4, e => cases e; trivial
  ·exact ⟨fdx, ppd⟩
  ·have key : ∀ (i : Nat) (o : zA), ([.attrs [none, none, none, none, none], .dead, .dead, .dead, .dead] : List zA)[i]? = some o -> o.live = true -> i = 0 := fun i o e l => by
    match i, e with
    | 0, _ => rfl
    | 1, e => cases e; cases l
    | 2, e => cases e; cases l
    | 3, e => cases e; cases l
    | 4, e => cases e; cases l
   rw [key i o1 e1 l1, key j o2 e2 l2]
 have En : EntOK (X_init dx (n + 1)) fd.scope [] [] ["self", "fp"] [.loc 0, .loc 1] := entOK_of hsc.symm (by rw [hsc]; kernel_rfl) (fun i b m => by
  rcases List.mem_cons.mp m with e | e
  ·cases e; exact ⟨by show 0 ∉ [4]; decide, by show 0 ∉ ([] : List Nat); decide, by show 0 ∉ [1]; decide⟩
  ·cases e)
 have he : f_init x [.attrs [none, none, none, none, none], .dead, .dead, .dead, .frame [some (.imm (.ref x)), some (.imm p)]] =
   some (.next, [.attrs [some (.imm (.int 1)), some (.imm p), some (.imm (.str [10, 9, 13, 32])), some (.obj 1), none], .lst [], .dead, .dead, .frame [some (.imm (.ref x)), some (.imm p)]]) := by
  have ea : ∀ (f : CC AV) (j : Nat) (v : AV) (vs : List (Option AV)) (B : zA), f [.attrs vs, B, .dead, .dead, .frame [some (.imm (.ref x)), some (.imm p)]] = some (v, [.attrs vs, B, .dead, .dead, .frame [some (.imm (.ref x)), some (.imm p)]]) ->
    cSetA x 0 j f (zC 4 0) [.attrs vs, B, .dead, .dead, .frame [some (.imm (.ref x)), some (.imm p)]] = some (.next, [.attrs (vs.set j (some v)), B, .dead, .dead, .frame [some (.imm (.ref x)), some (.imm p)]]) := fun f j v vs B e => by
   unfold cSetA
   rw [e]
   show (if x = x then _ else none) = _
   rw [if_pos rfl]; rfl
  have eo : ∀ (vs : List (Option AV)), vs.all noObjV = true -> cSetO x 0 3 1 (zC 4 0) [.attrs vs, .dead, .dead, .dead, .frame [some (.imm (.ref x)), some (.imm p)]] = some (.next, [.attrs (vs.set 3 (some (.obj 1))), .lst [], .dead, .dead, .frame [some (.imm (.ref x)), some (.imm p)]]) := fun vs hv => by
   have en : newOwn 1 (.lst []) [.attrs vs, .dead, .dead, .dead, .frame [some (.imm (.ref x)), some (.imm p)]] = [.attrs vs, .lst [], .dead, .dead, .frame [some (.imm (.ref x)), some (.imm p)]] := by
    show [clr 1 (.attrs vs), .lst [], .dead, .dead, .frame [some (.imm (.ref x)), some (.imm p)]] = _
    rw [noObj_clr (o := .attrs vs) hv]
   unfold cSetO
   rw [if_pos (by simp), en]
   show (if x = x then _ else none) = _
   rw [if_pos rfl]; rfl
  exact zF (ea _ 0 _ _ _ rfl) (zF (ea _ 1 _ _ _ rfl) (zF (ea _ 2 _ _ _ rfl) (zF (eo _ rfl) rfl)))
 refine wpAny_mono (fn_run (C := C.ext _ le1) (X := X_init dx (n + 1)) (nv := 2) (clo := []) (as := [.ref x, p]) (FA.ext le1) En hcl (ok_init Lx Kc.at') hA' (by omega) rfl I0 (fun i a m => by
   refine nG fun ng => ?_
   rcases List.mem_cons.mp m with e | e
   ·refine ng ?_
    clear ng
    cases e; rfl
   ·refine ng ?_
    clear ng
    cases e) rfl (.cons (.ref x) (.cons r .nil)) rfl rfl he) (fun R s' ⟨F', ρ', J, pu, rr, hρ⟩ => ?_) fun _ _ z => z.elim
 have rr' : Rep F' .none R := rr
 refine nG fun ng => ?_
 cases rr'
 refine ng ?_
 clear ng
 refine ⟨rfl, x, dx, ρ' 1, rfl, ?_⟩
 have r0 : ρ' 0 = dx := hρ 0 (by show 0 ∉ [4]; decide) (by show 0 ∉ ([] : List Nat); decide) (by show 0 ∉ [1]; decide)
 have kp : ∀ b o, b ≠ dx -> h'.get? b = some o -> s'.heap.get? b = some o := fun b o hb e => J.p b o ((ppo b hb).trans e)
 refine nG fun ng => ?_
 obtain ⟨m, hm1, hm2, hm3, hm4⟩ := J.ob 0 _ rfl
 rw [r0] at hm1
 have fr0 := J.fr 0 _ rfl rfl
 have fr1 := J.fr 1 _ rfl rfl
 have hB0 : ρ' 1 ≠ dx := fun q => by
  have := J.inj 1 0 _ _ rfl rfl rfl rfl (q.trans r0.symm)
  cases this
 have hB1 : h'.get? (ρ' 1) = none := by
  have := fr1.2
  rw [ppo _ hB0] at this; exact this
 refine ng ?_
 clear ng
 refine ⟨fun b o' e => kp b o' (fun q => by (rw [q, hm.newD] at e; cases e)) (hm.keeps _ _ e), ?_, hm.newX, hm.newD, ?_, hne, (fun q => by rw [q, hx] at hB1; cases hB1), hB0, ⟨o, kp x o (Ne.symm hne) hx, hxc, hxd, hdx⟩, ⟨m, hm1, hm2, hm3, fun k y v h1 h2 => ?_⟩, ?_⟩
 ·exact ⟨pu.gx.os, pu.gx.old, pu.gx.size, pu.gx.bare⟩
 ·cases w : hh.get? (ρ' 1) with
  | none => rfl
  | some o' => have := hm.keeps _ _ w; rw [hB1] at this; cases this
 ·match k, h2 with
  | 0, h2 => cases h2; obtain ⟨U, a, b⟩ := hm4 0 y _ h1 rfl; have b' : Rep F' (.int 1) U := b; exact ⟨U, a, b'.ofFlat rfl⟩
  | 1, h2 => cases h2; obtain ⟨U, a, b⟩ := hm4 1 y _ h1 rfl; have b' : Rep F' p U := b; exact ⟨U, a, hp _ _ _ b'⟩
  | 2, h2 => cases h2; obtain ⟨U, a, b⟩ := hm4 2 y _ h1 rfl; have b' : Rep F' (.str [10, 9, 13, 32]) U := b; exact ⟨U, a, b'.ofFlat rfl⟩
  | 3, h2 => cases h2; obtain ⟨U, a, b⟩ := hm4 3 y _ h1 rfl; have b' : U = .ref (ρ' 1) := b; subst b'; exact ⟨_, a, .ref _⟩
  | 4, h2 => cases h2
 ·refine nG fun ng => ?_
  obtain ⟨vs, a, b, c⟩ := J.ob 1 _ rfl
  cases c
  refine ng ?_
  clear ng
  exact ⟨[], a, b, .nil⟩
end
section
variable {C : Cx} {X : zj}
theorem fn_envC {A : Around} {scope : Scope} {is : List Nat} {clo : List (Str × Nat)} {ps : List Str} {pls : List Pl} {F P : PH} {ρ : Nat -> Addr} {σ0 σ1 : List zA} {s : Shared} {as : List PV} {Vs : List Value} {nv : Nat} {qual : Str} {func : Option Addr} {code : Value}
  (En : EntOK X scope is clo ps pls) (I : zb C X.N F P ρ σ0 s.heap) (hpin : ∀ i a, (i, a) ∈ X.pins -> ρ i = a) (hl : ∀ i ∈ X.fi :: is, i < σ0.length) (r : RepL F as Vs) (hf : bindS X.fi pls as (compIn X.fi nv is σ0) = some σ1) :
  wpAny C.M A (newFunctionEnv scope mainGlobals (clA ρ clo) (ps.zip Vs) qual func code none builtinsNs) (fun env s' => env.code = code /\ EnvR C X F P ρ s σ1 is env s') (fun _ _ => False) s := by
 have ecomp : compIn X.fi nv is σ0 = layS scope.names is (newOwn X.fi (.frame (List.replicate nv none)) σ0) := (layS_eq _ _ _ En.cnt).symm
 rw [ecomp] at hf
 simp only [newFunctionEnv, Option.isSome_none, Bool.false_eq_true, if_false]
 refine wpAny_bind (wpAny_alloc ?_)
 refine wpAny_bind (wpAny_layCells _ (fun name kind cells => by cases kind == NameKind.cell <;> simp) _ _ _ _ ?_)
 rw [show ({ s with heap := s.heap.push { cls := .type "frame", data := .dict #[] } } : Shared).heap.objs.size = s.heap.objs.size + 1 from Heap.size_push ..]
 dsimp only
 generalize hLd : s.heap.objs.size = L at *
 generalize hH2 : s.heap.push ({ cls := .type "frame", data := .dict #[] } : Obj) = H2 at *
 have hH2s : H2.objs.size = L + 1 := by rw [<- hH2, Heap.size_push, hLd]
 have k2 : Keeps s.heap H2 := fun b o e => by rw [<- hH2]; exact Heap.get?_push_of_some _ e
 have hns : H2.Ns L (fun _ => none) := by
  have := Heap.Ns.new s.heap (.type "frame")
  rw [hH2, hLd] at this
  exact this
 have frL := I.fresh (a := L) (fun o e => by have := Heap.lt_size e; rw [hLd] at this; exact Nat.lt_irrefl _ this)
 have I1 : zb C X.N F P ρ σ0 H2 := I.kept k2
 have I2 : zb C X.N F P (upd ρ X.fi L) (newOwn X.fi (.frame (List.replicate nv none)) σ0) H2 := I1.newOwn (hl _ List.mem_cons_self) frL.1 frL.2.1 frL.2.2 ⟨_, hns, frame_new En.nd _ _⟩
 have hnd := List.nodup_cons.mp En.isnd
 have eclo : clA (upd ρ X.fi L) clo = clA ρ clo := by
  unfold clA
  refine List.map_congr_left fun y hy => ?_
  have : upd ρ X.fi L y.2 = ρ y.2 := if_neg fun (q : y.2 = X.fi) => En.cloi y hy (q ▸ List.mem_cons_self)
  rw [this]
 refine nG fun ng => ?_
 obtain ⟨ρ', I3, ec, hr, hlv, hsz⟩ := lay_ok scope.names is clo (upd ρ X.fi L) _ H2 I2 En.cnt hnd.2 (fun i hi => by rw [newOwn_length]; exact hl i (List.mem_cons_of_mem _ hi)) (fun y hy q => En.cloi y hy (List.mem_cons_of_mem _ q))
 rw [hH2s, eclo, <- En.cells] at ec
 refine ng ?_
 clear ng
 rw [ec]
 have uL : ρ' X.fi = L := (hr _ hnd.1).trans (if_pos rfl)
 have uo : ∀ i, i ∉ X.fi :: is -> ρ' i = ρ i := fun i q => (hr i fun z => q (List.mem_cons_of_mem _ z)).trans (if_neg fun (z : i = X.fi) => q (z ▸ List.mem_cons_self))
 have E : zZ X ρ' (newEnv scope L mainGlobals (clA ρ' X.cells) qual func code none builtinsNs) := by
  refine ⟨En.scope.symm, by rw [En.scope]; exact En.kind, uL.symm, rfl, rfl, fun y i hy => lookup_map hy, En.fit, En.fio, En.cit, En.cio, fun i a m => ?_⟩
  have := En.pin i a m
  exact ⟨(uo i this.1).trans (hpin i a m), this.2⟩
 refine wpAny_bind (wpAny_mono (binds_ok (A := A) E ps Vs as pls _ σ1 { s with heap := pushCells H2 scope.names } I3 r En.pok En.len hf _ (fun _ _ _ => rfl)) (fun _ s' n => wpAny_pure ⟨rfl, ρ', E, n.inv, ?_, uo⟩) fun _ _ x => x)
 exact Pu.trans (⟨.ofh, .refl _, fun _ _ => rfl⟩ : Pu F P s F { s with heap := pushCells H2 scope.names }) n.pu
theorem chars_rep {F : PH} : ∀ (l : List Nat) (i : Nat) (vs : List Value), vs.length = l.length -> (∀ (j : Nat) (v : Value), vs[j]? = some v -> ∃ (c : Nat) (t : Tok), l[j]? = some c /\ v = Value.str ⟨#[c]⟩ t) -> RepL F (l.map chP) vs
 | [], _, [], _, _ => .nil
 | [], _, _ :: _, h, _ => by cases h
 | _ :: _, _, [], h, _ => by cases h
 | c :: l, i, v :: vs, h, hv => by
  obtain ⟨c', t, e1, e2⟩ := hv 0 v rfl
  cases e1
  subst e2
  exact .cons (.str [c] t) (chars_rep l i vs (Nat.succ.inj h) fun j w e => hv (j + 1) w (by simpa using e))
noncomputable def lexSt : Stmt := zD 14
noncomputable abbrev X_lexA (Pt : Addr) (n : Nat) : zj :=
 { n := n + 1, fi := 4, N := fun | 0 => ["lineno", "instream", "whitespace", "pushback", "read"] | 4 => ["text", "feed", "take"] | _ => [], cells := [("signs", 3)], scope := zQ lexSt, tmp := [], own := [], pins := [(5, Pt)] }
noncomputable abbrev X_lexB (Z : LX) (n : Nat) : zj := { X_lexA 0 n with pins := Z.pins }
theorem zZ.repin {ρ ρ' : Nat -> Addr} {env : Env} {pins' : List (Nat × Addr)} (E : zZ X ρ env) (h : ∀ i, i = X.fi \/ (∃ x, X.cells.lookup x = some i) -> ρ' i = ρ i) (hp : ∀ i a, (i, a) ∈ pins' -> ρ' i = a /\ i ∉ X.tmp /\ i ∉ X.own) : zZ { X with pins := pins' } ρ' env :=
 ⟨E.scope, E.kind, E.loc.trans (by rw [h _ (.inl rfl)]), E.glob, E.blt, fun x i hx => (E.cells x i hx).trans (by rw [h i (.inr ⟨x, hx⟩)]), E.fit, E.fio, E.cit, E.cio, hp⟩
structure LexFn (C : Cx) (K N : Addr) (mN : Str -> Option Value) (fI Pt fp : Addr) : Prop where
 kls : KlsC C K N mN fI
 glob : C.mg "_netrclex" = some (.ref K)
 fn : ∃ a fd c, C.mg "_law_lexer" = some (.ref a) /\ DefAt C a fd (zN lexSt) ["text"] /\ fd.scope = zQ lexSt /\ fd.closure = [] /\ fd.code = .ref c /\ ∀ h : Heap, PH.le C.P0 h.get? -> CodeHd h c Pt
 tab : C.P0 Pt = none
 bm : ∀ h : Heap, PH.le C.P0 h.get? -> h.get? Pt ≠ none -> h.BuiltinsAt C.mg Pt
 push : mN "push_token" = some (.ref fp)
 pushF : ∃ fd, DefAt C fp fd (zN (fdIn (zD 12) 3)) ["self", "token"] /\ fd.scope = zQ (fdIn (zD 12) 3) /\ fd.closure = []
 pushO : ∃ o fd, C.P0 fp = some o /\ o.cls = .type "function" /\ o.data = .func fd
 no : mN "read" = none
 kP : ∃ o, C.P0 K = some o
theorem ss_step {A : Around} {env : Env} {st : Stmt} {rest : List Stmt} {s : Shared} {Q : Flow -> Shared -> Prop} (h : wpAny C.M A (exec st env) (fun fl s' => fl = .next /\ wpAny C.M A (execs rest env) Q (fun _ _ => False) s') (fun _ _ => False) s) : wpAny C.M A (execs (st :: rest) env) Q (fun _ _ => False) s :=
 wpAny_execs_cons (wpAny_mono h (fun fl s' zq => by obtain ⟨e, h'⟩ := zq; subst e; exact h') fun _ _ x => x)
theorem zZ.upd {ρ : Nat -> Addr} {env : Env} {k : Nat} {S : Addr} (E : zZ X ρ env) (hkf : k ≠ X.fi) (hkc : ∀ x i, X.cells.lookup x = some i -> k ≠ i) (hkp : ∀ i a, (i, a) ∈ X.pins -> k ≠ i) : zZ X (upd ρ k S) env := by
 have h : ∀ i, k ≠ i -> BZ.upd ρ k S i = ρ i := fun i q => if_neg fun z => q z.symm
 exact ⟨E.scope, E.kind, E.loc.trans (h _ hkf).symm, E.glob, E.blt, fun x i hx => (E.cells x i hx).trans (by rw [h i (hkc x i hx)]), E.fit, E.fio, E.cit, E.cio, fun i a m => ⟨(h i (hkp i a m)).trans (E.pin i a m).1, (E.pin i a m).2⟩⟩
theorem lx_signs {A : Around} {env : Env} {x y : Str} {px np ny pos pos' : Pos} {k : Nat} {p : Pl} {F P : PH} {ρ : Nat -> Addr} {σ : List zA} {σ' : Addr -> List zA} {s : Shared} {j : Nat} {text : List Nat} {Q : Flow -> Shared -> Prop}
  (hA : AL X.n A) (E : zZ X ρ env) (I : zb C X.N F P ρ σ s.heap) (hg : C.mg "list" = none) (hk : X.scope.names.lookup ("list" : Str) = some .globalImplicit) (hy : plChk X y (.loc j) = true) (hd : (y == ("__debug__" : Str)) = false) (hp : PlOK X x p) (ht : text.length <= 100000)
  (e1 : zC X.fi j σ = some (.imm (.str text), σ)) (hl : k < σ.length) (hkf : k ≠ X.fi) (hkc : ∀ x i, X.cells.lookup x = some i -> k ≠ i) (hkp : ∀ i a, (i, a) ∈ X.pins -> k ≠ i)
  (hs : ∀ S, p.set X.fi (.imm (.ref S)) (newOwn k (.lst (text.map chP)) σ) = some (σ' S))
  (hq : ∀ S s', s.heap.get? S = none -> zb C X.N F P (upd ρ k S) (σ' S) s'.heap -> Pu F P s F s' -> zZ X (upd ρ k S) env -> Q .next s') :
  wpAny C.M A (exec (.Assign [.Name x px] (.Call (.Name "list" np) [.Name y ny] [] pos) pos') env) Q (fun _ _ => False) s := by
 have hy' := zg hy
 refine wpAny_Assign_Name ?_ (swaps_no rfl)
 refine wpAny_Call_ofName (wpAny_Name (load_blt hk hg PyProof.Rows.Boot.«list» (by decide +kernel) E I ?_) (by decide +kernel))
 refine callWith_excType (backTo_any pos env _ rfl) (evargs rfl (wpAny_items_cons (wpAny_Name (load_loc hy'.1 hy'.2 E I e1 fun V _ rV => wpAny_items_nil ?_) hd) (zR rfl)))
 have rV' : Rep F (.str text) V := rV
 cases rV' with
 | str _ t =>
 refine call_list_str hA.handled ⟨text.toArray⟩ t (fun h' tk acc' c' hkeep hS hit => ?_) (by rw [sizeLine_eq, List.size_toArray]; omega)
 refine nG fun ng => ?_
 obtain ⟨q1, q2, q3⟩ := I.fresh (a := s.heap.objs.size) size_fresh
 have hsz : acc'.toList.length = text.length := by
  have := hit.1
  simpa using this
 have I1 : zb C X.N F P ρ σ h' := I.kept hkeep
 have I2 := I1.newOwn (i := k) (a := s.heap.objs.size) (o' := .lst (text.map chP)) hl q1 q2 q3 ⟨acc'.toList, ⟨c', by simpa using hS⟩, by omega, chars_rep text 0 acc'.toList hsz fun j v e => by
  have e' : acc'[j]? = some v := by simpa using e
  obtain ⟨c, u, h1, h2⟩ := hit.2 j v e'
  exact ⟨c, u, by simpa using h1, h2⟩⟩
 have E2 := E.upd (S := s.heap.objs.size) hkf hkc hkp
 refine ng ?_
 clear ng
 refine wpAny_mono (store_ok (s := { s with heap := h', toks := tk }) hp E2 I2 (v := .imm (.ref s.heap.objs.size)) (.ref _) (hs _)) (fun _ s₃ n₃ => ?_) fun _ _ x => x
 refine hq s.heap.objs.size s₃ ?_ n₃.inv (Pu.trans (⟨.of, .refl _, fun _ _ => rfl⟩ : Pu F P s F { s with heap := h', toks := tk }) n₃.pu) E2
 cases q : s.heap.get? s.heap.objs.size with
 | none => rfl
 | some o => exact absurd q (size_fresh o)
theorem zb.own2 {N : Nat -> List Str} {F P : PH} {ρ : Nat -> Addr} {σ : List zA} {h : Heap} {i : Nat} {a : Addr} {o' : zA} {τ : Nat -> Addr} {names : List Str} (I : zb C N F P ρ σ h) (il : i < σ.length) (hF : F a = none) (hP : P a = none) (hne : Off σ ρ a)
  (ok : ObjOK noF τ names o' a h) (hn : noObj o' = true) (hN : N i = names) (hc : σ.all noObj = true) : zb C N F P (BZ.upd ρ i a) (σ.set i o') h := by
 have e : BZ.newOwn i o' σ = σ.set i o' := by
  unfold BZ.newOwn
  have : σ.map (clr i) = σ := by
   have : σ.map (clr i) = σ.map id := List.map_congr_left fun v hm => noObj_clr (List.all_eq_true.mp hc v hm)
   rw [this, List.map_id]
  rw [this]
 rw [<- e]
 refine I.newOwn il hF hP hne ?_
 have ok' : ObjOK F τ names o' a h := ok.mono (fun _ _ e => by cases e) fun _ e => e
 rw [hN]
 exact ok'.rho hn
end
section
variable {C : Cx} {X : zj}
noncomputable def newQ (s s' : Shared) (Z : LX) : PH := fun a => if a = Z.D \/ a = Z.B \/ a = Z.S \/ a = Z.E then none else if s.heap.get? a = none then s'.heap.get? a else none
theorem newQ_of {s s' : Shared} {Z : LX} {a : Addr} {o : Obj} (h1 : a ≠ Z.D) (h2 : a ≠ Z.B) (h3 : a ≠ Z.S) (h4 : a ≠ Z.E) (h5 : s.heap.get? a = none) (h6 : s'.heap.get? a = some o) : newQ s s' Z a = some o := by
 unfold newQ
 rw [if_neg (by rintro (h | h | h | h) <;> contradiction), if_pos h5]; exact h6
inductive FeedM (K : Addr) (s s' : Shared) (Z : LX) (feed take : Addr) : Prop where
 | mk (o : Obj) (D1 : Addr) (oD : Obj) (m : Str -> Option Value) (h1 : newQ s s' Z feed = some o) (h2 : o.cls = .ref K) (h3 : (∀ c, o.data ≠ .cls c)) (h4 : o.dict = some D1) (h5 : D1 ≠ feed) (h6 : newQ s s' Z D1 = some oD) (h7 : s'.heap.Ns1 D1 m) (h8 : m ("read" : Str) = some (.ref take)) : FeedM K s s' Z feed take
inductive TakeM (s s' : Shared) (Z : LX) (take : Addr) : Prop where
 | mk (o : Obj) (name qual params doc pm c ctv oc vs t) (h1 : newQ s s' Z take = some o) (h2 : o.data = .func (fnX name qual params (zN takeSt) (zQ takeSt) [(("signs" : Str), Z.E)] .none .none doc pm none (.ref c) ctv)) (h3 : some params = fdArgs takeSt) (h4 : newQ s s' Z c = some oc) (h5 : oc.data = .fields vs) (h6 : vs[1]? = some (.str qual t)) : TakeM s s' Z take
structure LexMade (C : Cx) (K N : Addr) (mN : Str -> Option Value) (Pt : Addr) (text : List Nat) (s s' : Shared) (Z : LX) (feed take : Addr) : Prop where
 tab : ∃ qs, s'.heap.get? Pt = some (tabObj qs)
 zk : Z.K = K
 zn : Z.N = N
 zm : Z.mN = mN
 keeps : ∀ b o, b ≠ Pt -> s.heap.get? b = some o -> s'.heap.get? b = some o
 gx : GX s s'
 fD : s.heap.get? Z.D = none
 fB : s.heap.get? Z.B = none
 fS : s.heap.get? Z.S = none
 fE : s.heap.get? Z.E = none
 nd : [Z.D, Z.B, Z.S, Z.E].Nodup
 obj : InstO (newQ s s' Z) Z.L K Z.D
 lk : Z.L ≠ K
 dict : ObjOK noF (fun _ => 0) (NL 0) (.attrs (newAttrs (.ref feed) Z.B)) Z.D s'.heap
 back : ObjOK noF (fun _ => 0) [] (.lst []) Z.B s'.heap
 signs : ObjOK noF (fun _ => 0) [] (.lst (text.map chP)) Z.S s'.heap
 cell : ObjOK noF (fun _ => 0) [] (.cell (some (.imm (.ref Z.S)))) Z.E s'.heap
 feed : FeedM K s s' Z feed take
 take : TakeM s s' Z take
theorem rep_chars {F G : PH} : ∀ {l : List Nat} {vs : List Value}, RepL F (l.map chP) vs -> RepL G (l.map chP) vs
 | [], _, .nil => .nil
 | _ :: _, _, .cons a r => .cons (a.ofFlat rfl) (rep_chars r)
inductive LexR (C : Cx) (K N : Addr) (mN : Str -> Option Value) (Pt : Addr) (text : List Nat) (s : Shared) (R : Value) (s' : Shared) : Prop where
 | mk (Z : LX) (feed take : Addr) (e : R = .ref Z.L) (h : LexMade C K N mN Pt text s s' Z feed take) : LexR C K N mN Pt text s R s'
theorem lexer_make {K N fI Pt fp : Addr} {mN : Str -> Option Value} (Lf : LexFn C K N mN fI Pt fp) (G : GlB C) {n : Nat} {A : Around} {F : PH} {s : Shared} {text : List Nat} {V : Value} (hA : AL n A) (hn : n <= 20) (hF : PH.le F s.heap.get?) (hFt : F Pt = none) (hP : PH.le C.P0 s.heap.get?) (hPt : s.heap.get? Pt = some (tabObj #[])) (ht : text.length <= 4000) (r : Rep F (.str text) V)
  {a : Addr} (hga : C.mg "_law_lexer" = some (.ref a)) : wpAny C.M A (call (.ref a) [V]) (LexR C K N mN Pt text s) (fun _ _ => False) s := by
 refine nG fun ng => ?_
 obtain ⟨a', fd, c, hg, FA, hsc, hcl, hcode, hCH⟩ := Lf.fn
 rw [hga] at hg
 cases hg
 obtain ⟨o, ho, hd⟩ := FA.o
 refine ng ?_
 clear ng
 generalize hPP : (fun b => if b = Pt then none else s.heap.get? b : PH) = PP
 have ppt : PP Pt = none := by rw [<- hPP]; exact if_pos rfl
 have ppo : ∀ b, b ≠ Pt -> PP b = s.heap.get? b := fun b q => by rw [<- hPP]; exact if_neg q
 have I0 : zb C (X_lexA Pt n).N F PP (fun _ => Pt) [.dead, .dead, .dead, .dead, .dead, .tab (some #[])] s.heap := by
  have key : ∀ (i : Nat) (o : zA), ([.dead, .dead, .dead, .dead, .dead, .tab (some #[])] : List zA)[i]? = some o -> o.live = true -> i = 5 /\ o = .tab (some #[]) := fun i o e l => by
   match i, e with
   | 0, e => cases e; cases l
   | 1, e => cases e; cases l
   | 2, e => cases e; cases l
   | 3, e => cases e; cases l
   | 4, e => cases e; cases l
   | 5, e => cases e; exact ⟨rfl, rfl⟩
  refine ⟨hF, fun b o e => ?_, fun b o e => ?_, fun i o e => ?_, fun i o e l => ⟨hFt, ppt⟩, fun i j o1 o2 e1 e2 l1 l2 _ => ?_⟩
  ·by_cases q : b = Pt
   ·rw [q, ppt] at e; cases e
   ·rw [ppo b q] at e; exact e
  ·have q : b ≠ Pt := fun q => by rw [q, Lf.tab] at e; cases e
   rw [ppo b q]; exact hP _ _ e
  ·by_cases l : o.live = true
   ·obtain ⟨rfl, rfl⟩ := key i o e l; exact ⟨_, hPt, fun p e => Option.some.inj e⟩
   ·cases o <;> first | trivial | exact absurd rfl l | (exfalso; revert e; match i with | 0 => (intro e; cases e) | 1 => (intro e; cases e) | 2 => (intro e; cases e) | 3 => (intro e; cases e) | 4 => (intro e; cases e) | 5 => (intro e; cases e) | _ + 6 => (intro e; cases e))
  ·rw [(key i o1 e1 l1).1, (key j o2 e2 l2).1]
 have En : EntOK (X_lexA Pt n) fd.scope [3] [] ["text"] [.loc 0] := entOK_of hsc.symm (by rw [hsc]; kernel_rfl) (fun i b m => by
  rcases List.mem_cons.mp m with e | e
  ·cases e; exact ⟨by show 5 ∉ [4, 3]; decide, by show 5 ∉ ([] : List Nat); decide, by show 5 ∉ ([] : List Nat); decide⟩
  ·cases e)
 refine wpAny_call (codeAny_call_function (hA.room (by omega)) (hP _ _ ho) hd FA.co FA.gen FA.body (FA.code _ hP) ?_)
 rw [FA.bind [V] rfl, FA.glob, FA.blt, show fd.closure = clA (fun _ => Pt) [] from hcl]
 refine wpAny_pure (wpAny_mono (fn_envC (nv := 3) (as := [.str text]) En I0 (fun i b m => by
  refine nG fun ng => ?_
  rcases List.mem_cons.mp m with e | e
  ·refine ng ?_
   clear ng
   cases e; rfl
  ·refine ng ?_
   clear ng
   cases e) (fun i hi => by
   have : i = 4 \/ i = 3 := by simpa using hi
   rcases this with rfl | rfl <;> simp) (.cons r .nil) rfl) (fun env s₁ ⟨hec, ρ1, E1, I₁, pu1, hρ1⟩ => ⟨I₁.lim, codeAny_func ?_⟩) fun _ _ x => x.elim)
 have hA' : AL (n + 1) (A.deeper env) := hA.deeper
 refine wpAny_mono (E := fun _ _ => False) (Q := fun fl s' => ∃ Z feed take, fl = .ret (.ref Z.L) /\ LexMade C K N mN Pt text s s' Z feed take) ?_ (fun fl s' zq => by obtain ⟨Z, feed, take, e, h⟩ := zq; subst e; exact ⟨Z, feed, take, rfl, h⟩) (fun _ _ x => x.elim)
 refine wpR fun Q hQ => ?_
 have r5 : ρ1 5 = Pt := hρ1 5 (by show 5 ∉ [4, 3]; decide)
 change wpAny _ _ (execs (List.cons _ _) env) _ _ _
 refine ss_step ?_
 refine lx_signs (X := X_lexA Pt n) (k := 2) (j := 0) (p := .cell 3) (text := text) (σ' := fun S => [.dead, .dead, .lst (text.map chP), .cell (some (.imm (.ref S))), .frame [some (.imm (.str text)), none, none], .tab (some #[])])
  hA' E1 I₁ (G.no _ (by kernel_rfl)) (by kernel_rfl) (by kernel_rfl) (by kernel_rfl) (zg (by kernel_rfl)) (by omega) rfl (by show 2 < 6; decide) (by show 2 ≠ 4; decide) (fun x i h => ?_) (fun i b m => ?_) (fun S => rfl) fun S s₂ hS I₂ pu2 E₂ => ⟨rfl, ?_⟩
 ·have := mem_of_lookup h
  refine nG fun ng => ?_
  rcases List.mem_cons.mp this with e | e
  ·refine ng ?_
   clear ng
   cases e; decide
  ·cases e
 ·refine nG fun ng => ?_
  rcases List.mem_cons.mp m with e | e
  ·refine ng ?_
   clear ng
   cases e; decide
  ·cases e
 have ρ5 : BZ.upd ρ1 2 S 5 = Pt := r5
 generalize hρ2 : BZ.upd ρ1 2 S = ρ₂ at *
 revert ρ₂
 refine keep ?_
 set_option tactic.hygienic false in intros
 have rS : ρ₂ 2 = S := by rw [<- hρ2]; exact if_pos rfl
 refine ss_step ?_
 refine wpAny_Assign_Name ?_ (swaps_no rfl)
 refine wpAny_Call_ofName (wpAny_Name (load_glob (V := .ref K) (by kernel_rfl) Lf.glob E₂ I₂ ?_) (by decide +kernel))
 refine callWith_cls (h₀ := s₂.heap) (Lf.kls.cls _ (I₂.top.trans I₂.p)) (wpAny_items_cons (wpAny_Constant_none (wpAny_items_nil ⟨fun b o e => e, ?_⟩)) (zR rfl)) (zR rfl) rfl
 refine wpAny_mono (inst_new Lf.kls hA' (by omega) I₂.f (I₂.top.trans I₂.p) (p := .none) .none (fun F G V r => r.ofFlat rfl)) (fun R s₃ zq => ?_) fun _ _ x => x
 refine nG fun ng => ?_
 obtain ⟨L1, D1, B1, eR, NI⟩ := zq
 subst eR
 have live2 : ∀ (b : Addr), s₂.heap.get? b = none -> F b = none /\ PP b = none /\ ∀ j x, ([.dead, .dead, .lst (text.map chP), .cell (some (.imm (.ref S))), .frame [some (.imm (.str text)), none, none], .tab (some #[])] : List zA)[j]? = some x -> x.live = true -> ρ₂ j ≠ b :=
  fun b hb => I₂.fresh (fun o e => by rw [hb] at e; cases e)
 obtain ⟨dF, dP, dN⟩ := live2 D1 NI.nD
 obtain ⟨bF, bP, bN⟩ := live2 B1 NI.nB
 obtain ⟨lF, lP, lN⟩ := live2 L1 NI.nL
 have I₃ := I₂.kept NI.keeps
 have I₄ := I₃.own2 (i := 0) (a := D1) (o' := .attrs (newAttrs .none B1)) (names := NL 0) (by simp) dF dP dN NI.dict rfl rfl rfl
 have I5 := I₄.own2 (i := 1) (a := B1) (o' := .lst []) (names := []) (by simp) bF bP (fun j x e l q => by
  by_cases hj : j = 0
  ·subst hj
   have : D1 = B1 := q
   exact NI.bd this.symm
  ·rw [List.getElem?_set_ne (Ne.symm hj)] at e
   refine bN j x e l ?_
   rw [<- q]; exact (if_neg hj).symm) NI.back rfl rfl rfl
 have E5 := (E₂.upd (k := 0) (S := D1) (by show 0 ≠ 4; decide) (fun x i h => by
  have := mem_of_lookup h
  rcases List.mem_cons.mp this with e | e
  ·cases e; decide
  ·cases e) (fun i b m => by
  rcases List.mem_cons.mp m with e | e
  ·cases e; decide
  ·cases e)).upd (k := 1) (S := B1) (by show 1 ≠ 4; decide) (fun x i h => by
  have := mem_of_lookup h
  rcases List.mem_cons.mp this with e | e
  ·cases e; decide
  ·cases e) (fun i b m => by
  rcases List.mem_cons.mp m with e | e
  ·cases e; decide
  ·cases e)
 have ρ50 : BZ.upd (BZ.upd ρ₂ 0 D1) 1 B1 0 = D1 := rfl
 have ρ51 : BZ.upd (BZ.upd ρ₂ 0 D1) 1 B1 1 = B1 := rfl
 have ρ52 : BZ.upd (BZ.upd ρ₂ 0 D1) 1 B1 2 = S := rS
 have ρ55 : BZ.upd (BZ.upd ρ₂ 0 D1) 1 B1 5 = Pt := ρ5
 refine ng ?_
 clear ng
 generalize hρ5 : BZ.upd (BZ.upd ρ₂ 0 D1) 1 B1 = ρ₅ at *
 revert ρ₅
 refine keep ?_
 set_option tactic.hygienic false in intros
 dsimp only [List.set] at I5
 refine nG fun ng => ?_
 obtain ⟨oL1, g1, g2, g3, g4⟩ := NI.obj
 have live5 : ∀ j x, ([.attrs (newAttrs .none B1), .lst [], .lst (text.map chP), .cell (some (.imm (.ref S))), .frame [some (.imm (.str text)), none, none], .tab (some #[])] : List zA)[j]? = some x -> x.live = true -> ρ₅ j ≠ L1 := fun j x e l q => by
  by_cases h0 : j = 0
  ·rw [h0, ρ50] at q; exact NI.dl q
  ·by_cases h1 : j = 1
   ·rw [h1, ρ51] at q; exact NI.bl q
   ·have e' : ([.dead, .dead, .lst (text.map chP), .cell (some (.imm (.ref S))), .frame [some (.imm (.str text)), none, none], .tab (some #[])] : List zA)[j]? = some x := by
     match j, h0, h1, e with
     | 0, h, _, _ => exact absurd rfl h
     | 1, _, h, _ => exact absurd rfl h
     | j + 2, _, _, e => exact e
    refine lN j x e' l ?_
    rw [<- q, <- hρ5]
    show ρ₂ j = (if j = 1 then B1 else (if j = 0 then D1 else ρ₂ j))
    rw [if_neg h1, if_neg h0]
 have hc0 : C.P0 L1 = none := by
  cases q : C.P0 L1 with
  | none => rfl
  | some o' => have := I₂.top _ _ q; rw [lP] at this; cases this
 have le1 : PH.le C.P0 (C.P0.add L1 oL1) := PH.le_add hc0
 have top1 : PH.le (C.P0.add L1 oL1) (PH.add PP L1 oL1) := fun b o e => by
  by_cases q : b = L1
  ·have q := q.symm; subst q; rw [PH.add_self] at e ⊢; exact e
  ·rw [PH.add_off _ _ q] at e ⊢; exact I₂.top _ _ e
 have I7 := (I5.addP lP g1 live5).cx le1 top1
 obtain ⟨Z1, hZ1⟩ : ∃ Z1 : LX, Z1 = ⟨L1, D1, B1, S, ρ₅ 3, K, N, mN⟩ := ⟨_, rfl⟩
 have hpins : ∀ i b, (i, b) ∈ Z1.pins -> ρ₅ i = b /\ i ∉ ([] : List Nat) /\ i ∉ ([] : List Nat) := fun i b m => by
  subst hZ1
  simp only [LX.pins, List.mem_cons, Prod.mk.injEq, List.not_mem_nil, or_false] at m
  rcases m with ⟨rfl, rfl⟩ | ⟨rfl, rfl⟩ | ⟨rfl, rfl⟩ | ⟨rfl, rfl⟩
  ·exact ⟨ρ50, List.not_mem_nil, List.not_mem_nil⟩
  ·exact ⟨ρ51, List.not_mem_nil, List.not_mem_nil⟩
  ·exact ⟨ρ52, List.not_mem_nil, List.not_mem_nil⟩
  ·exact ⟨rfl, List.not_mem_nil, List.not_mem_nil⟩
 subst hZ1
 have EB : zZ (X_lexB ⟨L1, D1, B1, S, ρ₅ 3, K, N, mN⟩ n) ρ₅ env := E5.repin (fun i h => rfl) hpins
 have hLK : L1 ≠ K := fun q => by
  obtain ⟨oK, hK⟩ := Lf.kP
  have := (I₂.top.trans I₂.p) _ _ hK
  rw [<- q, NI.nL] at this; cases this
 have Lx1 : LexC (C.ext _ le1) L1 D1 K N mN := ⟨fun h hh => Lf.kls.cls h (le1.trans hh), Lf.kls.ga, Lf.kls.gt, Lf.kls.sa, ⟨oL1, PH.add_self .., g2, g3, g4⟩, NI.dl, hLK⟩
 have gx3 : GX s s₃ := (pu1.gx.trans pu2.gx).trans NI.gx
 refine ng ?_
 clear ng
 refine wpAny_mono (store_ok (C := C.ext _ le1) (X := X_lexB ⟨L1, D1, B1, S, ρ₅ 3, K, N, mN⟩ n) (p := .loc 1) (zg (by kernel_rfl)) EB I7 (v := .imm (.ref L1)) (.ref _) rfl) (fun _ s₄ n₄ => ⟨rfl, ?_⟩) fun _ _ x => x
 have I8 := n₄.inv
 dsimp only [List.set] at I8
 have hP8 : PH.le C.P0 s₄.heap.get? := le1.trans (I8.top.trans I8.p)
 have hPt8 : s₄.heap.get? Pt = some (tabObj #[]) := by
  obtain ⟨qs, w1, w2⟩ := I8.ob 5 _ rfl
  rw [ρ55, w2 _ rfl] at w1; exact w1
 have hmP : mainGlobals ≠ Pt := fun q => by
  obtain ⟨oG, es, ep, e, hdG, _⟩ := I8.ns
  rw [q, hPt8] at e; cases e; cases hdG
 refine ss_step (nestDef_K rfl rfl rfl ?_)
 refine makeFunction_K (mg := C.mg) (ps := #[]) (closure_ok EB (cl := [("signs", 3)]) (by kernel_rfl)) EB.glob I8.ns (hec.trans hcode) (hCH _ hP8) hPt8 (by kn_triples) rfl hmP (Lf.bm _ hP8 (by rw [hPt8]; exact nofun)) fun c' ctv doc h' tk hx hge hlt hrec htb => ?_
 refine nG fun ng => ?_
 obtain ⟨c₂, oc, vs, t, ec2, hoc, hdv, hv⟩ := hrec
 cases ec2
 have I9 := I8.mutK (i := 5) (o := .tab (some #[])) (o' := .tab _) rfl rfl (fun b x hb e => hx b x (fun q => hb (q.trans ρ55.symm)) e) (by rw [ρ55]; exact ⟨_, htb, fun p e => Option.some.inj e⟩)
 obtain ⟨tF, tP, tN⟩ := I9.fresh (a := h'.objs.size) size_fresh
 obtain ⟨cF, cP, cN⟩ := I8.fresh (a := c') (fun o e => by rw [Heap.get?_none_of_le hge] at e; cases e)
 refine ng ?_
 clear ng
 generalize hof : fnMade _ _ _ _ _ _ _ _ _ _ = ofn
 revert ofn
 refine keep ?_
 set_option tactic.hygienic false in intros
 have hfree : ofn.isFreed = false := by rw [<- hof]; rfl
 have I10 := I9.kept (h' := h'.push ofn) fun b o e => Heap.get?_push_of_some _ e
 have hct : c' ≠ h'.objs.size := Nat.ne_of_lt hlt
 have cN9 : ∀ (T : Option (Array Value)) (j : Nat) (x : zA), ([zA.attrs (newAttrs .none B1), .lst [], .lst (text.map chP), .cell (some (.imm (.ref S))), .frame [some (.imm (.str text)), some (.imm (.ref L1)), none], .tab T] : List zA)[j]? = some x -> x.live = true -> ρ₅ j ≠ c' := fun T j x e l => by
  match j, e with
  | 0, e => exact cN 0 _ e l
  | 1, e => exact cN 1 _ e l
  | 2, e => exact cN 2 _ e l
  | 3, e => exact cN 3 _ e l
  | 4, e => exact cN 4 _ e l
  | 5, e => exact cN 5 (.tab (some #[])) rfl rfl
  | k + 6, e => cases e
 have I11 := I10.addP tP (Heap.get?_push_size _ hfree) tN
 have I12 := I11.addP (a := c') (o := oc) (by rw [PH.add_off _ _ hct]; exact cP) (Heap.get?_push_of_some _ hoc) (cN9 _)
 refine wpAny_mono (store_ok (C := C.ext _ le1) (s := { s₄ with heap := h'.push ofn, toks := tk }) (X := X_lexB ⟨L1, D1, B1, S, ρ₅ 3, K, N, mN⟩ n) (p := .loc 2) (zg (by kernel_rfl)) EB I12 (v := .imm (.ref h'.objs.size)) (.ref _) rfl) (fun _ s₅ n₅ => ⟨rfl, ?_⟩) fun _ _ x => x
 have I13 := n₅.inv
 dsimp only [List.set] at I13
 have hps : (0, D1) ∈ (X_lexB ⟨L1, D1, B1, S, ρ₅ 3, K, N, mN⟩ n).pins := List.mem_cons_self
 have hse : cSetA L1 0 4 (zX (zE (zC 4 2))) (zC 4 1) [.attrs (newAttrs .none B1), .lst [], .lst (text.map chP), .cell (some (.imm (.ref S))), .frame [some (.imm (.str text)), some (.imm (.ref L1)), some (.imm (.ref h'.objs.size))], .tab (some (#[] ++ #[rawInt (82 : Nat), rawInt (4 : Nat), .ref c']))] =
   some (.next, [.attrs [some (.imm (.int 1)), some (.imm .none), some (.imm (.str [10, 9, 13, 32])), some (.imm (.ref B1)), some (.imm (.ref h'.objs.size))], .lst [], .lst (text.map chP), .cell (some (.imm (.ref S))), .frame [some (.imm (.str text)), some (.imm (.ref L1)), some (.imm (.ref h'.objs.size))], .tab (some (#[] ++ #[rawInt (82 : Nat), rawInt (4 : Nat), .ref c']))]) := by
  show (if L1 = L1 then _ else none) = _
  rw [if_pos rfl]; rfl
 refine ss_step (wpAny_mono ((st_setA (C := C.ext _ le1) (X := X_lexB ⟨L1, D1, B1, S, ρ₅ 3, K, N, mN⟩ n) (j := 4) Lx1 hps (by kernel_rfl) Lf.no tl_read (by show 5 <= 100; decide) (yC (evp (z8 (X := X_lexB ⟨L1, D1, B1, S, ρ₅ 3, K, N, mN⟩ n) (by kernel_rfl) (by kernel_rfl)))) (z8 (X := X_lexB ⟨L1, D1, B1, S, ρ₅ 3, K, N, mN⟩ n) (by kernel_rfl) (by kernel_rfl)) cImm_imm)
  (A.deeper env) env F _ ρ₅ _ s₅ .next _ hA' EB I13 hse) (fun fl s₆ ⟨F6, ρ6, n₆, r6⟩ => ⟨r6, ?_⟩) fun _ _ x => x)
 have E6 := n₆.env EB
 have I14 := n₆.inv
 have hX1 : LexX (X_lexB ⟨L1, D1, B1, S, ρ₅ 3, K, N, mN⟩ n) ⟨L1, D1, B1, S, ρ₅ 3, K, N, mN⟩ := lexX_of (nl4 rfl rfl rfl rfl) rfl
 have K1 : LexK (C.ext _ le1) ⟨L1, D1, B1, S, ρ₅ 3, K, N, mN⟩ := ⟨Lx1, Lf.kls.at'⟩
 refine nG fun ng => ?_
 obtain ⟨fdp, FAp, hsp, hcp⟩ := Lf.pushF
 have O1 := sp_push (C := C.ext _ le1) (Z := ⟨L1, D1, B1, S, ρ₅ 3, K, N, mN⟩) (n := n + 1) (by omega) K1 (FAp.ext le1) hsp hcp
 have M1 : MethC (C.ext _ le1) ⟨L1, D1, B1, S, ρ₅ 3, K, N, mN⟩ "push_token" fp := ⟨Lx1, Lf.push, let ⟨o, fd, a, b⟩ := Lf.pushO; ⟨o, fd, le1 _ _ a, b⟩, ⟨none, by rw [typeLookup_type, builtinLookup_eq_fast]; kernel_rfl⟩, by decide +kernel⟩
 have hpe : cDrop (cLexM L1 (h_push ⟨L1, D1, B1, S, ρ₅ 3, K, N, mN⟩) (zC 4 1) (zB (cQ (.str [35])) zG)) [.attrs [some (.imm (.int 1)), some (.imm .none), some (.imm (.str [10, 9, 13, 32])), some (.imm (.ref B1)), some (.imm (.ref h'.objs.size))], .lst [], .lst (text.map chP), .cell (some (.imm (.ref S))), .frame [some (.imm (.str text)), some (.imm (.ref L1)), some (.imm (.ref h'.objs.size))], .tab (some (#[] ++ #[rawInt (82 : Nat), rawInt (4 : Nat), .ref c']))] =
   some (.next, [.attrs [some (.imm (.int 1)), some (.imm .none), some (.imm (.str [10, 9, 13, 32])), some (.imm (.ref B1)), some (.imm (.ref h'.objs.size))], .lst [.str [35]], .lst (text.map chP), .cell (some (.imm (.ref S))), .frame [some (.imm (.str text)), some (.imm (.ref L1)), some (.imm (.ref h'.objs.size))], .tab (some (#[] ++ #[rawInt (82 : Nat), rawInt (4 : Nat), .ref c']))]) := by
  have e2 : cLexM L1 (h_push ⟨L1, D1, B1, S, ρ₅ 3, K, N, mN⟩) (zC 4 1) (zB (cQ (.str [35])) zG) [.attrs [some (.imm (.int 1)), some (.imm .none), some (.imm (.str [10, 9, 13, 32])), some (.imm (.ref B1)), some (.imm (.ref h'.objs.size))], .lst [], .lst (text.map chP), .cell (some (.imm (.ref S))), .frame [some (.imm (.str text)), some (.imm (.ref L1)), some (.imm (.ref h'.objs.size))], .tab (some (#[] ++ #[rawInt (82 : Nat), rawInt (4 : Nat), .ref c']))] =
    some (.none, [.attrs [some (.imm (.int 1)), some (.imm .none), some (.imm (.str [10, 9, 13, 32])), some (.imm (.ref B1)), some (.imm (.ref h'.objs.size))], .lst [.str [35]], .lst (text.map chP), .cell (some (.imm (.ref S))), .frame [some (.imm (.str text)), some (.imm (.ref L1)), some (.imm (.ref h'.objs.size))], .tab (some (#[] ++ #[rawInt (82 : Nat), rawInt (4 : Nat), .ref c']))]) := by
   show (if L1 = L1 /\ true = true then yA (h_push ⟨L1, D1, B1, S, ρ₅ 3, K, N, mN⟩) [.ref L1, .str [35]] _ else none) = _
   rw [if_pos ⟨rfl, rfl⟩]
   unfold yA
   have e3 : h_push ⟨L1, D1, B1, S, ρ₅ 3, K, N, mN⟩ [.ref L1, .str [35]] [.attrs [some (.imm (.int 1)), some (.imm .none), some (.imm (.str [10, 9, 13, 32])), some (.imm (.ref B1)), some (.imm (.ref h'.objs.size))], .lst [], .lst (text.map chP), .cell (some (.imm (.ref S)))] =
     some (.none, [.attrs [some (.imm (.int 1)), some (.imm .none), some (.imm (.str [10, 9, 13, 32])), some (.imm (.ref B1)), some (.imm (.ref h'.objs.size))], .lst [.str [35]], .lst (text.map chP), .cell (some (.imm (.ref S)))]) := by
    exact h_push_at (Z := ⟨L1, D1, B1, S, ρ₅ 3, K, N, mN⟩) (xs := []) (by decide) rfl
   show (match h_push ⟨L1, D1, B1, S, ρ₅ 3, K, N, mN⟩ [.ref L1, .str [35]] [.attrs [some (.imm (.int 1)), some (.imm .none), some (.imm (.str [10, 9, 13, 32])), some (.imm (.ref B1)), some (.imm (.ref h'.objs.size))], .lst [], .lst (text.map chP), .cell (some (.imm (.ref S)))] with | some (c, os') => _ | none => none) = _
   rw [e3]; rfl
  unfold cDrop
  rw [e2]; rfl
 refine ng ?_
 clear ng
 refine ss_step (wpAny_mono ((st_expr (C := C.ext _ le1) (X := X_lexB ⟨L1, D1, B1, S, ρ₅ 3, K, N, mN⟩ n) (evp_lexM M1 O1 hX1 rfl (by kernel_rfl) (by kernel_rfl) (by simp) (z8 (X := X_lexB ⟨L1, D1, B1, S, ρ₅ 3, K, N, mN⟩ n) (by kernel_rfl) (by kernel_rfl)) (evs_cons (evp_str (by kernel_rfl)) evs_nil rfl)) (by intro _; with_unfolding_all rfl))
  (A.deeper env) env _ _ ρ6 _ s₆ .next _ hA' E6 I14 hpe) (fun fl s₇ ⟨F7, ρ₇, n7, r7⟩ => ⟨r7, ?_⟩) fun _ _ x => x)
 have E7 := n7.env E6
 have I15 := n7.inv
 have ρ7 : ∀ i, ρ₇ i = ρ₅ i := fun i => (n7.rho i List.not_mem_nil List.not_mem_nil).trans (n₆.rho i List.not_mem_nil List.not_mem_nil)
 refine wpAny_execs_cons (wpAny_Return_some ?_)
 refine wpAny_Call_ofName (wpAny_Name (load_glob (C := C.ext _ le1) (V := .ref K) (by kernel_rfl) Lf.glob E7 I15 ?_) (by decide +kernel))
 have hfl : plChk (X_lexB ⟨L1, D1, B1, S, ρ₅ 3, K, N, mN⟩ n) "feed" (.loc 1) = true := by kernel_rfl
 have hfl' := zg hfl
 refine callWith_cls (h₀ := s₇.heap) (Lf.kls.cls _ (le1.trans (I15.top.trans I15.p))) (wpAny_items_cons (wpAny_Name (load_loc (C := C.ext _ le1) (j := 1) (v := .imm (.ref L1)) hfl'.1 hfl'.2 E7 I15 rfl fun V' _ rV => wpAny_items_nil ⟨fun b o e => e, ?_⟩) (by decide +kernel)) (zR rfl)) (zR rfl) rfl
 have rV' : Rep F7 (.ref L1) V' := rV
 refine nG fun ng => ?_
 cases rV'
 refine ng ?_
 clear ng
 refine wpAny_mono (inst_new (C := C.ext _ le1) (Lf.kls.ext le1) hA' (by omega) I15.f (I15.top.trans I15.p) (p := .ref L1) (.ref L1) (fun F G V r => by cases r; exact .ref _)) (fun R s₈ zq => ?_) fun _ _ x => x
 refine nG fun ng => ?_
 obtain ⟨L, D, B, eR, NJ⟩ := zq
 subst eR
 refine ng ?_
 clear ng
 refine hQ _ _ ?_
 refine ⟨⟨L, D, B, S, ρ₅ 3, K, N, mN⟩, L1, h'.objs.size, rfl, ?_⟩
 have cP' : ((PH.add PP L1 oL1).add h'.objs.size ofn) c' = none := by rw [PH.add_off _ _ hct]; exact cP
 have hPle : PH.le PP (((PH.add PP L1 oL1).add h'.objs.size ofn).add c' oc) := ((PH.le_add lP).trans (PH.le_add tP)).trans (PH.le_add cP')
 have k7 : ∀ b o, b ≠ Pt -> s.heap.get? b = some o -> s₇.heap.get? b = some o := fun b o hb e => I15.p _ _ (hPle _ _ ((ppo b hb).trans e))
 refine nG fun ng => ?_
 obtain ⟨oT, hoT⟩ : ∃ oT, s₇.heap.get? Pt = some oT := by
  obtain ⟨qs, w1, w2⟩ := I15.ob 5 _ rfl
  rw [ρ7, ρ55] at w1
  exact ⟨_, w1⟩
 have old : ∀ b, s₇.heap.get? b = none -> s.heap.get? b = none := fun b hb => by
  cases q : s.heap.get? b with
  | none => rfl
  | some o' =>
   by_cases hbt : b = Pt
   ·rw [hbt, hoT] at hb; cases hb
   ·rw [k7 b o' hbt q] at hb; cases hb
 have offP : ∀ b, PP b = none -> b ≠ Pt -> s.heap.get? b = none := fun b h1 h2 => (ppo b h2).symm.trans h1
 have ppn : ∀ b, (((PH.add PP L1 oL1).add h'.objs.size ofn).add c' oc) b = none -> PP b = none := fun b h => by
  cases q : PP b with
  | none => rfl
  | some o' => rw [hPle _ _ q] at h; cases h
 have liveOld : ∀ j x, ([.attrs [some (.imm (.int 1)), some (.imm .none), some (.imm (.str [10, 9, 13, 32])), some (.imm (.ref B1)), some (.imm (.ref h'.objs.size))], .lst [.str [35]], .lst (text.map chP), .cell (some (.imm (.ref S))), .frame [some (.imm (.str text)), some (.imm (.ref L1)), some (.imm (.ref h'.objs.size))], .tab (some (#[] ++ #[rawInt (82 : Nat), rawInt (4 : Nat), .ref c']))] : List zA)[j]? = some x -> x.live = true -> j ≠ 5 -> s.heap.get? (ρ₅ j) = none := fun j x e l hj => by
  refine offP _ (ppn _ ?_) fun q => ?_
  ·have := (I15.fr j x e l).2
   rw [ρ7] at this; exact this
  ·exact hj (I15.inj j 5 x _ e rfl l rfl (by rw [ρ7, ρ7, ρ55]; exact q))
 have alive7 : ∀ j x, ([.attrs [some (.imm (.int 1)), some (.imm .none), some (.imm (.str [10, 9, 13, 32])), some (.imm (.ref B1)), some (.imm (.ref h'.objs.size))], .lst [.str [35]], .lst (text.map chP), .cell (some (.imm (.ref S))), .frame [some (.imm (.str text)), some (.imm (.ref L1)), some (.imm (.ref h'.objs.size))], .tab (some (#[] ++ #[rawInt (82 : Nat), rawInt (4 : Nat), .ref c']))] : List zA)[j]? = some x -> x.live = true -> ∀ b, s₇.heap.get? b = none -> b ≠ ρ₅ j := fun j x e l b hb q => by
  obtain ⟨o', ho'⟩ := (I15.ob j x e).alive l
  rw [ρ7, <- q, hb] at ho'; cases ho'
 have pAt : ∀ b o, (((PH.add PP L1 oL1).add h'.objs.size ofn).add c' oc) b = some o -> s₇.heap.get? b = some o := fun b o e => I15.p _ _ e
 have hLt : L1 ≠ h'.objs.size := fun q => by rw [<- q] at tP; rw [PH.add_self] at tP; cases tP
 have hLc : L1 ≠ c' := fun q => by rw [<- q] at cP; rw [PH.add_self] at cP; cases cP
 have aL : s₇.heap.get? L1 = some oL1 := pAt _ _ (by rw [PH.add_off _ _ hLc, PH.add_off _ _ hLt, PH.add_self])
 have aT : s₇.heap.get? h'.objs.size = some ofn := pAt _ _ (by rw [PH.add_off _ _ (Ne.symm hct), PH.add_self])
 have aC : s₇.heap.get? c' = some oc := pAt _ _ (PH.add_self ..)
 have ne7 : ∀ b b' o, s₇.heap.get? b = some o -> s₇.heap.get? b' = none -> b ≠ b' := fun b b' o h1 h2 q => by rw [q, h2] at h1; cases h1
 have q2 : S = ρ₅ 2 := ρ52.symm
 have nDB := NJ.nD
 obtain ⟨oL, w1, w2, w3, w4⟩ := NJ.obj
 have i23 : ρ₅ 2 ≠ ρ₅ 3 := fun q => by have := I15.inj 2 3 _ _ rfl rfl rfl rfl (by rw [ρ7, ρ7]; exact q); cases this
 have i02 : ρ₅ 0 ≠ ρ₅ 2 := fun q => by have := I15.inj 0 2 _ _ rfl rfl rfl rfl (by rw [ρ7, ρ7]; exact q); cases this
 have i03 : ρ₅ 0 ≠ ρ₅ 3 := fun q => by have := I15.inj 0 3 _ _ rfl rfl rfl rfl (by rw [ρ7, ρ7]; exact q); cases this
 have sN : ∀ b, PP b = none -> (∀ j, j = 5 -> ρ₅ j ≠ b) -> s.heap.get? b = none := fun b h1 h2 => offP b h1 fun q => h2 5 rfl (by rw [ρ55]; exact q.symm)
 have addN : ∀ (P : PH) (b a : Addr) (o : Obj), P.add a o b = none -> P b = none := fun P b a o h => by
  by_cases q : b = a
  ·have q := q.symm; rw [q, PH.add_self] at h; cases h
  ·rw [PH.add_off _ _ q] at h; exact h
 have sL1 : s.heap.get? L1 = none := sN L1 lP fun j hj => by subst hj; exact live5 5 _ rfl rfl
 have sT : s.heap.get? h'.objs.size = none := sN _ (addN _ _ _ _ tP) fun j hj => by subst hj; exact tN 5 _ rfl rfl
 have sC : s.heap.get? c' = none := sN _ (addN _ _ _ _ cP) fun j hj => by subst hj; exact cN 5 _ rfl rfl
 have tabE : ∃ qs, s₈.heap.get? Pt = some (tabObj qs) := by
  obtain ⟨qs, w1, w2⟩ := I15.ob 5 _ rfl
  rw [ρ7, ρ55] at w1
  exact ⟨qs, NJ.keeps _ _ w1⟩
 refine ng ?_
 clear ng
 refine ⟨tabE, rfl, rfl, rfl, fun b o hb e => NJ.keeps _ _ (k7 b o hb e), ?_, old _ NJ.nD, old _ NJ.nB, ?_, liveOld 3 _ rfl rfl (by decide), ?_, ⟨oL, newQ_of (Ne.symm NJ.dl) (Ne.symm NJ.bl) ?_ (alive7 3 _ rfl rfl _ NJ.nL) (old _ NJ.nL) w1, w2, w3, w4⟩, ?_, NJ.dict.rho rfl, NJ.back.rho rfl, ?_, ?_, ?_, ?_⟩
 ·exact ((((((gx3.trans n₄.pu.gx).trans .of).trans n₅.pu.gx).trans n₆.pu.gx).trans n7.pu.gx).trans NJ.gx)
 ·show s.heap.get? S = none
  rw [q2]; exact liveOld 2 _ rfl rfl (by decide)
 ·show [D, B, S, ρ₅ 3].Nodup
  have d1 : D ≠ S := by rw [q2]; exact alive7 2 _ rfl rfl _ NJ.nD
  have d2 : B ≠ S := by rw [q2]; exact alive7 2 _ rfl rfl _ NJ.nB
  have d3 := alive7 3 _ rfl rfl _ NJ.nD
  have d4 := alive7 3 _ rfl rfl _ NJ.nB
  have d5 : S ≠ ρ₅ 3 := by rw [q2]; exact i23
  simp only [List.nodup_cons, List.mem_cons, List.not_mem_nil, or_false, not_or, List.nodup_nil, and_true, not_false_eq_true]
  exact ⟨⟨Ne.symm NJ.bd, d1, d3⟩, ⟨d2, d4⟩, d5⟩
 ·show L ≠ S
  rw [q2]; exact alive7 2 _ rfl rfl _ NJ.nL
 ·refine nG fun ng => ?_
  obtain ⟨oK, hK⟩ := Lf.kP
  refine ng ?_
  clear ng
  exact fun q => by
   have := (le1.trans (I15.top.trans I15.p)) _ _ hK
   have q' : L = K := q
   refine nG fun ng => ?_
   rw [<- q', NJ.nL] at this; cases this
 ·refine nG fun ng => ?_
  obtain ⟨us, a1, a2, a3⟩ := I15.ob 2 _ rfl
  rw [ρ7, ρ52] at a1
  refine ng ?_
  clear ng
  exact ⟨us, plain_keeps a1 (NJ.keeps _), a2, rep_chars a3⟩
 ·refine nG fun ng => ?_
  obtain ⟨W, a1, a2⟩ := I15.ob 3 _ rfl
  obtain ⟨W', e1, e2⟩ := a2 _ rfl
  rw [ρ7] at a1
  have e2' : Rep F7 (.ref S) W' := e2
  cases e2'
  refine ng ?_
  clear ng
  exact ⟨W, isCell_keeps a1 (NJ.keeps _), fun u hu => by cases hu; exact ⟨_, e1, .ref _⟩⟩
 ·refine nG fun ng => ?_
  obtain ⟨m, a1, a2, a3, a4⟩ := I15.ob 0 _ rfl
  obtain ⟨oD, hoD⟩ := (I15.ob 0 _ rfl).alive rfl
  obtain ⟨V', e1, e2⟩ := a4 4 "read" _ (by kernel_rfl) rfl
  have e2' : Rep F7 (.ref h'.objs.size) V' := e2
  cases e2'
  rw [ρ7, ρ50] at a1 hoD
  refine ng ?_
  clear ng
  refine ⟨oL1, D1, oD, m, newQ_of (ne7 _ _ _ aL NJ.nD) (ne7 _ _ _ aL NJ.nB) ?_ (fun q => live5 3 _ rfl rfl q.symm) sL1 (NJ.keeps _ _ aL), g2, g3, g4, NI.dl, newQ_of (ne7 _ _ _ hoD NJ.nD) (ne7 _ _ _ hoD NJ.nB) ?_ ?_ ?_ (NJ.keeps _ _ hoD), a1.at (NJ.keeps _), e1⟩
  ·show L1 ≠ S
   rw [q2]; exact fun q => live5 2 _ rfl rfl q.symm
  ·show D1 ≠ S
   rw [q2, <- ρ50]; exact i02
  ·show D1 ≠ ρ₅ 3
   rw [<- ρ50]; exact i03
  ·rw [<- ρ50]; exact liveOld 0 _ rfl rfl (by decide)
 ·refine ⟨_, _, _, _, _, _, c', ctv, oc, vs, t, newQ_of (ne7 _ _ _ aT NJ.nD) (ne7 _ _ _ aT NJ.nB) ?_ (fun q => tN 3 _ rfl rfl q.symm) sT (NJ.keeps _ _ aT), (by rw [<- hof]; rfl), rfl, newQ_of (ne7 _ _ _ aC NJ.nD) (ne7 _ _ _ aC NJ.nB) ?_ (fun q => cN 3 _ rfl rfl q.symm) sC (NJ.keeps _ _ aC), hdv, hv⟩
  ·show h'.objs.size ≠ S
   rw [q2]; exact fun q => tN 2 _ rfl rfl q.symm
  ·show c' ≠ S
   rw [q2]; exact fun q => cN 2 _ rfl rfl q.symm
end
section
variable {C : Cx} {X : zj}
structure MthG (C : Cx) (mN : Str -> Option Value) (x : Str) (st : Stmt) (ps : List Str) (f : Addr) : Prop where
 at' : mN x = some (.ref f)
 o : ∃ o fd, C.P0 f = some o /\ o.cls = .type "function" /\ o.data = .func fd
 FA : ∃ fd, DefAt C f fd (zN st) ps /\ fd.scope = zQ st /\ fd.closure = []
theorem MthG.ext {mN : Str -> Option Value} {x : Str} {st : Stmt} {ps : List Str} {f : Addr} {P1 : PH} (le : PH.le C.P0 P1) (y : MthG C mN x st ps f) : MthG (C.ext P1 le) mN x st ps f :=
 ⟨y.at', let ⟨o, fd, a, b⟩ := y.o; ⟨o, fd, le _ _ a, b⟩, let ⟨fd, a, b⟩ := y.FA; ⟨fd, a.ext le, b⟩⟩
theorem GiFn.ext {P1 : PH} (le : PH.le C.P0 P1) (y : GiFn C) : GiFn (C.ext P1 le) :=
 ⟨y.cm, let ⟨a, o, fd, h1, h2, h3, h4, h5, h6, h7, h8, h9, hA, hB, hC⟩ := y.ex; ⟨a, o, fd, h1, le _ _ h2, h3, h4, h5, h6, fun h hh => h7 h (le.trans hh), h8, h9, hA, hB, hC⟩⟩
structure Txt (C : Cx) (K N : Addr) (mN : Str -> Option Value) (fI Pt fp fr fg : Addr) : Prop where
 G : GlB C
 lf : LexFn C K N mN fI Pt fp
 gi : GiFn C
 rc : MthG C mN "_read_char" readSt ["self"] fr
 get : MthG C mN "get_token" getSt ["self"] fg
 ist : FnG C "ISTERMINAL" (zD 3) ["x"]
 isn : FnG C "ISNONTERMINAL" (zD 4) ["x"]
 iseof : FnG C "ISEOF" (zD 5) ["x"]
 i2a : FnG C "Int2AP" (zD 7) ["num"]
 letters : FnG C "_law_letters" (zD 15) ["number"]
 number : FnG C "_law_number" (zD 16) ["word"]
 written : FnG C "_law_written" (zD 17) ["word", "way"]
 cut : FnG C "_law_cut" (zD 18) ["word", "ruler"]
 symbol : FnG C "_law_symbol" (zD 19) ["some", "good"]
 goes : FnG C "_law_goes" (zD 20) ["symbol"]
 kind : FnG C "_law_kind" (zD 21) ["symbol"]
 turned : FnG C "_law_turned" (zD 22) ["lexer", "mark", "leads", "first", "good"]
 least : FnG C "_law_least" (zD 23) ["leads", "first", "ends"]
theorem LexFn.ext {K N fI Pt fp : Addr} {mN : Str -> Option Value} {P1 : PH} (le : PH.le C.P0 P1) (hp : P1 Pt = none) (y : LexFn C K N mN fI Pt fp) : LexFn (C.ext P1 le) K N mN fI Pt fp :=
 ⟨y.kls.ext le, y.glob, let ⟨a, fd, c, h1, h2, h3, h4, h5, h6⟩ := y.fn; ⟨a, fd, c, h1, h2.ext le, h3, h4, h5, fun h hh => h6 h (le.trans hh)⟩, hp, fun h hh => y.bm h (le.trans hh), y.push, let ⟨fd, a, b⟩ := y.pushF; ⟨fd, a.ext le, b⟩, let ⟨o, fd, a, b⟩ := y.pushO; ⟨o, fd, le _ _ a, b⟩, y.no, let ⟨o, h⟩ := y.kP; ⟨o, le _ _ h⟩⟩
theorem zU.mono {n m : Nat} {x : Str} {h : List PV -> Option PV} (y : zU C n x h) (hm : m <= n) : zU C m x h := by
 refine nG fun ng => ?_
 obtain ⟨a, o, fd, h1, h2, h3, h4⟩ := y.ex
 refine ng ?_
 clear ng
 exact ⟨a, o, fd, h1, h2, h3, fun A F s as Vs c hA => h4 A F s as Vs c (hA.mono hm)⟩
structure Sps (C : Cx) : Prop where
 i2a : zU C 4 "Int2AP" h_i2a
 iseof : zU C 4 "ISEOF" h_iseof
 letters : zU C 3 "_law_letters" zo
 number : zU C 3 "_law_number" h_number
 written : zU C 3 "_law_written" h_written
 cut : zU C 3 "_law_cut" h_cut
 symbol : zU C 3 "_law_symbol" h_symbol
 kind : zU C 3 "_law_kind" h_kind
 least : zU C 3 "_law_least" h_least
theorem Txt.sps {K N fI Pt fp fr fg : Addr} {mN : Str -> Option Value} (T : Txt C K N mN fI Pt fp fr fg) : Sps C := by
 have h1 := sp_i2a (n := 4) (by omega) T.G T.i2a
 have h2 := sp_iseof (n := 4) (by omega) T.G T.iseof
 have h3 := sp_ist (n := 5) (by omega) T.G T.ist
 have h4 := sp_isn (n := 5) (by omega) T.G T.isn
 have h5 := sp_goes (n := 4) (by omega) T.G h3 h4 T.goes
 exact ⟨h1, h2, sp_letters (by omega) T.G h1 T.letters, sp_number (by omega) T.G T.number, sp_written (by omega) T.G T.written, sp_cut (by omega) T.G T.gi T.cut, sp_symbol (by omega) T.G h2 T.symbol, sp_kind (by omega) T.G h5 T.kind, sp_least (by omega) T.G T.least⟩
structure LexOps (C : Cx) (Z : LX) (feed fp fg : Addr) (fu : Nat) : Prop where
 K : LexK C Z
 M1 : MethC C Z "push_token" fp
 O1 : OpS C Z 3 (fun vs => call (.ref fp) vs) (h_push Z)
 M2 : MethC C Z "get_token" fg
 O2 : OpS C Z 3 (fun vs => call (.ref fg) vs) (h_get Z feed fu)
theorem tl_none_push : typeLookup (.type "object") ("push_token" : Str) = pure none := by rw [typeLookup_type, builtinLookup_eq_fast]; kernel_rfl
theorem tl_none_get : typeLookup (.type "object") ("get_token" : Str) = pure none := by rw [typeLookup_type, builtinLookup_eq_fast]; kernel_rfl
theorem tl_none_rc : typeLookup (.type "object") ("_read_char" : Str) = pure none := by rw [typeLookup_type, builtinLookup_eq_fast]; kernel_rfl
theorem lex_ops {K N fI Pt fp fr fg : Addr} {mN : Str -> Option Value} (T : Txt C K N mN fI Pt fp fr fg) {Z : LX} {feed take : Addr} {fdT : FuncData} {fu : Nat} (zm : Z.mN = mN) (Lx : LexC C Z.L Z.D Z.K Z.N Z.mN) (FD : FeedC C Z feed take)
  (FT : DefAt C take fdT (zN takeSt) ["size"]) (ht : fdT.scope = zQ takeSt) (htc : fdT.closure = [(("signs" : Str), Z.E)]) : LexOps C Z feed fp fg fu := by
 have K1 : LexK C Z := ⟨Lx, by rw [zm]; exact T.lf.kls.at'⟩
 refine nG fun ng => ?_
 obtain ⟨fdp, FAp, hsp, hcp⟩ := T.lf.pushF
 obtain ⟨fdr, FAr, hsr, hcr⟩ := T.rc.FA
 obtain ⟨fdg, FAg, hsg, hcg⟩ := T.get.FA
 have O0 := sp_take (C := C) (Z := Z) (n := 6) (by omega) FT ht htc
 have Orc := sp_rc (C := C) (Z := Z) (feed := feed) (n := 5) (by omega) K1 FD O0 FAr hsr hcr
 have Mrc : MethC C Z "_read_char" fr := ⟨Lx, by rw [zm]; exact T.rc.at', T.rc.o, ⟨_, tl_none_rc⟩, by decide +kernel⟩
 refine ng ?_
 clear ng
 exact ⟨K1, ⟨Lx, by rw [zm]; exact T.lf.push, T.lf.pushO, ⟨_, tl_none_push⟩, by decide +kernel⟩, sp_push (by omega) K1 FAp hsp hcp, ⟨Lx, by rw [zm]; exact T.get.at', T.get.o, ⟨_, tl_none_get⟩, by decide +kernel⟩, (sp_get (by omega) T.G K1 Mrc Orc FAg hsg hcg).op⟩
theorem ok_law2T {K N fI Pt fp fr fg : Addr} {mN : Str -> Option Value} (T : Txt C K N mN fI Pt fp fr fg) {Z : LX} {feed : Addr} {fu : Nat} (O : LexOps C Z feed fp fg fu) : zi C (X_law2 Z 0) ((zN (zD 24)).drop 10) (f_law2 Z feed fu) := by
 have S := T.sps
 refine nG fun ng => ?_
 obtain ⟨at', fdt, g1, FAt, hst, hct⟩ := T.turned.ex
 obtain ⟨ot, hot, hdt⟩ := FAt.o
 have St := sp_turned (C := C) (Z := Z) (feed := feed) (fu := fu) (n := 2) (by omega) T.G O.M1 O.O1 O.M2 O.O2 S.symbol S.letters S.number S.kind (S.iseof.mono (by omega)) FAt hst hct
 refine ng ?_
 clear ng
 exact ok_law2 (by omega) T.G O.K O.M2 (O.O2.mono (by omega)) (S.cut.mono (by omega)) ⟨at', ot, fdt, g1, hot, hdt, St.op.mono (by omega)⟩ (S.least.mono (by omega))
end
section
variable {C : Cx} {X : zj}
theorem Txt.ext {K N fI Pt fp fr fg : Addr} {mN : Str -> Option Value} {P1 : PH} (le : PH.le C.P0 P1) (hp : P1 Pt = none) (T : Txt C K N mN fI Pt fp fr fg) : Txt (C.ext P1 le) K N mN fI Pt fp fr fg :=
 ⟨T.G.ext le, T.lf.ext le hp, T.gi.ext le, T.rc.ext le, T.get.ext le, T.ist.ext le, T.isn.ext le, T.iseof.ext le, T.i2a.ext le, T.letters.ext le, T.number.ext le, T.written.ext le, T.cut.ext le, T.symbol.ext le, T.goes.ext le, T.kind.ext le, T.turned.ext le, T.least.ext le⟩
noncomputable def afterLex (Z : LX) (feed : Addr) (text : List Nat) (σ : List zA) : List zA := LS Z feed 1 [] text ++ (σ.drop 4).set 16 .dead
structure TailAt (text : List Nat) (σ : List zA) : Prop where
 len : text.length <= 4000
 all : text.all (· < 1114112) = true
 noO : σ.all noObj = true
 tab : σ[20]? = some (.tab (some #[]))
 txt : zC 4 4 σ = some (.imm (.str text), σ)
 run : ∀ (Z : LX) (feed : Addr), ∃ σ1 σ₂, Pl.set 4 (.loc 5) (.imm (.ref Z.L)) (afterLex Z feed text σ) = some σ1 /\ f_law2 Z feed 8000 σ1 = some (.ret (.bool true), σ₂)
open Classical in
noncomputable def cTail : CC Fl := fun σ => if ∃ text, TailAt text σ then some (.ret (.bool true), List.replicate 20 .dead ++ [.tab none]) else none
theorem st9 : ∃ p1 p2 p3 p4 p5, (zN (zD 24))[9]? = some (.Assign [.Name "lexer" p1] (.Call (.Name "_law_lexer" p2) [.Name "text" p3] [] p4) p5) := ⟨_, _, _, _, _, rfl⟩
theorem drop9 : ∃ p1 p2 p3 p4 p5, (zN (zD 24)).drop 9 = .Assign [.Name "lexer" p1] (.Call (.Name "_law_lexer" p2) [.Name "text" p3] [] p4) p5 :: (zN (zD 24)).drop 10 := by
 refine nG fun ng => ?_
 obtain ⟨p1, p2, p3, p4, p5, h⟩ := st9
 obtain ⟨hl, he⟩ := List.getElem?_eq_some_iff.mp h
 refine ng ?_
 clear ng
 exact ⟨p1, p2, p3, p4, p5, by rw [List.drop_eq_getElem_cons hl, he]⟩
theorem noObj_drop {σ : List zA} (h : σ.all noObj = true) {i : Nat} {o : zA} (e : σ[i]? = some o) : noObj o = true := List.all_eq_true.mp h o (List.mem_of_getElem? e)
theorem ok_tail {K N fI Pt fp fr fg : Addr} {mN : Str -> Option Value} (T : Txt C K N mN fI Pt fp fr fg) : zi C (X_law1 Pt 0) ((zN (zD 24)).drop 9) cTail := by
 refine nG fun ng => ?_
 obtain ⟨p1, p2, p3, p4, p5, hl⟩ := drop9
 refine ng ?_
 clear ng
 rw [hl]
 intro A env F P ρ σ s v σ' hA E I hf
 unfold cTail at hf
 refine nG fun ng => ?_
 split at hf
 ·rename_i hT
  obtain ⟨text, TA⟩ := hT
  obtain ⟨rfl, rfl⟩ := Prod.mk.inj (Option.some.inj hf)
  obtain ⟨a, fd, c, hga, FA, hsc, hcl, hcode, hCH⟩ := T.lf.fn
  obtain ⟨o, ho, hd⟩ := FA.o
  have hPt : ρ 20 = Pt := (E.pin 20 Pt List.mem_cons_self).1
  have fr20 := I.fr 20 _ TA.tab rfl
  rw [hPt] at fr20
  have ob20 : s.heap.get? Pt = some (tabObj #[]) := by
   obtain ⟨qs, w1, w2⟩ := I.ob 20 _ TA.tab
   rw [hPt, w2 _ rfl] at w1; exact w1
  have hfl : plChk (X_law1 Pt 0) "text" (.loc 4) = true := by kernel_rfl
  have hfl' := zg hfl
  refine ng ?_
  clear ng
  refine ss_step ?_
  refine wpAny_Assign_Name ?_ (swaps_no rfl)
  refine wpAny_Call_ofName (wpAny_Name (load_glob (V := .ref a) (by kernel_rfl) hga E I ?_) (by decide +kernel))
  refine callWith_function (a := a) (o := o) (fd := fd) (evargs rfl (wpAny_items_cons (wpAny_Name (load_loc hfl'.1 hfl'.2 E I TA.txt fun V _ rV => wpAny_items_nil ⟨⟨(I.top.trans I.p) _ _ ho, hd⟩, ?_⟩) (by decide +kernel)) (zR rfl)))
  refine wpAny_mono (lexer_make T.lf T.G hA (by show 1 <= 20; decide) I.f fr20.1 (I.top.trans I.p) ob20 TA.len rV hga) (fun R s₂ zq => ?_) fun _ _ x => x
  refine nG fun ng => ?_
  obtain ⟨Z, feed, take, eR, LM⟩ := zq
  subst eR
  obtain ⟨P0', hP0'⟩ : ∃ Q : PH, Q = fun b => match C.P0 b with | some o => some o | none => newQ s s₂ Z b := ⟨_, rfl⟩
  obtain ⟨qs, hqs⟩ := LM.tab
  obtain ⟨P2, hP2⟩ : ∃ Q : PH, Q = fun b => if b = Pt then some (tabObj qs) else match P b with | some o => some o | none => newQ s s₂ Z b := ⟨_, rfl⟩
  have nq : ∀ b o, newQ s s₂ Z b = some o -> s.heap.get? b = none /\ s₂.heap.get? b = some o := fun b o e => by
   unfold newQ at e
   split at e
   ·cases e
   ·split at e
    ·rename_i h; exact ⟨h, e⟩
    ·cases e
  have le0 : PH.le C.P0 P0' := fun b o e => by rw [hP0']; show (match C.P0 b with | some o => some o | none => newQ s s₂ Z b) = _; rw [e]
  have le2 : PH.le P P2 := fun b o e => by
   have hb : b ≠ Pt := fun q => by rw [q, fr20.2] at e; cases e
   rw [hP2]
   show (if b = Pt then some (tabObj qs) else match P b with | some o => some o | none => newQ s s₂ Z b) = _
   rw [if_neg hb, e]
  have nq0 : PH.le (newQ s s₂ Z) P0' := fun b o e => by
   rw [hP0']
   show (match C.P0 b with | some o => some o | none => newQ s s₂ Z b) = _
   cases q : C.P0 b with
   | none => exact e
   | some o' => have := (I.top.trans I.p) _ _ q; rw [(nq b o e).1] at this; cases this
  have sp0 : ∀ b o, P0' b = some o -> C.P0 b = some o \/ newQ s s₂ Z b = some o := fun b o e => by
   rw [hP0'] at e
   dsimp only at e
   split at e
   ·rename_i o' q; cases e; exact .inl q
   ·exact .inr e
  have sp2' : ∀ b o, P2 b = some o -> b = Pt /\ o = tabObj qs \/ b ≠ Pt /\ (P b = some o \/ newQ s s₂ Z b = some o) := fun b o e => by
   rw [hP2] at e
   dsimp only at e
   split at e
   ·rename_i q; cases e; exact .inl ⟨q, rfl⟩
   ·rename_i q
    right
    refine ⟨q, ?_⟩
    split at e
    ·rename_i o' q; cases e; exact .inl q
    ·exact .inr e
  have p2Pt : P2 Pt = some (tabObj qs) := by
   rw [hP2]
   show (if Pt = Pt then some (tabObj qs) else _) = _
   rw [if_pos rfl]
  have sp2 : ∀ b o, b ≠ Pt -> P2 b = some o -> P b = some o \/ newQ s s₂ Z b = some o := fun b o hb e => by
   rcases sp2' b o e with h | h
   ·exact absurd h.1 hb
   ·exact h.2
  have top2 : PH.le P0' P2 := fun b o e => by
   rcases sp0 b o e with h | h
   ·exact le2 _ _ (I.top _ _ h)
   ·have hb : b ≠ Pt := fun q => by
     have := (nq b o h).1
     rw [q, ob20] at this; cases this
    rw [hP2]
    show (if b = Pt then some (tabObj qs) else match P b with | some o => some o | none => newQ s s₂ Z b) = _
    rw [if_neg hb]
    cases q : P b with
    | none => exact h
    | some o' => have := I.p _ _ q; rw [(nq b o h).1] at this; cases this
  have offPt : ∀ b o, P b = some o -> b ≠ Pt := fun b o e q => by rw [q, fr20.2] at e; cases e
  have p2le : PH.le P2 s₂.heap.get? := fun b o e => by
   rcases sp2' b o e with ⟨rfl, rfl⟩ | ⟨hb, h | h⟩
   ·exact hqs
   ·exact LM.keeps _ _ (offPt _ _ h) (I.p _ _ h)
   ·exact (nq _ _ h).2
  obtain ⟨ρ2, hρ2⟩ : ∃ r : Nat -> Addr, r = fun i => if i = 0 then Z.D else if i = 1 then Z.B else if i = 2 then Z.S else if i = 3 then Z.E else ρ i := ⟨_, rfl⟩
  have r0 : ρ2 0 = Z.D := by rw [hρ2]; rfl
  have r1 : ρ2 1 = Z.B := by rw [hρ2]; rfl
  have r2 : ρ2 2 = Z.S := by rw [hρ2]; rfl
  have r3 : ρ2 3 = Z.E := by rw [hρ2]; rfl
  have r4 : ∀ i, 4 <= i -> ρ2 i = ρ i := fun i hi => by
   rw [hρ2]
   show (if i = 0 then Z.D else if i = 1 then Z.B else if i = 2 then Z.S else if i = 3 then Z.E else ρ i) = ρ i
   rw [if_neg (by omega), if_neg (by omega), if_neg (by omega), if_neg (by omega)]
  have noF_le : PH.le noF F := fun _ _ e => by cases e
  have q2of : ∀ b, s.heap.get? b = none -> (b = Z.D \/ b = Z.B \/ b = Z.S \/ b = Z.E) -> F b = none /\ P2 b = none := fun b hb hz => by
   refine ⟨?_, ?_⟩
   ·cases q : F b with
    | none => rfl
    | some o' => have := I.f _ _ q; rw [hb] at this; cases this
   ·cases q : P2 b with
    | none => rfl
    | some o' =>
     rcases sp2 b o' (fun q => by rw [q, ob20] at hb; cases hb) q with h | h
     ·have := I.p _ _ h; rw [hb] at this; cases this
     ·unfold newQ at h; rw [if_pos hz] at h; cases h
  obtain ⟨n1, n2, n3⟩ : Z.D ≠ Z.B /\ Z.D ≠ Z.S /\ Z.D ≠ Z.E /\ Z.B ≠ Z.S /\ Z.B ≠ Z.E /\ Z.S ≠ Z.E := by
   have := LM.nd
   simp only [List.nodup_cons, List.mem_cons, List.not_mem_nil, or_false, not_or, List.nodup_nil, and_true, not_false_eq_true] at this
   exact ⟨this.1.1, this.1.2.1, this.1.2.2, this.2.1.1, this.2.1.2, this.2.2⟩
  obtain ⟨n3, n4, n5, n6⟩ := n3
  have get : ∀ (i : Nat) (x : zA), (afterLex Z feed text σ)[i]? = some x -> (i < 4 /\ (LS Z feed 1 [] text)[i]? = some x) \/ (4 <= i /\ i = 20 /\ x = .dead) \/ (4 <= i /\ i ≠ 20 /\ σ[i]? = some x) := fun i x e => by
   unfold afterLex at e
   by_cases hi : i < 4
   ·rw [List.getElem?_append_left (by simpa using hi)] at e; exact .inl ⟨hi, e⟩
   ·rw [List.getElem?_append_right (by simp; omega)] at e
    have e' : ((σ.drop 4).set 16 .dead)[i - 4]? = some x := e
    by_cases h20 : i = 20
    ·subst h20
     right; left
     refine ⟨by omega, rfl, ?_⟩
     have hlt : 16 < (σ.drop 4).length := by
      have := (List.getElem?_eq_some_iff.mp e').1
      simpa using this
     rw [show (20 - 4 : Nat) = 16 from rfl, List.getElem?_set_self hlt] at e'
     cases e'; rfl
    ·right; right
     rw [List.getElem?_set_ne (by omega), List.getElem?_drop, show 4 + (i - 4) = i by omega] at e'
     exact ⟨by omega, h20, e'⟩
  have lsob : ∀ (i : Nat) (x : zA), i < 4 -> (LS Z feed 1 [] text)[i]? = some x -> ObjOK F ρ2 ((X_law2 Z 0).N i) x (ρ2 i) s₂.heap := fun i x hi e => by
   match i, hi, e with
   | 0, _, e => cases e; rw [r0]; obtain ⟨m, a1, a2, a3, a4⟩ := LM.dict; exact ⟨m, a1, a2, a3, fun k y w h1 h2 => by
     match k, h2 with
     | 0, h2 => cases h2; obtain ⟨U, b1, b2⟩ := a4 0 y _ h1 rfl; have b2' : Rep noF (.int 1) U := b2; exact ⟨U, b1, b2'.ofFlat rfl⟩
     | 1, h2 => cases h2; obtain ⟨U, b1, b2⟩ := a4 1 y _ h1 rfl; have b2' : Rep noF (.ref feed) U := b2; cases b2'; exact ⟨_, b1, .ref _⟩
     | 2, h2 => cases h2; obtain ⟨U, b1, b2⟩ := a4 2 y _ h1 rfl; have b2' : Rep noF (.str [10, 9, 13, 32]) U := b2; exact ⟨U, b1, b2'.ofFlat rfl⟩
     | 3, h2 => cases h2; obtain ⟨U, b1, b2⟩ := a4 3 y _ h1 rfl; have b2' : Rep noF (.ref Z.B) U := b2; cases b2'; exact ⟨_, b1, .ref _⟩
     | k + 4, h2 => cases h2⟩
   | 1, _, e => cases e; rw [r1]; exact (LM.back.mono noF_le fun _ e => e).rho rfl
   | 2, _, e => cases e; rw [r2]; exact (LM.signs.mono noF_le fun _ e => e).rho rfl
   | 3, _, e => cases e; rw [r3]; exact (LM.cell.mono noF_le fun _ e => e).rho rfl
  have lsr : ∀ i, i < 4 -> s.heap.get? (ρ2 i) = none /\ (ρ2 i = Z.D \/ ρ2 i = Z.B \/ ρ2 i = Z.S \/ ρ2 i = Z.E) := fun i hi => by
   match i, hi with
   | 0, _ => rw [r0]; exact ⟨LM.fD, .inl rfl⟩
   | 1, _ => rw [r1]; exact ⟨LM.fB, .inr (.inl rfl)⟩
   | 2, _ => rw [r2]; exact ⟨LM.fS, .inr (.inr (.inl rfl))⟩
   | 3, _ => rw [r3]; exact ⟨LM.fE, .inr (.inr (.inr rfl))⟩
  have lsinj : ∀ i j, i < 4 -> j < 4 -> ρ2 i = ρ2 j -> i = j := fun i j hi hj q => by
   match i, hi, j, hj, q with
   | 0, _, 0, _, _ => rfl
   | 1, _, 1, _, _ => rfl
   | 2, _, 2, _, _ => rfl
   | 3, _, 3, _, _ => rfl
   | 0, _, 1, _, q => rw [r0, r1] at q; exact absurd q n1
   | 0, _, 2, _, q => rw [r0, r2] at q; exact absurd q n2
   | 0, _, 3, _, q => rw [r0, r3] at q; exact absurd q n3
   | 1, _, 0, _, q => rw [r1, r0] at q; exact absurd q.symm n1
   | 2, _, 0, _, q => rw [r2, r0] at q; exact absurd q.symm n2
   | 3, _, 0, _, q => rw [r3, r0] at q; exact absurd q.symm n3
   | 1, _, 2, _, q => rw [r1, r2] at q; exact absurd q n4
   | 1, _, 3, _, q => rw [r1, r3] at q; exact absurd q n5
   | 2, _, 1, _, q => rw [r2, r1] at q; exact absurd q.symm n4
   | 3, _, 1, _, q => rw [r3, r1] at q; exact absurd q.symm n5
   | 2, _, 3, _, q => rw [r2, r3] at q; exact absurd q n6
   | 3, _, 2, _, q => rw [r3, r2] at q; exact absurd q.symm n6
  have I2 : zb (C.ext P0' le0) (X_law2 Z 0).N F P2 ρ2 (afterLex Z feed text σ) s₂.heap := by
   refine ⟨fun b o e => LM.keeps _ _ (fun q => by rw [q, fr20.1] at e; cases e) (I.f _ _ e), p2le, top2, fun i x e => ?_, fun i x e l => ?_, fun i j x y ex ey lx ly q => ?_⟩
   ·rcases get i x e with ⟨hi, e⟩ | ⟨_, _, rfl⟩ | ⟨hi, h20, e⟩
    ·exact lsob i x hi e
    ·trivial
    ·rw [r4 i hi]
     by_cases l : x.live = true
     ·refine ((I.ob i x e).mono (.refl F) fun z hz => LM.keeps _ _ (fun q => ?_) hz).rho (noObj_drop TA.noO e)
      exact h20 (I.inj i 20 x _ e TA.tab l rfl (q.trans hPt.symm))
     ·exact (((I.ob i x e).mono (h' := s.heap) (.refl F) fun _ e => e).rho (noObj_drop TA.noO e)).still l
   ·rcases get i x e with ⟨hi, e⟩ | ⟨_, _, rfl⟩ | ⟨hi, h20, e⟩
    ·exact q2of _ (lsr i hi).1 (lsr i hi).2
    ·cases l
    ·rw [r4 i hi]
     have hfr := I.fr i x e l
     obtain ⟨o', ho'⟩ := (I.ob i x e).alive l
     refine ⟨hfr.1, ?_⟩
     cases w : P2 (ρ i) with
     | none => rfl
     | some o'' =>
      rcases sp2 _ _ (fun q => h20 (I.inj i 20 x _ e TA.tab l rfl (q.trans hPt.symm))) w with h | h
      ·rw [hfr.2] at h; cases h
      ·have := (nq _ _ h).1; rw [ho'] at this; cases this
   ·rcases get i x ex with ⟨hi, ex⟩ | ⟨_, _, rfl⟩ | ⟨hi, _, ex⟩
    ·rcases get j y ey with ⟨hj, ey⟩ | ⟨_, _, rfl⟩ | ⟨hj, _, ey⟩
     ·exact lsinj i j hi hj q
     ·cases ly
     ·obtain ⟨o', ho'⟩ := (I.ob j y ey).alive ly
      have := (lsr i hi).1
      rw [q, r4 j hj, ho'] at this; cases this
    ·cases lx
    ·rcases get j y ey with ⟨hj, ey⟩ | ⟨_, _, rfl⟩ | ⟨hj, _, ey⟩
     ·obtain ⟨o', ho'⟩ := (I.ob i x ex).alive lx
      have := (lsr j hj).1
      rw [<- q, r4 i hi, ho'] at this; cases this
     ·cases ly
     ·rw [r4 i hi, r4 j hj] at q
      exact I.inj i j x y ex ey lx ly q
  have E2 : zZ (X_law2 Z 0) ρ2 env := by
   refine zZ.repin (X := X_law1 Pt 0) (ρ := ρ) E (fun i hi => r4 i ?_) (fun i b m => ?_)
   ·rcases hi with rfl | ⟨x, hx⟩
    ·show 4 <= 4; decide
    ·have hm := mem_of_lookup hx
     simp only [List.mem_cons, Prod.mk.injEq, List.not_mem_nil, or_false] at hm
     rcases hm with ⟨_, rfl⟩ | ⟨_, rfl⟩ | ⟨_, rfl⟩ | ⟨_, rfl⟩ | ⟨_, rfl⟩ | ⟨_, rfl⟩ <;> decide
   ·simp only [LX.pins, List.mem_cons, Prod.mk.injEq, List.not_mem_nil, or_false] at m
    rcases m with ⟨rfl, rfl⟩ | ⟨rfl, rfl⟩ | ⟨rfl, rfl⟩ | ⟨rfl, rfl⟩
    ·exact ⟨r0, by show 0 ∉ [11, 12, 13, 14, 15, 16, 17, 18, 19]; decide, List.not_mem_nil⟩
    ·exact ⟨r1, by show 1 ∉ [11, 12, 13, 14, 15, 16, 17, 18, 19]; decide, List.not_mem_nil⟩
    ·exact ⟨r2, by show 2 ∉ [11, 12, 13, 14, 15, 16, 17, 18, 19]; decide, List.not_mem_nil⟩
    ·exact ⟨r3, by show 3 ∉ [11, 12, 13, 14, 15, 16, 17, 18, 19]; decide, List.not_mem_nil⟩
  obtain ⟨oL, l1, l2, l3, l4⟩ := LM.obj
  have Lx : LexC (C.ext P0' le0) Z.L Z.D Z.K Z.N Z.mN := by
   rw [LM.zk, LM.zn, LM.zm]
   have hDL : Z.D ≠ Z.L := fun q => by
    unfold newQ at l1
    rw [if_pos (.inl q.symm)] at l1; cases l1
   exact ⟨fun h hh => T.lf.kls.cls h (le0.trans hh), T.lf.kls.ga, T.lf.kls.gt, T.lf.kls.sa, ⟨oL, nq0 _ _ l1, l2, l3, l4⟩, hDL, LM.lk⟩
  have FD : FeedC (C.ext P0' le0) Z feed take := by
   obtain ⟨of, D1, oD, m, f1, f2, f3, f4, f5, f6, f7, f8⟩ := LM.feed
   obtain ⟨oT, name, qual, params, doc, pm, cc, ctv, oc, vs, t, t1, t2, t3, t4, t5, t6⟩ := LM.take
   refine ⟨Lx, fun h hh => ⟨m, ⟨of, hh _ _ (nq0 _ _ f1), by rw [LM.zk]; exact f2, f3, .inr ⟨D1, f4, f5, f7.at fun o e => ?_⟩⟩, f8⟩, by rw [LM.zm]; exact T.lf.no, ⟨oT, _, nq0 _ _ t1, t2⟩⟩
   have : oD = o := Option.some.inj ((nq _ _ f6).2.symm.trans e)
   subst this
   exact hh _ _ (nq0 _ _ f6)
  obtain ⟨oT, name, qual, params, doc, pm, cc, ctv, oc, vs, t, t1, t2, t3, t4, t5, t6⟩ := LM.take
  have hpar : params = (fdArgs takeSt).getD params := by rw [<- t3]; rfl
  have FT : DefAt (C.ext P0' le0) take (fnX name qual params (zN takeSt) (zQ takeSt) [(("signs" : Str), Z.E)] .none .none doc pm none (.ref cc) ctv) (zN takeSt) ["size"] := by
   refine ⟨⟨oT, nq0 _ _ t1, t2⟩, by kernel_rfl, by kernel_rfl, rfl, fun h hh => ⟨cc, oc, vs, t, rfl, hh _ _ (nq0 _ _ t4), t5, t6⟩, rfl, rfl, fun Vs hVs => ?_⟩
   match Vs, hVs with
   | [v], _ => rw [hpar]; kernel_rfl
  have hpt' : P0' Pt = none := by
   cases w : P0' Pt with
   | none => rfl
   | some o' =>
    rcases sp0 _ _ w with h | h
    ·rw [T.lf.tab] at h; cases h
    ·have := (nq _ _ h).1; rw [ob20] at this; cases this
  have T2 := T.ext le0 hpt'
  have O := lex_ops (fu := 8000) T2 LM.zm Lx FD FT rfl rfl
  have ok2 := ok_law2T T2 O
  obtain ⟨σ1, σ₂, hset, hrun⟩ := TA.run Z feed
  refine ng ?_
  clear ng
  refine wpAny_mono (store_ok (C := C.ext P0' le0) (X := X_law2 Z 0) (p := .loc 5) (zg (by kernel_rfl)) E2 I2 (v := .imm (.ref Z.L)) (.ref _) hset) (fun _ s₃ n₃ => ⟨rfl, ?_⟩) fun _ _ x => x
  refine wpAny_mono (ok2 A env F P2 ρ2 σ1 s₃ (.ret (.bool true)) σ₂ hA E2 n₃.inv hrun) (fun fl s₄ zq => ?_) fun _ _ x => x
  refine nG fun ng => ?_
  obtain ⟨F4, ρ4, n₄, r₄⟩ := zq
  obtain ⟨W, rfl, rW⟩ := r₄
  have end20 : ∀ (i : Nat) (x : zA), (List.replicate 20 zA.dead ++ [.tab none])[i]? = some x -> x.live = true -> i = 20 := fun i x e l => by
   by_cases hi : i < 20
   ·rw [List.getElem?_append_left (by simpa using hi), List.getElem?_replicate, if_pos hi] at e
    cases e; cases l
   ·rw [List.getElem?_append_right (by simp; omega), List.length_replicate] at e
    cases hk : i - 20 with
    | zero => omega
    | succ k => rw [hk] at e; cases e
  refine ng ?_
  clear ng
  refine ⟨F, ρ, ⟨⟨fun b o e => n₄.inv.f _ _ (n₄.pu.le _ _ e), fun b o e => n₄.inv.p _ _ (le2 _ _ e), I.top, fun i x e => ?_, fun i x e l => ?_, fun i j x y ex ey lx ly q => ?_⟩, ⟨(LM.gx.trans n₃.pu.gx).trans n₄.pu.gx, .refl _, fun _ _ => rfl⟩, fun _ _ _ => rfl⟩, ⟨W, rfl, rW.ofFlat rfl⟩⟩
  ·by_cases hi : i < 20
   ·rw [List.getElem?_append_left (by simpa using hi), List.getElem?_replicate, if_pos hi] at e
    cases e; trivial
   ·rw [List.getElem?_append_right (by simp; omega), List.length_replicate] at e
    cases hk : i - 20 with
    | zero =>
     have : i = 20 := by omega
     refine nG fun ng => ?_
     subst this
     refine ng ?_
     clear ng
     refine pe e ?_; clear e
     rw [hPt]
     exact ⟨qs, n₄.inv.p _ _ p2Pt, fun p e => by cases e⟩
    | succ k => rw [hk] at e; cases e
  ·have : i = 20 := end20 i x e l
   refine nG fun ng => ?_
   subst this
   refine ng ?_
   clear ng
   rw [hPt]; exact fr20
  ·rw [end20 i x ex lx, end20 j y ey ly]
 ·cases hf
end
section
variable {C : Cx} {X : zj}
noncomputable abbrev law0 : List zA := List.replicate 20 .dead ++ [.tab (some #[])]
noncomputable abbrev law1σ (ns : List Int) : List zA :=
 [.dead, .dead, .dead, .dead, .frame (List.replicate 12 none), .cell (some (.imm (.list (ns.map .int)))), .cell none, .cell none, .cell none, .cell none, .cell none, .dead, .dead, .dead, .dead, .dead, .dead, .dead, .dead, .dead, .tab (some #[])]
theorem rep_ints {F : PH} : ∀ {vs : List Value} {ns : List Int}, IntsAre vs ns -> RepL F (ns.map .int) vs
 | _, _, .nil => .nil
 | _, _, .cons n t r => .cons (.int n t) (rep_ints r)
theorem law_runs {K N fI Pt fp fr fg : Addr} {mN : Str -> Option Value} (T : Txt C K N mN fI Pt fp fr fg) (D : FnG C "law" (zD 24) ["script"]) {A : Around} {s : Shared} {ns : List Int} {vs : List Value} {a la : Addr} (hA : AL 0 A) (hP : PH.le C.P0 s.heap.get?) (hPt : s.heap.get? Pt = some (tabObj #[]))
  (ha : s.heap.get? a = some { cls := .type "list", data := .seq vs.toArray }) (hr : IntsAre vs ns) (hl : ns.length <= 63) (hla : C.mg "law" = some (.ref la)) (hrun : f_law1 cTail (law1σ ns) = some (.ret (.bool true), List.replicate 20 .dead ++ [.tab none])) :
  wpAny C.M A (call (.ref la) [.ref a]) (fun R s' => R = .bool true /\ (∀ b o, b ≠ Pt -> s.heap.get? b = some o -> s'.heap.get? b = some o) /\ (∃ qs, s'.heap.get? Pt = some (tabObj qs)) /\ GX s s') (fun _ _ => False) s := by
 refine nG fun ng => ?_
 obtain ⟨a', fd, hg, FA, hsc, hcl⟩ := D.ex
 rw [hla] at hg
 cases hg
 refine ng ?_
 clear ng
 generalize hPP : (fun b => if b = Pt then none else s.heap.get? b : PH) = PP
 have ppt : PP Pt = none := by rw [<- hPP]; exact if_pos rfl
 have ppo : ∀ b, b ≠ Pt -> PP b = s.heap.get? b := fun b q => by rw [<- hPP]; exact if_neg q
 have hat : a ≠ Pt := fun q => by rw [q, hPt] at ha; cases ha
 have ob : ∀ (i : Nat) (x : zA), law0[i]? = some x -> x.live = true -> i = 20 /\ x = .tab (some #[]) := fun i x e l => by
  by_cases hi : i < 20
  ·rw [List.getElem?_append_left (by simpa using hi), List.getElem?_replicate, if_pos hi] at e
   cases e; cases l
  ·rw [List.getElem?_append_right (by simp; omega)] at e
   by_cases h0 : i = 20
   ·subst h0; cases e; exact ⟨rfl, rfl⟩
   ·exfalso
    have : i - 20 >= 1 := by omega
    rw [List.length_replicate] at e
    cases hk : i - 20 with
    | zero => omega
    | succ k => rw [hk] at e; cases e
 have I0 : zb C (X_law1 Pt 0).N (fun b => if b = a then some { cls := .type "list", data := .seq vs.toArray } else none) PP (fun _ => Pt) law0 s.heap := by
  refine ⟨fun b o e => ?_, fun b o e => ?_, fun b o e => ?_, fun i o e => ?_, fun i o e l => ⟨if_neg (Ne.symm hat), ppt⟩, fun i j o1 o2 e1 e2 l1 l2 _ => ?_⟩
  ·by_cases q : b = a
   ·subst q
    have e' : (if b = b then some ({ cls := .type "list", data := .seq vs.toArray } : Obj) else none) = some o := e
    rw [if_pos rfl] at e'; cases e'; exact ha
   ·have e' : (if b = a then some ({ cls := .type "list", data := .seq vs.toArray } : Obj) else none) = some o := e
    rw [if_neg q] at e'; cases e'
  ·by_cases q : b = Pt
   ·rw [q, ppt] at e; cases e
   ·rw [ppo b q] at e; exact e
  ·have q : b ≠ Pt := fun q => by rw [q, T.lf.tab] at e; cases e
   rw [ppo b q]; exact hP _ _ e
  ·by_cases l : o.live = true
   ·obtain ⟨rfl, rfl⟩ := ob i o e l; exact ⟨_, hPt, fun p e => Option.some.inj e⟩
   ·by_cases hi : i < 20
    ·rw [List.getElem?_append_left (by simpa using hi), List.getElem?_replicate, if_pos hi] at e
     cases e; trivial
    ·rw [List.getElem?_append_right (by simp; omega)] at e
     by_cases h0 : i = 20
     ·subst h0; cases e; exact absurd rfl l
     ·exfalso
      rw [List.length_replicate] at e
      cases hk : i - 20 with
      | zero => omega
      | succ k => rw [hk] at e; cases e
  ·rw [(ob i o1 e1 l1).1, (ob j o2 e2 l2).1]
 have En : EntOK (X_law1 Pt 0) fd.scope [5, 6, 7, 8, 9, 10] [] ["script"] [.cell 5] := entOK_of hsc.symm (by rw [hsc]; kernel_rfl) (fun i b m => by
  rcases List.mem_cons.mp m with e | e
  ·cases e; exact ⟨by show 20 ∉ [4, 5, 6, 7, 8, 9, 10]; decide, by show 20 ∉ [11, 12, 13, 14, 15, 16, 17, 18, 19]; decide, List.not_mem_nil⟩
  ·cases e)
 have S := T.sps
 have hb := ok_law1 (n := 0) (tb := Pt) (by omega) T.G (S.letters.mono (by omega)) (S.written.mono (by omega)) (ok_tail T)
 rw [List.take_append_drop] at hb
 have rep : Rep (fun b => if b = a then some { cls := .type "list", data := .seq vs.toArray } else none) (.list (ns.map .int)) (.ref a) := by
  refine .list (n := 0) (vs := vs) ?_ (by rw [hr.length]; omega) ?_
  ·exact if_pos rfl
  ·exact rep_ints hr
 refine wpAny_mono (fn_run (X := X_law1 Pt 0) (nv := 12) (clo := []) (as := [.list (ns.map .int)]) (σ1 := law1σ ns) FA En hcl hb hA (by omega) rfl I0 (fun i b m => by
  refine nG fun ng => ?_
  rcases List.mem_cons.mp m with e | e
  ·refine ng ?_
   clear ng
   cases e; rfl
  ·refine ng ?_
   clear ng
   cases e) (by kernel_rfl) (.cons rep .nil) rfl rfl hrun) (fun R s' ⟨F', ρ', J, pu, rr, hρ⟩ => ?_) fun _ _ x => x
 have rr' : Rep F' (.bool true) R := rr
 refine nG fun ng => ?_
 cases rr'
 obtain ⟨qs, w1, _⟩ := J.ob 20 _ rfl
 refine ng ?_
 clear ng
 rw [hρ 20 (by show 20 ∉ [4, 5, 6, 7, 8, 9, 10]; decide) (by show 20 ∉ [11, 12, 13, 14, 15, 16, 17, 18, 19]; decide) List.not_mem_nil] at w1
 exact ⟨rfl, fun b o hb' e => J.p b o ((ppo b hb').trans e), ⟨qs, w1⟩, pu.gx⟩
end
section
set_option autoImplicit false
theorem idxs_drop {n : Nat} (h : 1 <= n) : idxs none (some (-1)) none n = List.range (n - 1) := by
 have e : sliceBounds none (some (-1)) none n = (((0 : Nat) : Int), ((n - 1 : Nat) : Int), 1) := by
  simp only [sliceBounds, Option.getD_none, show (1 : Int) > 0 by decide, if_true]
  congr 1
  congr 1
  rw [if_pos (by decide)]; omega
 unfold idxs
 rw [e]
 dsimp only
 rw [sliceRange_one]
 simp
theorem pick_range {s : List Nat} : ∀ k, k <= s.length -> (List.range k).filterMap (s[·]?) = s.take k
 | 0, _ => by simp
 | k + 1, h => by
  rw [List.range_succ, List.filterMap_append, pick_range k (by omega), List.take_add_one]
  rw [List.filterMap_cons]
  rw [List.getElem?_eq_getElem (show k < s.length by omega)]
  rfl
theorem drop_last {s : List Nat} (h : s ≠ []) (hl : s.length <= 16777216) : pvSlice (.str s) none (some (-1)) none = some (.str s.dropLast) := by
 have h1 : 1 <= s.length := by
  cases s with
  | nil => exact absurd rfl h
  | cons a s => simp
 show (if (none : Option Int) = some 0 \/ 16777216 < s.length then none else some (PV.str (pickS s none (some (-1)) none))) = _
 rw [if_neg (by simp; omega)]
 unfold pickS pick
 rw [idxs_drop h1]
 rw [if_neg (by simp; omega), pick_range _ (by omega), List.dropLast_eq_take]
theorem pick_ints (ns : List Int) (lo hi st : Option Int) : pick (ns.map PV.int) lo hi st = (pick ns lo hi st).map PV.int := by
 unfold pick
 rw [List.length_map, List.map_filterMap]
 congr 1
 funext i
 rw [List.getElem?_map]
theorem slice_ints {ns : List Int} (hl : ns.length <= 4096) {lo : Option Int} : pvSlice (.list (ns.map .int)) lo none (some 8) = some (.list ((pick ns lo none (some 8)).map .int)) := by
 show (if some (8 : Int) = some 0 \/ 4096 < (ns.map PV.int).length then none else some (PV.list (pick (ns.map PV.int) lo none (some 8)))) = _
 rw [if_neg (by rw [List.length_map]; simp; omega), pick_ints]
theorem sum_ints (ns : List Int) : hSum [.list (ns.map .int)] = some (.int ns.sum) := by
 show (match intsOf (ns.map .int) with | some ns => some (PV.int ns.sum) | none => none) = _
 rw [intsOf_map]
theorem sum_nats (K : List Nat) : hSum [nL K] = some (nI K.sum) := by
 have h : K.map nI = (K.map fun (n : Nat) => (n : Int)).map PV.int := by rw [List.map_map]; rfl
 have hsum : ∀ K : List Nat, (K.map fun (n : Nat) => (n : Int)).sum = ((K.sum : Nat) : Int) := fun K => by
  induction K with
  | nil => rfl
  | cons a K ih => rw [List.map_cons, List.sum_cons, List.sum_cons, ih]; push_cast; rfl
 show hSum [.list (K.map nI)] = _
 rw [h, sum_ints, hsum]
theorem hex_step {k n r : Nat} (h : 0 < 16 * n + r) (hr : r < 16) : hexL (k + 1) (16 * n + r) = hexL k n ++ [65 + r] := by
 rw [hexL, if_neg (by omega), show (16 * n + r) / 16 = n by omega, show (16 * n + r) % 16 = r by omega]
theorem hex_zero : ∀ k, hexL k 0 = []
 | 0 => rfl
 | k + 1 => by rw [hexL, if_pos rfl]
theorem hex_cons {k n r : Nat} {l : List Nat} (h : 0 < n /\ hexL k n = l) (hr : r < 8) : 0 < 16 * n + r /\ hexL (k + 1) (16 * n + r) = l ++ [65 + r] :=
 ⟨by omega, by rw [hex_step (by omega) (by omega), h.2]⟩
theorem hex_one (k : Nat) : 0 < 1 /\ hexL (k + 1) 1 = [66] := ⟨by omega, by
 have := hex_step (k := k) (n := 0) (r := 1) (by omega) (by omega)
 rw [hex_zero] at this
 exact this⟩
theorem hex_nine {c0 c1 c2 c3 c4 c5 c6 c7 : Nat} (h0 : c0 < 8) (h1 : c1 < 8) (h2 : c2 < 8) (h3 : c3 < 8) (h4 : c4 < 8) (h5 : c5 < 8) (h6 : c6 < 8) (h7 : c7 < 8) (k : Nat) :
  hexL (k + 1 + 1 + 1 + 1 + 1 + 1 + 1 + 1 + 1) (16 * (16 * (16 * (16 * (16 * (16 * (16 * (16 * 1 + c0) + c1) + c2) + c3) + c4) + c5) + c6) + c7) = [66] ++ [65 + c0] ++ [65 + c1] ++ [65 + c2] ++ [65 + c3] ++ [65 + c4] ++ [65 + c5] ++ [65 + c6] ++ [65 + c7] :=
 (hex_cons (hex_cons (hex_cons (hex_cons (hex_cons (hex_cons (hex_cons (hex_cons (hex_one k) h0) h1) h2) h3) h4) h5) h6) h7).2
theorem range8 {α : Type} (f : Nat -> α) : (List.range 8).map f = [f 0, f 1, f 2, f 3, f 4, f 5, f 6, f 7] := rfl
theorem sum8 (a b c d e f g h : Nat) : [a, b, c, d, e, f, g, h].sum = a + (b + (c + (d + (e + (f + (g + (h + 0))))))) := by
 rw [List.sum_cons, List.sum_cons, List.sum_cons, List.sum_cons, List.sum_cons, List.sum_cons, List.sum_cons, List.sum_cons, List.sum_nil]
theorem hex_word {c : Nat -> Nat} (h : ∀ k, c k < 8) :
  hexL 63 (4294967296 + ((List.range 8).map fun k => c k * 16 ^ (7 - k)).sum) = [66, 65 + c 0, 65 + c 1, 65 + c 2, 65 + c 3, 65 + c 4, 65 + c 5, 65 + c 6, 65 + c 7] /\ 4294967296 + ((List.range 8).map fun k => c k * 16 ^ (7 - k)).sum < 68719476736 := by
 have h0 := h 0
 have h1 := h 1
 have h2 := h 2
 have h3 := h 3
 have h4 := h 4
 have h5 := h 5
 have h6 := h 6
 have h7 := h 7
 rw [range8, sum8]
 simp only [Nat.reduceSub, Nat.reducePow]
 generalize c 0 = c0, c 1 = c1, c 2 = c2, c 3 = c3, c 4 = c4, c 5 = c5, c 6 = c6, c 7 = c7 at h0 h1 h2 h3 h4 h5 h6 h7 ⊢
 have e : 4294967296 + (c0 * 268435456 + (c1 * 16777216 + (c2 * 1048576 + (c3 * 65536 + (c4 * 4096 + (c5 * 256 + (c6 * 16 + (c7 * 1 + 0)))))))) = 16 * (16 * (16 * (16 * (16 * (16 * (16 * (16 * 1 + c0) + c1) + c2) + c3) + c4) + c5) + c6) + c7 := by omega
 rw [e]
 exact ⟨(hex_nine h0 h1 h2 h3 h4 h5 h6 h7 54).trans (by simp only [List.nil_append, List.cons_append]), by omega⟩
theorem text_read {W M : List Nat} {w0 w1 w2 w3 : Int} (hW : ∀ c ∈ W, c ≠ 9 /\ c ≠ 13) (hM : ∀ c ∈ M, c ≠ 9 /\ c ≠ 13) {N : List Nat} (hN : ∀ c ∈ N, c ≠ 9 /\ c ≠ 13) (aW : W.all (· < 1114112) = true) (aM : M.all (· < 1114112) = true) (aN : N.all (· < 1114112) = true) (lW : W.length <= 100) (lM : M.length <= 100) (lN : N.length <= 100) :
  ∃ text r1 r2 r3, [zu W w0, zu M w1, zu [] w2, zu N w3].flatten.dropLast = text /\ [zu W w0, zu M w1, zu [] w2, zu N w3].flatten ≠ [] /\ [zu W w0, zu M w1, zu [] w2, zu N w3].flatten.length <= 4000 /\ text.all (· < 1114112) = true /\ text.length <= 4000 /\ r1.length <= 4000 /\ r2.length <= 4000 /\ r3.length <= 4000 /\
   (∀ n, TokR (z7 text n) W r1) /\ (∀ n, TokR (z7 r1 n) M r2) /\ (∀ n, TokR (z7 r2 n) [] r3) /\ (∀ n, TokR (z7 r3 n) N []) := by
 refine nG fun ng => ?_
 obtain ⟨b0, e0, h0, t0, -⟩ := wrote_read W w0 hW
 obtain ⟨b1, e1, h1, t1, -⟩ := wrote_read M w1 hM
 obtain ⟨b2, e2, h2, t2, -⟩ := wrote_read [] w2 (fun c h => absurd h List.not_mem_nil)
 obtain ⟨b3, e3, h3, -, t3⟩ := wrote_read N w3 hN
 have l0 := wrote_len W w0
 have l1 := wrote_len M w1
 have l2 := wrote_len [] w2
 have l3 := wrote_len N w3
 have a0 := wrote_all w0 aW
 have a1 := wrote_all w1 aM
 have a2 := wrote_all (w := []) w2 rfl
 have a3 := wrote_all w3 aN
 rw [h0] at l0 a0
 rw [h1] at l1 a1
 rw [h2] at l2 a2
 rw [h3] at l3 a3
 refine ng ?_
 clear ng
 rw [h0, h1, h2, h3]
 have ef : [b0 ++ [e0], b1 ++ [e1], b2 ++ [e2], b3 ++ [e3]].flatten = (b0 ++ e0 :: (b1 ++ e1 :: (b2 ++ e2 :: b3))) ++ [e3] := by simp
 rw [ef, List.dropLast_concat]
 simp only [List.length_append, List.length_cons, List.length_nil] at l0 l1 l2 l3
 simp only [List.all_append, List.all_cons, List.all_nil, Bool.and_eq_true, Bool.and_true] at a0 a1 a2 a3
 refine ⟨_, b1 ++ e1 :: (b2 ++ e2 :: b3), b2 ++ e2 :: b3, b3, rfl, by simp, by simp; omega, ?_, by simp; omega, by simp; omega, by simp; omega, by omega, t0 _, t1 _, t2 _, t3⟩
 simp only [List.all_append, List.all_cons, Bool.and_eq_true]
 exact ⟨a0.1, a0.2, a1.1, a1.2, a2.1, a2.2, a3.1⟩
noncomputable def rulerOf (f : Nat) : List Int := [[3, 3, 1, 0], [3, 3, 1, 0, 5], [3, 3, 1, 1, 1, 1], [3, 3, 1, 127, 3], [3, 3, 1]].getD f []
theorem ruler_cut {f : Nat} (hf : f < 5) (c0 c1 c2 c3 c4 c5 c6 c7 : Nat) : ∃ sz more, cutOf [66, 65 + c0, 65 + c1, 65 + c2, 65 + c3, 65 + c4, 65 + c5, 65 + c6, 65 + c7] (rulerOf f) = some (sz, [[65 + c5, 65 + c6, 65 + c7], [65 + c2, 65 + c3, 65 + c4], [65 + c1]] ++ more) /\ (more = [[65 + c0], [66]] \/ more = [[66, 65 + c0]]) /\ sz = if 2 < (f : Int) then [3, 3, 1] else [3, 3, 1, 1, 1] := by
 have k5 : ∀ r, r ∈ rulers5 -> cutOf [66, 65 + c0, 65 + c1, 65 + c2, 65 + c3, 65 + c4, 65 + c5, 65 + c6, 65 + c7] r = some ([3, 3, 1, 1, 1], [[65 + c5, 65 + c6, 65 + c7], [65 + c2, 65 + c3, 65 + c4], [65 + c1]] ++ [[65 + c0], [66]]) := fun r h => by
  unfold cutOf
  dsimp only
  rw [if_pos h]; rfl
 have k3 : ∀ r, r ∉ rulers5 -> r ∈ rulers3 -> cutOf [66, 65 + c0, 65 + c1, 65 + c2, 65 + c3, 65 + c4, 65 + c5, 65 + c6, 65 + c7] r = some ([3, 3, 1], [[65 + c5, 65 + c6, 65 + c7], [65 + c2, 65 + c3, 65 + c4], [65 + c1]] ++ [[66, 65 + c0]]) := fun r h h' => by
  unfold cutOf
  dsimp only
  rw [if_neg h, if_pos h']; rfl
 have := lt5 hf
 refine nG fun ng => ?_
 rcases this with rfl | rfl | rfl | rfl | rfl
 ·refine ng ?_
  clear ng
  exact ⟨_, _, k5 _ (by decide), .inl rfl, rfl⟩
 ·refine ng ?_
  clear ng
  exact ⟨_, _, k5 _ (by decide), .inl rfl, rfl⟩
 ·refine ng ?_
  clear ng
  exact ⟨_, _, k5 _ (by decide), .inl rfl, rfl⟩
 ·refine ng ?_
  clear ng
  exact ⟨_, _, k3 _ (by decide) (by decide), .inr rfl, rfl⟩
 ·refine ng ?_
  clear ng
  exact ⟨_, _, k3 _ (by decide) (by decide), .inr rfl, rfl⟩
end
section
set_option autoImplicit false
theorem fmod_range (a : Int) {b : Int} (h : 0 < b) : 0 <= a.fmod b /\ a.fmod b < b := ⟨Int.fmod_nonneg_of_pos a h, Int.fmod_lt_of_pos a h⟩
noncomputable abbrev L1 (fr : List (Option AV)) (sc : PV) (ba cl tt wr : Option AV) : List zA :=
 [.dead, .dead, .dead, .dead, .frame fr, .cell (some (.imm sc)), .cell ba, .cell cl, .cell tt, .cell wr, .cell none, .dead, .dead, .dead, .dead, .dead, .dead, .dead, .dead, .dead, .tab (some #[])]
noncomputable abbrev FB (fm rl mk nb tx : Option AV) : List (Option AV) := [fm, rl, mk, nb, tx, none, none, none, none, none, none, none]
noncomputable abbrev baseN : List Nat := [5, 1, 6, 1, 4, 2, 4, 1]
noncomputable def z2 (ns : List Int) (k : Nat) : Nat := (((baseN.getD k 0 : Nat) : Int) + (pick ns (some (((k : Int) + 3).fmod 8)) none (some 8)).sum).fmod 8 |>.toNat
theorem cellN_lt (ns : List Int) (k : Nat) : z2 ns k < 8 := by
 have := fmod_range (((baseN.getD k 0 : Nat) : Int) + (pick ns (some (((k : Int) + 3).fmod 8)) none (some 8)).sum) (b := 8) (by decide)
 unfold z2
 omega
theorem cell_fmod (ns : List Int) (k : Nat) : (((baseN.getD k 0 : Nat) : Int) + (pick ns (some (((k : Int) + 3).fmod 8)) none (some 8)).sum).fmod 8 = ((z2 ns k : Nat) : Int) := by
 have := fmod_range (((baseN.getD k 0 : Nat) : Int) + (pick ns (some (((k : Int) + 3).fmod 8)) none (some 8)).sum) (b := 8) (by decide)
 unfold z2
 exact (Int.toNat_of_nonneg this.1).symm
theorem cells_eval {ns : List Int} (hl : ns.length <= 63) :
  zl 4 (.cell 7) (zy (.loc 0) 11 1 [] (zO zz (zB (cQ (.int 8)) zG)) zc e_law1_3) (L1 (FB none none none none none) (.list (ns.map .int)) (some (.imm (nL baseN))) none none none) =
   some (.next, L1 (FB none none none none none) (.list (ns.map .int)) (some (.imm (nL baseN))) (some (.imm (nL ((List.range 8).map (z2 ns))))) none none) := by
 have e1 : zy (.loc 0) 11 1 [] (zO zz (zB (cQ (.int 8)) zG)) zc e_law1_3 (L1 (FB none none none none none) (.list (ns.map .int)) (some (.imm (nL baseN))) none none none) =
   some (.list (((List.range 8).map nI).map fun p => match p with | .int k => nI (z2 ns k.toNat) | _ => .none), L1 (FB none none none none none) (.list (ns.map .int)) (some (.imm (nL baseN))) none none none) :=
  comp_eval' (ci := 11) (fe := e_law1_3) (fun p => match p with | .int k => nI (z2 ns k.toNat) | _ => .none) (σ1 := L1 (FB none none none none none) (.list (ns.map .int)) (some (.imm (nL baseN))) none none none) (u := .rng 0 8) rfl (rng_items (n := 8) (by decide)) (by simp) (by show 11 < 21; decide) (fun p hp => by
   obtain ⟨m, hm, rfl⟩ := List.mem_map.mp hp
   have hm' : m < 8 := List.mem_range.mp hm
   show _ = some (nI (z2 ns (m : Int).toNat), _)
   rw [Int.toNat_natCast]
   have hb : baseN[m]? = some (baseN.getD m 0) := by rw [List.getD_eq_getElem?_getD, List.getElem?_eq_getElem (show m < baseN.length from hm')]; rfl
   refine zr (zr (z9 rfl rfl (item_nL hb (by omega))) (za (z0 (e_slice (lo := some (((m : Int) + 3).fmod 8)) (hi := none) (st := some 8) rfl rfl rfl rfl (slice_ints (by omega)))) (sum_ints _)) rfl) rfl ?_
   show (if (0 : Int) < 8 then some (PV.int ((((baseN.getD m 0 : Nat) : Int) + (pick ns (some (((m : Int) + 3).fmod 8)) none (some 8)).sum).fmod 8)) else none) = _
   rw [if_pos (by decide), cell_fmod])
 have e2 : (((List.range 8).map nI).map fun p => match p with | .int k => nI (z2 ns k.toNat) | _ => .none) = ((List.range 8).map (z2 ns)).map nI := by
  rw [List.map_map, List.map_map]
  refine List.map_congr_left fun a _ => ?_
  show nI (z2 ns (a : Int).toNat) = nI (z2 ns a)
  rw [Int.toNat_natCast]
 rw [e2] at e1
 exact zp e1 rfl
theorem pow16 {m : Nat} (h : m <= 64) : hPow (.int 16) (nI m) = some (nI (16 ^ m)) := by
 show (if ((16 : Int) = 2 \/ (16 : Int) = 16 \/ (16 : Int) = 3) /\ 0 <= (m : Int) /\ (m : Int) <= 64 then some (PV.int ((16 : Int) ^ (m : Int).toNat)) else none) = _
 rw [if_pos ⟨.inr (.inl rfl), by omega, by omega⟩, Int.toNat_natCast]
 show some (PV.int ((16 : Int) ^ m)) = some (PV.int ((16 ^ m : Nat) : Int))
 rw [Int.natCast_pow]; rfl
theorem pow3 {m : Nat} (h : m <= 64) : hPow (.int 3) (nI m) = some (nI (3 ^ m)) := by
 show (if ((3 : Int) = 2 \/ (3 : Int) = 16 \/ (3 : Int) = 3) /\ 0 <= (m : Int) /\ (m : Int) <= 64 then some (PV.int ((3 : Int) ^ (m : Int).toNat)) else none) = _
 rw [if_pos ⟨.inr (.inr rfl), by omega, by omega⟩, Int.toNat_natCast]
 show some (PV.int ((3 : Int) ^ m)) = some (PV.int ((3 ^ m : Nat) : Int))
 rw [Int.natCast_pow]; rfl
theorem mul_nI {a b : Nat} (h : a < 512) : hMul (nI a) (nI b) = some (nI (a * b)) := by
 show (if 0 <= (a : Int) /\ (a : Int) < 512 then some (PV.int ((a : Int) * (b : Int))) else none) = _
 rw [if_pos ⟨by omega, by omega⟩, <- Int.natCast_mul]
noncomputable def numN (ns : List Int) : Nat := 4294967296 + ((List.range 8).map fun k => z2 ns k * 16 ^ (7 - k)).sum
theorem add_nI (a b : Nat) : hAdd (nI a) (nI b) = some (nI (a + b)) := by
 show some (PV.int ((a : Int) + (b : Int))) = _
 rw [<- Int.natCast_add]
theorem number_eval {ns : List Int} {fm rl mk tt : PV} {ba : PV} :
  zl 4 (.loc 3) (zh hAdd (zh hPow (cQ (.int 16)) (cQ (.int 8))) (zO hSum (zB (zy (.loc 0) 12 1 [] (zO zz (zB (cQ (.int 8)) zG)) zc e_law1_2) zG))) (L1 (FB (some (.imm fm)) (some (.imm rl)) (some (.imm mk)) none none) (.list (ns.map .int)) (some (.imm ba)) (some (.imm (nL ((List.range 8).map (z2 ns))))) (some (.imm tt)) none) =
   some (.next, L1 (FB (some (.imm fm)) (some (.imm rl)) (some (.imm mk)) (some (.imm (nI (numN ns)))) none) (.list (ns.map .int)) (some (.imm ba)) (some (.imm (nL ((List.range 8).map (z2 ns))))) (some (.imm tt)) none) := by
 have hc : ∀ k, k < 8 -> ((List.range 8).map (z2 ns))[k]? = some (z2 ns k) := fun k hk => by rw [List.getElem?_map, List.getElem?_range hk]; rfl
 generalize hC : (List.range 8).map (z2 ns) = Cs at hc
 have e1 : zy (.loc 0) 12 1 [] (zO zz (zB (cQ (.int 8)) zG)) zc e_law1_2 (L1 (FB (some (.imm fm)) (some (.imm rl)) (some (.imm mk)) none none) (.list (ns.map .int)) (some (.imm ba)) (some (.imm (nL Cs))) (some (.imm tt)) none) =
   some (.list (((List.range 8).map nI).map fun p => match p with | .int k => nI (z2 ns k.toNat * 16 ^ (7 - k.toNat)) | _ => .none), L1 (FB (some (.imm fm)) (some (.imm rl)) (some (.imm mk)) none none) (.list (ns.map .int)) (some (.imm ba)) (some (.imm (nL Cs))) (some (.imm tt)) none) :=
  comp_eval' (ci := 12) (fe := e_law1_2) (fun p => match p with | .int k => nI (z2 ns k.toNat * 16 ^ (7 - k.toNat)) | _ => .none) (σ1 := L1 (FB (some (.imm fm)) (some (.imm rl)) (some (.imm mk)) none none) (.list (ns.map .int)) (some (.imm ba)) (some (.imm (nL Cs))) (some (.imm tt)) none) (u := .rng 0 8) rfl (rng_items (n := 8) (by decide)) (by simp) (by show 12 < 21; decide) (fun p hp => by
   obtain ⟨m, hm, rfl⟩ := List.mem_map.mp hp
   have hm' : m < 8 := List.mem_range.mp hm
   show _ = some (nI (z2 ns (m : Int).toNat * 16 ^ (7 - (m : Int).toNat)), _)
   rw [Int.toNat_natCast]
   have h7 : hSub (.int 7) (nI m) = some (nI (7 - m)) := by
    show some (PV.int ((7 : Int) - (m : Int))) = some (PV.int ((7 - m : Nat) : Int))
    congr 2; omega
   exact zr (z9 rfl rfl (item_nL (hc m hm') (by omega))) (zr rfl (zr rfl rfl h7) (pow16 (by omega))) (mul_nI (by have := cellN_lt ns m; omega)))
 have e2 : (((List.range 8).map nI).map fun p => match p with | .int k => nI (z2 ns k.toNat * 16 ^ (7 - k.toNat)) | _ => .none) = ((List.range 8).map fun k => z2 ns k * 16 ^ (7 - k)).map nI := by
  rw [List.map_map, List.map_map]
  refine List.map_congr_left fun a _ => ?_
  show nI (z2 ns (a : Int).toNat * 16 ^ (7 - (a : Int).toNat)) = nI (z2 ns a * 16 ^ (7 - a))
  rw [Int.toNat_natCast]
 rw [e2] at e1
 have e16 : hPow (.int 16) (.int 8) = some (nI 4294967296) := pow16 (m := 8) (by decide)
 exact zp (zr (zr rfl rfl e16) (za (z0 e1) (sum_nats _)) (add_nI _ _)) rfl
noncomputable abbrev m0W : List Nat := [35, 110, 32, 34, 10, 11, 92]
noncomputable abbrev m2W : List Nat := [34, 116, 92, 35, 10]
noncomputable def wayN (T : Int) (k : Nat) : Int := (T.fdiv ((5 * 3 ^ k : Nat) : Int) + (([1, 2, 0, 0].getD k 0 : Nat) : Int)).fmod 3
theorem text_eval {fm rl mk nb sc ba cl : PV} {T : Int} {ws : List (List Nat)} {tx : List Nat} (hw : ws.length = 4) (ha : ∀ w ∈ ws, w.length <= 4000 /\ w.all (· < 1114112) = true)
  (hf : ((List.range 4).map fun k => zu (ws.getD k []) (wayN T k)).flatten.dropLast = tx) (hne : ((List.range 4).map fun k => zu (ws.getD k []) (wayN T k)).flatten ≠ []) (hfl : ((List.range 4).map fun k => zu (ws.getD k []) (wayN T k)).flatten.length <= 4000) :
  zl 4 (.loc 4) (cSlice (cMeth [11, 12, 13, 14, 15, 16, 17, 18, 19] "str" hJoin (zX (cQ (.str []))) (zB (zy (.loc 0) 13 1 [] (zO zz (zB (cQ (.int 4)) zG)) zc e_law1_1) zG)) cNo (cPt (cUn hNeg (cQ (.int 1)))) cNo) (L1 (FB (some (.imm fm)) (some (.imm rl)) (some (.imm mk)) (some (.imm nb)) none) sc (some (.imm ba)) (some (.imm cl)) (some (.imm (.int T))) (some (.imm (.list (ws.map .str))))) =
   some (.next, L1 (FB (some (.imm fm)) (some (.imm rl)) (some (.imm mk)) (some (.imm nb)) (some (.imm (.str tx)))) sc (some (.imm ba)) (some (.imm cl)) (some (.imm (.int T))) (some (.imm (.list (ws.map .str))))) := by
 have e1 : zy (.loc 0) 13 1 [] (zO zz (zB (cQ (.int 4)) zG)) zc e_law1_1 (L1 (FB (some (.imm fm)) (some (.imm rl)) (some (.imm mk)) (some (.imm nb)) none) sc (some (.imm ba)) (some (.imm cl)) (some (.imm (.int T))) (some (.imm (.list (ws.map .str))))) =
   some (.list (((List.range 4).map nI).map fun p => match p with | .int k => .str (zu (ws.getD k.toNat []) (wayN T k.toNat)) | _ => .none), L1 (FB (some (.imm fm)) (some (.imm rl)) (some (.imm mk)) (some (.imm nb)) none) sc (some (.imm ba)) (some (.imm cl)) (some (.imm (.int T))) (some (.imm (.list (ws.map .str))))) :=
  comp_eval' (ci := 13) (fe := e_law1_1) (fun p => match p with | .int k => .str (zu (ws.getD k.toNat []) (wayN T k.toNat)) | _ => .none) (σ1 := L1 (FB (some (.imm fm)) (some (.imm rl)) (some (.imm mk)) (some (.imm nb)) none) sc (some (.imm ba)) (some (.imm cl)) (some (.imm (.int T))) (some (.imm (.list (ws.map .str))))) (u := .rng 0 4) rfl (rng_items (n := 4) (by decide)) (by simp) (by show 13 < 21; decide) (fun p hp => by
   obtain ⟨m, hm, rfl⟩ := List.mem_map.mp hp
   have hm' : m < 4 := List.mem_range.mp hm
   show _ = some (PV.str (zu (ws.getD (m : Int).toNat []) (wayN T (m : Int).toNat)), _)
   rw [Int.toNat_natCast]
   have hv : ws[m]? = some (ws.getD m []) := by rw [List.getD_eq_getElem?_getD, List.getElem?_eq_getElem (show m < ws.length by omega)]; rfl
   have hv' : (ws.map PV.str)[m]? = some (.str (ws.getD m [])) := by rw [List.getElem?_map, hv]; rfl
   obtain ⟨hb1, hb2⟩ := ha _ (List.mem_of_getElem? hv)
   have hk : [1, 2, 0, 0][m]? = some ([1, 2, 0, 0].getD m 0) := by rw [List.getD_eq_getElem?_getD, List.getElem?_eq_getElem (show m < [1, 2, 0, 0].length from hm')]; rfl
   have h3 : 0 < 5 * 3 ^ m /\ 5 * 3 ^ m < 1073741824 := by
    have : m = 0 \/ m = 1 \/ m = 2 \/ m = 3 := lt4 (by first | assumption | omega)
    rcases this with rfl | rfl | rfl | rfl <;> decide
   have hfl : hFloor (.int T) (nI (5 * 3 ^ m)) = some (.int (T.fdiv ((5 * 3 ^ m : Nat) : Int))) := by
    show (if 0 < ((5 * 3 ^ m : Nat) : Int) /\ ((5 * 3 ^ m : Nat) : Int) < 1073741824 then some (PV.int (T.fdiv ((5 * 3 ^ m : Nat) : Int))) else none) = _
    rw [if_pos ⟨by omega, by omega⟩]
   refine za (z4 (z9 rfl rfl (item_L hv' (by omega))) (z0 (a := .int (wayN T m)) (zr (zr (zr rfl (zr rfl (zr rfl rfl (pow3 (by omega))) (mul_nI (a := 5) (by decide))) hfl) (z9 (p := nL [1, 2, 0, 0]) rfl rfl (item_nL hk (by omega))) rfl) rfl ?_))) ?_
   ·show (if (0 : Int) < 3 then some (PV.int ((T.fdiv ((5 * 3 ^ m : Nat) : Int) + (([1, 2, 0, 0].getD m 0 : Nat) : Int)).fmod 3)) else none) = _
    rw [if_pos (by decide)]; rfl
   ·show (if (ws.getD m []).length <= 4000 /\ (ws.getD m []).all (· < 1114112) = true then some (PV.str (zu (ws.getD m []) (wayN T m))) else none) = _
    rw [if_pos ⟨hb1, hb2⟩])
 have e2 : (((List.range 4).map nI).map fun p => match p with | .int k => .str (zu (ws.getD k.toNat []) (wayN T k.toNat)) | _ => .none) = ((List.range 4).map fun k => zu (ws.getD k []) (wayN T k)).map PV.str := by
  rw [List.map_map, List.map_map]
  refine List.map_congr_left fun a _ => ?_
  show PV.str (zu (ws.getD (a : Int).toNat []) (wayN T (a : Int).toNat)) = PV.str (zu (ws.getD a []) (wayN T a))
  rw [Int.toNat_natCast]
 rw [e2] at e1
 have hlen : (((List.range 4).map fun k => zu (ws.getD k []) (wayN T k)).map PV.str).length = 4 := by simp
 generalize (List.range 4).map (fun k => zu (ws.getD k []) (wayN T k)) = us at e1 hf hne hfl hlen
 have hs : ∀ us : List (List Nat), strsOf (us.map PV.str) = some us := fun us => by
  induction us with
  | nil => rfl
  | cons u us ih => show (match strsOf (us.map PV.str) with | some l => some (u :: l) | none => none) = _; rw [ih]
 have hj : hJoin [.str [], .list (us.map .str)] = some (.str us.flatten) := by
  show (match strsOf (us.map PV.str) with | some ss => if ss.flatten.length <= 1000000 /\ (us.map PV.str).length <= 1000000 then some (PV.str ss.flatten) else none | none => none) = _
  rw [hs]
  dsimp only
  rw [if_pos ⟨by omega, by omega⟩]
 have hd := drop_last hne (by omega)
 rw [hf] at hd
 exact zp (e_slice (lo := none) (hi := some (-1)) (st := none) (e_methI (p := .str []) rfl (z0 e1) rfl hj rfl) rfl rfl rfl hd) rfl
end
section
set_option autoImplicit false
theorem sum_fmod5 (T : Int) : ∃ f : Nat, f < 5 /\ T.fmod 5 = (f : Int) := by
 have := fmod_range T (b := 5) (by decide)
 exact ⟨(T.fmod 5).toNat, by omega, (Int.toNat_of_nonneg this.1).symm⟩
noncomputable abbrev rulersP : PV := .list [.list [.int 3, .int 3, .int 1, .int 0], .list [.int 3, .int 3, .int 1, .int 0, .int 5], .list [.int 3, .int 3, .int 1, .int 1, .int 1, .int 1], .list [.int 3, .int 3, .int 1, .int 127, .int 3], .list [.int 3, .int 3, .int 1]]
theorem ruler_item {f : Nat} (hf : f < 5) : zH rulersP (nI f) = some (.list ((rulerOf f).map .int)) := by
 have : f = 0 \/ f = 1 \/ f = 2 \/ f = 3 \/ f = 4 := lt5 (by first | assumption | omega)
 rcases this with rfl | rfl | rfl | rfl | rfl <;> rfl
noncomputable abbrev marksP : PV := .list [.str [35, 110, 32, 34, 10, 11, 92], .str [], .str [34, 116, 92, 35, 10]]
theorem base_eval {ns : List Int} :
  zl 4 (.cell 6) (z5 (zB (cQ (.int 5)) (zB (cQ (.int 1)) (zB (cQ (.int 6)) (zB (cQ (.int 1)) (zB (cQ (.int 4)) (zB (cQ (.int 2)) (zB (cQ (.int 4)) (zB (cQ (.int 1)) zG))))))))) (law1σ ns) =
   some (.next, L1 (FB none none none none none) (.list (ns.map .int)) (some (.imm (nL baseN))) none none none) := rfl
theorem total_eval {ns : List Int} {ba cl : Option AV} :
  zl 4 (.cell 8) (zO hSum (zB (zE (zK 5)) zG)) (L1 (FB none none none none none) (.list (ns.map .int)) ba cl none none) =
   some (.next, L1 (FB none none none none none) (.list (ns.map .int)) ba cl (some (.imm (.int ns.sum))) none) :=
 zp (za (z0 rfl) (sum_ints ns)) rfl
theorem form_eval {sc : PV} {ba cl : Option AV} {T : Int} {f : Nat} (hf : T.fmod 5 = (f : Int)) :
  zl 4 (.loc 0) (zh hMod (zE (zK 8)) (cQ (.int 5))) (L1 (FB none none none none none) sc ba cl (some (.imm (.int T))) none) =
   some (.next, L1 (FB (some (.imm (nI f))) none none none none) sc ba cl (some (.imm (.int T))) none) := by
 refine zp (zr rfl rfl ?_) rfl
 show (if (0 : Int) < 5 then some (PV.int (T.fmod 5)) else none) = _
 rw [if_pos (by decide), hf]
theorem ruler_eval {sc : PV} {ba cl tt : Option AV} {f : Nat} (hf : f < 5) :
  zl 4 (.loc 1) (z3 [11, 12, 13, 14, 15, 16, 17, 18, 19] zH (zX (z5 (zB (z5 (zB (cQ (.int 3)) (zB (cQ (.int 3)) (zB (cQ (.int 1)) (zB (cQ (.int 0)) zG))))) (zB (z5 (zB (cQ (.int 3)) (zB (cQ (.int 3)) (zB (cQ (.int 1)) (zB (cQ (.int 0)) (zB (cQ (.int 5)) zG)))))) (zB (z5 (zB (cQ (.int 3)) (zB (cQ (.int 3)) (zB (cQ (.int 1)) (zB (cQ (.int 1)) (zB (cQ (.int 1)) (zB (cQ (.int 1)) zG))))))) (zB (z5 (zB (cQ (.int 3)) (zB (cQ (.int 3)) (zB (cQ (.int 1)) (zB (cQ (.int 127)) (zB (cQ (.int 3)) zG)))))) (zB (z5 (zB (cQ (.int 3)) (zB (cQ (.int 3)) (zB (cQ (.int 1)) zG)))) zG))))))) (zE (zC 4 0))) (L1 (FB (some (.imm (nI f))) none none none none) sc ba cl tt none) =
   some (.next, L1 (FB (some (.imm (nI f))) (some (.imm (.list ((rulerOf f).map .int)))) none none none) sc ba cl tt none) :=
 zp (z9 (p := rulersP) rfl rfl (ruler_item hf)) rfl
theorem marks_eval {fr0 fr1 : Option AV} {sc : PV} {ba cl tt : Option AV} :
  zl 4 (.loc 2) (z5 (zB (cQ (.str [35, 110, 32, 34, 10, 11, 92])) (zB (cQ (.str [])) (zB (cQ (.str [34, 116, 92, 35, 10])) zG)))) (L1 (FB fr0 fr1 none none none) sc ba cl tt none) =
   some (.next, L1 (FB fr0 fr1 (some (.imm marksP)) none none) sc ba cl tt none) := rfl
theorem words_eval {fr0 fr1 : Option AV} {sc : PV} {ba cl tt : Option AV} {nb : Nat} {W : List Nat} (hn : nb < 68719476736) (hw : hexL 63 nb = W) :
  zl 4 (.cell 9) (zh hAdd (z5 (zB (zO zo (zB (zE (zC 4 3)) zG)) zG)) (zE (zC 4 2))) (L1 (FB fr0 fr1 (some (.imm marksP)) (some (.imm (nI nb))) none) sc ba cl tt none) =
   some (.next, L1 (FB fr0 fr1 (some (.imm marksP)) (some (.imm (nI nb))) none) sc ba cl tt (some (.imm (.list ([W, m0W, [], m2W].map .str))))) := by
 have hl : zo [nI nb] = some (.str W) := by
  show (if (nb : Int).natAbs < 2 ^ 200 then some (PV.str (hexL 63 (nb : Int).natAbs)) else none) = _
  rw [Int.natAbs_natCast, if_pos (Nat.lt_trans hn (by decide)), hw]
 exact zp (zr (e_list (z0 (za (z0 rfl) hl)) (by simp)) rfl rfl) rfl
theorem tail_at (ns : List Int) {f : Nat} (hf : f < 5) {W text : List Nat} {sc : PV}
  (hlen : text.length <= 4000) (hall : text.all (· < 1114112) = true)
  (hrun : ∀ (Z : LX) (feed : Addr), ∃ σ₂, f_law2 Z feed 8000 (LT Z feed 1 text (FA Z (f : Int) (rulerOf f) (nI (numN ns)) text none none none none none none) sc (nL baseN) ((List.range 8).map (z2 ns)) (.int ns.sum) (.list ([W, m0W, [], m2W].map .str)) none .dead) = some (.ret (.bool true), σ₂)) :
  TailAt text (L1 (FB (some (.imm (nI f))) (some (.imm (.list ((rulerOf f).map .int)))) (some (.imm marksP)) (some (.imm (nI (numN ns)))) (some (.imm (.str text)))) sc (some (.imm (nL baseN))) (some (.imm (nL ((List.range 8).map (z2 ns))))) (some (.imm (.int ns.sum))) (some (.imm (.list ([W, m0W, [], m2W].map .str))))) where
 len := hlen
 all := hall
 noO := rfl
 tab := rfl
 txt := rfl
 run := fun Z feed => let ⟨σ₂, h⟩ := hrun Z feed; ⟨_, σ₂, rfl, h⟩
theorem law_evals {ns : List Int} (hl : ns.length <= 63) : f_law1 cTail (law1σ ns) = some (.ret (.bool true), List.replicate 20 .dead ++ [.tab none]) := by
 refine nG fun ng => ?_
 obtain ⟨f, hf, hfm⟩ := sum_fmod5 ns.sum
 have hc := cellN_lt ns
 obtain ⟨hw, hn⟩ := hex_word hc
 have h0 := hc 0
 have h1 := hc 1
 have h2 := hc 2
 have h3 := hc 3
 have h4 := hc 4
 have h5 := hc 5
 have h6 := hc 6
 have h7 := hc 7
 obtain ⟨sz, more, hcut, hm, hsz⟩ := ruler_cut hf (z2 ns 0) (z2 ns 1) (z2 ns 2) (z2 ns 3) (z2 ns 4) (z2 ns 5) (z2 ns 6) (z2 ns 7)
 have hWn : ∀ c ∈ [66, 65 + z2 ns 0, 65 + z2 ns 1, 65 + z2 ns 2, 65 + z2 ns 3, 65 + z2 ns 4, 65 + z2 ns 5, 65 + z2 ns 6, 65 + z2 ns 7], c ≠ 9 /\ c ≠ 13 := fun c h => by
  simp only [List.mem_cons, List.not_mem_nil, or_false] at h
  have : 65 <= c := by rcases h with rfl | rfl | rfl | rfl | rfl | rfl | rfl | rfl | rfl <;> first | decide | exact Nat.le_add_right ..
  exact ⟨fun e => absurd (e ▸ this) (by decide), fun e => absurd (e ▸ this) (by decide)⟩
 have hWa : [66, 65 + z2 ns 0, 65 + z2 ns 1, 65 + z2 ns 2, 65 + z2 ns 3, 65 + z2 ns 4, 65 + z2 ns 5, 65 + z2 ns 6, 65 + z2 ns 7].all (· < 1114112) = true := by
  simp only [List.all_cons, List.all_nil, Bool.and_true, Bool.and_eq_true, decide_eq_true_eq]
  exact ⟨by decide, lt8 h0, lt8 h1, lt8 h2, lt8 h3, lt8 h4, lt8 h5, lt8 h6, lt8 h7⟩
 have htr := text_read (w0 := wayN ns.sum 0) (w1 := wayN ns.sum 1) (w2 := wayN ns.sum 2) (w3 := wayN ns.sum 3) hWn (M := m0W) (by decide) (N := m2W) (by decide) hWa (by decide) (by decide) (by simp) (by decide) (by decide)
 rcases htr with ⟨text, r1, r2, r3, et, ene, elen, eall, tlen, l1, l2, l3, t1, t2, t3, t4⟩
 generalize hW : [66, 65 + z2 ns 0, 65 + z2 ns 1, 65 + z2 ns 2, 65 + z2 ns 3, 65 + z2 ns 4, 65 + z2 ns 5, 65 + z2 ns 6, 65 + z2 ns 7] = W at hw hWn hWa et ene elen
 have hWl : W.length = 9 := by rw [<- hW]; rfl
 have s9 := text_eval (fm := nI f) (rl := .list ((rulerOf f).map .int)) (mk := marksP) (nb := nI (numN ns)) (sc := .list (ns.map .int)) (ba := nL baseN) (cl := nL ((List.range 8).map (z2 ns))) (T := ns.sum) (ws := [W, m0W, [], m2W]) rfl (fun w h => by
  simp only [List.mem_cons, List.not_mem_nil, or_false] at h
  rcases h with rfl | rfl | rfl | rfl
  ·exact ⟨by omega, hWa⟩
  ·exact ⟨by decide, by decide⟩
  ·exact ⟨by decide, by decide⟩
  ·exact ⟨by decide, by decide⟩) et ene elen
 have ta := tail_at ns hf (W := W) (sc := .list (ns.map .int)) tlen eall (fun Z feed => by
  subst hW
  exact law2_run (Z := Z) (feed := feed) (fm := (f : Int)) (rl := rulerOf f) h0 h1 h2 h3 h4 h5 h6 h7 hcut hm hsz eall tlen l1 l2 l3 t1 t2 t3 t4)
 have sT := show cTail _ = some (Fl.ret (.bool true), List.replicate 20 zA.dead ++ [.tab none]) from if_pos ⟨text, ta⟩
 refine ng ?_
 clear ng
 exact zF base_eval (zF (cells_eval hl) (zF total_eval (zF (form_eval hfm) (zF (ruler_eval hf) (zF marks_eval (zF number_eval (zF (words_eval hn hw) (zF s9 sT))))))))
end
section
noncomputable def fnOf (K : Frag) (a : Addr) : Option FuncData := match K.lookup a with
 | some ⟨_, _, .func fd, _⟩ => some fd
 | _ => none
noncomputable def codeQ (K : Frag) (c : Addr) : Option Str := match K.lookup c with
 | some ⟨_, _, .fields vs, _⟩ => (match (vs[1]? : Option Value) with | some (.str q _) => some q | _ => none)
 | _ => none
theorem fnOf_eq {K : Frag} {h : Heap} {a : Addr} {fd : FuncData} (X : K.In h) (e : fnOf K a = some fd) : ∃ o, K.lookup a = some o /\ h.get? a = some o /\ o.data = .func fd := by
 unfold fnOf at e
 refine nG fun ng => ?_
 split at e
 ·refine ng ?_
  clear ng
  rename_i c d fd' sl q; cases e; exact ⟨_, q, X _ _ q, rfl⟩
 ·cases e
theorem codeQ_eq {K : Frag} {h : Heap} {c : Addr} {q : Str} (X : K.In h) (e : codeQ K c = some q) : ∃ o vs t, h.get? c = some o /\ o.data = .fields vs /\ vs[1]? = some (.str q t) := by
 unfold codeQ at e
 refine nG fun ng => ?_
 split at e
 ·rename_i cl d vs sl w
  split at e
  ·refine ng ?_
   clear ng
   rename_i q' t w2; cases e; exact ⟨_, vs, t, X _ _ w, rfl, w2⟩
  ·cases e
 ·cases e
structure FnK (K : Frag) (a cc : Addr) (st : Stmt) (ps : List Str) (gen : Bool) : Prop where
 e1 : (fnOf K a).map (fun fd => (fd.scope, fd.body, fd.globals, fd.closure, fd.builtins, fd.code)) = some (zQ st, .stmts (zN st), mainGlobals, [], builtinsNs, .ref cc)
 e2 : (fnOf K a).bind (fun fd => (codeQ K cc).map fun q => (q == fd.qualname)) = some true
 e3 : (zQ st).isCoroutine = false /\ (zQ st).isGenerator = gen
 e4 : ∀ Vs : List Value, Vs.length = ps.length -> (fnOf K a).map (fun fd => bindArgs fd ⟨Vs, []⟩) = some (pure (ps.zip Vs))
section
variable {prog : Program} {w : World} {h : Heap} {mg mb : Str -> Option Value} {K : Frag} {Pt : Addr}
noncomputable abbrev cxP (h : Heap) (Pt : Addr) : PH := fun a => if a = Pt then none else h.get? a
theorem cxP_at {a : Addr} {o : Obj} (e : h.get? a = some o) (ha : a ≠ Pt) : cxP h Pt a = some o := by
 show (if a = Pt then none else h.get? a) = _
 rw [if_neg ha]; exact e
noncomputable def cxOf (prog : Program) (w : World) (h : Heap) (mg mb : Str -> Option Value) (Pt : Addr) (g : h.Ns mainGlobals mg) (b : h.Ns builtinsNs mb) (l : h.NoLimit) (bl : ∀ x : Str, x ≠ "__name__" -> mb x = bootBuiltins x) (p1 : mainGlobals ≠ Pt) (p2 : builtinsNs ≠ Pt) (p3 : cStatics ≠ Pt) : Cx where
 prog := prog
 w := w
 P0 := cxP h Pt
 mg := mg
 mb := mb
 ns := fun h' le => ns_keeps g fun o e => le _ _ (cxP_at e p1)
 bns := fun h' le => ns_keeps b fun o e => le _ _ (cxP_at e p2)
 lim := fun h' le => l.at fun o e => le _ _ (cxP_at e p3)
 blt := fun x v hx hv => (bl x hx).trans hv
inductive FnFacts (C : Cx) (K : Frag) (a cc : Addr) (st : Stmt) (ps : List Str) : Prop where
 | mk (o : Obj) (fd : FuncData) (h0 : K.lookup a = some o) (h1 : C.P0 a = some o) (h2 : o.data = .func fd) (h3 : fd.scope = zQ st) (h4 : fd.body = .stmts (zN st)) (h5 : fd.globals = mainGlobals) (h6 : fd.closure = []) (h7 : fd.builtins = builtinsNs) (h8 : fd.code = .ref cc)
  (h9 : ∀ h' : Heap, PH.le C.P0 h'.get? -> h'.CodeRec fd.code fd.qualname) (h10 : ∀ Vs : List Value, Vs.length = ps.length -> bindArgs fd ⟨Vs, []⟩ = pure (ps.zip Vs)) : FnFacts C K a cc st ps
inductive DefFacts (C : Cx) (K : Frag) (a cc : Addr) (st : Stmt) (ps : List Str) : Prop where
 | mk (o : Obj) (fd : FuncData) (h0 : K.lookup a = some o) (h1 : C.P0 a = some o) (h2 : o.data = .func fd) (d : DefAt C a fd (zN st) ps) (h3 : fd.scope = zQ st) (h4 : fd.closure = []) (h5 : fd.code = .ref cc) : DefFacts C K a cc st ps
variable {C : Cx} (hC : C.P0 = cxP h Pt) (X : K.In h)
include hC X
theorem fn_facts {a cc : Addr} {st : Stmt} {ps : List Str} {gen : Bool} (F : FnK K a cc st ps gen) (ha : a ≠ Pt) (hc : cc ≠ Pt) :
  FnFacts C K a cc st ps := by
 cases q : fnOf K a with
 | none => have := F.e1; rw [q] at this; cases this
 | some fd =>
  refine nG fun ng => ?_
  obtain ⟨o, h0, h1, h2⟩ := fnOf_eq X q
  have e1 := F.e1
  rw [q] at e1
  have e1' : (fd.scope, fd.body, fd.globals, fd.closure, fd.builtins, fd.code) = (zQ st, .stmts (zN st), mainGlobals, [], builtinsNs, .ref cc) := Option.some.inj e1
  simp only [Prod.mk.injEq] at e1'
  obtain ⟨a1, a2, a3, a4, a5, a6⟩ := e1'
  have e2 := F.e2
  rw [q] at e2
  refine ng ?_
  clear ng
  refine ⟨o, fd, h0, by rw [hC]; exact cxP_at h1 ha, h2, a1, a2, a3, a4, a5, a6, fun h' le => ?_, fun Vs hV => ?_⟩
  ·cases w : codeQ K cc with
   | none => rw [Option.bind_some, w] at e2; cases e2
   | some qn =>
    rw [Option.bind_some, w] at e2
    have hq : qn = fd.qualname := by
     have : (qn == fd.qualname) = true := Option.some.inj e2
     simpa using this
    refine nG fun ng => ?_
    subst hq
    obtain ⟨oc, vs, t, g1, g2, g3⟩ := codeQ_eq X w
    refine ng ?_
    clear ng
    exact ⟨cc, oc, vs, t, a6, le _ _ (by rw [hC]; exact cxP_at g1 hc), g2, g3⟩
  ·have e4 := F.e4 Vs hV
   rw [q] at e4
   exact Option.some.inj e4
theorem defAt_of {a cc : Addr} {st : Stmt} {ps : List Str} (F : FnK K a cc st ps false) (ha : a ≠ Pt) (hc : cc ≠ Pt) : DefFacts C K a cc st ps := by
 refine nG fun ng => ?_
 obtain ⟨o, fd, h0, h1, h2, a1, a2, a3, a4, a5, a6, a7, a8⟩ := fn_facts hC X F ha hc
 refine ng ?_
 clear ng
 exact ⟨o, fd, h0, h1, h2, ⟨⟨o, h1, h2⟩, by rw [a1]; exact F.e3.1, by rw [a1]; exact F.e3.2, a2, a7, a3, a5, a8⟩, a1, a4, a6⟩
theorem fnG_of {x : Str} {a cc : Addr} {st : Stmt} {ps : List Str} (hx : C.mg x = some (.ref a)) (F : FnK K a cc st ps false) (ha : a ≠ Pt) (hc : cc ≠ Pt) : FnG C x st ps := by
 refine nG fun ng => ?_
 obtain ⟨o, fd, _, _, _, h3, h4, h5, _⟩ := defAt_of hC X F ha hc
 refine ng ?_
 clear ng
 exact ⟨a, fd, hx, h3, h4, h5⟩
theorem mthG_of {mN : Str -> Option Value} {x : Str} {a cc : Addr} {st : Stmt} {ps : List Str} (hx : mN x = some (.ref a)) (F : FnK K a cc st ps false) (hcl : (K.lookup a).map (·.cls) = some (.type "function")) (ha : a ≠ Pt) (hc : cc ≠ Pt) : MthG C mN x st ps a := by
 refine nG fun ng => ?_
 obtain ⟨o, fd, h0, h1, h2, h3, h4, h5, _⟩ := defAt_of hC X F ha hc
 rw [h0] at hcl
 refine ng ?_
 clear ng
 exact ⟨hx, ⟨o, fd, h1, Option.some.inj hcl, h2⟩, ⟨fd, h3, h4, h5⟩⟩
end
end
section
theorem ns_some_of {K : Frag} {h : Heap} {N : Addr} {mN : Str -> Option Value} {n : Str} {v : Value} (X : K.In h) (G : h.Ns N mN) (e : nsIn K N n = some (some v)) : mN n = some v := by
 refine nG fun ng => ?_
 obtain ⟨o, es, ep, ho, hd, _, hf⟩ := G
 unfold nsIn at e
 split at e
 ·rename_i c d es' n' sl q
  have := X _ _ q
  rw [ho] at this
  cases this
  cases hd
  split at e
  ·rename_i en he
   cases e
   refine ng ?_
   clear ng
   rw [<- hf]
   unfold nsFind findBy
   rw [<- Array.find?_toList, he]
   rfl
  ·refine ng ?_
   clear ng
   split at e <;> cases e
 ·cases e
noncomputable def intAt (K : Frag) (x : Str) : Option Int := match nsIn K mainGlobals x with
 | some (some (.int i _)) => some i
 | _ => none
theorem int_of {K : Frag} {h : Heap} {mg : Str -> Option Value} {x : Str} {i : Int} (X : K.In h) (G : h.Ns mainGlobals mg) (e : intAt K x = some i) : ∃ t, mg x = some (.int i t) := by
 unfold intAt at e
 refine nG fun ng => ?_
 split at e
 ·refine ng ?_
  clear ng
  rename_i j t q; cases e; exact ⟨t, ns_some_of X G q⟩
 ·cases e
structure Looks1 (K : Frag) : Prop where
 no : ∀ x, bltUsed.contains x = true -> nsIn K mainGlobals x = some none
 nt : intAt K "NT_OFFSET" = some 256
 em : intAt K "ENDMARKER" = some 0
 cm : intAt K "CHAR_MAX" = some 127
 bm : nsIn K mainGlobals "__builtins__" = some (some (.ref 4))
 cls : nsIn K mainGlobals "_netrclex" = some (some (.ref 87))
 obj : ∃ nm q bs sn sub col dd k0 k1 k2 k3 k5, K.lookup 87 = some (excClassObj nm q 87 86 bs [.type "object"] true sn sub false col dd k0 k1 k2 k3 k5 "object.__new__")
 ns : nsOkIn K 86 = true
 mno : ∀ x, x ∈ (["__getattribute__", "__getattr__", "__setattr__", "lineno", "instream", "whitespace", "pushback", "read"] : List Str) -> nsIn K 86 x = some none
 mi : nsIn K 86 "__init__" = some (some (.ref 63))
 mr : nsIn K 86 "_read_char" = some (some (.ref 70))
 mg : nsIn K 86 "get_token" = some (some (.ref 77))
 mp : nsIn K 86 "push_token" = some (some (.ref 84))
 fi : FnK K 63 62 initSt ["self", "fp"] false /\ (K.lookup 63).map (·.cls) = some (.type "function")
 fr : FnK K 70 69 readSt ["self"] false /\ (K.lookup 70).map (·.cls) = some (.type "function")
 fg : FnK K 77 76 getSt ["self"] false /\ (K.lookup 77).map (·.cls) = some (.type "function")
 fp : FnK K 84 83 (fdIn (zD 12) 3) ["self", "token"] false /\ (K.lookup 84).map (·.cls) = some (.type "function")
 lx : nsIn K mainGlobals "_law_lexer" = some (some (.ref 98)) /\ FnK K 98 97 lexSt ["text"] false /\ codeHdIn K 97 93 = true
 gi : nsIn K mainGlobals "_grouping_intervals" = some (some (.ref 49)) /\ FnK K 49 48 (zD 10) ["grouping"] true
 f1 : nsIn K mainGlobals "ISTERMINAL" = some (some (.ref 21)) /\ FnK K 21 20 (zD 3) ["x"] false
 f2 : nsIn K mainGlobals "ISNONTERMINAL" = some (some (.ref 28)) /\ FnK K 28 27 (zD 4) ["x"] false
 f3 : nsIn K mainGlobals "ISEOF" = some (some (.ref 35)) /\ FnK K 35 34 (zD 5) ["x"] false
 f4 : nsIn K mainGlobals "Int2AP" = some (some (.ref 42)) /\ FnK K 42 41 (zD 7) ["num"] false
 f5 : nsIn K mainGlobals "_law_letters" = some (some (.ref 103)) /\ FnK K 103 102 (zD 15) ["number"] false
 f6 : nsIn K mainGlobals "_law_number" = some (some (.ref 110)) /\ FnK K 110 109 (zD 16) ["word"] false
 f7 : nsIn K mainGlobals "_law_written" = some (some (.ref 115)) /\ FnK K 115 114 (zD 17) ["word", "way"] false
 f8 : nsIn K mainGlobals "_law_cut" = some (some (.ref 122)) /\ FnK K 122 121 (zD 18) ["word", "ruler"] false
 f9 : nsIn K mainGlobals "_law_symbol" = some (some (.ref 129)) /\ FnK K 129 128 (zD 19) ["some", "good"] false
 f10 : nsIn K mainGlobals "_law_goes" = some (some (.ref 136)) /\ FnK K 136 135 (zD 20) ["symbol"] false
 f11 : nsIn K mainGlobals "_law_kind" = some (some (.ref 141)) /\ FnK K 141 140 (zD 21) ["symbol"] false
 f12 : nsIn K mainGlobals "_law_turned" = some (some (.ref 146)) /\ FnK K 146 145 (zD 22) ["lexer", "mark", "leads", "first", "good"] false
 f13 : nsIn K mainGlobals "_law_least" = some (some (.ref 151)) /\ FnK K 151 150 (zD 23) ["leads", "first", "ends"] false
 f14 : nsIn K mainGlobals "law" = some (some (.ref 156)) /\ FnK K 156 155 (zD 24) ["script"] false
section
variable {prog : Program} {w : World} {h : Heap} {mg mb : Str -> Option Value} {K : Frag}
theorem txt_of {C : Cx} (hC : C.P0 = cxP h 93) (X : K.In h) (g : h.Ns mainGlobals C.mg) (L : Looks1 K) (bmn : ∃ bm ob, C.mg "__builtins__" = some (.ref bm) /\ bm ≠ builtinsNs /\ h.get? bm = some ob /\ ob.cls = .type "module" /\ ob.dict = some builtinsNs /\ ob.data = .plain) :
  Txt C 87 86 (h.nsMap 86) 63 93 84 70 77 /\ FnG C "law" (zD 24) ["script"] /\ C.mg "law" = some (.ref 156) := by
 have nN : h.Ns 86 (h.nsMap 86) := .of_isNs (isNs_of_in X L.ns)
 have mno : ∀ x, x ∈ (["__getattribute__", "__getattr__", "__setattr__", "lineno", "instream", "whitespace", "pushback", "read"] : List Str) -> h.nsMap 86 x = none := fun x hx => ns_none_of X nN (L.mno x hx)
 have mgs : ∀ {x : Str} {a : Addr}, nsIn K mainGlobals x = some (some (.ref a)) -> C.mg x = some (.ref a) := fun e => ns_some_of X g e
 have mns : ∀ {x : Str} {a : Addr}, nsIn K 86 x = some (some (.ref a)) -> h.nsMap 86 x = some (.ref a) := fun e => ns_some_of X nN e
 have G : GlB C := ⟨fun x hx => ns_none_of X g (L.no x hx), int_of X g L.nt, int_of X g L.em⟩
 have up : ∀ {h' : Heap} {b : Addr} {o : Obj}, PH.le C.P0 h'.get? -> b ≠ 93 -> h.get? b = some o -> h'.get? b = some o := fun le hb e => le _ _ (by rw [hC]; exact cxP_at e hb)
 refine nG fun ng => ?_
 obtain ⟨oi, fdi, i0, i1, i2, i3, i4, i5, _⟩ := defAt_of hC X L.fi.1 (by decide) (by decide)
 have hio := L.fi.2
 rw [i0] at hio
 have kls : KlsC C 87 86 (h.nsMap 86) 63 := by
  refine ⟨fun h' le => ⟨?_, ns_keeps nN fun o e => up le (by decide) e⟩, mno _ (by decide +kernel), mno _ (by decide +kernel), mno _ (by decide +kernel), mns L.mi, ⟨oi, i1, Option.some.inj hio⟩, fun a ha => mno a ?_, ⟨fdi, i3, i4, i5⟩⟩
  ·obtain ⟨nm, q, bs, sn, sub, col, dd, k0, k1, k2, k3, k5, e⟩ := L.obj
   exact ⟨nm, q, bs, sn, sub, col, dd, k0, k1, k2, k3, k5, up le (by decide) (X _ _ e)⟩
  ·have : a ∈ (["lineno", "instream", "whitespace", "pushback", "read"] : List Str) := ha
   exact List.mem_cons_of_mem _ (List.mem_cons_of_mem _ (List.mem_cons_of_mem _ this))
 obtain ⟨op, fdp, p0, p1, p2, p3, p4, p5, _⟩ := defAt_of hC X L.fp.1 (by decide) (by decide)
 have hpo := L.fp.2
 rw [p0] at hpo
 obtain ⟨ol, fdl, l0, l1, l2, l3, l4, l5, l6⟩ := defAt_of hC X L.lx.2.1 (by decide) (by decide)
 obtain ⟨nm, q, bs, sn, sub, col, dd, k0, k1, k2, k3, k5, eK⟩ := L.obj
 have lf : LexFn C 87 86 (h.nsMap 86) 63 93 84 := by
  refine ⟨kls, mgs L.cls, ⟨98, fdl, 97, mgs L.lx.1, l3, l4, l5, l6, fun h' le => ?_⟩, by rw [hC]; exact if_pos rfl, fun h' le hn => ?_, mns L.mp, ⟨fdp, p3, p4, p5⟩, ⟨op, fdp, p1, Option.some.inj hpo, p2⟩, mno _ (by decide +kernel), ⟨_, by rw [hC]; exact cxP_at (X _ _ eK) (by decide)⟩⟩
  ·have hcd : CodeHd h 97 93 := codeHd_of_K X L.lx.2.2
   obtain ⟨o, vs, file, tf, flags, tg, inF, text, tt, e, r⟩ := hcd
   exact ⟨o, vs, file, tf, flags, tg, inF, text, tt, up le (by decide) e, r⟩
  ·obtain ⟨bm, ob, b1, b2, b3, b4, b5, b6⟩ := bmn
   have : bm = 4 := by
    have := mgs L.bm
    rw [b1] at this; cases this; rfl
   subst this
   exact ⟨4, ob, b1, b2, by decide, by decide, up le (by decide) b3, b4, b5, b6⟩
 have gi : GiFn C := by
  obtain ⟨o, fd, _, h1, h2, a1, a2, a3, a4, a5, a6, a7, a8⟩ := fn_facts hC X L.gi.2 (by decide) (by decide)
  exact ⟨int_of X g L.cm, 49, o, fd, mgs L.gi.1, h1, h2, by rw [a1]; exact L.gi.2.e3.1, by rw [a1]; exact L.gi.2.e3.2, a2, a7, a3, a5, a1, a4, fun v => a8 [v] rfl⟩
 refine ng ?_
 clear ng
 refine ⟨⟨G, lf, gi, mthG_of hC X (mns L.mr) L.fr.1 L.fr.2 (by decide) (by decide), mthG_of hC X (mns L.mg) L.fg.1 L.fg.2 (by decide) (by decide), fnG_of hC X (mgs L.f1.1) L.f1.2 (by decide) (by decide), fnG_of hC X (mgs L.f2.1) L.f2.2 (by decide) (by decide), fnG_of hC X (mgs L.f3.1) L.f3.2 (by decide) (by decide), fnG_of hC X (mgs L.f4.1) L.f4.2 (by decide) (by decide),
  fnG_of hC X (mgs L.f5.1) L.f5.2 (by decide) (by decide), fnG_of hC X (mgs L.f6.1) L.f6.2 (by decide) (by decide), fnG_of hC X (mgs L.f7.1) L.f7.2 (by decide) (by decide), fnG_of hC X (mgs L.f8.1) L.f8.2 (by decide) (by decide), fnG_of hC X (mgs L.f9.1) L.f9.2 (by decide) (by decide), fnG_of hC X (mgs L.f10.1) L.f10.2 (by decide) (by decide),
  fnG_of hC X (mgs L.f11.1) L.f11.2 (by decide) (by decide), fnG_of hC X (mgs L.f12.1) L.f12.2 (by decide) (by decide), fnG_of hC X (mgs L.f13.1) L.f13.2 (by decide) (by decide)⟩, fnG_of hC X (mgs L.f14.1) L.f14.2 (by decide) (by decide), mgs L.f14.1⟩
end
end
section
noncomputable def fdPs : Stmt -> Arguments
 | .FunctionDef _ a _ _ _ _ _ _ _ _ => a
 | _ => default
noncomputable def fnO (st : Stmt) (nm qn m : Str) (t : Nat) (c : Addr) : Obj :=
 { cls := .type "function", data := .func { name := nm, qualname := qn, params := fdPs st, body := .stmts (zN st), scope := zQ st, globals := 3, closure := [], defaults := .none, kwdefaults := .none, pyModule := .str m t, code := .ref c } }
noncomputable def coO (nm qn : Str) (t : Nat) (l ac fl : Int) (r8 : Addr) (r11 r13 r14 r15 : Value) (t16 : Nat) : Obj :=
 { cls := .type "code", data := .fields #[.str nm t, .str qn (t + 1), .str "/claim/cut.py" (t + 2), .int l 0, .int ac 0, .int 0 0, .int 0 0, .int fl 0, .ref r8, .bool true, .int 181 0, r11, .none, r13, r14, r15, .int t16 0, .int l 0, .str "/claim/cut.py" (t16 + 1)] }
noncomputable def heapK (P : Params) : Frag :=
 let e (x : Str) (t : Nat) (v : Value) : DictEntry := { hash := PyData.keyHash P x, key := .str x t, val := v }
 [(2, { cls := .none, data := .dict #[] }),
 (3, { cls := .type "dict", data := .dict #[e "__name__" 165 (.str "law_wo0015_01" 299), e "__doc__" 166 .none, e "__package__" 167 .none, e "__loader__" 168 (.builtin "__main__.__loader__#opaque"), e "__spec__" 169 .none, e "__annotations__" 170 (.ref 6), e "__builtins__" 171 (.ref 4), e "__file__" 173 (.str "/claim/cut.py" 172), e "__cached__" 174 .none, e "ENDMARKER" 190 (.int 0 189), e "NT_OFFSET" 192 (.int 256 191), e "ISTERMINAL" 199 (.ref 21), e "ISNONTERMINAL" 206 (.ref 28), e "ISEOF" 213 (.ref 35), e "Int2AP" 225 (.ref 42), e "CHAR_MAX" 229 (.int 127 228), e "_grouping_intervals" 238 (.ref 49), e "_netrclex" 298 (.ref 87), e "_law_lexer" 310 (.ref 98), e "_law_letters" 316 (.ref 103), e "_law_number" 325 (.ref 110), e "_law_written" 331 (.ref 115), e "_law_cut" 342 (.ref 122), e "_law_symbol" 350 (.ref 129), e "_law_goes" 357 (.ref 136), e "_law_kind" 363 (.ref 141), e "_law_turned" 369 (.ref 146), e "_law_least" 375 (.ref 151), e "law" 381 (.ref 156)] 29 }),
 (20, coO "ISTERMINAL" "ISTERMINAL" 193 4 1 3 15 (.ref 16) (.ref 17) (.ref 18) (.ref 19) 197),
 (21, fnO (zD 3) "ISTERMINAL" "ISTERMINAL" "cpy313.token" 187 20),
 (27, coO "ISNONTERMINAL" "ISNONTERMINAL" 200 6 1 3 22 (.ref 23) (.ref 24) (.ref 25) (.ref 26) 204),
 (28, fnO (zD 4) "ISNONTERMINAL" "ISNONTERMINAL" "cpy313.token" 187 27),
 (34, coO "ISEOF" "ISEOF" 207 8 1 3 29 (.ref 30) (.ref 31) (.ref 32) (.ref 33) 211),
 (35, fnO (zD 5) "ISEOF" "ISEOF" "cpy313.token" 187 34),
 (41, coO "Int2AP" "Int2AP" 216 11 1 3 36 (.ref 37) (.ref 38) (.ref 39) (.ref 40) 223),
 (42, fnO (zD 7) "Int2AP" "Int2AP" "cpy313.imaplib" 214 41),
 (48, coO "_grouping_intervals" "_grouping_intervals" 230 21 1 35 43 (.ref 44) (.ref 45) (.ref 46) (.ref 47) 236),
 (49, fnO (zD 10) "_grouping_intervals" "_grouping_intervals" "cpy313.locale" 226 48),
 (62, coO "__init__" "_netrclex.__init__" 253 36 2 3 57 (.ref 58) (.ref 59) (.ref 60) (.ref 61) 258),
 (63, fnO (fdIn (zD 12) 0) "__init__" "_netrclex.__init__" "cpy313.netrc" 239 62),
 (69, coO "_read_char" "_netrclex._read_char" 261 42 1 3 64 (.ref 65) (.ref 66) (.ref 67) (.ref 68) 266),
 (70, fnO (fdIn (zD 12) 1) "_read_char" "_netrclex._read_char" "cpy313.netrc" 239 69),
 (76, coO "get_token" "_netrclex.get_token" 269 48 1 3 71 (.ref 72) (.ref 73) (.ref 74) (.ref 75) 276),
 (77, fnO (fdIn (zD 12) 2) "get_token" "_netrclex.get_token" "cpy313.netrc" 239 76),
 (83, coO "push_token" "_netrclex.push_token" 279 75 2 3 78 (.ref 79) (.ref 80) (.ref 81) (.ref 82) 284),
 (84, fnO (fdIn (zD 12) 3) "push_token" "_netrclex.push_token" "cpy313.netrc" 239 83),
 (86, { cls := .type "dict", data := .dict #[e "__module__" 248 (.str "cpy313.netrc" 239), e "__firstlineno__" 252 (.int 34 251), e "__init__" 260 (.ref 63), e "_read_char" 268 (.ref 70), e "get_token" 278 (.ref 77), e "push_token" 286 (.ref 84), e "__static_attributes__" 291 (.ref 85), e "__dict__" 293 (.ref 88), e "__weakref__" 295 (.ref 89), e "__doc__" 296 .none] 4 }),
 (87, { cls := .type "type", data := .cls { name := "_netrclex", bases := [.type "object"], mro := [.ref 87, .type "object"], ns := 86, qualname := "_netrclex" }, slots := #[none, none, some (.str "_netrclex" 241), some (.str "_netrclex" 249), some (.builtin "object.__new__"), some (.bool true)] }),
 (97, coO "_law_lexer" "_law_lexer" 301 78 1 3 92 (.ref 93) (.ref 94) (.ref 95) (.ref 96) 308),
 (98, fnO (zD 14) "_law_lexer" "_law_lexer" "law_wo0015_01" 299 97),
 (102, coO "_law_letters" "_law_letters" 311 89 1 3 99 (.ref 100) .none .none (.ref 101) 314),
 (103, fnO (zD 15) "_law_letters" "_law_letters" "law_wo0015_01" 299 102),
 (109, coO "_law_number" "_law_number" 317 94 1 3 104 (.ref 105) (.ref 106) (.ref 107) (.ref 108) 323),
 (110, fnO (zD 16) "_law_number" "_law_number" "law_wo0015_01" 299 109),
 (114, coO "_law_written" "_law_written" 326 99 2 3 111 (.ref 112) .none .none (.ref 113) 329),
 (115, fnO (zD 17) "_law_written" "_law_written" "law_wo0015_01" 299 114),
 (121, coO "_law_cut" "_law_cut" 332 106 2 3 116 (.ref 117) (.ref 118) (.ref 119) (.ref 120) 340),
 (122, fnO (zD 18) "_law_cut" "_law_cut" "law_wo0015_01" 299 121),
 (128, coO "_law_symbol" "_law_symbol" 343 118 2 3 123 (.ref 124) (.ref 125) (.ref 126) (.ref 127) 348),
 (129, fnO (zD 19) "_law_symbol" "_law_symbol" "law_wo0015_01" 299 128),
 (135, coO "_law_goes" "_law_goes" 351 122 1 3 130 (.ref 131) (.ref 132) (.ref 133) (.ref 134) 355),
 (136, fnO (zD 20) "_law_goes" "_law_goes" "law_wo0015_01" 299 135),
 (140, coO "_law_kind" "_law_kind" 358 128 1 3 137 (.ref 138) .none .none (.ref 139) 361),
 (141, fnO (zD 21) "_law_kind" "_law_kind" "law_wo0015_01" 299 140),
 (145, coO "_law_turned" "_law_turned" 364 131 5 3 142 (.ref 143) .none .none (.ref 144) 367),
 (146, fnO (zD 22) "_law_turned" "_law_turned" "law_wo0015_01" 299 145),
 (150, coO "_law_least" "_law_least" 370 152 3 3 147 (.ref 148) .none .none (.ref 149) 373),
 (151, fnO (zD 23) "_law_least" "_law_least" "law_wo0015_01" 299 150),
 (155, coO "law" "law" 376 178 1 3 152 (.ref 153) .none .none (.ref 154) 379),
 (156, fnO (zD 24) "law" "law" "law_wo0015_01" 299 155)]
noncomputable abbrev heapA : List Addr := [2, 3, 20, 21, 27, 28, 34, 35, 41, 42, 48, 49, 62, 63, 69, 70, 76, 77, 83, 84, 86, 87, 97, 98, 102, 103, 109, 110, 114, 115, 121, 122, 128, 129, 135, 136, 140, 141, 145, 146, 150, 151, 155, 156]
theorem vlen1 {P : List Value -> Prop} (h : ∀ a, P [a]) : ∀ Vs : List Value, Vs.length = 1 -> P Vs
 | [a], _ => h a
theorem vlenS {P : List Value -> Prop} {n : Nat} (h : ∀ a, ∀ Vs : List Value, Vs.length = n -> P (a :: Vs)) : ∀ Vs : List Value, Vs.length = n + 1 -> P Vs
 | a :: Vs, e => h a Vs (Nat.succ.inj e)
theorem vlen2 {P : List Value -> Prop} (h : ∀ a b, P [a, b]) : ∀ Vs : List Value, Vs.length = 2 -> P Vs := vlenS fun a => vlen1 fun b => h a b
theorem vlen3 {P : List Value -> Prop} (h : ∀ a b c, P [a, b, c]) : ∀ Vs : List Value, Vs.length = 3 -> P Vs := vlenS fun a => vlen2 fun b c => h a b c
theorem vlen5 {P : List Value -> Prop} (h : ∀ a b c d e, P [a, b, c, d, e]) : ∀ Vs : List Value, Vs.length = 5 -> P Vs := vlenS fun a => vlenS fun b => vlen3 fun c d e => h a b c d e
theorem looks1 (P : Params) : Looks1 (heapK P) where
 no := fun x hx => by
  have : x ∈ bltUsed := List.contains_iff_mem.mp hx
  simp only [bltUsed, List.mem_cons, List.not_mem_nil, or_false] at this
  rcases this with rfl | rfl | rfl | rfl | rfl | rfl | rfl | rfl | rfl | rfl | rfl | rfl | rfl <;> kernel_rfl
 nt := by kernel_rfl
 em := by kernel_rfl
 cm := by kernel_rfl
 bm := by kernel_rfl
 cls := by kernel_rfl
 obj := ⟨_, _, _, _, _, _, _, _, _, _, _, _, rfl⟩
 ns := by kernel_rfl
 mno := fun x hx => by
  simp only [List.mem_cons, List.not_mem_nil, or_false] at hx
  rcases hx with rfl | rfl | rfl | rfl | rfl | rfl | rfl | rfl <;> kernel_rfl
 mi := by kernel_rfl
 mr := by kernel_rfl
 mg := by kernel_rfl
 mp := by kernel_rfl
 fi := ⟨⟨by kernel_rfl, by kernel_rfl, ⟨by kernel_rfl, by kernel_rfl⟩, vlen2 fun a b => by kernel_rfl⟩, by kernel_rfl⟩
 fr := ⟨⟨by kernel_rfl, by kernel_rfl, ⟨by kernel_rfl, by kernel_rfl⟩, vlen1 fun a => by kernel_rfl⟩, by kernel_rfl⟩
 fg := ⟨⟨by kernel_rfl, by kernel_rfl, ⟨by kernel_rfl, by kernel_rfl⟩, vlen1 fun a => by kernel_rfl⟩, by kernel_rfl⟩
 fp := ⟨⟨by kernel_rfl, by kernel_rfl, ⟨by kernel_rfl, by kernel_rfl⟩, vlen2 fun a b => by kernel_rfl⟩, by kernel_rfl⟩
 lx := ⟨by kernel_rfl, ⟨by kernel_rfl, by kernel_rfl, ⟨by kernel_rfl, by kernel_rfl⟩, vlen1 fun a => by kernel_rfl⟩, by kernel_rfl⟩
 gi := ⟨by kernel_rfl, ⟨by kernel_rfl, by kernel_rfl, ⟨by kernel_rfl, by kernel_rfl⟩, vlen1 fun a => by kernel_rfl⟩⟩
 f1 := ⟨by kernel_rfl, ⟨by kernel_rfl, by kernel_rfl, ⟨by kernel_rfl, by kernel_rfl⟩, vlen1 fun a => by kernel_rfl⟩⟩
 f2 := ⟨by kernel_rfl, ⟨by kernel_rfl, by kernel_rfl, ⟨by kernel_rfl, by kernel_rfl⟩, vlen1 fun a => by kernel_rfl⟩⟩
 f3 := ⟨by kernel_rfl, ⟨by kernel_rfl, by kernel_rfl, ⟨by kernel_rfl, by kernel_rfl⟩, vlen1 fun a => by kernel_rfl⟩⟩
 f4 := ⟨by kernel_rfl, ⟨by kernel_rfl, by kernel_rfl, ⟨by kernel_rfl, by kernel_rfl⟩, vlen1 fun a => by kernel_rfl⟩⟩
 f5 := ⟨by kernel_rfl, ⟨by kernel_rfl, by kernel_rfl, ⟨by kernel_rfl, by kernel_rfl⟩, vlen1 fun a => by kernel_rfl⟩⟩
 f6 := ⟨by kernel_rfl, ⟨by kernel_rfl, by kernel_rfl, ⟨by kernel_rfl, by kernel_rfl⟩, vlen1 fun a => by kernel_rfl⟩⟩
 f7 := ⟨by kernel_rfl, ⟨by kernel_rfl, by kernel_rfl, ⟨by kernel_rfl, by kernel_rfl⟩, vlen2 fun a b => by kernel_rfl⟩⟩
 f8 := ⟨by kernel_rfl, ⟨by kernel_rfl, by kernel_rfl, ⟨by kernel_rfl, by kernel_rfl⟩, vlen2 fun a b => by kernel_rfl⟩⟩
 f9 := ⟨by kernel_rfl, ⟨by kernel_rfl, by kernel_rfl, ⟨by kernel_rfl, by kernel_rfl⟩, vlen2 fun a b => by kernel_rfl⟩⟩
 f10 := ⟨by kernel_rfl, ⟨by kernel_rfl, by kernel_rfl, ⟨by kernel_rfl, by kernel_rfl⟩, vlen1 fun a => by kernel_rfl⟩⟩
 f11 := ⟨by kernel_rfl, ⟨by kernel_rfl, by kernel_rfl, ⟨by kernel_rfl, by kernel_rfl⟩, vlen1 fun a => by kernel_rfl⟩⟩
 f12 := ⟨by kernel_rfl, ⟨by kernel_rfl, by kernel_rfl, ⟨by kernel_rfl, by kernel_rfl⟩, vlen5 fun a b c d e => by kernel_rfl⟩⟩
 f13 := ⟨by kernel_rfl, ⟨by kernel_rfl, by kernel_rfl, ⟨by kernel_rfl, by kernel_rfl⟩, vlen3 fun a b c => by kernel_rfl⟩⟩
 f14 := ⟨by kernel_rfl, ⟨by kernel_rfl, by kernel_rfl, ⟨by kernel_rfl, by kernel_rfl⟩, vlen1 fun a => by kernel_rfl⟩⟩
end
section
@[reducible] def lawR : OpenRow := PySem.Challenge.rw_wo0015_01.row
noncomputable abbrev lawQ : Program := view PySem.Challenge.pw_wo0015_01 [1, 2, 3, 4, 5, 7, 9, 10, 12, 14, 15, 16, 17, 18, 19, 20, 21, 22, 23, 24]
noncomputable abbrev lawD : DefRec := { name := "law", params := fdPs (zD 24), body := zN (zD 24), scope := zQ (zD 24), pos := ⟨178, 0, 201, 108⟩ }
noncomputable abbrev lawH : Hook := kmHook heapK heapA (fun _ => by kernel_rfl) [93]
theorem law_left : LeftO lawR.prog lawQ [] (fun s => xlAt lawQ [] s && recOk (RowW.records lawR.toRowW) s) (Hook.obs lawH) (Hook.val lawH) 1838 := fun w => by kernel_rfl
theorem law_said : PySem.Challenge.rw_wo0015_01.wellSaid = true := by kernel_rfl
theorem law_row (hw : lawR.toRowW.promised) (hc : WalkO lawQ [] (XL lawQ []) (Hook.says lawH) lawR.toRowW lawD [] fun f vs => PySem.call f vs) : PySem.Challenge.rw_wo0015_01.Holds := by
 refine holds_law law_said fun said => ?_
 exact holds_open (r := lawR) (q := lawQ) (loose := []) (Xt := fun s => xlAt lawQ [] s && recOk (RowW.records lawR.toRowW) s) (XP := XL lawQ []) (Yf := Hook.obs lawH) (Ya := Hook.val lawH) (YP := Hook.says lawH) (d := lawD) (kwd := []) (N := 1838) law_left (Hook.of lawH) (Hook.keeps lawH) (fun s e => xl_of s (Bool.and_eq_true_iff.mp e).1) XL.keeps (by kernel_rfl) (by kernel_rfl) (by kernel_rfl) (fun s e => recFacts_of (Bool.and_eq_true_iff.mp e).2) (by kernel_rfl) said (by kernel_rfl) ⟨rfl, rfl, rfl, rfl, rfl, by decide +kernel⟩ hw hc
theorem law_wit : lawR.toRowW.promised := by w_witness2
theorem well_list {P : Params} {h : Heap} {a : Addr} {xs : List WData} (W : Well P h (.ref a) (.list xs)) : ∃ vs : List Value, h.get? a = some { cls := .type "list", data := .seq vs.toArray } := by
 cases W with
 | list e _ => exact ⟨_, e⟩
theorem all_holds : PySem.Challenge.rw_wo0015_01.Holds := law_row law_wit (by
 intro w s₀ s₁ mg mb G Y fa o pm cd doc dV kV ho hd hcd hD hmg hg args vals as hpre hlay hrd hwl hlo
 have KX := km_in_of Y
 have KT := km_tabs_of Y
 have X := (Ground.X G).1
 have V := (Ground.X G).2
 refine Ground.open G ?_
 intro T B D TE TW
 try (refine guard_noD D (by decide +kernel) ?_; clear D)
 wrow_args hpre hlay hrd hwl hlo
 rename_i ns hs hlay0 hL1 hr1 hl2 as1 as2 la vs as3 hL ra w1 r0 hI hr hcond1 hcond2
 obtain ⟨hT, hLaw, hmgL⟩ := BZ.txt_of (C := BZ.cxOf PySem.Challenge.rw_wo0015_01.row.prog w s₁.heap mg mb 93 T.g T.b T.nolimit T.builtins (by decide) (by decide) (by decide)) rfl KX T.g (BZ.looks1 _) T.bmain
 have hfa : fa = 156 := by
  have e : (some (Value.ref fa) : Option Value) = some (.ref 156) := hmg.symm.trans hmgL
  cases e; rfl
 subst hfa
 obtain ⟨vs', hv⟩ := BZ.well_list w1
 obtain ⟨oL, hoL, _, nL, hdL⟩ := hL
 rw [hv] at hoL
 cases hoL
 have hvs : vs' = vs := by
  have e := hdL
  simp only [Data.seq.injEq] at e
  simpa using e.1
 subst hvs
 have hPt := KT 93 (by simp)
 have hk97 : CodeHd s₁.heap 97 93 := codeHd_of_K KX (BZ.looks1 _).lx.2.2
 refine wpAny_mono (BZ.law_runs hT hLaw ⟨rfl, by decide, by decide⟩ (fun b o e => ?_) hPt hv hI (by omega) hmgL (BZ.law_evals (by omega))) (fun R s' hR => ?_) (fun _ _ x => x.elim)
 ·have e' : (if b = 93 then none else s₁.heap.get? b) = some o := e
  by_cases q : b = 93
  ·rw [if_pos q] at e'; cases e'
  ·rw [if_neg q] at e'; exact e'
 ·obtain ⟨rfl, keep, ⟨qs, hq⟩, gx⟩ := hR
  refine ⟨.inl ⟨.bool true, .bool true, [], rfl, fun cls => ?_, .bool _, ?_, fun _ => ⟨List.nodup_nil, fun a ha => by cases ha⟩⟩, ⟨fun b o e => ?_, fun b o e => ?_⟩, gx.os, gx.bare (by rw [hg]; exact fun x hx => by simp at hx)⟩
  ·rfl
  ·kernel_rfl
  ·by_cases q : b = 93
   ·subst q
    rw [hPt] at e; cases e
    refine .inr (.inl ⟨?_, rfl, #[], qs, rfl, ?_⟩)
    ·obtain ⟨oc, vc, _, _, _, _, _, _, _, c1, c2, c3, c4, _⟩ := hk97
     exact ⟨97, oc, vc, c1, c2, c3, c4⟩
    ·rw [hq]; simp
   ·exact .inl (keep b o q e)
  ·by_cases q : b = 93
   ·subst q; exact ⟨_, hq⟩
   ·exact ⟨o, keep b o q e⟩)
end
end BZ
theorem PySem.Challenge.cw_wo0015_01_holds : PySem.Challenge.rw_wo0015_01.Holds :=
 BZ.all_holds
