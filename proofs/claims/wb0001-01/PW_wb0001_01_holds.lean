import PyProof.Rows.All
import Wide.All
import OpenK.AllK
import Wide.FinOn
import Lean
import PySem.Challenge.RW_wb0001_01
open PySem PySem.W PyProof.Rows
set_option Elab.async false
set_option maxRecDepth 100000
set_option maxHeartbeats 8000000
set_option linter.unusedVariables false
set_option linter.all false
set_option tactic.hygienic false
namespace Mine
section
theorem e0a2  {A0 A1 : Prop} {P : Prop} (h : A0 ∧ A1) (k : A0 → A1 → P) : P:=k h.1 h.2
theorem e0a3  {A0 A1 A2 : Prop} {P : Prop} (h : A0 ∧ A1 ∧ A2) (k : A0 → A1 → A2 → P) : P:=e0a2 h.2 (k h.1)
theorem e0a4  {A0 A1 A2 A3 : Prop} {P : Prop} (h : A0 ∧ A1 ∧ A2 ∧ A3) (k : A0 → A1 → A2 → A3 → P) : P:=e0a3 h.2 (k h.1)
theorem e0a5  {A0 A1 A2 A3 A4 : Prop} {P : Prop} (h : A0 ∧ A1 ∧ A2 ∧ A3 ∧ A4) (k : A0 → A1 → A2 → A3 → A4 → P) : P:=e0a4 h.2 (k h.1)
theorem e0a6  {A0 A1 A2 A3 A4 A5 : Prop} {P : Prop} (h : A0 ∧ A1 ∧ A2 ∧ A3 ∧ A4 ∧ A5) (k : A0 → A1 → A2 → A3 → A4 → A5 → P) : P:=e0a5 h.2 (k h.1)
theorem e0a7  {A0 A1 A2 A3 A4 A5 A6 : Prop} {P : Prop} (h : A0 ∧ A1 ∧ A2 ∧ A3 ∧ A4 ∧ A5 ∧ A6) (k : A0 → A1 → A2 → A3 → A4 → A5 → A6 → P) : P:=e0a6 h.2 (k h.1)
theorem e0a8  {A0 A1 A2 A3 A4 A5 A6 A7 : Prop} {P : Prop} (h : A0 ∧ A1 ∧ A2 ∧ A3 ∧ A4 ∧ A5 ∧ A6 ∧ A7) (k : A0 → A1 → A2 → A3 → A4 → A5 → A6 → A7 → P) : P:=e0a7 h.2 (k h.1)
theorem e0a9  {A0 A1 A2 A3 A4 A5 A6 A7 A8 : Prop} {P : Prop} (h : A0 ∧ A1 ∧ A2 ∧ A3 ∧ A4 ∧ A5 ∧ A6 ∧ A7 ∧ A8) (k : A0 → A1 → A2 → A3 → A4 → A5 → A6 → A7 → A8 → P) : P:=e0a8 h.2 (k h.1)
theorem e0a10  {A0 A1 A2 A3 A4 A5 A6 A7 A8 A9 : Prop} {P : Prop} (h : A0 ∧ A1 ∧ A2 ∧ A3 ∧ A4 ∧ A5 ∧ A6 ∧ A7 ∧ A8 ∧ A9) (k : A0 → A1 → A2 → A3 → A4 → A5 → A6 → A7 → A8 → A9 → P) : P:=e0a9 h.2 (k h.1)
theorem e0a11  {A0 A1 A2 A3 A4 A5 A6 A7 A8 A9 A10 : Prop} {P : Prop} (h : A0 ∧ A1 ∧ A2 ∧ A3 ∧ A4 ∧ A5 ∧ A6 ∧ A7 ∧ A8 ∧ A9 ∧ A10) (k : A0 → A1 → A2 → A3 → A4 → A5 → A6 → A7 → A8 → A9 → A10 → P) : P:=e0a10 h.2 (k h.1)
theorem e1a1 {α : Type} {A0 : α → Prop} {P : Prop} (h : ∃ x0,A0 x0) (k : ∀ x0,A0 x0 → P) : P:=h.elim fun x h=>k x h
theorem e1a2 {α : Type} {A0 A1 : α → Prop} {P : Prop} (h : ∃ x0,A0 x0 ∧ A1 x0) (k : ∀ x0,A0 x0 → A1 x0 → P) : P:=h.elim fun x h=>e0a2 h (k x)
theorem e1a3 {α : Type} {A0 A1 A2 : α → Prop} {P : Prop} (h : ∃ x0,A0 x0 ∧ A1 x0 ∧ A2 x0) (k : ∀ x0,A0 x0 → A1 x0 → A2 x0 → P) : P:=h.elim fun x h=>e0a3 h (k x)
theorem e1a4 {α : Type} {A0 A1 A2 A3 : α → Prop} {P : Prop} (h : ∃ x0,A0 x0 ∧ A1 x0 ∧ A2 x0 ∧ A3 x0) (k : ∀ x0,A0 x0 → A1 x0 → A2 x0 → A3 x0 → P) : P:=h.elim fun x h=>e0a4 h (k x)
theorem e1a5 {α : Type} {A0 A1 A2 A3 A4 : α → Prop} {P : Prop} (h : ∃ x0,A0 x0 ∧ A1 x0 ∧ A2 x0 ∧ A3 x0 ∧ A4 x0) (k : ∀ x0,A0 x0 → A1 x0 → A2 x0 → A3 x0 → A4 x0 → P) : P:=h.elim fun x h=>e0a5 h (k x)
theorem e1a6 {α : Type} {A0 A1 A2 A3 A4 A5 : α → Prop} {P : Prop} (h : ∃ x0,A0 x0 ∧ A1 x0 ∧ A2 x0 ∧ A3 x0 ∧ A4 x0 ∧ A5 x0) (k : ∀ x0,A0 x0 → A1 x0 → A2 x0 → A3 x0 → A4 x0 → A5 x0 → P) : P:=h.elim fun x h=>e0a6 h (k x)
theorem e1a11 {α : Type} {A0 A1 A2 A3 A4 A5 A6 A7 A8 A9 A10 : α → Prop} {P : Prop} (h : ∃ x0,A0 x0 ∧ A1 x0 ∧ A2 x0 ∧ A3 x0 ∧ A4 x0 ∧ A5 x0 ∧ A6 x0 ∧ A7 x0 ∧ A8 x0 ∧ A9 x0 ∧ A10 x0) (k : ∀ x0,A0 x0 → A1 x0 → A2 x0 → A3 x0 → A4 x0 → A5 x0 → A6 x0 → A7 x0 → A8 x0 → A9 x0 → A10 x0 → P) : P:=h.elim fun x h=>e0a11 h (k x)
theorem e2a1 {α : Type} {β : Type} {A0 : α → β → Prop} {P : Prop} (h : ∃ x0 x1,A0 x0 x1) (k : ∀ x0 x1,A0 x0 x1 → P) : P:=h.elim fun x h=>e1a1 h (k x)
theorem e2a2 {α : Type} {β : Type} {A0 A1 : α → β → Prop} {P : Prop} (h : ∃ x0 x1,A0 x0 x1 ∧ A1 x0 x1) (k : ∀ x0 x1,A0 x0 x1 → A1 x0 x1 → P) : P:=h.elim fun x h=>e1a2 h (k x)
theorem e2a3 {α : Type} {β : Type} {A0 A1 A2 : α → β → Prop} {P : Prop} (h : ∃ x0 x1,A0 x0 x1 ∧ A1 x0 x1 ∧ A2 x0 x1) (k : ∀ x0 x1,A0 x0 x1 → A1 x0 x1 → A2 x0 x1 → P) : P:=h.elim fun x h=>e1a3 h (k x)
theorem e2a4 {α : Type} {β : Type} {A0 A1 A2 A3 : α → β → Prop} {P : Prop} (h : ∃ x0 x1,A0 x0 x1 ∧ A1 x0 x1 ∧ A2 x0 x1 ∧ A3 x0 x1) (k : ∀ x0 x1,A0 x0 x1 → A1 x0 x1 → A2 x0 x1 → A3 x0 x1 → P) : P:=h.elim fun x h=>e1a4 h (k x)
theorem e2a6 {α : Type} {β : Type} {A0 A1 A2 A3 A4 A5 : α → β → Prop} {P : Prop} (h : ∃ x0 x1,A0 x0 x1 ∧ A1 x0 x1 ∧ A2 x0 x1 ∧ A3 x0 x1 ∧ A4 x0 x1 ∧ A5 x0 x1) (k : ∀ x0 x1,A0 x0 x1 → A1 x0 x1 → A2 x0 x1 → A3 x0 x1 → A4 x0 x1 → A5 x0 x1 → P) : P:=h.elim fun x h=>e1a6 h (k x)
theorem e2a11 {α : Type} {β : Type} {A0 A1 A2 A3 A4 A5 A6 A7 A8 A9 A10 : α → β → Prop} {P : Prop} (h : ∃ x0 x1,A0 x0 x1 ∧ A1 x0 x1 ∧ A2 x0 x1 ∧ A3 x0 x1 ∧ A4 x0 x1 ∧ A5 x0 x1 ∧ A6 x0 x1 ∧ A7 x0 x1 ∧ A8 x0 x1 ∧ A9 x0 x1 ∧ A10 x0 x1) (k : ∀ x0 x1,A0 x0 x1 → A1 x0 x1 → A2 x0 x1 → A3 x0 x1 → A4 x0 x1 → A5 x0 x1 → A6 x0 x1 → A7 x0 x1 → A8 x0 x1 → A9 x0 x1 → A10 x0 x1 → P) : P:=h.elim fun x h=>e1a11 h (k x)
theorem e3a2 {α : Type} {β : Type} {γ : Type} {A0 A1 : α → β → γ → Prop} {P : Prop} (h : ∃ x0 x1 x2,A0 x0 x1 x2 ∧ A1 x0 x1 x2) (k : ∀ x0 x1 x2,A0 x0 x1 x2 → A1 x0 x1 x2 → P) : P:=h.elim fun x h=>e2a2 h (k x)
theorem e3a3 {α : Type} {β : Type} {γ : Type} {A0 A1 A2 : α → β → γ → Prop} {P : Prop} (h : ∃ x0 x1 x2,A0 x0 x1 x2 ∧ A1 x0 x1 x2 ∧ A2 x0 x1 x2) (k : ∀ x0 x1 x2,A0 x0 x1 x2 → A1 x0 x1 x2 → A2 x0 x1 x2 → P) : P:=h.elim fun x h=>e2a3 h (k x)
theorem e3a4 {α : Type} {β : Type} {γ : Type} {A0 A1 A2 A3 : α → β → γ → Prop} {P : Prop} (h : ∃ x0 x1 x2,A0 x0 x1 x2 ∧ A1 x0 x1 x2 ∧ A2 x0 x1 x2 ∧ A3 x0 x1 x2) (k : ∀ x0 x1 x2,A0 x0 x1 x2 → A1 x0 x1 x2 → A2 x0 x1 x2 → A3 x0 x1 x2 → P) : P:=h.elim fun x h=>e2a4 h (k x)
theorem e4a4 {α : Type} {β : Type} {γ : Type} {δ : Type} {A0 A1 A2 A3 : α → β → γ → δ → Prop} {P : Prop} (h : ∃ x0 x1 x2 x3,A0 x0 x1 x2 x3 ∧ A1 x0 x1 x2 x3 ∧ A2 x0 x1 x2 x3 ∧ A3 x0 x1 x2 x3) (k : ∀ x0 x1 x2 x3,A0 x0 x1 x2 x3 → A1 x0 x1 x2 x3 → A2 x0 x1 x2 x3 → A3 x0 x1 x2 x3 → P) : P:=h.elim fun x h=>e3a4 h (k x)
end
inductive V where
  | none
  | bool (b : Bool)
  | int (i : Int)
  | str (s : Str)
  | ref (i : Nat)
  | tup (vs : List V)
  | rng (a b c : Int)
  | fn (k : Nat)
  | clo (k : Nat) (cs : List Nat)
  | frz (xs : List Int)
inductive L where
  | ints (xs : List Int)
  | vals (vs : List V)
noncomputable def L.vs : L → List V
  | .ints xs=>xs.map .int
  | .vals vs=>vs
set_option genInjectivity false
set_option genSizeOf false
structure Lam where
  params : Arguments
  body : PySem.Expr
  scope : Scope
  qual : Str
  names : List Str
structure Cx where
  prog : Program
  w : World
  s₀ : Shared
  h₀ : Heap
  mg : Str → Option Value
  mb : Str → Option Value
  fn : Nat → Option Addr
  lams : Nat → Option Lam
  tabs : List (Addr × Addr × Str)
noncomputable def Cx.ptabs (X : Cx) : List Addr:=X.tabs.map (·.2.1)
noncomputable def CodeC (h : Heap) (cd : Value) (q : Str) : Prop:=∃ c o vs t,cd = .ref c ∧ h.get? c = some o ∧ o.cls = .type "code" ∧ o.data = .fields vs ∧ vs[1]? = some (.str q t)
theorem CodeC.rec {h : Heap} {cd : Value} {q : Str} (x : CodeC h cd q) : h.CodeRec cd q :=
  let ⟨c,o,vs,t,e,a,_,b,d⟩:=x; ⟨c,o,vs,t,e,a,b,d⟩
noncomputable def Stable (o : Obj) : Prop:=(∃ its n,o.data = .seq its n ∧ o.cls = .type "tuple") ∨ (∃ vs,o.data = .fields vs ∧ (o.cls = .type "range" ∨ o.cls = .type "code")) ∨ (∃ fd,o.data = .func fd)
noncomputable def Stab (h h' : Heap) : Prop:=∀ b o,h.get? b = some o → Stable o → h'.get? b = some o
theorem Stab.refl (h : Heap) : Stab h h:=fun _ _ e _=>e
theorem CodeC.stab {h h' : Heap} {cd : Value} {q : Str} (k : Stab h h') (x : CodeC h cd q) : CodeC h' cd q :=
  let ⟨c,o,vs,t,e,a,b,d,f⟩:=x; ⟨c,o,vs,t,e,k _ _ a (.inr (.inl ⟨vs,d,.inr b⟩)),b,d,f⟩
noncomputable def lamFd (l : Lam) (closure : List (Str × Addr)) (pm cd ct : Value) : FuncData :=
  { name:="<lambda>",qualname:=l.qual,params:=l.params,body:=.expr l.body,scope:=l.scope,globals:=mainGlobals,closure:=closure,defaults:=.none,kwdefaults:=.none,
    doc:=.none,pyModule:=pm,annotations:=none,code:=cd,closureTuple:=ct,builtins:=builtinsNs }
mutual
inductive VR (X : Cx) (h : Heap) : (μ ν : List Addr) → Value → V → Prop
  | none {μ ν} : VR X h μ ν .none .none
  | bool {μ ν} (b : Bool) : VR X h μ ν (.bool b) (.bool b)
  | int {μ ν} (i : Int) (t : Tok) : VR X h μ ν (.int i t) (.int i)
  | str {μ ν} (s : Str) (t : Tok) : VR X h μ ν (.str s t) (.str s)
  | ref {μ ν} {i : Nat} {a : Addr} (e : μ[i]? = some a) : VR X h μ ν (.ref a) (.ref i)
  | tup {μ ν} {a : Addr} {its : List Value} {n : Nat} {vs : List V} (e : h.get? a = some { cls:=.type "tuple",data:=.seq its.toArray n }) (r : VRs X h μ ν its vs) : VR X h μ ν (.ref a) (.tup vs)
  | rng {μ ν} {r : Addr} {a b c : Int} {t u v : Tok} (e : IsRange h r a b c t u v) : VR X h μ ν (.ref r) (.rng a b c)
  | fn {μ ν} {k : Nat} {a : Addr} (e : X.fn k = some a) : VR X h μ ν (.ref a) (.fn k)
  | clo {μ ν} {a k : Nat} {cs : List Nat} {l : Lam} {cl : List (Str × Addr)} {pm cd ct : Value} (e : h.get? a = some { cls:=.type "function",data:=.func (lamFd l cl pm cd ct) })
      (hl : X.lams k = some l) (hc : CodeC h cd l.qual) (hn : cl.map (·.1) = l.names) (ha : cs.map (fun c=>ν[c]?) = cl.map (fun x=>some x.2)) : VR X h μ ν (.ref a) (.clo k cs)
  | frz {μ ν} {a : Addr} {its : List Value} {xs : List Int} (e : X.h₀.IsList a its.toArray) (r : VRs X h [] [] its (xs.map .int)) (hz : its.length ≤ 1048576) : VR X h μ ν (.ref a) (.frz xs)
inductive VRs (X : Cx) (h : Heap) : (μ ν : List Addr) → List Value → List V → Prop
  | nil {μ ν} : VRs X h μ ν [] []
  | cons {μ ν} {x : Value} {v : V} {xs : List Value} {vs : List V} (a : VR X h μ ν x v) (b : VRs X h μ ν xs vs) : VRs X h μ ν (x :: xs) (v :: vs)
end
section
variable {X : Cx} {h : Heap} {μ ν : List Addr}
noncomputable def VRk (X : Cx) (h : Heap) (μ ν : List Addr) (P : Value → Prop) : V → Prop
  | .none=>P .none
  | .bool b=>P (.bool b)
  | .int i=>∀ t,P (.int i t)
  | .str s=>∀ t,P (.str s t)
  | .ref i=>∀ a,μ[i]? = some a → P (.ref a)
  | .tup vs=>∀ a its n,h.get? a = some { cls:=.type "tuple",data:=.seq (List.toArray its) n } → VRs X h μ ν its vs → P (.ref a)
  | .rng a b c=>∀ r t u v,IsRange h r a b c t u v → P (.ref r)
  | .fn j=>∀ a,X.fn j = some a → P (.ref a)
  | .clo j cs=>∀ (a : Nat) (l : Lam) (cl : List (Str × Addr)) (pm cd ct : Value),h.get? a = some { cls:=.type "function",data:=.func (lamFd l cl pm cd ct) } → X.lams j = some l → CodeC h cd l.qual → cl.map (·.1) = l.names → cs.map (fun c=>ν[c]?) = cl.map (fun x=>some x.2) → P (.ref a)
  | .frz xs=>∀ (a : Nat) (its : List Value),X.h₀.IsList a its.toArray → VRs X h [] [] its (xs.map .int) → its.length ≤ 1048576 → P (.ref a)
noncomputable def VRsk (X : Cx) (h : Heap) (μ ν : List Addr) (P : List Value → Prop) : List V → Prop
  | []=>P []
  | v :: vs=>∀ x ys,VR X h μ ν x v → VRs X h μ ν ys vs → P (x :: ys)
theorem VR.el {P : Value → Prop} {x : Value} {v : V} (r : VR X h μ ν x v) : VRk X h μ ν P v → P x:=by
  cases r with
  | none=>exact fun k=>k
  | bool b=>exact fun k=>k
  | int i t=>exact fun k=>k t
  | str s t=>exact fun k=>k t
  | ref e=>exact fun k=>k _ e
  | tup e r=>exact fun k=>k _ _ _ e r
  | rng e=>exact fun k=>k _ _ _ _ e
  | fn e=>exact fun k=>k _ e
  | clo e hl hc hn ha=>exact fun k=>k _ _ _ _ _ _ e hl hc hn ha
  | frz e r hz=>exact fun k=>k _ _ e r hz
theorem VRs.el {P : List Value → Prop} {x : List Value} {v : List V} (r : VRs X h μ ν x v) : VRsk X h μ ν P v → P x:=by
  cases r with
  | nil=>exact fun k=>k
  | cons a b=>exact fun k=>k _ _ a b
@[elab_as_elim] theorem VR.none_e {P : Value → Prop} {x : Value} (r : VR X h μ ν x .none) (k : P .none) : P x:=r.el k
@[elab_as_elim] theorem VR.bool_e {P : Value → Prop} {x : Value} {b : Bool} (r : VR X h μ ν x (.bool b)) (k : P (.bool b)) : P x:=r.el k
@[elab_as_elim] theorem VR.int_e {P : Value → Prop} {x : Value} {i : Int} (r : VR X h μ ν x (.int i)) (k : ∀ t,P (.int i t)) : P x:=r.el k
@[elab_as_elim] theorem VR.str_e {P : Value → Prop} {x : Value} {i : Str} (r : VR X h μ ν x (.str i)) (k : ∀ t,P (.str i t)) : P x:=r.el k
@[elab_as_elim] theorem VR.ref_e {P : Value → Prop} {x : Value} {i : Nat} (r : VR X h μ ν x (.ref i)) (k : ∀ a,μ[i]? = some a → P (.ref a)) : P x:=r.el k
@[elab_as_elim] theorem VR.tup_e {P : Value → Prop} {x : Value} {vs : List V} (r : VR X h μ ν x (.tup vs)) (k : ∀ a its n,h.get? a = some { cls:=.type "tuple",data:=.seq (List.toArray its) n } → VRs X h μ ν its vs → P (.ref a)) : P x:=r.el k
@[elab_as_elim] theorem VR.rng_e {P : Value → Prop} {x : Value} {a b c : Int} (r : VR X h μ ν x (.rng a b c)) (k : ∀ r t u v,IsRange h r a b c t u v → P (.ref r)) : P x:=r.el k
@[elab_as_elim] theorem VR.fn_e {P : Value → Prop} {x : Value} {j : Nat} (r : VR X h μ ν x (.fn j)) (k : ∀ a,X.fn j = some a → P (.ref a)) : P x:=r.el k
@[elab_as_elim] theorem VR.clo_e {P : Value → Prop} {x : Value} {j : Nat} {cs : List Nat} (r : VR X h μ ν x (.clo j cs)) (k : ∀ (a : Nat) (l : Lam) (cl : List (Str × Addr)) (pm cd ct : Value),h.get? a = some { cls:=.type "function",data:=.func (lamFd l cl pm cd ct) } → X.lams j = some l → CodeC h cd l.qual → cl.map (·.1) = l.names → cs.map (fun c=>ν[c]?) = cl.map (fun x=>some x.2) → P (.ref a)) : P x:=r.el k
@[elab_as_elim] theorem VR.frz_e {P : Value → Prop} {x : Value} {xs : List Int} (r : VR X h μ ν x (.frz xs)) (k : ∀ (a : Nat) (its : List Value),X.h₀.IsList a its.toArray → VRs X h [] [] its (xs.map .int) → its.length ≤ 1048576 → P (.ref a)) : P x:=r.el k
@[elab_as_elim] theorem VRs.nil_e {P : List Value → Prop} {xs : List Value} (r : VRs X h μ ν xs []) (k : P []) : P xs:=r.el k
@[elab_as_elim] theorem VRs.cons_e {P : List Value → Prop} {xs : List Value} {v : V} {vs : List V} (r : VRs X h μ ν xs (v :: vs)) (k : ∀ x ys,VR X h μ ν x v → VRs X h μ ν ys vs → P (x :: ys)) : P xs:=r.el k
@[elab_as_elim] theorem VRs.e1 {P : List Value → Prop} {xs : List Value} {v : V} (r : VRs X h μ ν xs [v]) (k : ∀ x,VR X h μ ν x v → P [x]) : P xs:=r.cons_e fun x _ rx r=>r.nil_e (k x rx)
@[elab_as_elim] theorem VRs.e2 {P : List Value → Prop} {xs : List Value} {v w : V} (r : VRs X h μ ν xs [v,w]) (k : ∀ x y,VR X h μ ν x v → VR X h μ ν y w → P [x,y]) : P xs:=r.cons_e fun x _ rx r=>r.e1 fun y ry=>k x y rx ry
@[elab_as_elim] theorem VRs.e3 {P : List Value → Prop} {xs : List Value} {v w u : V} (r : VRs X h μ ν xs [v,w,u]) (k : ∀ x y z,VR X h μ ν x v → VR X h μ ν y w → VR X h μ ν z u → P [x,y,z]) : P xs:=r.cons_e fun x _ rx r=>r.e2 fun y z ry rz=>k x y z rx ry rz
@[elab_as_elim] theorem VRs.e4 {P : List Value → Prop} {xs : List Value} {v w u o : V} (r : VRs X h μ ν xs [v,w,u,o]) (k : ∀ x y z q,VR X h μ ν x v → VR X h μ ν y w → VR X h μ ν z u → VR X h μ ν q o → P [x,y,z,q]) : P xs:=r.cons_e fun x _ rx r=>r.e3 fun y z q ry rz rq=>k x y z q rx ry rz rq
theorem VRs.ind {P : List Value → List V → Prop} (h0 : P [] []) (h1 : ∀ x v xs vs,VR X h μ ν x v → VRs X h μ ν xs vs → P xs vs → P (x :: xs) (v :: vs)) : ∀ {xs : List Value} {vs : List V},VRs X h μ ν xs vs → P xs vs:=fun {xs vs}=>by
  induction vs generalizing xs with
  | nil=>exact fun r=>r.nil_e h0
  | cons v vs ih=>exact fun r=>r.cons_e fun x ys rx rs=>h1 _ _ _ _ rx rs (ih rs)
end
theorem getElem?_pre {α : Type} {l l' : List α} (hp : l <+: l') {i : Nat} {a : α} (e : l[i]? = some a) : l'[i]? = some a:=by
  obtain ⟨r,rfl⟩:=hp
  rw [List.getElem?_append_left (List.getElem?_eq_some_iff.mp e).1]; exact e
theorem map_pre {ν ν' : List Addr} (hp : ν <+: ν') : ∀ {cs : List Nat} {cl : List (Str × Addr)},cs.map (fun c=>ν[c]?) = cl.map (fun x=>some x.2) → cs.map (fun c=>ν'[c]?) = cl.map (fun x=>some x.2)
  | [],[],_=>rfl
  | [],_ :: _,e=>by cases e
  | _ :: _,[],e=>by cases e
  | c :: cs,x :: cl,e=>by
    simp only [List.map_cons,List.cons.injEq] at e ⊢
    exact ⟨getElem?_pre hp e.1,map_pre hp e.2⟩
theorem mono_both {X : Cx} {h h' : Heap} (k : Stab h h') : (∀ {μ ν : List Addr} {x : Value} {v : V},VR X h μ ν x v → ∀ μ' ν' : List Addr,μ <+: μ' → ν <+: ν' → VR X h' μ' ν' x v) ∧ (∀ {μ ν : List Addr} {xs : List Value} {vs : List V},VRs X h μ ν xs vs → ∀ μ' ν' : List Addr,μ <+: μ' → ν <+: ν' → VRs X h' μ' ν' xs vs) :=
  ⟨fun r=>VR.rec (motive_1:=fun μ ν x v _=>∀ μ' ν' : List Addr,μ <+: μ' → ν <+: ν' → VR X h' μ' ν' x v) (motive_2:=fun μ ν x v _=>∀ μ' ν' : List Addr,μ <+: μ' → ν <+: ν' → VRs X h' μ' ν' x v)
    (fun _ _ _ _=>.none) (fun b _ _ _ _=>.bool b) (fun i t _ _ _ _=>.int i t) (fun s t _ _ _ _=>.str s t) (fun e _ _ hp _=>.ref (getElem?_pre hp e)) (fun e _ ih _ _ hp hq=>.tup (k _ _ e (.inl ⟨_,_,rfl,rfl⟩)) (ih _ _ hp hq)) (fun e _ _ _ _=>.rng (k _ _ e (.inr (.inl ⟨_,rfl,.inl rfl⟩)))) (fun e _ _ _ _=>.fn e)
    (fun e hl hc hn ha _ _ _ hq=>.clo (k _ _ e (.inr (.inr ⟨_,rfl⟩))) hl (hc.stab k) hn (map_pre hq ha)) (fun e _ hz ih _ _ _ _=>.frz e (ih _ _ (List.prefix_refl _) (List.prefix_refl _)) hz) (fun _ _ _ _=>.nil) (fun _ _ iha ihb _ _ hp hq=>.cons (iha _ _ hp hq) (ihb _ _ hp hq)) r,
   fun r=>VRs.rec (motive_1:=fun μ ν x v _=>∀ μ' ν' : List Addr,μ <+: μ' → ν <+: ν' → VR X h' μ' ν' x v) (motive_2:=fun μ ν x v _=>∀ μ' ν' : List Addr,μ <+: μ' → ν <+: ν' → VRs X h' μ' ν' x v)
    (fun _ _ _ _=>.none) (fun b _ _ _ _=>.bool b) (fun i t _ _ _ _=>.int i t) (fun s t _ _ _ _=>.str s t) (fun e _ _ hp _=>.ref (getElem?_pre hp e)) (fun e _ ih _ _ hp hq=>.tup (k _ _ e (.inl ⟨_,_,rfl,rfl⟩)) (ih _ _ hp hq)) (fun e _ _ _ _=>.rng (k _ _ e (.inr (.inl ⟨_,rfl,.inl rfl⟩)))) (fun e _ _ _ _=>.fn e)
    (fun e hl hc hn ha _ _ _ hq=>.clo (k _ _ e (.inr (.inr ⟨_,rfl⟩))) hl (hc.stab k) hn (map_pre hq ha)) (fun e _ hz ih _ _ _ _=>.frz e (ih _ _ (List.prefix_refl _) (List.prefix_refl _)) hz) (fun _ _ _ _=>.nil) (fun _ _ iha ihb _ _ hp hq=>.cons (iha _ _ hp hq) (ihb _ _ hp hq)) r⟩
theorem VR.mono {X : Cx} {h h' : Heap} (k : Stab h h') {μ μ' ν ν' : List Addr} (hp : μ <+: μ') (hq : ν <+: ν') {x : Value} {v : V} (r : VR X h μ ν x v) : VR X h' μ' ν' x v:=(mono_both k).1 r _ _ hp hq
theorem VRs.mono {X : Cx} {h h' : Heap} (k : Stab h h') {μ μ' ν ν' : List Addr} (hp : μ <+: μ') (hq : ν <+: ν') {xs : List Value} {vs : List V} (r : VRs X h μ ν xs vs) : VRs X h' μ' ν' xs vs:=(mono_both k).2 r _ _ hp hq
section
variable {X : Cx} {h : Heap} {μ ν : List Addr}
theorem VRs.length : ∀ {xs : List Value} {vs : List V},VRs X h μ ν xs vs → xs.length = vs.length :=
  VRs.ind (P:=fun xs vs=>xs.length = vs.length) rfl fun _ _ _ _ _ _ ih=>congrArg (· + 1) ih
theorem VRs.append {xs ys : List Value} {vs us : List V} (r : VRs X h μ ν xs vs) (q : VRs X h μ ν ys us) : VRs X h μ ν (xs ++ ys) (vs ++ us) :=
  VRs.ind (P:=fun xs vs=>VRs X h μ ν (xs ++ ys) (vs ++ us)) q (fun _ _ _ _ a _ ih=>.cons a ih) r
theorem VRs.get {xs : List Value} {vs : List V} (r : VRs X h μ ν xs vs) : ∀ {i : Nat} {v : V},vs[i]? = some v → ∃ x,xs[i]? = some x ∧ VR X h μ ν x v :=
  VRs.ind (P:=fun xs vs=>∀ {i : Nat} {v : V},vs[i]? = some v → ∃ x,xs[i]? = some x ∧ VR X h μ ν x v) (fun e=>by simp at e) (fun x w xs vs a _ ih i v e=>by
    cases i with
    | zero =>
      rw [List.getElem?_cons_zero,Option.some.injEq] at e
      exact ⟨x,rfl,e ▸ a⟩
    | succ i=>exact ih e) r
theorem VRs.getNone {X : Cx} {h : Heap} {μ ν : List Addr} {xs : List Value} {vs : List V} (r : VRs X h μ ν xs vs) {i : Nat} (e : vs[i]? = none) : xs[i]? = none:=by
  rw [List.getElem?_eq_none_iff] at e ⊢
  rw [r.length]; exact e
theorem VRs.take {X : Cx} {h : Heap} {μ ν : List Addr} {xs : List Value} {vs : List V} (r : VRs X h μ ν xs vs) : ∀ n,VRs X h μ ν (xs.take n) (vs.take n) :=
  VRs.ind (P:=fun xs vs=>∀ n,VRs X h μ ν (xs.take n) (vs.take n)) (fun n=>by rw [List.take_nil,List.take_nil]; exact .nil) (fun x v xs vs a _ ih n=>by
    cases n with
    | zero=>exact .nil
    | succ n=>exact .cons a (ih n)) r
theorem VRs.drop {X : Cx} {h : Heap} {μ ν : List Addr} {xs : List Value} {vs : List V} (r : VRs X h μ ν xs vs) : ∀ n,VRs X h μ ν (xs.drop n) (vs.drop n) :=
  VRs.ind (P:=fun xs vs=>∀ n,VRs X h μ ν (xs.drop n) (vs.drop n)) (fun n=>by rw [List.drop_nil,List.drop_nil]; exact .nil) (fun x v xs vs a b ih n=>by
    cases n with
    | zero=>exact .cons a b
    | succ n=>exact ih n) r
end
structure S where
  loc : List (Option V)
  cel : List Nat
  C : List (Option V)
  H : List L
section
variable {α : Type} {r : α} {P : Prop}
theorem m_VH {o : Option (V × List L)} {f : V → List L → Option α} (k : ∀ x y,o = some (x,y) → f x y = some r → P) : (match (generalizing:=false) o with | some (x,H)=>f x H | none=>none) = some r → P:=by
  cases o with
  | none=>exact fun em=>nomatch em
  | some p=>exact fun em=>k _ _ rfl em
theorem m_VsH {o : Option (List V × List L)} {f : List V → List L → Option α} (k : ∀ x y,o = some (x,y) → f x y = some r → P) : (match (generalizing:=false) o with | some (x,H)=>f x H | none=>none) = some r → P:=by
  cases o with
  | none=>exact fun em=>nomatch em
  | some p=>exact fun em=>k _ _ rfl em
theorem m_FS {o : Option (List V × S)} {f : List V → S → Option α} (k : ∀ x y,o = some (x,y) → f x y = some r → P) : (match (generalizing:=false) o with | some (x,H)=>f x H | none=>none) = some r → P:=by
  cases o with
  | none=>exact fun em=>nomatch em
  | some p=>exact fun em=>k _ _ rfl em
theorem m_S {o : Option S} {f : S → Option α} (k : ∀ x,o = some x → f x = some r → P) : (match (generalizing:=false) o with | some x=>f x | none=>none) = some r → P:=by
  cases o with
  | none=>exact fun em=>nomatch em
  | some p=>exact fun em=>k _ rfl em
theorem m_V {o : Option V} {f : V → Option α} (k : ∀ x,o = some x → f x = some r → P) : (match (generalizing:=false) o with | some x=>f x | none=>none) = some r → P:=by
  cases o with
  | none=>exact fun em=>nomatch em
  | some p=>exact fun em=>k _ rfl em
theorem m_Vs {o : Option (List V)} {f : List V → Option α} (k : ∀ x,o = some x → f x = some r → P) : (match (generalizing:=false) o with | some x=>f x | none=>none) = some r → P:=by
  cases o with
  | none=>exact fun em=>nomatch em
  | some p=>exact fun em=>k _ rfl em
theorem m_L {o : Option L} {f : L → Option α} (k : ∀ x,o = some x → f x = some r → P) : (match (generalizing:=false) o with | some x=>f x | none=>none) = some r → P:=by
  cases o with
  | none=>exact fun em=>nomatch em
  | some p=>exact fun em=>k _ rfl em
theorem m_N {o : Option Nat} {f : Nat → Option α} (k : ∀ x,o = some x → f x = some r → P) : (match (generalizing:=false) o with | some x=>f x | none=>none) = some r → P:=by
  cases o with
  | none=>exact fun em=>nomatch em
  | some p=>exact fun em=>k _ rfl em
theorem m_B {o : Option Bool} {f : Bool → Option α} (k : ∀ x,o = some x → f x = some r → P) : (match (generalizing:=false) o with | some x=>f x | none=>none) = some r → P:=by
  cases o with
  | none=>exact fun em=>nomatch em
  | some p=>exact fun em=>k _ rfl em
theorem m_Ls {o : Option (List L)} {f : List L → Option α} (k : ∀ x,o = some x → f x = some r → P) : (match (generalizing:=false) o with | some x=>f x | none=>none) = some r → P:=by
  cases o with
  | none=>exact fun em=>nomatch em
  | some p=>exact fun em=>k _ rfl em
theorem m_Is {o : Option (List Int)} {f : List Int → Option α} (k : ∀ x,o = some x → f x = some r → P) : (match (generalizing:=false) o with | some x=>f x | none=>none) = some r → P:=by
  cases o with
  | none=>exact fun em=>nomatch em
  | some p=>exact fun em=>k _ rfl em
theorem m_FC {o : Option (List V → Option V → List (Option V) → List L → Option (V × List L))} {f : (List V → Option V → List (Option V) → List L → Option (V × List L)) → Option α} (k : ∀ x,o = some x → f x = some r → P) : (match (generalizing:=false) o with | some x=>f x | none=>none) = some r → P:=by
  cases o with
  | none=>exact fun em=>nomatch em
  | some p=>exact fun em=>k _ rfl em
theorem tup_m {v : V} {f : List V → Option α} {P : V → Prop} (k : ∀ vs,f vs = some r → P (.tup vs)) (e : (match (generalizing:=false) v with | .tup vs=>f vs | _=>none) = some r) : P v:=by
  cases v with
  | tup vs=>exact k vs e
  | _=>cases e
theorem m_OV {o : Option (Option V)} {f : V → Option α} (k : ∀ x,o = some (some x) → f x = some r → P) : (match (generalizing:=false) o with | some (some x)=>f x | _=>none) = some r → P:=by
  cases o with
  | none=>exact fun em=>nomatch em
  | some p=>cases p with
    | none=>exact fun em=>nomatch em
    | some p=>exact fun em=>k _ rfl em
theorem m_LL {o : Option L} {f : List Int → Option α} (k : ∀ x,o = some (.ints x) → f x = some r → P) : (match (generalizing:=false) o with | some (.ints x)=>f x | _=>none) = some r → P :=
  match o with
  | none=>fun em=>nomatch em
  | some (.ints _)=>fun em=>k _ rfl em
  | some (.vals _)=>fun em=>nomatch em
theorem m_tf {o : Option (Bool × List L)} {f g : List L → Option α} (kt : ∀ y,o = some (true,y) → f y = some r → P) (kf : ∀ y,o = some (false,y) → g y = some r → P) : (match (generalizing:=false) o with | some (true,H)=>f H | some (false,H)=>g H | none=>none) = some r → P:=by
  cases o with
  | none=>exact fun em=>nomatch em
  | some p=>cases p with
    | mk b y=>cases b with
      | false=>exact fun em=>kf _ rfl em
      | true=>exact fun em=>kt _ rfl em
theorem m_ft {o : Option (Bool × List L)} {f g : List L → Option α} (kt : ∀ y,o = some (false,y) → f y = some r → P) (kf : ∀ y,o = some (true,y) → g y = some r → P) : (match (generalizing:=false) o with | some (false,H)=>f H | some (true,H)=>g H | none=>none) = some r → P:=by
  cases o with
  | none=>exact fun em=>nomatch em
  | some p=>cases p with
    | mk b y=>cases b with
      | false=>exact fun em=>kt _ rfl em
      | true=>exact fun em=>kf _ rfl em
theorem if_e {c : Prop} [Decidable c] {a : Option α} (k : c → a = some r → P) (em : (if c then a else none) = some r) : P:=by
  by_cases h : c
  · rw [if_pos h] at em; exact k h em
  · rw [if_neg h] at em; cases em
theorem ifn_e {c : Prop} [Decidable c] {a : Option α} (k : ¬ c → a = some r → P) (em : (if c then none else a) = some r) : P:=by
  by_cases h : c
  · rw [if_pos h] at em; cases em
  · rw [if_neg h] at em; exact k h em
end
@[elab_as_elim] theorem ret_e {α β : Type} {a c : α} {b d : β} {P : α → β → Prop} (em : some (a,b) = some (c,d)) (k : P a b) : P c d:=by
  cases em; exact k
@[elab_as_elim] theorem re1_e {α : Type} {a c : α} {P : α → Prop} (em : some a = some c) (k : P a) : P c:=by
  cases em; exact k

structure Nm where
  scope : Scope
  loc : List Str
  cel : List Str
  glb : List Str:=[]
  qual : Str:=Str.empty
  tab : Nat:=0
noncomputable def CellR (X : Cx) (h : Heap) (μ ν : List Addr) (a : Addr) : Option V → Prop
  | none=>∃ v,h.IsCell a v
  | some x=>∃ v,h.IsCell a (some v) ∧ VR X h μ ν v x
noncomputable def Mut (X : Cx) (μ ν : List Addr) (b : Addr) : Prop:=b ∈ μ ∨ b ∈ ν ∨ b ∈ X.ptabs
noncomputable def frsOf (φ : List Env) : List Addr:=φ.filterMap (·.frame)
noncomputable def IsDictAt (h : Heap) (L : Addr) : Prop:=∃ o es ep,h.get? L = some o ∧ o.data = .dict es ep
structure Rep (X : Cx) (φ : List Env) (μ ν : List Addr) (H : List L) (C : List (Option V)) (s : Shared) : Prop where
  frs : ∀ L ∈ frsOf φ,X.h₀.get? L = none ∧ ¬ Mut X μ ν L ∧ IsDictAt s.heap L
  same : ∃ h tk,s = { X.s₀ with heap:=h,toks:=tk }
  keep : ∀ b o,X.h₀.get? b = some o → s.heap.get? b = some o
  lenH : μ.length = H.length
  lenC : ν.length = C.length
  nodup : (μ ++ ν).Nodup
  fresh : ∀ a,a ∈ μ ∨ a ∈ ν → X.h₀.get? a = none ∧ a ∉ X.ptabs
  lists : ∀ (i : Nat) (a : Addr) (l : L),μ[i]? = some a → H[i]? = some l → ∃ (its : List Value) (n : Nat),s.heap.get? a = some { cls:=.type "list",data:=.seq its.toArray n } ∧ its.length ≤ 1048576 ∧ VRs X s.heap (μ.take i) [] its l.vs
  cells : ∀ (i : Nat) (a : Addr) (v : Option V),ν[i]? = some a → C[i]? = some v → CellR X s.heap μ ν a v
  tabs : ∀ q ∈ X.tabs,∃ ps,s.heap.get? q.2.1 = some (tabObj ps) ∧ TriplesOk ps.toList ∧ ∀ pos cv,codeAmong pos ps.toList = some cv → CodeC s.heap cv q.2.2
noncomputable def Kept (h' : Heap) (b : Addr) (o : Obj) : Prop:=h'.get? b = some o ∨ ((∃ es ep,o.data = .dict es ep) ∧ ∃ sl,h'.get? b = some { o with slots:=sl })
theorem Kept.nd {h' : Heap} {b : Addr} {o : Obj} (k : Kept h' b o) (nd : ∀ es ep,o.data ≠ .dict es ep) : h'.get? b = some o:=k.elim id fun ⟨⟨es,ep,d⟩,_⟩=>absurd d (nd es ep)
theorem Kept.trans {h h' : Heap} {b : Addr} {o : Obj} (k : Kept h b o) (f : ∀ o',h.get? b = some o' → Kept h' b o') : Kept h' b o:=by
  rcases k with e | ⟨d,sl,e⟩
  · exact f o e
  · rcases f _ e with e' | ⟨_,sl',e'⟩
    · exact .inr ⟨d,sl,e'⟩
    · exact .inr ⟨d,sl',e'⟩
theorem Kept.step {h h' : Heap} {b : Addr} {o : Obj} (k : Kept h b o) (f : ∀ o',h.get? b = some o' → h'.get? b = some o') : Kept h' b o:=k.trans fun o' e=>.inl (f o' e)
theorem Kept.ns {h h' : Heap} {a : Addr} {m : Str → Option Value} (x : h.Ns a m) (k : ∀ o,h.get? a = .some o → Kept h' a o) : h'.Ns a m:=by
  refine e3a3 x fun o es ep ho hd r=>?_
  rcases k o ho with e | ⟨_,sl,e⟩
  · exact ⟨o,es,ep,e,hd,r⟩
  · exact ⟨_,es,ep,e,hd,r⟩
theorem Stable.nd {o : Obj} (st : Stable o) : ∀ es ep,o.data ≠ .dict es ep:=by
  intro es ep d
  rcases st with ⟨_,_,e,_⟩ | ⟨_,e,_⟩ | ⟨_,e⟩ <;> (rw [d] at e; cases e)
noncomputable def Keeps (P : Addr → Prop) (h h' : Heap) : Prop:=∀ b o,¬ P b → h.get? b = some o → Kept h' b o
theorem Keeps.refl {P : Addr → Prop} (h : Heap) : Keeps P h h:=fun _ _ _ e=>.inl e
theorem Keeps.weaken {P P' : Addr → Prop} {h h' : Heap} (x : Keeps P h h') (k : ∀ b,P b → P' b) : Keeps P' h h':=fun b o n e=>x b o (fun q=>n (k b q)) e
theorem list_ne_tuple : (Value.type "list") ≠ .type "tuple":=by decide
theorem IsCell_data {h : Heap} {a : Addr} {v : Option Value} {o : Obj} (x : h.IsCell a v) (e : h.get? a = some o) : o.data = .cell v:=by
  refine e1a2 x fun o' e' d=>?_
  rw [e] at e'; cases e'; exact d
section
variable {X : Cx} {φ : List Env} {μ ν : List Addr} {H : List L} {C : List (Option V)} {s : Shared}
theorem Rep.list_at (R : Rep X φ μ ν H C s) {a : Addr} (ha : a ∈ μ) : ∃ its n,s.heap.get? a = some { cls:=.type "list",data:=.seq its n }:=by
  refine e1a1 (List.mem_iff_getElem?.mp ha) fun i hi=>?_
  have hlt : i < H.length:=by rw [← R.lenH]; exact (List.getElem?_eq_some_iff.mp hi).1
  refine e2a2 (R.lists i a _ hi (List.getElem?_eq_getElem hlt)) fun its n e _=>?_
  exact ⟨_,n,e⟩
theorem Rep.cell_at (R : Rep X φ μ ν H C s) {a : Addr} (ha : a ∈ ν) : ∃ v,s.heap.IsCell a v:=by
  refine e1a1 (List.mem_iff_getElem?.mp ha) fun i hi=>?_
  have hlt : i < C.length:=by rw [← R.lenC]; exact (List.getElem?_eq_some_iff.mp hi).1
  have:=R.cells i a _ hi (List.getElem?_eq_getElem hlt)
  cases q : C[i] with
  | none=>rw [q] at this; exact this
  | some x=>rw [q] at this; obtain ⟨v,hv,_⟩:=this; exact ⟨_,hv⟩
theorem Rep.tab_at (R : Rep X φ μ ν H C s) {a : Addr} (ha : a ∈ X.ptabs) : ∃ ps,s.heap.get? a = some (tabObj ps):=by
  refine e1a2 (List.mem_map.mp ha) fun q hq hr2=>?_; subst hr2
  obtain ⟨ps,e,_⟩:=R.tabs q hq
  exact ⟨ps,e⟩
theorem Rep.not_stable (R : Rep X φ μ ν H C s) {b : Addr} {o : Obj} (hb : Mut X μ ν b) (e : s.heap.get? b = some o) : ¬ Stable o:=by
  rcases hb with hb | hb | hb
  · refine e2a1 (R.list_at hb) fun its n e'=>?_
    rw [e] at e'; cases e'
    rintro (⟨_,_,_,h⟩ | ⟨_,h,_⟩ | ⟨_,h⟩)
    · exact list_ne_tuple h
    · cases h
    · cases h
  · refine e1a1 (R.cell_at hb) fun v hv=>?_
    have d:=IsCell_data hv e
    rintro (⟨_,_,h,_⟩ | ⟨_,h,_⟩ | ⟨_,h⟩) <;> (rw [d] at h; cases h)
  · refine e1a1 (R.tab_at hb) fun ps e'=>?_
    rw [e] at e'; cases e'
    rintro (⟨_,_,h,_⟩ | ⟨_,_,h | h⟩ | ⟨_,h⟩) <;> cases h
theorem Rep.stab (R : Rep X φ μ ν H C s) {h' : Heap} (k : Keeps (Mut X μ ν) s.heap h') : Stab s.heap h':=fun b o e st=>(k b o (fun q=>R.not_stable q e st) e).nd st.nd
theorem Rep.live (R : Rep X φ μ ν H C s) {b : Addr} (hb : Mut X μ ν b) : b < s.heap.objs.size:=by
  rcases hb with hb | hb | hb
  · obtain ⟨_,_,e⟩:=R.list_at hb; exact Heap.lt_size e
  · obtain ⟨v,hv⟩:=R.cell_at hb; exact hv.lt
  · obtain ⟨ps,e⟩:=R.tab_at hb; exact Heap.lt_size e
theorem Rep.base_none (R : Rep X φ μ ν H C s) {b : Addr} (hb : s.heap.get? b = none) : X.h₀.get? b = none:=by
  cases q : X.h₀.get? b with
  | none=>rfl
  | some o=>rw [R.keep b o q] at hb; cases hb
theorem Rep.alive (R : Rep X φ μ ν H C s) {b : Addr} (hb : Mut X μ ν b) : ∃ o,s.heap.get? b = some o:=by
  rcases hb with hb | hb | hb
  · obtain ⟨_,_,e⟩:=R.list_at hb; exact ⟨_,e⟩
  · obtain ⟨v,o,e,_⟩:=R.cell_at hb; exact ⟨_,e⟩
  · obtain ⟨ps,e⟩:=R.tab_at hb; exact ⟨_,e⟩
theorem Rep.not_mut (R : Rep X φ μ ν H C s) {b : Addr} (hb : s.heap.get? b = none) : ¬ Mut X μ ν b:=fun q=>by
  refine e1a1 (R.alive q) fun o e=>?_
  rw [hb] at e; cases e
theorem none_at_size (h : Heap) : h.get? h.objs.size = none:=Heap.get?_none_of_le (Nat.le_refl _)
end
end Mine
namespace Mine
section
variable {X : Cx} {φ : List Env} {μ ν : List Addr} {H : List L} {C : List (Option V)} {s : Shared}
theorem CellR.mono {h h' : Heap} (st : Stab h h') {μ' ν' : List Addr} (hp : μ <+: μ') (hq : ν <+: ν') {a : Addr} (hk : ∀ o,h.get? a = some o → h'.get? a = some o) : ∀ {v : Option V},CellR X h μ ν a v → CellR X h' μ' ν' a v
  | none,⟨v,o,e,d⟩=>⟨v,o,hk o e,d⟩
  | some _,⟨v,⟨o,e,d⟩,r⟩=>⟨v,⟨o,hk o e,d⟩,r.mono st hp hq⟩
theorem IsDictAt.keeps {h h' : Heap} {L : Addr} (x : IsDictAt h L) (k : ∀ o,h.get? L = some o → h'.get? L = some o) : IsDictAt h' L:=let ⟨o,es,ep,e,d⟩:=x; ⟨o,es,ep,k o e,d⟩
theorem IsDictAt.lt {h : Heap} {L : Addr} (x : IsDictAt h L) : L < h.objs.size:=let ⟨_,_,_,e,_⟩:=x; Heap.lt_size e
theorem IsDictAt.not_stable {h : Heap} {L : Addr} {o : Obj} (x : IsDictAt h L) (e : h.get? L = some o) : ∃ es ep,o.data = .dict es ep:=by
  refine e3a2 x fun o' es ep e' d=>?_
  rw [e] at e'; cases e'; exact ⟨es,ep,d⟩
theorem Rep.ext (R : Rep X φ μ ν H C s) {h' : Heap} {tk : Nat} (kf : ∀ L ∈ frsOf φ,IsDictAt s.heap L → IsDictAt h' L)
    (k : ∀ b o,(X.h₀.get? b = some o ∨ Mut X μ ν b) → s.heap.get? b = some o → h'.get? b = some o) (st : Stab s.heap h') : Rep X φ μ ν H C { s with heap:=h',toks:=tk } where
  frs:=fun L hL=>let ⟨f1,f2,f3⟩:=R.frs L hL; ⟨f1,f2,kf L hL f3⟩
  same:=let ⟨_,_,e⟩:=R.same; ⟨h',tk,by rw [e]⟩
  keep:=fun b o e=>k b o (.inl e) (R.keep b o e)
  lenH:=R.lenH
  lenC:=R.lenC
  nodup:=R.nodup
  fresh:=R.fresh
  lists:=fun i a l e1 e2=>by
    refine e2a3 (R.lists i a l e1 e2) fun its n e hz r=>?_
    exact ⟨its,n,k a _ (.inr (.inl (List.mem_of_getElem? e1))) e,hz,r.mono st (List.prefix_refl _) (List.prefix_refl _)⟩
  cells:=fun i a v e1 e2=>(R.cells i a v e1 e2).mono st (List.prefix_refl _) (List.prefix_refl _) fun o e=>k a o (.inr (.inr (.inl (List.mem_of_getElem? e1)))) e
  tabs:=fun q hq=>by
    refine e1a3 (R.tabs q hq) fun ps e ht hc=>?_
    exact ⟨ps,k _ _ (.inr (.inr (.inr (List.mem_map_of_mem hq)))) e,ht,fun pos cv e=>(hc pos cv e).stab st⟩
theorem Rep.grow (R : Rep X φ μ ν H C s) {h' : Heap} {tk : Nat} (k : ∀ b o,s.heap.get? b = some o → h'.get? b = some o) : Rep X φ μ ν H C { s with heap:=h',toks:=tk } :=
  R.ext (fun L _ x=>x.keeps (k L)) (fun b o _ e=>k b o e) fun b o e _=>k b o e
theorem Rep.upd (R : Rep X φ μ ν H C s) {h' : Heap} {tk : Nat} {a : Addr} {o : Obj} (k : Heap.ExtBut a s.heap h') (ho : s.heap.get? a = some o) (hn : ¬ Stable o) (hm : ¬ Mut X μ ν a) (hb : X.h₀.get? a = none) (hd : (∀ es ep,o.data ≠ .dict es ep) ∨ IsDictAt h' a ∨ a ∉ frsOf φ) :
    Rep X φ μ ν H C { s with heap:=h',toks:=tk } :=
  R.ext (fun L hL x=>by
    by_cases z : L = a
    · subst z
      rcases hd with hd | hd | hd
      · refine e2a1 (x.not_stable ho) fun es ep d=>?_
        exact absurd d (hd es ep)
      · exact hd
      · exact absurd hL hd
    · exact x.keeps fun o e=>k L o z e) (fun b o' q e=>k b o' (fun z=>by subst z; rcases q with q | q; rw [hb] at q; cases q; exact hm q) e) fun b o' e st=>k b o' (fun z=>by subst z; rw [ho] at e; cases e; exact hn st) e
theorem not_stable_list {its : Array Value} {n : Nat} {d : Option Addr} {sl : Array (Option Value)} : ¬ Stable { cls:=.type "list",dict:=d,data:=.seq its n,slots:=sl }:=by
  rintro (⟨_,_,_,h⟩ | ⟨_,h,_⟩ | ⟨_,h⟩)
  · exact list_ne_tuple h
  · cases h
  · cases h
theorem not_stable_dict {o : Obj} {es : Array DictEntry} {n : Nat} (h : o.data = .dict es n) : ¬ Stable o:=by
  rintro (⟨_,_,e,_⟩ | ⟨_,e,_⟩ | ⟨_,e⟩) <;> (rw [h] at e; cases e)
theorem not_stable_cell {o : Obj} {v : Option Value} (h : o.data = .cell v) : ¬ Stable o:=by
  rintro (⟨_,_,e,_⟩ | ⟨_,e,_⟩ | ⟨_,e⟩) <;> (rw [h] at e; cases e)
theorem prefix_snoc {α : Type} (l : List α) (a : α) : l <+: l ++ [a]:=⟨[a],rfl⟩
theorem Rep.pushList (R : Rep X φ μ ν H C s) {its : List Value} {l : L} {tk : Nat} (hz : its.length ≤ 1048576) (hv : VRs X s.heap μ [] its l.vs) :
    Rep X φ (μ ++ [s.heap.objs.size]) ν (H ++ [l]) C { s with heap:=s.heap.push { cls:=.type "list",data:=.seq its.toArray },toks:=tk } where
  frs:=fun L hL=>let ⟨f1,f2,f3⟩:=R.frs L hL; ⟨f1,fun q=>by
    rcases q with q | q | q
    · rcases List.mem_append.mp q with q | q
      · exact f2 (.inl q)
      · have:=f3.lt; simp at q; subst q; exact Nat.lt_irrefl _ this
    · exact f2 (.inr (.inl q))
    · exact f2 (.inr (.inr q)),f3.keeps fun o e=>Heap.get?_push_of_some _ e⟩
  same:=let ⟨_,_,e⟩:=R.same; ⟨_,tk,by rw [e]⟩
  keep:=fun b o e=>Heap.get?_push_of_some _ (R.keep b o e)
  lenH:=by simp [R.lenH]
  lenC:=R.lenC
  nodup:=by
    have hm : s.heap.objs.size ∉ μ:=fun q=>Nat.lt_irrefl _ (R.live (.inl q))
    have hn : s.heap.objs.size ∉ ν:=fun q=>Nat.lt_irrefl _ (R.live (.inr (.inl q)))
    have nd:=R.nodup
    rw [List.nodup_append] at nd ⊢
    refine ⟨?_,nd.2.1,?_⟩
    · rw [List.nodup_append]
      exact ⟨nd.1,by simp,fun a ha b hb=>by simp at hb; subst hb; exact fun q=>hm (q ▸ ha)⟩
    · intro a ha b hb
      rcases List.mem_append.mp ha with ha | ha
      · exact nd.2.2 a ha b hb
      · simp at ha; subst ha; exact fun q=>hn (q ▸ hb)
  fresh:=fun a ha=>by
    rcases ha with ha | ha
    · rcases List.mem_append.mp ha with ha | ha
      · exact R.fresh a (.inl ha)
      · simp at ha; subst ha
        exact ⟨R.base_none (none_at_size _),fun q=>Nat.lt_irrefl _ (R.live (.inr (.inr q)))⟩
    · exact R.fresh a (.inr ha)
  lists:=fun i a l' e1 e2=>by
    have st : Stab s.heap (s.heap.push { cls:=.type "list",data:=.seq its.toArray }):=fun b o e _=>Heap.get?_push_of_some _ e
    by_cases hi : i < μ.length
    · rw [List.getElem?_append_left hi] at e1
      rw [List.getElem?_append_left (by rw [← R.lenH]; exact hi)] at e2
      refine e2a3 (R.lists i a l' e1 e2) fun its' n e hz' r=>?_
      refine ⟨its',n,Heap.get?_push_of_some _ e,hz',?_⟩
      rw [List.take_append_of_le_length (Nat.le_of_lt hi)]
      exact r.mono st (List.prefix_refl _) (List.prefix_refl _)
    · have hi' : i = μ.length:=by
        have:=(List.getElem?_eq_some_iff.mp e1).1
        simp at this; lia
      subst hi'
      simp at e1
      rw [R.lenH] at e2
      simp at e2
      subst e1 e2
      refine ⟨its,0,Heap.get?_push_size _ rfl,hz,?_⟩
      rw [List.take_append_of_le_length (Nat.le_refl _),List.take_length]
      exact hv.mono st (List.prefix_refl _) (List.prefix_refl _)
  cells:=fun i a v e1 e2=>(R.cells i a v e1 e2).mono (fun b o e _=>Heap.get?_push_of_some _ e) (prefix_snoc _ _) (List.prefix_refl _) fun o e=>Heap.get?_push_of_some _ e
  tabs:=fun q hq=>by
    refine e1a3 (R.tabs q hq) fun ps e ht hc=>?_
    exact ⟨ps,Heap.get?_push_of_some _ e,ht,fun pos cv e=>(hc pos cv e).stab fun b o e _=>Heap.get?_push_of_some _ e⟩
theorem nodup_idx {l : List Addr} (nd : l.Nodup) {i j : Nat} {a : Addr} (e : l[i]? = some a) (f : l[j]? = some a) : i = j:=by
  exact (List.getElem?_inj (List.getElem?_eq_some_iff.mp e).1 nd).mp (e.trans f.symm)
set_option tactic.hygienic true in
theorem Rep.setList (R : Rep X φ μ ν H C s) {i : Nat} {a : Addr} {its : List Value} {n : Nat} {l : L} {h' : Heap} {tk : Nat} (hi : μ[i]? = some a) (k : Heap.ExtBut a s.heap h')
    (e : h'.get? a = some { cls:=.type "list",data:=.seq its.toArray n }) (hz : its.length ≤ 1048576) (hv : VRs X s.heap (μ.take i) [] its l.vs) : Rep X φ μ ν (H.set i l) C { s with heap:=h',toks:=tk }:=by
  have ha : a ∈ μ:=List.mem_of_getElem? hi
  have hb:=(R.fresh a (.inl ha)).1
  have hp:=(R.fresh a (.inl ha)).2
  refine e2a1 (R.list_at ha) fun its0 n0 e0=>?_
  have st : Stab s.heap h':=fun b o eb sb=>k b o (fun z=>by subst z; rw [e0] at eb; cases eb; exact not_stable_list sb) eb
  have nd:=List.nodup_append.mp R.nodup
  exact
  { frs:=fun L hL=>let ⟨f1,f2,f3⟩:=R.frs L hL; ⟨f1,f2,f3.keeps fun o e=>k L o (fun z=>f2 (z ▸ .inl ha)) e⟩
    same:=let ⟨_,_,e⟩:=R.same; ⟨h',tk,by rw [e]⟩
    keep:=fun b o q=>k b o (fun z=>by subst z; rw [hb] at q; cases q) (R.keep b o q)
    lenH:=by simp [R.lenH]
    lenC:=R.lenC
    nodup:=R.nodup
    fresh:=R.fresh
    lists:=fun j b l' e1 e2=>by
      rw [List.getElem?_set] at e2
      split at e2
      · rename_i hij
        subst hij
        revert e2; refine if_e fun _ e2=>?_
        refine re1_e e2 ?_
        rw [hi] at e1; refine re1_e e1 ?_
        exact ⟨its,n,e,hz,hv.mono st (List.prefix_refl _) (List.prefix_refl _)⟩
      · rename_i hij
        refine e2a3 (R.lists j b l' e1 e2) fun its' n' e' hz' r=>?_
        refine ⟨its',n',k b _ (fun z=>hij ?_) e',hz',r.mono st (List.prefix_refl _) (List.prefix_refl _)⟩
        subst z
        exact nodup_idx nd.1 hi e1
    cells:=fun j b v e1 e2=>(R.cells j b v e1 e2).mono st (List.prefix_refl _) (List.prefix_refl _) fun o eo=>k b o (fun z=>nd.2.2 a ha b (List.mem_of_getElem? e1) z.symm) eo
    tabs:=fun q hq=>by
      refine e1a3 (R.tabs q hq) fun ps eq ht hc=>?_
      exact ⟨ps,k _ _ (fun z=>hp (by rw [← z]; exact List.mem_map_of_mem hq)) eq,ht,fun pos cv ec=>(hc pos cv ec).stab st⟩ }
set_option tactic.hygienic true in
theorem Rep.setCell (R : Rep X φ μ ν H C s) {i : Nat} {a : Addr} {x : Value} {v : V} {h' : Heap} {tk : Nat} (hi : ν[i]? = some a) (k : Heap.ExtBut a s.heap h')
    (e : h'.IsCell a (some x)) (hv : VR X s.heap μ ν x v) : Rep X φ μ ν H (C.set i (some v)) { s with heap:=h',toks:=tk }:=by
  have ha : a ∈ ν:=List.mem_of_getElem? hi
  have hb:=(R.fresh a (.inr ha)).1
  have hp:=(R.fresh a (.inr ha)).2
  refine e1a1 (R.cell_at ha) fun v0 e0=>?_
  have st : Stab s.heap h':=fun b o eb sb=>k b o (fun z=>by subst z; exact not_stable_cell (IsCell_data e0 eb) sb) eb
  have nd:=List.nodup_append.mp R.nodup
  exact
  { frs:=fun L hL=>let ⟨f1,f2,f3⟩:=R.frs L hL; ⟨f1,f2,f3.keeps fun o e=>k L o (fun z=>f2 (z ▸ .inr (.inl ha))) e⟩
    same:=let ⟨_,_,e⟩:=R.same; ⟨h',tk,by rw [e]⟩
    keep:=fun b o q=>k b o (fun z=>by subst z; rw [hb] at q; cases q) (R.keep b o q)
    lenH:=R.lenH
    lenC:=by simp [R.lenC]
    nodup:=R.nodup
    fresh:=R.fresh
    lists:=fun j b l' e1 e2=>by
      refine e2a3 (R.lists j b l' e1 e2) fun its' n' e' hz' r=>?_
      exact ⟨its',n',k b _ (fun z=>nd.2.2 b (List.mem_of_getElem? e1) a ha z) e',hz',r.mono st (List.prefix_refl _) (List.prefix_refl _)⟩
    cells:=fun j b w e1 e2=>by
      rw [List.getElem?_set] at e2
      split at e2
      · rename_i hij
        subst hij
        revert e2; refine if_e fun _ e2=>?_
        refine re1_e e2 ?_
        rw [hi] at e1; refine re1_e e1 ?_
        exact ⟨x,e,hv.mono st (List.prefix_refl _) (List.prefix_refl _)⟩
      · rename_i hij
        exact (R.cells j b w e1 e2).mono st (List.prefix_refl _) (List.prefix_refl _) fun o eo=>k b o (fun z=>hij (by subst z; exact nodup_idx nd.2.1 hi e1)) eo
    tabs:=fun q hq=>by
      refine e1a3 (R.tabs q hq) fun ps eq ht hc=>?_
      exact ⟨ps,k _ _ (fun z=>hp (by rw [← z]; exact List.mem_map_of_mem hq)) eq,ht,fun pos cv ec=>(hc pos cv ec).stab st⟩ }
end
structure FrOk (X : Cx) (φ : List Env) (nm : Nm) (env : Env) (loc : List (Option V)) (cel : List Nat) (μ ν : List Addr) (h : Heap) : Prop where
  top : ∃ e0 φ0,φ = e0 :: φ0 ∧ e0.frame = env.frame
  scope : env.scope = nm.scope
  glob : env.globals = mainGlobals
  bui : env.builtins = builtinsNs
  qual : env.qual = nm.qual
  ns : ∃ m,h.Ns env.locals m ∧ ∀ (i : Nat) (x : Str) (v : V),nm.loc[i]? = some x → loc[i]? = some (some v) → ∃ v',m x = some v' ∧ VR X h μ ν v' v
  own : ¬ Mut X μ ν env.locals ∧ X.h₀.get? env.locals = none
  cell : ∀ (i : Nat) (x : Str) (c : Nat),nm.cel[i]? = some x → cel[i]? = some c → ∃ a,ν[c]? = some a ∧ env.cells.lookup x = some a
  code : ∀ q,X.tabs[nm.tab]? = some q → env.code = .ref q.1
  ownc : ∀ (x : Str) (b : Addr),nm.scope.names.lookup x = some .cell → env.cells.lookup x = some b → b ∈ ν
noncomputable def plainName (x : Str) : Bool:=x != "__debug__" && x != "__classdict__" && x != "__name__"
noncomputable def nmOk (nm : Nm) : Bool:=decide (nm.scope.kind = .function) && nm.loc.all (fun x=>decide (nm.scope.names.lookup x = some .local) && plainName x) &&
  nm.cel.all (fun x=>decide (nm.scope.names.lookup x = some .cell ∨ nm.scope.names.lookup x = some .free) && plainName x) && nm.glb.all (fun x=>decide (nm.scope.names.lookup x = some .globalImplicit) && plainName x) &&
  decide nm.loc.Nodup && decide nm.cel.Nodup
structure NmOk (nm : Nm) : Prop where
  kind : nm.scope.kind = .function
  loc : ∀ x ∈ nm.loc,nm.scope.names.lookup x = some .local ∧ plainName x = true
  cel : ∀ x ∈ nm.cel,(nm.scope.names.lookup x = some .cell ∨ nm.scope.names.lookup x = some .free) ∧ plainName x = true
  glb : ∀ x ∈ nm.glb,nm.scope.names.lookup x = some .globalImplicit ∧ plainName x = true
  nloc : nm.loc.Nodup
  ncel : nm.cel.Nodup
theorem NmOk.of {nm : Nm} (h : nmOk nm = true) : NmOk nm:=by
  simp only [nmOk,Bool.and_eq_true,decide_eq_true_eq,List.all_eq_true] at h
  obtain ⟨⟨⟨⟨⟨h1,h2⟩,h3⟩,h4⟩,h5⟩,h6⟩:=h
  exact ⟨h1,h2,h3,h4,h5,h6⟩
theorem plainName_debug {x : Str} (h : plainName x = true) : (x == ("__debug__" : Str)) = false:=by
  simp only [plainName,Bool.and_eq_true,bne_iff_ne,ne_eq] at h
  exact beq_eq_false_iff_ne.mpr h.1.1
theorem plainName_cd {x : Str} (h : plainName x = true) : (x == ("__classdict__" : Str)) = false:=by
  simp only [plainName,Bool.and_eq_true,bne_iff_ne,ne_eq] at h
  exact beq_eq_false_iff_ne.mpr h.1.2
theorem plainName_nm {x : Str} (h : plainName x = true) : x ≠ "__name__":=by
  simp only [plainName,Bool.and_eq_true,bne_iff_ne,ne_eq] at h
  exact h.2
theorem FrOk.monoK {X : Cx} {nm : Nm} {env : Env} {loc : List (Option V)} {cel : List Nat} {μ μ' ν ν' : List Addr} {h h' : Heap} (F : FrOk X φ nm env loc cel μ ν h) (st : Stab h h') (hp : μ <+: μ') (hq : ν <+: ν')
    (k : ∀ o,h.get? env.locals = some o → Kept h' env.locals o) (hm : ¬ Mut X μ' ν' env.locals) : FrOk X φ nm env loc cel μ' ν' h' where
  top:=F.top
  scope:=F.scope
  glob:=F.glob
  bui:=F.bui
  qual:=F.qual
  ns:=let ⟨m,hn,r⟩:=F.ns; ⟨m,Kept.ns hn k,fun i x v e1 e2=>let ⟨v',e,q⟩:=r i x v e1 e2; ⟨v',e,q.mono st hp hq⟩⟩
  own:=⟨hm,F.own.2⟩
  cell:=fun i x c e1 e2=>let ⟨a,e,f⟩:=F.cell i x c e1 e2; ⟨a,getElem?_pre hq e,f⟩
  code:=F.code
  ownc:=fun x b e f=>(hq.subset (F.ownc x b e f))
theorem FrOk.mono {X : Cx} {nm : Nm} {env : Env} {loc : List (Option V)} {cel : List Nat} {μ μ' ν ν' : List Addr} {h h' : Heap} (F : FrOk X φ nm env loc cel μ ν h) (st : Stab h h') (hp : μ <+: μ') (hq : ν <+: ν')
    (k : ∀ o,h.get? env.locals = some o → h'.get? env.locals = some o) (hm : ¬ Mut X μ' ν' env.locals) : FrOk X φ nm env loc cel μ' ν' h':=F.monoK st hp hq (fun o e=>.inl (k o e)) hm
noncomputable def Chg (X : Cx) (μ : List Addr) (b : Addr) : Prop:=b ∈ μ ∨ b ∈ X.ptabs
theorem Chg.mut {X : Cx} {μ ν : List Addr} {b : Addr} (h : Chg X μ b) : Mut X μ ν b:=h.elim .inl fun h=>.inr (.inr h)
noncomputable def FrW (nm : Nm) (env : Env) (b : Addr) : Prop:=b = env.locals ∨ ∃ x,nm.scope.names.lookup x = some .cell ∧ env.cells.lookup x = some b
theorem FrOk.frw {X : Cx} {nm : Nm} {env : Env} {loc : List (Option V)} {cel : List Nat} {μ ν : List Addr} {h : Heap} (F : FrOk X φ nm env loc cel μ ν h) {b : Addr} (q : FrW nm env b) : b = env.locals ∨ b ∈ ν :=
  q.elim .inl fun ⟨x,e,f⟩=>.inr (F.ownc x b e f)
theorem FrOk.stabW {X : Cx} {nm : Nm} {env : Env} {loc : List (Option V)} {cel : List Nat} {μ ν : List Addr} {H : List L} {C : List (Option V)} {s : Shared} {h' : Heap} (F : FrOk X φ nm env loc cel μ ν s.heap) (R : Rep X φ μ ν H C s)
    (k : Keeps (fun b=>Chg X μ b ∨ FrW nm env b) s.heap h') : Stab s.heap h':=fun b o e sb=>(k b o (fun q=>q.elim (fun q=>R.not_stable q.mut e sb) fun q=>(F.frw q).elim (fun z=>by
      obtain ⟨m0,⟨oL,es,ep,hL,hLd,_⟩,_⟩:=F.ns
      subst z; rw [hL] at e; cases e; exact not_stable_dict hLd sb) fun z=>R.not_stable (.inr (.inl z)) e sb) e).nd sb.nd
structure Aft (X : Cx) (φ : List Env) (μ ν : List Addr) (s : Shared) (H' : List L) (C' : List (Option V)) (μ' : List Addr) (s' : Shared) (free : Addr → Prop) : Prop where
  pre : μ <+: μ'
  new : ∀ a,a ∈ μ' → a ∈ μ ∨ s.heap.get? a = none
  rep : Rep X φ μ' ν H' C' s'
  keeps : Keeps (fun b=>Chg X μ b ∨ free b) s.heap s'.heap
  alive : ∀ b o,s.heap.get? b = some o → ∃ o',s'.heap.get? b = some o'
noncomputable def NoFree : Addr → Prop:=fun _=>False
section
variable {X : Cx} {μ ν : List Addr} {s : Shared} {H H' H'' : List L} {C C' C'' : List (Option V)} {μ' μ'' : List Addr} {s' s'' : Shared} {free : Addr → Prop}
theorem Aft.refl (R : Rep X φ μ ν H C s) : Aft X φ μ ν s H C μ s free:=⟨List.prefix_refl _,fun _ h=>.inl h,R,Keeps.refl _,fun _ o e=>⟨o,e⟩⟩
theorem Aft.trans (a : Aft X φ μ ν s H' C' μ' s' free) (b : Aft X φ μ' ν s' H'' C'' μ'' s'' free) : Aft X φ μ ν s H'' C'' μ'' s'' free where
  pre:=List.IsPrefix.trans a.pre b.pre
  new:=fun x hx=>(b.new x hx).elim (a.new x) fun q=>.inr (by
    cases z : s.heap.get? x with
    | none=>rfl
    | some o=>obtain ⟨o',e⟩:=a.alive x o z; rw [q] at e; cases e)
  rep:=b.rep
  keeps:=fun x o hn e=>(a.keeps x o hn e).trans fun o' e'=>b.keeps x o' (fun q=>q.elim (fun q=>by
      rcases q with q | q
      · exact (a.new x q).elim (fun z=>hn (.inl (.inl z))) fun z=>by rw [z] at e; cases e
      · exact hn (.inl (.inr q))) fun q=>hn (.inr q)) e'
  alive:=fun x o e=>let ⟨o',e'⟩:=a.alive x o e; b.alive x o' e'
theorem Aft.weaken {free' : Addr → Prop} (a : Aft X φ μ ν s H' C' μ' s' free) (k : ∀ b,free b → free' b) : Aft X φ μ ν s H' C' μ' s' free' :=
  ⟨a.pre,a.new,a.rep,a.keeps.weaken fun b q=>q.elim .inl fun q=>.inr (k b q),a.alive⟩
theorem Aft.stab (R : Rep X φ μ ν H C s) (a : Aft X φ μ ν s H' C' μ' s' NoFree) : Stab s.heap s'.heap :=
  R.stab (a.keeps.weaken fun _ q=>q.elim Chg.mut False.elim)
theorem Aft.mut {b : Addr} {o : Obj} (a : Aft X φ μ ν s H' C' μ' s' free) (hl : s.heap.get? b = some o) (hn : ¬ Mut X μ ν b) : ¬ Mut X μ' ν b:=fun q=>by
  rcases q with q | q | q
  · exact (a.new b q).elim (fun z=>hn (.inl z)) fun z=>by rw [z] at hl; cases hl
  · exact hn (.inr (.inl q))
  · exact hn (.inr (.inr q))
theorem Ns_alive {h : Heap} {a : Addr} {m : Str → Option Value} (x : h.Ns a m) : ∃ o,h.get? a = some o:=let ⟨o,_,_,e,_⟩:=x; ⟨o,e⟩
theorem FrOk.aft {nm : Nm} {env : Env} {loc : List (Option V)} {cel : List Nat} (R : Rep X φ μ ν H C s) (a : Aft X φ μ ν s H' C' μ' s' NoFree) (F : FrOk X φ nm env loc cel μ ν s.heap) : FrOk X φ nm env loc cel μ' ν s'.heap :=
  F.monoK (a.stab R) a.pre (List.prefix_refl _) (fun o e=>a.keeps _ o (fun q=>q.elim (fun q=>F.own.1 q.mut) False.elim) e) (let ⟨_,hn,_⟩:=F.ns; let ⟨_,e⟩:=Ns_alive hn; a.mut e F.own.1)
theorem VR.aft {x : Value} {v : V} (R : Rep X φ μ ν H C s) (a : Aft X φ μ ν s H' C' μ' s' NoFree) (r : VR X s.heap μ ν x v) : VR X s'.heap μ' ν x v:=r.mono (a.stab R) a.pre (List.prefix_refl _)
theorem VRs.aft {x : List Value} {v : List V} (R : Rep X φ μ ν H C s) (a : Aft X φ μ ν s H' C' μ' s' NoFree) (r : VRs X s.heap μ ν x v) : VRs X s'.heap μ' ν x v:=r.mono (a.stab R) a.pre (List.prefix_refl _)
theorem Aft.grow (R : Rep X φ μ ν H C s) {h' : Heap} {tk : Nat} (k : ∀ b o,s.heap.get? b = some o → h'.get? b = some o) : Aft X φ μ ν s H C μ { s with heap:=h',toks:=tk } free :=
  ⟨List.prefix_refl _,fun _ h=>.inl h,R.grow k,fun b o _ e=>.inl (k b o e),fun b o e=>⟨o,k b o e⟩⟩
theorem Aft.tok (R : Rep X φ μ ν H C s) (tk : Nat) : Aft X φ μ ν s H C μ { s with toks:=tk } free:=Aft.grow R fun _ _ e=>e
theorem Aft.push (R : Rep X φ μ ν H C s) (o : Obj) {tk : Nat} : Aft X φ μ ν s H C μ { s with heap:=s.heap.push o,toks:=tk } free:=Aft.grow R fun _ _ e=>Heap.get?_push_of_some _ e
theorem Aft.pushList (R : Rep X φ μ ν H C s) {its : List Value} {l : L} {tk : Nat} (hz : its.length ≤ 1048576) (hv : VRs X s.heap μ [] its l.vs) :
    Aft X φ μ ν s (H ++ [l]) C (μ ++ [s.heap.objs.size]) { s with heap:=s.heap.push { cls:=.type "list",data:=.seq its.toArray },toks:=tk } free :=
  ⟨prefix_snoc _ _,fun a ha=>by
    rcases List.mem_append.mp ha with ha | ha
    · exact .inl ha
    · simp at ha; subst ha; exact .inr (none_at_size _),R.pushList hz hv,fun b o _ e=>.inl (Heap.get?_push_of_some _ e),fun b o e=>⟨o,Heap.get?_push_of_some _ e⟩⟩
theorem Aft.setList (R : Rep X φ μ ν H C s) {i : Nat} {a : Addr} {its : List Value} {n : Nat} {l : L} {h' : Heap} {tk : Nat} (hi : μ[i]? = some a) (k : Heap.ExtBut a s.heap h')
    (e : h'.get? a = some { cls:=.type "list",data:=.seq its.toArray n }) (hz : its.length ≤ 1048576) (hv : VRs X s.heap (μ.take i) [] its l.vs) : Aft X φ μ ν s (H.set i l) C μ { s with heap:=h',toks:=tk } free :=
  ⟨List.prefix_refl _,fun _ h=>.inl h,R.setList hi k e hz hv,fun b o hn eb=>.inl (k b o (fun z=>hn (.inl (.inl (z ▸ List.mem_of_getElem? hi)))) eb),fun b o eb=>by
    by_cases z : b = a
    · subst z; exact ⟨_,e⟩
    · exact ⟨o,k b o z eb⟩⟩
end
structure Room (φ : List Env) (n : Nat) (A : Around) : Prop where
  handled : A.handled = none
  depth : A.depth + n ≤ 990
  units : A.units + 16 * n ≤ 9800
  frames : A.frames = some φ
  kinds : ∀ e ∈ φ,e.scope.kind ≠ .module ∧ ∃ L,e.frame = some L
theorem Room.deeper {n : Nat} {A : Around} (r : Room φ (n + 1) A) (env : Env) (hk : env.scope.kind ≠ .module ∧ ∃ L,env.frame = some L) : Room (env :: φ) n (A.deeper env) :=
  ⟨r.handled,by show A.depth + 1 + n ≤ 990; have:=r.depth; lia,by show A.units + 3 + 16 * n ≤ 9800; have:=r.units; lia,by show A.frames.map (env :: ·) = _; rw [r.frames]; rfl,fun e he=>by
    rcases List.mem_cons.mp he with rfl | he
    · exact hk
    · exact r.kinds e he⟩
theorem Room.rl {n : Nat} {A : Around} (r : Room φ n A) : A.depth < recursionLimit:=by show A.depth < 1000; have:=r.depth; lia
theorem Room.c {n : Nat} {A : Around} (r : Room φ n A) : A.units < cLine:=by show A.units < 9900; have:=r.units; lia
noncomputable abbrev Xm:=S → Option (V × List L)
noncomputable abbrev Xms:=S → Option (List V × List L)
noncomputable abbrev Bm:=S → Option (Bool × List L)
inductive Fl | next | ret (v : V)
noncomputable abbrev Sm:=S → Option (Fl × S)
inductive QX (X : Cx) (φ : List Env) (μ ν : List Addr) (s : Shared) (H' : List L) (C : List (Option V)) (v : V) (v' : Value) (s' : Shared) : Prop
  | mk (μ' : List Addr) (a : Aft X φ μ ν s H' C μ' s' NoFree) (r : VR X s'.heap μ' ν v' v)
inductive QB (X : Cx) (φ : List Env) (μ ν : List Addr) (s : Shared) (H' : List L) (C : List (Option V)) (v : Bool) (v' : Bool) (s' : Shared) : Prop
  | mk (e : v' = v) (μ' : List Addr) (a : Aft X φ μ ν s H' C μ' s' NoFree)
inductive QXs (X : Cx) (φ : List Env) (μ ν : List Addr) (s : Shared) (H' : List L) (C : List (Option V)) (vs : List V) (vs' : List Value) (s' : Shared) : Prop
  | mk (μ' : List Addr) (a : Aft X φ μ ν s H' C μ' s' NoFree) (r : VRs X s'.heap μ' ν vs' vs)
noncomputable def RX (X : Cx) (φ : List Env) (n : Nat) (nm : Nm) (e : PySem.Expr) (m : Xm) : Prop :=
  ∀ (A : Around) (env : Env) (σ : S) (s : Shared) (μ ν : List Addr) (v : V) (H' : List L),Room φ n A → FrOk X φ nm env σ.loc σ.cel μ ν s.heap → Rep X φ μ ν σ.H σ.C s → m σ = some (v,H') →
    wpAny (model X.prog X.w) A (eval e env) (QX X φ μ ν s H' σ.C v) (fun _ _=>False) s
noncomputable def RB (X : Cx) (φ : List Env) (n : Nat) (nm : Nm) (e : PySem.Expr) (m : Bm) : Prop :=
  ∀ (A : Around) (env : Env) (σ : S) (s : Shared) (μ ν : List Addr) (v : Bool) (H' : List L),Room φ n A → FrOk X φ nm env σ.loc σ.cel μ ν s.heap → Rep X φ μ ν σ.H σ.C s → m σ = some (v,H') →
    wpAny (model X.prog X.w) A (isTrue e env (eval e env)) (QB X φ μ ν s H' σ.C v) (fun _ _=>False) s
noncomputable def RXs (X : Cx) (φ : List Env) (n : Nat) (nm : Nm) (es : List PySem.Expr) (m : Xms) : Prop :=
  ∀ (A : Around) (env : Env) (σ : S) (s : Shared) (μ ν : List Addr) (vs : List V) (H' : List L) (pos : Pos),Room φ n A → FrOk X φ nm env σ.loc σ.cel μ ν s.heap → Rep X φ μ ν σ.H σ.C s → m σ = some (vs,H') →
    wpAny (model X.prog X.w) A (spliced (backTo pos (starEach es env))) (QXs X φ μ ν s H' σ.C vs) (fun _ _=>False) s
noncomputable def FlR (X : Cx) (h : Heap) (μ ν : List Addr) : Flow → Fl → Prop
  | .next,.next=>True
  | .ret x,.ret v=>VR X h μ ν x v
  | _,_=>False
inductive QS (X : Cx) (φ : List Env) (nm : Nm) (env : Env) (μ ν : List Addr) (s : Shared) (σ' : S) (f : Fl) (f' : Flow) (s' : Shared) : Prop
  | mk (μ' : List Addr) (a : Aft X φ μ ν s σ'.H σ'.C μ' s' (FrW nm env)) (F : FrOk X φ nm env σ'.loc σ'.cel μ' ν s'.heap) (q : FlR X s'.heap μ' ν f' f)
noncomputable def RS (X : Cx) (φ : List Env) (n : Nat) (nm : Nm) (st : Stmt) (m : Sm) : Prop :=
  ∀ (A : Around) (env : Env) (σ : S) (s : Shared) (μ ν : List Addr) (f : Fl) (σ' : S),Room φ n A → FrOk X φ nm env σ.loc σ.cel μ ν s.heap → Rep X φ μ ν σ.H σ.C s → m σ = some (f,σ') →
    wpAny (model X.prog X.w) A (exec st env) (QS X φ nm env μ ν s σ' f) (fun _ _=>False) s
noncomputable def RSs (X : Cx) (φ : List Env) (n : Nat) (nm : Nm) (st : List Stmt) (m : Sm) : Prop :=
  ∀ (A : Around) (env : Env) (σ : S) (s : Shared) (μ ν : List Addr) (f : Fl) (σ' : S),Room φ n A → FrOk X φ nm env σ.loc σ.cel μ ν s.heap → Rep X φ μ ν σ.H σ.C s → m σ = some (f,σ') →
    wpAny (model X.prog X.w) A (execs st env) (QS X φ nm env μ ν s σ' f) (fun _ _=>False) s
theorem QX.e {X : Cx} {φ : List Env} {μ ν : List Addr} {s s' : Shared} {C : List (Option V)} {H' : List L} {v : V} {v' : Value} {P : Prop} (q : QX X φ μ ν s H' C v v' s') (k : ∀ μ',Aft X φ μ ν s H' C μ' s' NoFree → VR X s'.heap μ' ν v' v → P) : P:=let ⟨a,b,c⟩:=q; k a b c
theorem QB.e {X : Cx} {φ : List Env} {μ ν : List Addr} {s s' : Shared} {C : List (Option V)} {H' : List L} {v v' : Bool} {P : Prop} (q : QB X φ μ ν s H' C v v' s') (k : v' = v → ∀ μ',Aft X φ μ ν s H' C μ' s' NoFree → P) : P:=let ⟨a,b,c⟩:=q; k a b c
theorem QS.e {X : Cx} {φ : List Env} {nm : Nm} {env : Env} {μ ν : List Addr} {s s' : Shared} {σ' : S} {f : Fl} {f' : Flow} {P : Prop} (q : QS X φ nm env μ ν s σ' f f' s') (k : ∀ μ',Aft X φ μ ν s σ'.H σ'.C μ' s' (FrW nm env) → FrOk X φ nm env σ'.loc σ'.cel μ' ν s'.heap → FlR X s'.heap μ' ν f' f → P) : P:=let ⟨a,b,c,d⟩:=q; k a b c d
theorem QX.aft {X : Cx} {φ : List Env} {μ ν μ1 : List Addr} {s s1 : Shared} {C C1 : List (Option V)} {H1 H' : List L} {v : V} (a : Aft X φ μ ν s H1 C1 μ1 s1 NoFree) (z : Value) (s3 : Shared) : QX X φ μ1 ν s1 H' C v z s3 → QX X φ μ ν s H' C v z s3 :=
  fun ⟨μ3,a3,r3⟩=>⟨μ3,a.trans a3,r3⟩
theorem QB.aft {X : Cx} {φ : List Env} {μ ν μ1 : List Addr} {s s1 : Shared} {C C1 : List (Option V)} {H1 H' : List L} {v : Bool} (a : Aft X φ μ ν s H1 C1 μ1 s1 NoFree) (z : Bool) (s3 : Shared) : QB X φ μ1 ν s1 H' C v z s3 → QB X φ μ ν s H' C v z s3 :=
  fun ⟨e,μ3,a3⟩=>⟨e,μ3,a.trans a3⟩
theorem QS.aft {X : Cx} {φ : List Env} {nm : Nm} {env : Env} {μ ν μ1 : List Addr} {s s1 : Shared} {C1 : List (Option V)} {H1 : List L} {σ' : S} {f : Fl} (a : Aft X φ μ ν s H1 C1 μ1 s1 (FrW nm env)) (z : Flow) (s3 : Shared) : QS X φ nm env μ1 ν s1 σ' f z s3 → QS X φ nm env μ ν s σ' f z s3 :=
  fun ⟨μ3,a3,F3,q3⟩=>⟨μ3,a.trans a3,F3,q3⟩
noncomputable def FlK (g : S → Option (Fl × S)) (f : Fl) (σ' : S) : Fl → S → Prop
  | .next,σ1=>g σ1 = some (f,σ')
  | .ret v,σ1=>f = .ret v ∧ σ' = σ1
theorem fl_e {o : Option (Fl × S)} {g : S → Option (Fl × S)} {f : Fl} {σ' : S} {P : Prop} (k : ∀ f1 σ1,o = some (f1,σ1) → FlK g f σ' f1 σ1 → P) (e : (match (generalizing:=false) o with | some (.next,σ1)=>g σ1 | some (.ret v,σ1)=>some (.ret v,σ1) | none=>none) = some (f,σ')) : P:=by
  rcases o with _ | ⟨_ | v,σ1⟩
  · cases e
  · exact k _ _ rfl e
  · exact k (.ret v) σ1 rfl (by cases e; exact ⟨rfl,rfl⟩)
@[elab_as_elim] theorem FlR.e {X : Cx} {h : Heap} {μ ν : List Addr} {f' : Flow} {f : Fl} {P : Flow → Fl → Prop} (q : FlR X h μ ν f' f) (n : P .next .next) (r : ∀ x w,VR X h μ ν x w → P (.ret x) (.ret w)) : P f' f:=by
  cases f with
  | next=>cases f' with
    | next=>exact n
    | _=>exact q.elim
  | ret w=>cases f' with
    | ret x=>exact r x w q
    | _=>exact q.elim
theorem it_e {α : Type} {o : Option (Option V)} {a : Option α} {f : V → Option α} {r : α} {P : Prop} (k1 : o = some none → a = some r → P) (k2 : ∀ v,o = some (some v) → f v = some r → P) (e : (match (generalizing:=false) o with | some none=>a | some (some v)=>f v | none=>none) = some r) : P:=by
  rcases o with _ | _ | v
  · cases e
  · exact k1 rfl e
  · exact k2 v rfl e
theorem Aft.turn {X : Cx} {φ : List Env} {μ ν μ3 : List Addr} {s s3 s4 : Shared} {H : List L} {C : List (Option V)} {free : Addr → Prop} {it : Addr} (a : Aft X φ μ ν s H C μ3 s3 free) (R4 : Rep X φ μ3 ν H C s4) (x : Heap.ExtBut it s3.heap s4.heap) (hn : s.heap.get? it = none) : Aft X φ μ ν s H C μ3 s4 free:=by
  have n : ∀ c o,s.heap.get? c = some o → c ≠ it:=fun c o e z=>by rw [z,hn] at e; cases e
  exact ⟨a.pre,a.new,R4,fun c o q e=>(a.keeps c o q e).step fun o' e'=>x c o' (n c o e) e',fun c o e=>Exists.elim (a.alive c o e) fun o' e'=>⟨o',x c o' (n c o e) e'⟩⟩
structure XOk (X : Cx) : Prop where
  g : X.h₀.Ns mainGlobals X.mg
  b : X.h₀.Ns builtinsNs X.mb
  nolimit : X.h₀.NoLimit
  builtins : ∀ x : Str,x ≠ "__name__" → X.mb x = bootBuiltins x
  bmain : ∃ bm ob,X.mg "__builtins__" = some (.ref bm) ∧ bm ≠ builtinsNs ∧ X.h₀.get? bm = some ob ∧ ob.cls = .type "module" ∧ ob.dict = some builtinsNs ∧ ob.data = .plain
  codes : ∀ q ∈ X.tabs,CodeHd X.h₀ q.1 q.2.1
  gens : X.s₀.gens = #[]
end Mine
namespace Mine
section
variable {X : Cx} {n : Nat} {nm : Nm} {env : Env} {A : Around} {σ : S} {s : Shared} {μ ν : List Addr} {H' : List L} {Q E : Value → Shared → Prop}
theorem RX.use {e : PySem.Expr} {m : Xm} (r : RX X φ n nm e m) (hA : Room φ n A) (F : FrOk X φ nm env σ.loc σ.cel μ ν s.heap) (R : Rep X φ μ ν σ.H σ.C s) {v : V} (em : m σ = some (v,H'))
    (k : ∀ v' s' μ',Aft X φ μ ν s H' σ.C μ' s' NoFree → FrOk X φ nm env σ.loc σ.cel μ' ν s'.heap → VR X s'.heap μ' ν v' v → Q v' s') : wpAny (model X.prog X.w) A (eval e env) Q E s :=
  wpAny_mono (r A env σ s μ ν v H' hA F R em) (fun v' s' ⟨μ',a,q⟩=>k v' s' μ' a (F.aft R a) q) fun _ _ h=>h.elim
theorem RB.use {e : PySem.Expr} {m : Bm} (r : RB X φ n nm e m) (hA : Room φ n A) (F : FrOk X φ nm env σ.loc σ.cel μ ν s.heap) (R : Rep X φ μ ν σ.H σ.C s) {v : Bool} (em : m σ = some (v,H')) {Q : Bool → Shared → Prop}
    (k : ∀ s' μ',Aft X φ μ ν s H' σ.C μ' s' NoFree → FrOk X φ nm env σ.loc σ.cel μ' ν s'.heap → Q v s') : wpAny (model X.prog X.w) A (isTrue e env (eval e env)) Q E s :=
  wpAny_mono (r A env σ s μ ν v H' hA F R em) (fun v' s' ⟨e,μ',a⟩=>by subst e; exact k s' μ' a (F.aft R a)) fun _ _ h=>h.elim
theorem RXs.use {es : List PySem.Expr} {m : Xms} (r : RXs X φ n nm es m) (hA : Room φ n A) (F : FrOk X φ nm env σ.loc σ.cel μ ν s.heap) (R : Rep X φ μ ν σ.H σ.C s) {vs : List V} (em : m σ = some (vs,H')) {pos : Pos} {Q : List Value → Shared → Prop}
    (k : ∀ v' s' μ',Aft X φ μ ν s H' σ.C μ' s' NoFree → FrOk X φ nm env σ.loc σ.cel μ' ν s'.heap → VRs X s'.heap μ' ν v' vs → Q v' s') : wpAny (model X.prog X.w) A (spliced (backTo pos (starEach es env))) Q E s :=
  wpAny_mono (r A env σ s μ ν vs H' pos hA F R em) (fun v' s' ⟨μ',a,q⟩=>k v' s' μ' a (F.aft R a) q) fun _ _ h=>h.elim
end
noncomputable def mNone : Xm:=fun σ=>some (.none,σ.H)
noncomputable def mBool (b : Bool) : Xm:=fun σ=>some (.bool b,σ.H)
noncomputable def mInt (i : Int) : Xm:=fun σ=>some (.int i,σ.H)
noncomputable def mStr (x : Str) : Xm:=fun σ=>some (.str x,σ.H)
noncomputable def mFn (k : Nat) : Xm:=fun σ=>some (.fn k,σ.H)
noncomputable def mLoc (i : Nat) : Xm:=fun σ=>match σ.loc[i]? with
  | some (some v)=>some (v,σ.H)
  | _=>none
noncomputable def mCel (i : Nat) : Xm:=fun σ=>match σ.cel[i]? with
  | some c=>(match σ.C[c]? with
    | some (some v)=>some (v,σ.H)
    | _=>none)
  | none=>none
section
variable {X : Cx} {n : Nat} {nm : Nm}
theorem RX_bool {b : Bool} {k : Nat} {pos : Pos} : RX X φ n nm (.Constant (.bool b) k pos) (mBool b):=fun A env σ s μ ν v H' _ _ R em=>by
  refine ret_e em ?_
  exact Constant_bool ⟨μ,.refl R,.bool b⟩
theorem RX_int {i : Int} {k : Nat} {pos : Pos} : RX X φ n nm (.Constant (.int i) k pos) (mInt i):=fun A env σ s μ ν v H' _ _ R em=>by
  refine ret_e em ?_
  exact wpAny_Constant_int ⟨μ,.tok R _,.int _ _⟩
theorem RX_str {x : Str} {k : Nat} {pos : Pos} : RX X φ n nm (.Constant (.str x) k pos) (mStr x):=fun A env σ s μ ν v H' _ _ R em=>by
  refine ret_e em ?_
  exact Calls.Constant_str ⟨μ,.tok R _,.str _ _⟩
theorem FrOk.kindOf {env : Env} {loc : List (Option V)} {cel : List Nat} {μ ν : List Addr} {h : Heap} (F : FrOk X φ nm env loc cel μ ν h) (x : Str) : env.kindOf x = nm.scope.names.lookup x:=by
  unfold Env.kindOf; rw [F.scope]
theorem RX_loc (N : NmOk nm) {x : Str} {pos : Pos} {i : Nat} (hi : nm.loc[i]? = some x) : RX X φ n nm (.Name x pos) (mLoc i):=fun A env σ s μ ν v H' _ F R em=>by
  revert em; refine m_OV fun v0 hv em=>?_
  refine ret_e em ?_
  refine e1a2 F.ns fun m hn hm=>?_
  refine e1a2 (hm i x _ hi hv) fun v' e r=>?_
  have q:=N.loc x (List.mem_of_getElem? hi)
  exact wpAny_Name (wpAny_loadName_local (by rw [F.scope]; exact N.kind) ((F.kindOf x).trans q.1) hn e ⟨μ,.refl R,r⟩) (plainName_debug q.2)
theorem RX_cel (N : NmOk nm) {x : Str} {pos : Pos} {i : Nat} (hi : nm.cel[i]? = some x) : RX X φ n nm (.Name x pos) (mCel i):=fun A env σ s μ ν v H' _ F R em=>by
  revert em; refine m_N fun c hc em=>?_
  revert em; refine m_OV fun v0 hv em=>?_
  refine ret_e em ?_
  refine e1a2 (F.cell i x c hi hc) fun a ha hl=>?_
  refine e1a2 (R.cells c a _ ha hv) fun v' hcell r=>?_
  have q:=N.cel x (List.mem_of_getElem? hi)
  rcases q.1 with hk | hk
  · exact wpAny_Name (wpAny_loadName_cell (by rw [F.scope]; exact N.kind) ((F.kindOf x).trans hk) hl hcell ⟨μ,.refl R,r⟩) (plainName_debug q.2)
  · exact wpAny_Name (wpAny_loadName_free (by rw [F.scope]; exact N.kind) ((F.kindOf x).trans hk) hl hcell ⟨μ,.refl R,r⟩ (plainName_cd q.2)) (plainName_debug q.2)
theorem RX_fn (O : XOk X) (N : NmOk nm) {x : Str} {pos : Pos} {k i : Nat} {a : Addr} (hi : nm.glb[i]? = some x) (hg : X.mg x = some (.ref a)) (hk : X.fn k = some a) : RX X φ n nm (.Name x pos) (mFn k):=fun A env σ s μ ν v H' _ F R em=>by
  refine ret_e em ?_
  have q:=N.glb x (List.mem_of_getElem? hi)
  refine Calls.Name_function_global (by rw [F.scope]; exact N.kind) ((F.kindOf x).trans q.1) (Calls.loadGlobal_global (mg:=X.mg) ?_ hg ⟨μ,.refl R,.fn hk⟩) (plainName_debug q.2)
  rw [F.glob]
  exact O.g.keeps R.keep
theorem name_builtin (O : XOk X) (N : NmOk nm) {x : Str} {pos : Pos} {i : Nat} {b : Value} {A : Around} {env : Env} {loc : List (Option V)} {cel : List Nat} {s : Shared} {μ ν : List Addr} {H : List L} {C : List (Option V)} {Q E : Value → Shared → Prop}
    (hi : nm.glb[i]? = some x) (hg : X.mg x = none) (hb : bootBuiltins x = some b) (F : FrOk X φ nm env loc cel μ ν s.heap) (R : Rep X φ μ ν H C s) (h : Q b s) : wpAny (model X.prog X.w) A (eval (.Name x pos) env) Q E s:=by
  have q:=N.glb x (List.mem_of_getElem? hi)
  refine Calls.Name_function_global (by rw [F.scope]; exact N.kind) ((F.kindOf x).trans q.1) (Calls.loadGlobal_builtin (mg:=X.mg) (mb:=X.mb) ?_ hg ?_ ((O.builtins x (plainName_nm q.2)).trans hb) h) (plainName_debug q.2)
  · rw [F.glob]; exact O.g.keeps R.keep
  · rw [F.bui]; exact O.b.keeps R.keep
end
noncomputable abbrev F1:=V → List L → Option (V × List L)
noncomputable abbrev F2:=V → V → List L → Option (V × List L)
noncomputable abbrev FN:=List V → List L → Option (V × List L)
noncomputable def Op1 (X : Cx) (φ : List Env) (n : Nat) (t : Value → Sem Value) (f : F1) : Prop :=
  ∀ (A : Around) (s : Shared) (μ ν : List Addr) (H : List L) (C : List (Option V)) (x : Value) (v : V) (H' : List L) (r : V),Room φ n A → Rep X φ μ ν H C s → VR X s.heap μ ν x v → f v H = some (r,H') →
    wpAny (model X.prog X.w) A (t x) (QX X φ μ ν s H' C r) (fun _ _=>False) s
noncomputable def Op2 (X : Cx) (φ : List Env) (n : Nat) (t : Value → Value → Sem Value) (f : F2) : Prop :=
  ∀ (A : Around) (s : Shared) (μ ν : List Addr) (H : List L) (C : List (Option V)) (x y : Value) (v u : V) (H' : List L) (r : V),Room φ n A → Rep X φ μ ν H C s → VR X s.heap μ ν x v → VR X s.heap μ ν y u → f v u H = some (r,H') →
    wpAny (model X.prog X.w) A (t x y) (QX X φ μ ν s H' C r) (fun _ _=>False) s
noncomputable def OpN (X : Cx) (φ : List Env) (n : Nat) (t : List Value → Sem Value) (f : FN) : Prop :=
  ∀ (A : Around) (s : Shared) (μ ν : List Addr) (H : List L) (C : List (Option V)) (xs : List Value) (vs : List V) (H' : List L) (r : V),Room φ n A → Rep X φ μ ν H C s → VRs X s.heap μ ν xs vs → f vs H = some (r,H') →
    wpAny (model X.prog X.w) A (t xs) (QX X φ μ ν s H' C r) (fun _ _=>False) s
noncomputable def mUn (f : F1) (a : Xm) : Xm:=fun σ=>match a σ with
  | some (x,H1)=>f x H1
  | none=>none
noncomputable def mBin (f : F2) (a b : Xm) : Xm:=fun σ=>match a σ with
  | some (x,H1)=>(match b { σ with H:=H1 } with
    | some (y,H2)=>f x y H2
    | none=>none)
  | none=>none
section
variable {X : Cx} {n : Nat} {nm : Nm}
theorem RX_bin {l r : PySem.Expr} {op : Operator} {pos : Pos} {a b : Xm} {f : F2} (ra : RX X φ n nm l a) (rb : RX X φ n nm r b) (hf : Op2 X φ n (binaryOp op) f) : RX X φ n nm (.BinOp l op r pos) (mBin f a b):=fun A env σ s μ ν v H' hA F R em=>by
  revert em; refine m_VH fun x H1 e1 em=>?_
  revert em; refine m_VH fun y H2 e2 em=>?_
  refine wpAny_BinOp (ra.use hA F R e1 fun x' s1 μ1 a1 F1 r1=>rb.use (σ:={ σ with H:=H1 }) hA F1 a1.rep e2 fun y' s2 μ2 a2 F2 r2=>?_)
  exact wpAny_mono (hf A s2 μ2 ν H2 σ.C x' y' x y H' v hA a2.rep (r1.aft a1.rep a2) r2 em) (QX.aft ((a1.trans a2))) fun _ _ h=>h
theorem RX_un {x : PySem.Expr} {op : UnaryOp} {pos : Pos} {a : Xm} {f : F1} (ra : RX X φ n nm x a) (hf : Op1 X φ n (unaryOp op) f) : RX X φ n nm (.UnaryOp op x pos) (mUn f a):=fun A env σ s μ ν v H' hA F R em=>by
  revert em; refine m_VH fun x H1 e1 em=>?_
  refine UnaryOp_ (ra.use hA F R e1 fun x' s1 μ1 a1 F1 r1=>?_)
  exact wpAny_mono (hf A s1 μ1 ν H1 σ.C x' x H' v hA a1.rep r1 em) (QX.aft (a1)) fun _ _ h=>h
theorem RX_cmp {l r : PySem.Expr} {op : CmpOp} {pos : Pos} {a b : Xm} {f : F2} (ra : RX X φ n nm l a) (rb : RX X φ n nm r b) (hf : Op2 X φ n (compareOp op) f) (hm : behindInMarks op r = false:=by with_unfolding_all rfl) :
    RX X φ n nm (.Compare l [op] [r] pos) (mBin f a b):=fun A env σ s μ ν v H' hA F R em=>by
  revert em; refine m_VH fun x H1 e1 em=>?_
  revert em; refine m_VH fun y H2 e2 em=>?_
  refine wpAny_Compare1 (ra.use hA F R e1 fun x' s1 μ1 a1 F1 r1=>rb.use (σ:={ σ with H:=H1 }) hA F1 a1.rep e2 fun y' s2 μ2 a2 F2 r2=>?_) hm
  exact wpAny_mono (hf A s2 μ2 ν H2 σ.C x' y' x y H' v hA a2.rep (r1.aft a1.rep a2) r2 em) (QX.aft ((a1.trans a2))) fun _ _ h=>h
noncomputable def small (a : Int) : Bool:=decide (-9223372036854775808 ≤ a) && decide (a ≤ 9223372036854775807)
theorem small_bits {a : Int} (h : small a = true) : Builtin.Int.intBits a ≤ 64:=by
  simp only [small,Bool.and_eq_true,decide_eq_true_eq] at h
  exact intBits_le_64 (by lia) (by lia)
theorem small_log2 {a : Int} (h : small a = true) : a.natAbs.log2 < 9000:=by
  simp only [small,Bool.and_eq_true,decide_eq_true_eq] at h
  rcases Nat.eq_zero_or_pos a.natAbs with h0 | hp
  · rw [h0]; decide
  · have : a.natAbs.log2 < 64:=(Nat.log2_lt (Nat.ne_of_gt hp)).mpr (by lia)
    lia
noncomputable def fAdd : F2:=fun v w H=>match v,w with
  | .int a,.int b=>some (.int (a + b),H)
  | _,_=>none
noncomputable def fSub : F2:=fun v w H=>match v,w with
  | .int a,.int b=>some (.int (a - b),H)
  | _,_=>none
noncomputable def fMul : F2:=fun v w H=>match v,w with
  | .int a,.int b=>if small a || small b then some (.int (a * b),H) else none
  | _,_=>none
noncomputable def fDiv : F2:=fun v w H=>match v,w with
  | .int a,.int b=>if b = 0 then none else if small b then some (.int (a.fdiv b),H) else none
  | _,_=>none
noncomputable def fMod : F2:=fun v w H=>match v,w with
  | .int a,.int b=>if b = 0 then none else some (.int (a.fmod b),H)
  | _,_=>none
noncomputable def fPow : F2:=fun v w H=>match v,w with
  | .int a,.int b=>if 0 ≤ b ∧ b ≤ 1000 ∧ small a then some (.int (a ^ b.toNat),H) else none
  | _,_=>none
noncomputable def fShr : F2:=fun v w H=>match v,w with
  | .int a,.int b=>if 0 ≤ b then some (.int (a.fdiv (2 ^ b.toNat)),H) else none
  | _,_=>none
noncomputable def fAnd : F2:=fun v w H=>match v,w with
  | .int a,.int b=>some (.int (Builtin.bitAnd a b),H)
  | _,_=>none
theorem Op2_add : Op2 X φ n (binaryOp .Add) fAdd:=fun A s μ ν H C x y v u H' r hA R rx ry em=>by
  unfold fAdd at em
  split at em
  · cases em; refine rx.int_e fun _=>ry.int_e fun _=>?_
    exact add_int ⟨μ,.tok R _,.int _ _⟩
  · cases em
theorem Op2_sub : Op2 X φ n (binaryOp .Sub) fSub:=fun A s μ ν H C x y v u H' r hA R rx ry em=>by
  unfold fSub at em
  split at em
  · cases em; refine rx.int_e fun _=>ry.int_e fun _=>?_
    exact sub_int ⟨μ,.tok R _,.int _ _⟩
  · cases em
theorem Op2_mul : Op2 X φ n (binaryOp .Mult) fMul:=fun A s μ ν H C x y v u H' r hA R rx ry em=>by
  unfold fMul at em
  split at em
  · revert em; refine if_e fun hs em=>?_
    refine ret_e em ?_; refine rx.int_e fun _=>ry.int_e fun _=>?_
    refine mul_int ⟨μ,.tok R _,.int _ _⟩ ?_
    rcases Bool.or_eq_true_iff.mp hs with hs | hs
    · exact .of_left (small_bits hs)
    · exact .of_right (small_bits hs)
  · cases em
theorem Op2_div : Op2 X φ n (binaryOp .FloorDiv) fDiv:=fun A s μ ν H C x y v u H' r hA R rx ry em=>by
  unfold fDiv at em
  split at em
  · revert em; refine ifn_e fun hb em=>?_
    revert em; refine if_e fun hs em=>?_
    refine ret_e em ?_; refine rx.int_e fun _=>ry.int_e fun _=>?_
    exact floordiv_int hb ⟨μ,.tok R _,.int _ _⟩ (.inl (PyProof.noPylong_of_log2 (small_log2 hs)))
  · cases em
theorem Op2_mod : Op2 X φ n (binaryOp .Mod) fMod:=fun A s μ ν H C x y v u H' r hA R rx ry em=>by
  unfold fMod at em
  split at em
  · revert em; refine ifn_e fun hb em=>?_
    refine ret_e em ?_; refine rx.int_e fun _=>ry.int_e fun _=>?_
    exact mod_int hb ⟨μ,.tok R _,.int _ _⟩
  · cases em
set_option tactic.hygienic true in
theorem Op2_pow : Op2 X φ n (binaryOp .Pow) fPow:=fun A s μ ν H C x y v u H' r hA R rx ry em=>by
  unfold fPow at em
  split at em
  · rename_i a b
    revert em; refine if_e fun hb em=>?_
    refine ret_e em ?_; refine rx.int_e fun _=>ry.int_e fun _=>?_
    have h1:=small_bits hb.2.2
    refine pow_int hb.1 ?_ ⟨μ,.tok R _,.int _ _⟩
    have h2 : (Builtin.Int.intBits a : Int) ≤ 64:=by lia
    have h3 : (Builtin.Int.intBits a : Int) * b ≤ 64 * 1000:=Int.mul_le_mul h2 hb.2.1 hb.1 (by lia)
    lia
  · cases em
theorem Op2_shr : Op2 X φ n (binaryOp .RShift) fShr:=fun A s μ ν H C x y v u H' r hA R rx ry em=>by
  unfold fShr at em
  split at em
  · revert em; refine if_e fun hb em=>?_
    refine ret_e em ?_; refine rx.int_e fun _=>ry.int_e fun _=>?_
    exact rshift_int hb ⟨μ,.tok R _,.int _ _⟩
  · cases em
theorem Op2_and : Op2 X φ n (binaryOp .BitAnd) fAnd:=fun A s μ ν H C x y v u H' r hA R rx ry em=>by
  unfold fAnd at em
  split at em
  · cases em; refine rx.int_e fun _=>ry.int_e fun _=>?_
    exact and_int ⟨μ,.tok R _,.int _ _⟩
  · cases em
noncomputable def fNeg : F1:=fun v H=>match v with
  | .int a=>some (.int (-a),H)
  | _=>none
theorem Op1_neg : Op1 X φ n (unaryOp .USub) fNeg:=fun A s μ ν H C x v H' r hA R rx em=>by
  unfold fNeg at em
  split at em
  · cases em; refine rx.int_e fun _=>?_
    exact PyProof.Rows.neg_int ⟨μ,.tok R _,.int _ _⟩
  · cases em
noncomputable def fLt : F2:=fun v w H=>match v,w with
  | .int a,.int b=>some (.bool (decide (a < b)),H)
  | _,_=>none
noncomputable def fLe : F2:=fun v w H=>match v,w with
  | .int a,.int b=>some (.bool (decide (a ≤ b)),H)
  | _,_=>none
noncomputable def fEqI : F2:=fun v w H=>match v,w with
  | .int a,.int b=>some (.bool (a == b),H)
  | _,_=>none
noncomputable def fNeI : F2:=fun v w H=>match v,w with
  | .int a,.int b=>some (.bool (a != b),H)
  | _,_=>none
theorem Op2_lt : Op2 X φ n (compareOp .Lt) fLt:=fun A s μ ν H C x y v u H' r hA R rx ry em=>by
  unfold fLt at em
  split at em
  · cases em; refine rx.int_e fun _=>ry.int_e fun _=>?_
    exact lt_int ⟨μ,.refl R,.bool _⟩
  · cases em
theorem Op2_le : Op2 X φ n (compareOp .LtE) fLe:=fun A s μ ν H C x y v u H' r hA R rx ry em=>by
  unfold fLe at em
  split at em
  · cases em; refine rx.int_e fun _=>ry.int_e fun _=>?_
    exact le_int ⟨μ,.refl R,.bool _⟩
  · cases em
theorem Op2_eqI : Op2 X φ n (compareOp .Eq) fEqI:=fun A s μ ν H C x y v u H' r hA R rx ry em=>by
  unfold fEqI at em
  split at em
  · cases em; refine rx.int_e fun _=>ry.int_e fun _=>?_
    exact eq_int ⟨μ,.refl R,.bool _⟩
  · cases em
theorem Op2_neI : Op2 X φ n (compareOp .NotEq) fNeI:=fun A s μ ν H C x y v u H' r hA R rx ry em=>by
  unfold fNeI at em
  split at em
  · cases em; refine rx.int_e fun _=>ry.int_e fun _=>?_
    exact ne_int ⟨μ,.refl R,.bool _⟩
  · cases em
end
end Mine
namespace Mine
noncomputable def fTruth (v : V) (H : List L) : Option Bool:=match v with
  | .bool b=>some b
  | .int i=>some (i != 0)
  | .none=>some false
  | .ref i=>(match H[i]? with
    | some l=>some (!l.vs.isEmpty)
    | none=>none)
  | _=>none
section
variable {X : Cx} {n : Nat} {nm : Nm}
theorem truthy_V {A : Around} {s : Shared} {μ ν : List Addr} {H : List L} {C : List (Option V)} {x : Value} {v : V} {b : Bool} {Q : Bool → Shared → Prop} {E : Value → Shared → Prop}
    (R : Rep X φ μ ν H C s) (r : VR X s.heap μ ν x v) (e : fTruth v H = some b) (h : ∀ tk,Q b { s with toks:=tk }) : wpAny (model X.prog X.w) A (truthy x) Q E s:=by
  unfold fTruth at e
  split at e
  · cases e; exact r.bool_e (wpAny_truthy_bool (h _))
  · cases e; exact r.int_e fun _=>P.truthy_int (h _)
  · cases e; exact r.none_e (truthy_none (h _))
  · revert e; refine m_L fun l hl e=>?_
    cases e; refine r.ref_e fun a ha=>?_
    refine e2a3 (R.lists _ a l ha hl) fun its k ho hz rv=>?_
    refine wpAny_truthy_list (items:=its.toArray) ⟨_,ho,rfl,k,rfl⟩ (by rw [List.size_toArray]; lia) ?_
    have : its.toArray.isEmpty = l.vs.isEmpty:=by
      have:=rv.length
      cases its with
      | nil=>cases hv : l.vs with
        | nil=>rfl
        | cons _ _=>rw [hv] at this; cases this
      | cons _ _=>cases hv : l.vs with
        | nil=>rw [hv] at this; cases this
        | cons _ _=>simp
    rw [this]
    exact h _
  · cases e
noncomputable def mTest (m : Xm) : Bm:=fun σ=>match m σ with
  | some (v,H)=>(match fTruth v H with
    | some b=>some (b,H)
    | none=>none)
  | none=>none
theorem mTest_inv {m : Xm} {σ : S} {b : Bool} {H : List L} (e : mTest m σ = some (b,H)) : ∃ v,m σ = some (v,H) ∧ fTruth v H = some b:=by
  revert e; refine m_VH fun v H1 h1 e=>?_
  revert e; refine m_B fun b' h2 e=>?_
  refine ret_e e ?_
  exact ⟨v,h1,h2⟩
theorem RB_val {e : PySem.Expr} {m : Xm} (r : RX X φ n nm e m) (he : ∀ env,isTrue e env (eval e env) = (do let v ← eval e env; standAt e.pos; holding [v] (truthy v)):=by intro _; rfl) : RB X φ n nm e (mTest m):=fun A env σ s μ ν v H' hA F R em=>by
  refine e1a2 (mTest_inv em) fun w e1 e2=>?_
  exact wpAny_isTrue_value (r.use hA F R e1 fun x' s1 μ1 a1 F1 r1=>truthy_V a1.rep r1 e2 fun tk=>⟨rfl,μ1,a1.trans (.tok a1.rep _)⟩) (he env)
theorem RB_cmp {l r : PySem.Expr} {op : CmpOp} {pos : Pos} {a b : Xm} {f : F2} (ra : RX X φ n nm l a) (rb : RX X φ n nm r b) (hf : Op2 X φ n (compareOp op) f) (hm : behindInMarks op r = false:=by with_unfolding_all rfl) :
    RB X φ n nm (.Compare l [op] [r] pos) (mTest (mBin f a b)):=fun A env σ s μ ν v H' hA F R em=>by
  refine e1a2 (mTest_inv em) fun w e1 e2=>?_
  revert e1; refine m_VH fun x H1 e1' e1=>?_
  revert e1; refine m_VH fun y H2 e2' e1=>?_
  refine wpAny_isTrue_Compare1 (ra.use hA F R e1' fun x' s1 μ1 a1 F1 r1=>rb.use (σ:={ σ with H:=H1 }) hA F1 a1.rep e2' fun y' s2 μ2 a2 F2 r2=>?_) hm
  refine wpAny_mono (hf A s2 μ2 ν H2 σ.C x' y' x y H' w hA a2.rep (r1.aft a1.rep a2) r2 e1) (fun z s3 qq=>qq.e fun μ3 a3 r3=>truthy_V a3.rep r3 e2 fun tk=>⟨rfl,μ3,((a1.trans a2).trans a3).trans (.tok a3.rep _)⟩) fun _ _ h=>h.elim
noncomputable def mNot (m : Bm) : Bm:=fun σ=>match m σ with
  | some (b,H)=>some (!b,H)
  | none=>none
set_option tactic.hygienic true in
theorem RB_not {x : PySem.Expr} {pos : Pos} {m : Bm} (r : RB X φ n nm x m) : RB X φ n nm (.UnaryOp .Not x pos) (mNot m):=fun A env σ s μ ν v H' hA F R em=>by
  unfold mNot at em
  split at em
  · rename_i b H1 e1
    refine ret_e em ?_
    exact isTrue_not (r.use hA F R e1 fun s1 μ1 a1 F1=>⟨rfl,μ1,a1⟩)
  · cases em
noncomputable def RAll (X : Cx) (φ : List Env) (n : Nat) (nm : Nm) (op : PySem.BoolOp) (es : List PySem.Expr) (m : Bm) : Prop :=
  ∀ (A : Around) (env : Env) (σ : S) (s : Shared) (μ ν : List Addr) (v : Bool) (H' : List L),Room φ n A → FrOk X φ nm env σ.loc σ.cel μ ν s.heap → Rep X φ μ ν σ.H σ.C s → m σ = some (v,H') →
    wpAny (model X.prog X.w) A (allTrue op es env) (QB X φ μ ν s H' σ.C v) (fun _ _=>False) s
noncomputable def mConst (b : Bool) : Bm:=fun σ=>some (b,σ.H)
noncomputable def mOrB (a b : Bm) : Bm:=fun σ=>match a σ with
  | some (false,H)=>b { σ with H:=H }
  | some (true,H)=>some (true,H)
  | none=>none
theorem RAll_or_nil : RAll X φ n nm .Or [] (mConst false):=fun A env σ s μ ν v H' hA F R em=>by
  refine ret_e em ?_
  exact wpAny_allTrue_Or_nil ⟨rfl,μ,.refl R⟩
theorem RAll_or {x : PySem.Expr} {rest : List PySem.Expr} {a b : Bm} (ra : RB X φ n nm x a) (rb : RAll X φ n nm .Or rest b) : RAll X φ n nm .Or (x :: rest) (mOrB a b):=fun A env σ s μ ν v H' hA F R em=>by
  revert em; refine m_ft (fun H1 e1 em=>?_) (fun H1 e1 em=>?_)
  · refine wpAny_allTrue_Or_cons (ra.use hA F R e1 fun s1 μ1 a1 F1=>?_)
    exact wpAny_mono (rb A env { σ with H:=H1 } s1 μ1 ν v H' hA F1 a1.rep em) (QB.aft (a1)) fun _ _ h=>h
  · cases em
    exact wpAny_allTrue_Or_cons (ra.use hA F R e1 fun s1 μ1 a1 F1=>⟨rfl,μ1,a1⟩)
theorem RB_bool {op : PySem.BoolOp} {es : List PySem.Expr} {pos : Pos} {m : Bm} (r : RAll X φ n nm op es m) : RB X φ n nm (.BoolOp op es pos) m:=fun A env σ s μ ν v H' hA F R em =>
  wpAny_isTrue_BoolOp (r A env σ s μ ν v H' hA F R em)
noncomputable def mAndV (a b : Xm) : Xm:=fun σ=>match a σ with
  | some (v,H)=>(match fTruth v H with
    | some true=>b { σ with H:=H }
    | some false=>some (v,H)
    | none=>none)
  | none=>none
theorem RX_bool1 {op : PySem.BoolOp} {e : PySem.Expr} {pos : Pos} {m : Xm} (r : RX X φ n nm e m) : RX X φ n nm (.BoolOp op [e] pos) m:=fun A env σ s μ ν v H' hA F R em=>BoolOp_one (r A env σ s μ ν v H' hA F R em)
set_option tactic.hygienic true in
theorem RX_and {e₁ e₂ : PySem.Expr} {rest : List PySem.Expr} {pos : Pos} {a b : Xm} (ra : RX X φ n nm e₁ a) (rb : RX X φ n nm (.BoolOp .And (e₂ :: rest) pos) b) : RX X φ n nm (.BoolOp .And (e₁ :: e₂ :: rest) pos) (mAndV a b):=fun A env σ s μ ν v H' hA F R em=>by
  revert em; refine m_VH fun w H1 e1 em=>?_
  split at em
  · rename_i e2
    refine BoolOp_and (ra.use hA F R e1 fun x' s1 μ1 a1 F1 r1=>truthy_V a1.rep r1 e2 fun tk=>?_)
    have a2 : Aft X φ μ1 ν s1 H1 σ.C μ1 { s1 with toks:=tk } NoFree:=.tok a1.rep _
    exact wpAny_mono (rb A env { σ with H:=H1 } _ μ1 ν v H' hA (F1.aft a1.rep a2) a2.rep em) (QX.aft ((a1.trans a2))) fun _ _ h=>h
  · rename_i e2
    refine ret_e em ?_
    refine BoolOp_and (ra.use hA F R e1 fun x' s1 μ1 a1 F1 r1=>truthy_V a1.rep r1 e2 fun tk=>?_)
    exact ⟨μ1,a1.trans (.tok a1.rep _),r1⟩
  · cases em
noncomputable def mIf (t : Bm) (a b : Xm) : Xm:=fun σ=>match t σ with
  | some (true,H)=>a { σ with H:=H }
  | some (false,H)=>b { σ with H:=H }
  | none=>none
theorem RX_ifexp {t e₁ e₂ : PySem.Expr} {pos : Pos} {m : Bm} {a b : Xm} (rt : RB X φ n nm t m) (ra : RX X φ n nm e₁ a) (rb : RX X φ n nm e₂ b) : RX X φ n nm (.IfExp t e₁ e₂ pos) (mIf m a b):=fun A env σ s μ ν v H' hA F R em=>by
  revert em; refine m_tf (fun H1 e1 em=>?_) (fun H1 e1 em=>?_)
  · refine IfExp_ (rt.use hA F R e1 fun s1 μ1 a1 F1=>?_)
    exact wpAny_mono (ra A env { σ with H:=H1 } s1 μ1 ν v H' hA F1 a1.rep em) (QX.aft (a1)) fun _ _ h=>h
  · refine IfExp_ (rt.use hA F R e1 fun s1 μ1 a1 F1=>?_)
    exact wpAny_mono (rb A env { σ with H:=H1 } s1 μ1 ν v H' hA F1 a1.rep em) (QX.aft (a1)) fun _ _ h=>h
noncomputable def V.isNone : V → Bool
  | .none=>true
  | _=>false
noncomputable def fIsNone : F1:=fun v H=>match v with
  | .none=>some (.bool true,H)
  | _=>some (.bool false,H)
theorem VR.none_iff {h : Heap} {μ ν : List Addr} {x : Value} {v : V} (r : VR X h μ ν x v) : (x == Value.none) = v.isNone:=by
  refine r.el (P:=fun x=>(x == Value.none) = v.isNone) ?_
  cases v <;> first | exact rfl | exact fun _=>rfl | exact fun _ _=>rfl | exact fun _ _ _ _ _=>rfl | exact fun _ _ _ _ _ _ _ _ _ _ _=>rfl
theorem fIsNone_eq (v : V) (H : List L) : fIsNone v H = some (.bool v.isNone,H):=by
  cases v <;> rfl
theorem RB_isNone {x : PySem.Expr} {k : Nat} {p pos : Pos} {a : Xm} (ra : RX X φ n nm x a) : RB X φ n nm (.Compare x [.Is] [.Constant .none k p] pos) (mTest (mUn fIsNone a)):=fun A env σ s μ ν v H' hA F R em=>by
  refine e1a2 (mTest_inv em) fun w e1 e2=>?_
  unfold mUn at e1
  revert e1; refine m_VH fun w H1 e1' e1=>?_
  rw [fIsNone_eq] at e1
  cases e1
  refine re1_e e2 ?_
  refine wpAny_isTrue_Compare1 (ra.use hA F R e1' fun x' s1 μ1 a1 F1 r1=>Constant_none (is_none ?_))
  rw [r1.none_iff]
  exact wpAny_truthy_bool ⟨rfl,μ1,a1⟩
end
section
variable {X : Cx} {n : Nat} {nm : Nm}
noncomputable def sNil : Sm:=fun σ=>some (.next,σ)
noncomputable def sSeq (a b : Sm) : Sm:=fun σ=>match a σ with
  | some (.next,σ1)=>b σ1
  | some (.ret v,σ1)=>some (.ret v,σ1)
  | none=>none
theorem RSs_nil : RSs X φ n nm [] sNil:=fun A env σ s μ ν f σ' hA F R em=>by
  refine ret_e em ?_
  exact wpAny_execs_nil ⟨μ,.refl R,F,trivial⟩
theorem RSs_cons {st : Stmt} {rest : List Stmt} {a b : Sm} (ra : RS X φ n nm st a) (rb : RSs X φ n nm rest b) : RSs X φ n nm (st :: rest) (sSeq a b):=fun A env σ s μ ν f σ' hA F R em=>by
  unfold sSeq at em
  refine fl_e (fun f1 σ1 e1 k1=>?_) em
  refine wpAny_execs_cons (wpAny_mono (ra A env σ s μ ν f1 σ1 hA F R e1) (fun f2 s1 q=>q.e fun μ1 a1 F1 q1=>?_) fun _ _ h=>h.elim)
  revert k1
  refine q1.e ?_ ?_
  · exact fun em=>wpAny_mono (rb A env σ1 s1 μ1 ν f σ' hA F1 a1.rep em) (QS.aft a1) fun _ _ h=>h
  · intro x w r hq
    refine And.elim (fun h1 h2=>?_) hq
    subst h1 h2
    exact ⟨μ1,a1,F1,r⟩
noncomputable def sIf (t : Bm) (a b : Sm) : Sm:=fun σ=>match t σ with
  | some (true,H)=>a { σ with H:=H }
  | some (false,H)=>b { σ with H:=H }
  | none=>none
theorem Aft.toFr {μ ν : List Addr} {s s' : Shared} {H' : List L} {C' : List (Option V)} {μ' : List Addr} {env : Env} (a : Aft X φ μ ν s H' C' μ' s' NoFree) : Aft X φ μ ν s H' C' μ' s' (FrW nm env):=a.weaken fun _ h=>h.elim
theorem RS_if {t : PySem.Expr} {body orelse : List Stmt} {pos : Pos} {m : Bm} {a b : Sm} (rt : RB X φ n nm t m) (ra : RSs X φ n nm body a) (rb : RSs X φ n nm orelse b) : RS X φ n nm (.If t body orelse pos) (sIf m a b):=fun A env σ s μ ν f σ' hA F R em=>by
  revert em; refine m_tf (fun H1 e1 em=>?_) (fun H1 e1 em=>?_)
  · refine wpAny_If (rt.use hA F R e1 fun s1 μ1 a1 F1=>?_)
    exact wpAny_mono (ra A env { σ with H:=H1 } s1 μ1 ν f σ' hA F1 a1.rep em) (QS.aft (a1.toFr)) fun _ _ h=>h
  · refine wpAny_If (rt.use hA F R e1 fun s1 μ1 a1 F1=>?_)
    exact wpAny_mono (rb A env { σ with H:=H1 } s1 μ1 ν f σ' hA F1 a1.rep em) (QS.aft (a1.toFr)) fun _ _ h=>h
noncomputable def sRet (m : Xm) : Sm:=fun σ=>match m σ with
  | some (v,H)=>some (.ret v,{ σ with H:=H })
  | none=>none
theorem RS_ret {e : PySem.Expr} {pos : Pos} {m : Xm} (r : RX X φ n nm e m) : RS X φ n nm (.Return (some e) pos) (sRet m):=fun A env σ s μ ν f σ' hA F R em=>by
  revert em; refine m_VH fun v H1 e1 em=>?_
  refine ret_e em ?_
  exact wpAny_Return_some (r.use hA F R e1 fun x' s1 μ1 a1 F1 r1=>⟨μ1,a1.toFr,F1,r1⟩)
noncomputable def sExpr (m : Xm) : Sm:=fun σ=>match m σ with
  | some (_,H)=>some (.next,{ σ with H:=H })
  | none=>none
theorem RS_expr {e : PySem.Expr} {pos : Pos} {m : Xm} (N : NmOk nm) (r : RX X φ n nm e m) (hs : ∀ env,swapsWith e none pos.line env = pure false:=by intro _; rfl) : RS X φ n nm (.Expr e pos) (sExpr m):=fun A env σ s μ ν f σ' hA F R em=>by
  revert em; refine m_VH fun v H1 e1 em=>?_
  refine ret_e em ?_
  refine wpAny_Expr_any (r.use hA F R e1 fun x' s1 μ1 a1 F1 r1=>⟨μ1,a1.toFr,F1,trivial⟩) ?_ (hs env)
  unfold interactive
  rw [F.scope,N.kind]
  rfl
theorem FrOk.kindLoc {env : Env} {loc : List (Option V)} {cel : List Nat} {μ ν : List Addr} {h : Heap} (F : FrOk X φ nm env loc cel μ ν h) (N : NmOk nm) {i : Nat} {x : Str} (hi : nm.loc[i]? = some x) : env.kindOf x = some .local :=
  (F.kindOf x).trans (N.loc x (List.mem_of_getElem? hi)).1
theorem FrOk.notModule {env : Env} {loc : List (Option V)} {cel : List Nat} {μ ν : List Addr} {h : Heap} (F : FrOk X φ nm env loc cel μ ν h) (N : NmOk nm) : (env.scope.kind == .class || (env.scope.kind == .module && env.locals != env.globals)) = false:=by
  rw [F.scope,N.kind]; rfl
set_option tactic.hygienic true in
theorem store_loc (N : NmOk nm) {A : Around} {env : Env} {loc : List (Option V)} {cel : List Nat} {s : Shared} {μ ν : List Addr} {H : List L} {C : List (Option V)} {i : Nat} {x : Str} {v' : Value} {v : V} {Q : Unit → Shared → Prop} {E : Value → Shared → Prop}
    (F : FrOk X φ nm env loc cel μ ν s.heap) (R : Rep X φ μ ν H C s) (hi : nm.loc[i]? = some x) (r : VR X s.heap μ ν v' v)
    (h : ∀ s',Aft X φ μ ν s H C μ s' (FrW nm env) → FrOk X φ nm env (loc.set i (some v)) cel μ ν s'.heap → Q () s') : wpAny (model X.prog X.w) A (storeName env x v') Q E s:=by
  refine e1a2 F.ns fun m hn hm=>?_
  refine e3a3 hn fun oL es ep hL hLd _=>?_
  refine wpAny_storeName_local (F.kindLoc N hi) F.ns.choose_spec.1 (fun h' hn' hs'=>?_) (F.notModule N)
  have hext:=hs'.extBut
  have R' : Rep X φ μ ν H C { s with heap:=h',toks:=s.toks + 1 }:=R.upd hext hL (not_stable_dict hLd) F.own.1 F.own.2 (.inr (.inl (let ⟨o,es,ep,e,d,_⟩:=hn'; ⟨o,es,ep,e,d⟩)))
  have st : Stab s.heap h':=fun b o e sb=>hext b o (fun z=>by subst z; rw [hL] at e; cases e; exact not_stable_dict hLd sb) e
  obtain ⟨oL',es',ep',hL',r'⟩:=id hn'
  refine h _ ⟨List.prefix_refl _,fun _ q=>.inl q,R',fun b o q e=>.inl (hext b o (fun z=>q (.inr (.inl z))) e),fun b o e=>?_⟩ ?_
  · by_cases z : b = env.locals
    · subst z; exact ⟨_,hL'⟩
    · exact ⟨o,hext b o z e⟩
  · exact
    { top:=F.top,scope:=F.scope,glob:=F.glob,bui:=F.bui,qual:=F.qual,own:=F.own,cell:=F.cell,code:=F.code,ownc:=F.ownc
      ns:=⟨_,hn',fun j y w e1 e2=>by
        rw [List.getElem?_set] at e2
        split at e2
        · rename_i hij
          subst hij
          revert e2; refine if_e fun _ e2=>?_
          cases e2
          rw [hi] at e1; cases e1
          exact ⟨v',by simp,r.mono st (List.prefix_refl _) (List.prefix_refl _)⟩
        · rename_i hij
          refine e1a2 (F.ns.choose_spec.2 j y w e1 e2) fun w' e q=>?_
          have hne : y ≠ x:=fun z=>hij (by
            subst z
            exact (List.getElem?_inj (List.getElem?_eq_some_iff.mp hi).1 N.nloc).mp (hi.trans e1.symm))
          exact ⟨w',by simp only [hne,if_false]; exact e,q.mono st (List.prefix_refl _) (List.prefix_refl _)⟩⟩ }
theorem store_cel (N : NmOk nm) {A : Around} {env : Env} {loc : List (Option V)} {cel : List Nat} {s : Shared} {μ ν : List Addr} {H : List L} {C : List (Option V)} {i c : Nat} {x : Str} {v' : Value} {v : V} {Q : Unit → Shared → Prop} {E : Value → Shared → Prop}
    (F : FrOk X φ nm env loc cel μ ν s.heap) (R : Rep X φ μ ν H C s) (hi : nm.cel[i]? = some x) (hk : nm.scope.names.lookup x = some .cell) (hc : cel[i]? = some c) (hlt : c < C.length) (r : VR X s.heap μ ν v' v)
    (h : ∀ s',Aft X φ μ ν s H (C.set c (some v)) μ s' (FrW nm env) → FrOk X φ nm env loc cel μ ν s'.heap → Q () s') : wpAny (model X.prog X.w) A (storeName env x v') Q E s:=by
  refine e1a2 (F.cell i x c hi hc) fun a ha hl=>?_
  refine e1a1 (R.cell_at (List.mem_of_getElem? ha)) fun v0 hv0=>?_
  refine wpAny_storeName_cell (by rw [F.scope]; exact N.kind) ((F.kindOf x).trans hk) hl hv0 fun h' hc' hs'=>?_
  have hext:=hs'.extBut
  have R' : Rep X φ μ ν H (C.set c (some v)) { s with heap:=h' }:=R.setCell ha hext hc' r
  have hm : Mut X μ ν a:=.inr (.inl (List.mem_of_getElem? ha))
  have st : Stab s.heap h':=fun b o e sb=>hext b o (fun z=>by subst z; exact R.not_stable hm e sb) e
  obtain ⟨oc,hoc,_⟩:=id hc'
  refine h _ ⟨List.prefix_refl _,fun _ q=>.inl q,R',fun b o q e=>.inl (hext b o (fun z=>q (.inr (.inr ⟨x,hk,z ▸ hl⟩))) e),fun b o e=>?_⟩ ?_
  · by_cases z : b = a
    · subst z; exact ⟨_,hoc⟩
    · exact ⟨o,hext b o z e⟩
  · exact F.mono st (List.prefix_refl _) (List.prefix_refl _) (fun o e=>hext _ o (fun z=>F.own.1 (z ▸ hm)) e) F.own.1
inductive Tgt where
  | loc (i : Nat)
  | cel (i : Nat)
noncomputable def Tgt.put (t : Tgt) (v : V) (σ : S) : Option S:=match t with
  | .loc i=>some { σ with loc:=σ.loc.set i (some v) }
  | .cel i=>(match σ.cel[i]? with
    | some c=>if c < σ.C.length then some { σ with C:=σ.C.set c (some v) } else none
    | none=>none)
noncomputable def Tgt.At (nm : Nm) (x : Str) : Tgt → Prop
  | .loc i=>nm.loc[i]? = some x
  | .cel i=>nm.cel[i]? = some x ∧ nm.scope.names.lookup x = some .cell
theorem store_tgt (N : NmOk nm) {A : Around} {env : Env} {σ σ' : S} {s : Shared} {μ ν : List Addr} {t : Tgt} {x : Str} {v' : Value} {v : V} {Q : Unit → Shared → Prop} {E : Value → Shared → Prop}
    (F : FrOk X φ nm env σ.loc σ.cel μ ν s.heap) (R : Rep X φ μ ν σ.H σ.C s) (ht : t.At nm x) (e : t.put v σ = some σ') (r : VR X s.heap μ ν v' v)
    (h : ∀ s',Aft X φ μ ν s σ'.H σ'.C μ s' (FrW nm env) → FrOk X φ nm env σ'.loc σ'.cel μ ν s'.heap → Q () s') : wpAny (model X.prog X.w) A (storeName env x v') Q E s:=by
  cases t with
  | loc i =>
    cases e
    exact store_loc N F R ht r h
  | cel i =>
    unfold Tgt.put at e
    dsimp only at e
    revert e; refine m_N fun c hc e=>?_
    revert e; refine if_e fun hlt e=>?_
    cases e
    exact store_cel N F R ht.1 ht.2 hc hlt r h
noncomputable def sAssign (t : Tgt) (m : Xm) : Sm:=fun σ=>match m σ with
  | some (v,H)=>(match t.put v { σ with H:=H } with
    | some σ'=>some (.next,σ')
    | none=>none)
  | none=>none
theorem RS_assign (N : NmOk nm) {x : Str} {p pos : Pos} {e : PySem.Expr} {m : Xm} {t : Tgt} (r : RX X φ n nm e m) (ht : t.At nm x) (hs : ∀ env,swapsWith e (some (.Name x p)) pos.line env = pure false:=by intro _; rfl) :
    RS X φ n nm (.Assign [.Name x p] e pos) (sAssign t m):=fun A env σ s μ ν f σ' hA F R em=>by
  revert em; refine m_VH fun v H1 e1 em=>?_
  revert em; refine m_S fun σ1 e2 em=>?_
  refine ret_e em ?_
  refine wpAny_Assign_Name (r.use hA F R e1 fun x' s1 μ1 a1 F1 r1=>?_) (hs env)
  exact store_tgt (σ:={ σ with H:=H1 }) N F1 a1.rep ht e2 r1 fun s2 a2 F2=>⟨μ1,a1.toFr.trans a2,F2,trivial⟩
end
end Mine
namespace Mine
section
variable {X : Cx} {n : Nat} {nm : Nm}
noncomputable def whileGo (t : Bm) (b : Sm) : Nat → Sm
  | 0,_=>none
  | k + 1,σ=>match t σ with
    | some (true,H)=>(match b { σ with H:=H } with
      | some (.next,σ1)=>whileGo t b k σ1
      | some (.ret v,σ1)=>some (.ret v,σ1)
      | none=>none)
    | some (false,H)=>some (.next,{ σ with H:=H })
    | none=>none
noncomputable def sWhile (fuel : Nat) (t : Bm) (b : Sm) : Sm:=whileGo t b fuel
theorem RS_while {fuel : Nat} {t : PySem.Expr} {body : List Stmt} {pos : Pos} {m : Bm} {b : Sm} (rt : RB X φ n nm t m) (rb : RSs X φ n nm body b) : RS X φ n nm (.While t body [] pos) (sWhile fuel m b):=fun A env σ s μ ν f σ' hA F R em=>by
  refine wpAny_While (codeAny_whileLoop (fun k s1=>∃ μ1 σ1,Aft X φ μ ν s σ1.H σ1.C μ1 s1 (FrW nm env) ∧ FrOk X φ nm env σ1.loc σ1.cel μ1 ν s1.heap ∧ whileGo m b k σ1 = some (f,σ')) (fun k s1 hI=>?_) fuel ⟨μ,σ,.refl R,F,em⟩)
  refine e2a3 hI fun μ1 σ1 a1 F1 e1=>?_
  cases k with
  | zero=>cases e1
  | succ k =>
    unfold whileGo at e1
    revert e1; refine m_tf (fun H2 e2 e1=>?_) (fun H2 e2 e1=>?_)
    · refine rt.use hA F1 a1.rep e2 fun s2 μ2 a2 F2=>?_
      rw [if_pos rfl]
      refine fl_e (fun f6 σ3 e3 k3=>?_) e1
      refine wpAny_mono (rb A env { σ1 with H:=H2 } s2 μ2 ν f6 σ3 hA F2 a2.rep e3) (fun f3 s3 q=>q.e fun μ3 a3 F3 q3=>?_) fun _ _ h=>h.elim
      revert k3
      refine q3.e ?_ ?_
      · exact fun e1=>⟨k,Nat.lt_succ_self k,μ3,σ3,(a1.trans a2.toFr).trans a3,F3,e1⟩
      · intro x w r hq
        refine And.elim (fun h1 h2=>?_) hq
        subst h1 h2
        exact ⟨μ3,(a1.trans a2.toFr).trans a3,F3,r⟩
    · refine ret_e e1 ?_
      refine rt.use hA F1 a1.rep e2 fun s2 μ2 a2 F2=>?_
      rw [if_neg Bool.false_ne_true]
      exact wpAny_execs_nil ⟨μ2,a1.trans a2.toFr,F2,trivial⟩
noncomputable def itemAt (src : V) (H : List L) (k : Nat) : Option (Option V):=match src with
  | .ref i=>(match H[i]? with
    | some l=>some (l.vs[k]?)
    | none=>none)
  | .tup vs=>some (vs[k]?)
  | .rng a b c=>if Builtin.Range.small a b c then some (if (k : Int) < Builtin.Range.rangeSize a b c then some (.int (a + c * k)) else none) else none
  | _=>none
noncomputable def ItAt (X : Cx) (h : Heap) (μ ν : List Addr) (it : Addr) (k : Nat) : V → Prop
  | .ref i=>∃ a,μ[i]? = some a ∧ h.IsListIter it a k
  | .tup vs=>∃ a its n,h.get? a = some { cls:=.type "tuple",data:=.seq its n } ∧ VRs X h μ ν its.toList vs ∧ h.IsTupleIter it a k
  | .rng a b c=>(k : Int) ≤ max 0 (Builtin.Range.rangeSize a b c) ∧ IsRangeIter h it (a + c * k) (Builtin.Range.rangeSize a b c - k) c
  | _=>False
theorem not_stable_fields {o : Obj} {vs : Array Value} {T : String} (hd : o.data = .fields vs) (hc : o.cls = .type T) (h1 : T ≠ "range") (h2 : T ≠ "code") : ¬ Stable o:=by
  rintro (⟨_,_,e,_⟩ | ⟨_,_,e | e⟩ | ⟨_,e⟩)
  · rw [hd] at e; cases e
  · rw [hc] at e; cases e; exact h1 rfl
  · rw [hc] at e; cases e; exact h2 rfl
  · rw [hd] at e; cases e
theorem ItAt.fields {h : Heap} {μ ν : List Addr} {it : Addr} {k : Nat} {src : V} (x : ItAt X h μ ν it k src) {o : Obj} (e : h.get? it = some o) : ∀ es ep,o.data ≠ .dict es ep:=by
  cases src with
  | ref i=>obtain ⟨a,_,o',e',c,d⟩:=x; rw [e] at e'; cases e'; rw [d]; intro _ _ z; cases z
  | tup vs=>obtain ⟨a,its,m,_,_,o',e',c,d⟩:=x; rw [e] at e'; cases e'; rw [d]; intro _ _ z; cases z
  | rng a b c=>have e':=x.2; unfold IsRangeIter at e'; rw [e] at e'; cases e'; intro _ _ z; cases z
  | _=>exact x.elim
theorem ItAt.notStable {h : Heap} {μ ν : List Addr} {it : Addr} {k : Nat} {src : V} (x : ItAt X h μ ν it k src) : ∃ o,h.get? it = some o ∧ ¬ Stable o:=by
  cases src with
  | ref i=>obtain ⟨a,_,o,e,c,d⟩:=x; exact ⟨o,e,not_stable_fields d c (by decide) (by decide)⟩
  | tup vs=>obtain ⟨a,its,m,_,_,o,e,c,d⟩:=x; exact ⟨o,e,not_stable_fields d c (by decide) (by decide)⟩
  | rng a b c=>exact ⟨_,x.2,not_stable_fields rfl rfl (by decide) (by decide)⟩
  | _=>exact x.elim
theorem ItAt.mono {h h' : Heap} {μ μ' ν : List Addr} {it : Addr} {k : Nat} {src : V} (x : ItAt X h μ ν it k src) (st : Stab h h') (hp : μ <+: μ') (hk : ∀ o,h.get? it = some o → h'.get? it = some o) : ItAt X h' μ' ν it k src:=by
  cases src with
  | ref i=>obtain ⟨a,e,o,eo,r⟩:=x; exact ⟨a,getElem?_pre hp e,o,hk o eo,r⟩
  | tup vs=>obtain ⟨a,its,m,e,r,o,eo,q⟩:=x; exact ⟨a,its,m,st _ _ e (.inl ⟨_,_,rfl,rfl⟩),r.mono st hp (List.prefix_refl _),o,hk o eo,q⟩
  | rng a b c=>exact ⟨x.1,hk _ x.2⟩
  | _=>exact x.elim
set_option tactic.hygienic true in
theorem iter_src {A : Around} {s : Shared} {μ ν : List Addr} {H : List L} {C : List (Option V)} {x : Value} {src : V} {r : Option V} {Q E : Value → Shared → Prop} (R : Rep X φ μ ν H C s) (rx : VR X s.heap μ ν x src) (hi : itemAt src H 0 = some r)
    (h : ∀ it s',Aft X φ μ ν s H C μ s' NoFree → s.heap.get? it = none → ItAt X s'.heap μ ν it 0 src → Q (.ref it) s') : wpAny (model X.prog X.w) A (pyIter x) Q E s:=by
  unfold itemAt at hi
  split at hi
  · revert hi; refine m_L fun l hl hi=>?_
    refine rx.ref_e fun a ha=>?_
    refine e2a3 (R.lists _ a l ha hl) fun its k ho hz rv=>?_
    exact wpAny_pyIter_list (items:=its.toArray) ⟨_,ho,rfl,k,rfl⟩ (h _ _ (.push R _) (none_at_size _) ⟨a,ha,_,Heap.get?_push_size _ rfl,rfl,rfl⟩)
  · refine rx.tup_e fun a its m e rv=>?_
    refine wpAny_pyIter_tuple (items:=its.toArray) ⟨_,e,rfl,m,rfl⟩ (h _ _ (.push R _) (none_at_size _) ⟨a,its.toArray,m,Heap.get?_push_of_some _ e,?_,_,Heap.get?_push_size _ rfl,rfl,rfl⟩)
    exact rv.mono (fun b o e _=>Heap.get?_push_of_some _ e) (List.prefix_refl _) (List.prefix_refl _)
  · rename_i a b c
    revert hi; refine if_e fun hs hi=>?_
    refine rx.rng_e fun rr t u v e=>?_
    refine wpAny_pyIter_range e hs (h _ _ (.push R _) (none_at_size _) ⟨by lia,?_⟩)
    have:=Heap.get?_push_size s.heap (o:={ cls:=.type "range_iterator",data:=.fields #[rawInt a,rawInt (Builtin.Range.rangeSize a b c),rawInt c] }) rfl
    simpa using this
  · cases hi
set_option tactic.hygienic true in
theorem next_item {A : Around} {s : Shared} {μ ν : List Addr} {H : List L} {C : List (Option V)} {it : Addr} {src v : V} {k : Nat} {Q : Option Value → Shared → Prop} {E : Value → Shared → Prop} (R : Rep X φ μ ν H C s) (I : ItAt X s.heap μ ν it k src) (hm : ¬ Mut X μ ν it) (hb : X.h₀.get? it = none) (hi : itemAt src H k = some (some v))
    (h : ∀ x s',Rep X φ μ ν H C s' → Heap.SameBut it s.heap s'.heap → ItAt X s'.heap μ ν it (k + 1) src → VR X s'.heap μ ν x v → Q (some x) s') : wpAny (model X.prog X.w) A (pyNext (.ref it)) Q E s:=by
  refine e1a2 I.notStable fun oi ei ni=>?_
  have fi:=I.fields ei
  have stab : ∀ h',Heap.SameBut it s.heap h' → Stab s.heap h':=fun h' hs b o e sb=>hs.extBut b o (fun z=>by subst z; rw [ei] at e; cases e; exact ni sb) e
  unfold itemAt at hi
  split at hi
  · revert hi; refine m_L fun l hl hi=>?_
    refine e1a2 I fun a ha hit=>?_
    refine e2a3 (R.lists _ a l ha hl) fun its m ho hz rv=>?_
    cases hi' : l.vs[k]? with
    | none=>rw [hi'] at hi; cases hi
    | some v' =>
      rw [hi'] at hi; cases hi
      refine e1a2 (rv.get hi') fun x hx rx=>?_
      refine wpAny_pyNext_list_item hit (items:=its.toArray) ⟨_,ho,rfl,m,rfl⟩ (by simpa using hx) fun h' hit' hs'=>?_
      exact h x _ (R.upd hs'.extBut ei ni hm hb (.inl fi)) hs' ⟨a,ha,hit'⟩ (rx.mono (stab h' hs') (List.take_prefix _ _) (List.nil_prefix))
  · refine e3a3 I fun a its m e rv hit=>?_
    cases hi' : (‹List V›)[k]? with
    | none=>rw [hi'] at hi; cases hi
    | some v' =>
      rw [hi'] at hi; cases hi
      refine e1a2 (rv.get hi') fun x hx rx=>?_
      refine wpAny_pyNext_tuple_item hit (items:=its) ⟨_,e,rfl,m,rfl⟩ (by simpa using hx) fun h' hit' hs'=>?_
      have st:=stab h' hs'
      exact h x _ (R.upd hs'.extBut ei ni hm hb (.inl fi)) hs' ⟨a,its,m,st _ _ e (.inl ⟨_,_,rfl,rfl⟩),rv.mono st (List.prefix_refl _) (List.prefix_refl _),hit'⟩ (rx.mono st (List.prefix_refl _) (List.prefix_refl _))
  · revert hi; refine if_e fun _ hi=>?_
    split at hi
    · rename_i hlt
      cases hi
      refine e0a2 I fun hk hit=>?_
      refine wpAny_pyNext_range_item hit (by lia) fun h' hit' hs'=>?_
      refine h _ _ (R.upd hs'.extBut ei ni hm hb (.inl fi)) hs' ⟨by lia,?_⟩ (.int _ _)
      rw [show (((k + 1 : Nat) : Int)) = (k : Int) + 1 by lia,Int.mul_add,Int.mul_one,← Int.add_assoc,← Int.sub_sub]
      exact hit'
    · cases hi
  · cases hi
set_option tactic.hygienic true in
theorem next_end {A : Around} {s : Shared} {μ ν : List Addr} {H : List L} {C : List (Option V)} {it : Addr} {src : V} {k : Nat} {Q : Option Value → Shared → Prop} {E : Value → Shared → Prop} (hA : A.handled = none) (R : Rep X φ μ ν H C s) (I : ItAt X s.heap μ ν it k src) (hm : ¬ Mut X μ ν it) (hb : X.h₀.get? it = none) (hi : itemAt src H k = some none)
    (h : ∀ s',Rep X φ μ ν H C s' → Heap.ExtBut it s.heap s'.heap → Q none s') : wpAny (model X.prog X.w) A (pyNext (.ref it)) Q E s:=by
  refine e1a2 I.notStable fun oi ei ni=>?_
  have fi:=I.fields ei
  unfold itemAt at hi
  split at hi
  · revert hi; refine m_L fun l hl hi=>?_
    refine e1a2 I fun a ha hit=>?_
    refine e2a3 (R.lists _ a l ha hl) fun its m ho hz rv=>?_
    have hi':=Option.some.inj hi
    exact wpAny_pyNext_list_end hA hit (items:=its.toArray) ⟨_,ho,rfl,m,rfl⟩ (by simpa using rv.getNone hi') fun h' he=>h _ (R.upd he ei ni hm hb (.inl fi)) he
  · refine e3a3 I fun a its m e rv hit=>?_
    have hi':=Option.some.inj hi
    exact wpAny_pyNext_tuple_end hA hit (items:=its) ⟨_,e,rfl,m,rfl⟩ (by simpa using rv.getNone hi') fun h' he=>h _ (R.upd he ei ni hm hb (.inl fi)) he
  · revert hi; refine if_e fun _ hi=>?_
    split at hi
    · cases hi
    · rename_i hlt
      refine e0a2 I fun hk hit=>?_
      exact wpAny_pyNext_range_end hA hit (by lia) fun h' he=>h _ (R.upd he ei ni hm hb (.inl fi)) he
  · cases hi
noncomputable def forGo (src : V) (t : Tgt) (b : Sm) : Nat → Nat → Sm
  | 0,_,_=>none
  | g + 1,k,σ=>match itemAt src σ.H k with
    | some none=>some (.next,σ)
    | some (some v)=>(match t.put v σ with
      | some σ1=>(match b σ1 with
        | some (.next,σ2)=>forGo src t b g (k + 1) σ2
        | some (.ret r,σ2)=>some (.ret r,σ2)
        | none=>none)
      | none=>none)
    | none=>none
noncomputable def sFor (fuel : Nat) (t : Tgt) (m : Xm) (b : Sm) : Sm:=fun σ=>match m σ with
  | some (src,H)=>forGo src t b fuel 0 { σ with H:=H }
  | none=>none
theorem forGo_start {src : V} {t : Tgt} {b : Sm} {r : Fl × S} : ∀ {fuel k : Nat} {σ : S},forGo src t b fuel k σ = some r → ∃ r,itemAt src σ.H k = some r
  | 0,_,_,e=>by cases e
  | g + 1,k,σ,e=>by
    unfold forGo at e
    exact it_e (fun h _=>⟨_,h⟩) (fun v h _=>⟨_,h⟩) e
theorem Aft.gone {μ ν μ' : List Addr} {s s' : Shared} {H' : List L} {C' : List (Option V)} {free : Addr → Prop} (a : Aft X φ μ ν s H' C' μ' s' free) {b : Addr} (h : s'.heap.get? b = Option.none) : s.heap.get? b = Option.none:=by
  cases q : s.heap.get? b with
  | none=>rfl
  | some o=>exact e1a1 (a.alive b o q) fun o' e=>by rw [h] at e; cases e
inductive ForI (X : Cx) (φ : List Env) (nm : Nm) (env : Env) (μ ν : List Addr) (s : Shared) (src : V) (t : Tgt) (b : Sm) (it : Addr) (f : Fl) (σ' : S) (g : Nat) (s3 : Shared) : Prop
  | mk (k : Nat) (μ3 : List Addr) (σ3 : S) (a : Aft X φ μ ν s σ3.H σ3.C μ3 s3 (FrW nm env)) (F : FrOk X φ nm env σ3.loc σ3.cel μ3 ν s3.heap) (I : ItAt X s3.heap μ3 ν it k src) (hm : ¬ Mut X μ3 ν it) (e : forGo src t b g k σ3 = some (f,σ'))
theorem RS_for (N : NmOk nm) {fuel : Nat} {x : Str} {p pos : Pos} {e : PySem.Expr} {body : List Stmt} {t : Tgt} {m : Xm} {b : Sm} (r : RX X φ n nm e m) (ht : t.At nm x) (rb : RSs X φ n nm body b) (hs : ∀ env x,foldedSetIterable e env x = pure x:=by intro _ _; rfl) :
    RS X φ n nm (.For (.Name x p) e body [] pos) (sFor fuel t m b):=fun A env σ s μ ν f σ' hA F R em=>by
  unfold sFor at em
  revert em; refine m_VH fun src H1 e1 em=>?_
  refine wpAny_For (r.use hA F R e1 fun x' s1 μ1 a1 F1 r1=>?_) (hs env)
  refine e1a1 (forGo_start em) fun r0 hi0=>?_
  refine iter_src a1.rep r1 hi0 fun it s2 a2 hnone I2=>?_
  have hbase : X.h₀.get? it = none:=a1.rep.base_none hnone
  have hn : s.heap.get? it = none:=a1.gone hnone
  have hneL : env.locals ≠ it:=fun z=>by
    refine e1a2 F1.ns fun m0 hn _=>e1a1 (Ns_alive hn) fun o eo=>?_
    rw [z,hnone] at eo; cases eo
  refine codeAny_forLoop (ForI X φ nm env μ ν s src t b it f σ') (fun g s3 hI=>?_) fuel ⟨0,μ1,{ σ with H:=H1 },(a1.trans a2).toFr,F1.aft a1.rep a2,I2,a1.rep.not_mut hnone,em⟩
  obtain ⟨k,μ3,σ3,a3,F3,I3,hm3,e3⟩:=hI
  have st : ∀ {h : Heap},Heap.ExtBut it s3.heap h → Stab s3.heap h:=fun x c o eo sb=>e1a2 I3.notStable fun oi ei ni=>x c o (fun z=>ni (Option.some.inj ((z ▸ eo).symm.trans ei) ▸ sb)) eo
  cases g with
  | zero=>cases e3
  | succ g =>
    unfold forGo at e3
    refine it_e (fun hend e3=>?_) (fun v hitem e3=>?_) e3
    · refine ret_e e3 ?_
      refine next_end hA.handled a3.rep I3 hm3 hbase hend fun s4 R4 x4=>?_
      exact wpAny_execs_nil ⟨μ3,a3.turn R4 x4 hn,F3.mono (st x4) (List.prefix_refl _) (List.prefix_refl _) (fun o eo=>x4 _ o hneL eo) F3.own.1,trivial⟩
    · revert e3; refine m_S fun σ4 e4 e3=>?_
      refine next_item a3.rep I3 hm3 hbase hitem fun x4 s4 R4 x4b I4 r4=>?_
      have a4:=a3.turn R4 x4b.extBut hn
      have F4 : FrOk X φ nm env σ3.loc σ3.cel μ3 ν s4.heap:=F3.mono (st x4b.extBut) (List.prefix_refl _) (List.prefix_refl _) (fun o eo=>x4b.extBut _ o hneL eo) F3.own.1
      refine wpAny_assign_Name (store_tgt N F4 a4.rep ht e4 r4 fun s5 a5 F5=>?_)
      have nit : ¬ (Chg X μ3 it ∨ FrW nm env it):=fun q=>q.elim (fun q=>hm3 q.mut) fun q=>(F3.frw q).elim (fun z=>hneL z.symm) fun q=>hm3 (.inr (.inl q))
      have I5 : ItAt X s5.heap μ3 ν it (k + 1) src:=I4.mono (F4.stabW a4.rep a5.keeps) (List.prefix_refl _) fun o eo=>(a5.keeps it o nit eo).nd (I4.fields eo)
      refine fl_e (fun f6 σ6 e6 k6=>?_) e3
      refine wpAny_mono (rb A env σ4 s5 μ3 ν f6 σ6 hA F5 a5.rep e6) (fun f7 s6 q=>q.e fun μ6 a6 F6 q6=>?_) fun _ _ h=>h.elim
      have a7:=(a4.trans a5).trans a6
      revert k6
      refine q6.e ?_ ?_
      · intro e1
        refine e1a2 I5.notStable fun oi ei ni=>⟨g,Nat.lt_succ_self g,k + 1,μ6,σ6,a7,F6,?_,a6.mut ei hm3,e1⟩
        exact I5.mono (F5.stabW a5.rep a6.keeps) a6.pre fun o eo=>(a6.keeps it o nit eo).nd (I5.fields eo)
      · intro x w r hq
        refine And.elim (fun h1 h2=>?_) hq
        subst h1 h2
        exact ⟨μ6,a7,F6,r⟩
end
end Mine
namespace Mine
noncomputable def idxOf (i : Nat) : List Nat → Option Nat
  | []=>none
  | k :: r=>if k = i then some 0 else (idxOf i r).map (· + 1)
mutual
noncomputable def renV (n0 : Nat) (κ : List Nat) : V → Option V
  | .ref i=>if i < n0 then some (.ref i) else (match idxOf i κ with
    | some j=>some (.ref (n0 + j))
    | none=>none)
  | .tup vs=>(match renVs n0 κ vs with
    | some us=>some (.tup us)
    | none=>none)
  | .clo _ _=>none
  | .none=>some .none
  | .bool b=>some (.bool b)
  | .int i=>some (.int i)
  | .str s=>some (.str s)
  | .rng a b c=>some (.rng a b c)
  | .fn k=>some (.fn k)
  | .frz xs=>some (.frz xs)
noncomputable def renVs (n0 : Nat) (κ : List Nat) : List V → Option (List V)
  | []=>some []
  | v :: vs=>(match renV n0 κ v with
    | some u=>(match renVs n0 κ vs with
      | some us=>some (u :: us)
      | none=>none)
    | none=>none)
end
noncomputable def renL (n0 : Nat) (κ : List Nat) : L → Option L
  | .ints xs=>some (.ints xs)
  | .vals vs=>(match renVs n0 κ vs with
    | some us=>some (.vals us)
    | none=>none)
noncomputable def expLs (n0 : Nat) (H : List L) : List Nat → List Nat → Option (List L)
  | [],_=>some []
  | i :: r,done=>(match H[i]? with
    | some l=>(match renL n0 done l with
      | some l'=>(match expLs n0 H r (done ++ [i]) with
        | some ls=>some (l' :: ls)
        | none=>none)
      | none=>none)
    | none=>none)
noncomputable abbrev Kap:=Nat → V → List L → List Nat
noncomputable def kap1 : Kap:=fun n0 v _=>match v with
  | .ref i=>if i < n0 then [] else [i]
  | _=>[]
noncomputable def expo (κ : Kap) (n0 : Nat) (v : V) (H : List L) : Option (V × List L) :=
  if (κ n0 v H).Nodup ∧ ∀ i ∈ κ n0 v H,n0 ≤ i then (match renV n0 (κ n0 v H) v with
    | some v'=>(match expLs n0 H (κ n0 v H) [] with
      | some ls=>some (v',H.take n0 ++ ls)
      | none=>none)
    | none=>none) else none
set_option tactic.hygienic true in
theorem idxOf_get : ∀ {κ : List Nat} {i j : Nat},idxOf i κ = some j → κ[j]? = some i
  | k :: r,i,j,e=>by
    unfold idxOf at e
    split at e
    · rename_i h; refine re1_e e ?_; rw [h]; rfl
    · cases q : idxOf i r with
      | none=>rw [q] at e; cases e
      | some j'=>rw [q] at e; refine re1_e e ?_; simpa using idxOf_get q
noncomputable def RenK (n0 : Nat) (κ : List Nat) (μ μ' : List Addr) : Prop:=(∀ (i : Nat) (a : Addr),μ[i]? = some a → i < n0 → μ'[i]? = some a) ∧ (∀ (j i : Nat) (a : Addr),κ[j]? = some i → μ[i]? = some a → μ'[n0 + j]? = some a)
set_option tactic.hygienic true in
theorem renV_ok' {X : Cx} {h : Heap} {μ μ' ν ν' : List Addr} {n0 : Nat} {κ : List Nat} {x : Value} {v : V} (r : VR X h μ ν x v) : RenK n0 κ μ μ' → ∀ u,renV n0 κ v = some u → VR X h μ' ν' x u :=
  VR.rec (motive_1:=fun μ ν x v _=>RenK n0 κ μ μ' → ∀ u,renV n0 κ v = some u → VR X h μ' ν' x u) (motive_2:=fun μ ν x v _=>RenK n0 κ μ μ' → ∀ u,renVs n0 κ v = some u → VRs X h μ' ν' x u)
    (fun _ u e=>by simp only [renV] at e; exact re1_e e .none) (fun b _ u e=>by simp only [renV] at e; exact re1_e e (.bool b)) (fun i t _ u e=>by simp only [renV] at e; exact re1_e e (.int i t)) (fun s t _ u e=>by simp only [renV] at e; exact re1_e e (.str s t))
    (fun q k u e=>by
      simp only [renV] at e
      split at e
      · rename_i hlt; exact re1_e e (.ref (k.1 _ _ q hlt))
      · revert e; refine m_N fun j hj e=>?_; refine re1_e e ?_; exact .ref (k.2 _ _ _ (idxOf_get hj) q))
    (fun q _ ih k u e=>by simp only [renV] at e; revert e; refine m_Vs fun us hu e=>?_; refine re1_e e ?_; exact .tup q (ih k us hu))
    (fun q _ u e=>by simp only [renV] at e; exact re1_e e (.rng q)) (fun q _ u e=>by simp only [renV] at e; exact re1_e e (.fn q)) (fun _ _ _ _ _ _ u e=>by simp only [renV] at e; cases e) (fun q r z _ _ u e=>by simp only [renV] at e; exact re1_e e (.frz q r z))
    (fun _ u e=>by simp only [renVs] at e; exact re1_e e .nil)
    (fun _ _ iha ihb k u e=>by simp only [renVs] at e; revert e; refine m_V fun u hu e=>?_; revert e; refine m_Vs fun us hus e=>?_; refine re1_e e ?_; exact .cons (iha k u hu) (ihb k us hus)) r
theorem renV_ok {X : Cx} {h : Heap} {μ μ' ν ν' : List Addr} {n0 : Nat} {κ : List Nat} (h1 : ∀ (i : Nat) (a : Addr),μ[i]? = some a → i < n0 → μ'[i]? = some a) (h2 : ∀ (j i : Nat) (a : Addr),κ[j]? = some i → μ[i]? = some a → μ'[n0 + j]? = some a) {x : Value} {v u : V} (r : VR X h μ ν x v) (e : renV n0 κ v = some u) : VR X h μ' ν' x u:=renV_ok' r ⟨h1,h2⟩ u e
theorem renVs_ok {X : Cx} {h : Heap} {μ μ' ν ν' : List Addr} {n0 : Nat} {κ : List Nat} (h1 : ∀ (i : Nat) (a : Addr),μ[i]? = some a → i < n0 → μ'[i]? = some a) (h2 : ∀ (j i : Nat) (a : Addr),κ[j]? = some i → μ[i]? = some a → μ'[n0 + j]? = some a) {x : List Value} {v us : List V} (r : VRs X h μ ν x v) (e : renVs n0 κ v = some us) : VRs X h μ' ν' x us :=
  VRs.ind (P:=fun x v=>∀ us,renVs n0 κ v = some us → VRs X h μ' ν' x us) (fun us e=>by simp only [renVs] at e; exact re1_e e .nil)
    (fun _ _ _ _ a _ ih us e=>by simp only [renVs] at e; revert e; refine m_V fun u hu e=>?_; revert e; refine m_Vs fun us hus e=>?_; refine re1_e e ?_; exact .cons (renV_ok h1 h2 a hu) (ih us hus)) r us e
theorem ints_any {X : Cx} {h : Heap} {μ ν μ' ν' : List Addr} : ∀ {ns : List Int} {xs : List Value},VRs X h μ ν xs (ns.map V.int) → VRs X h μ' ν' xs (ns.map V.int):=fun {ns}=>by
  induction ns with
  | nil=>exact fun r=>r.nil_e .nil
  | cons n ns ih=>exact fun r=>r.cons_e fun x ys rx rs=>rx.int_e fun t=>.cons (.int n t) (ih rs)
theorem renL_ok {X : Cx} {h : Heap} {μ μ' ν ν' : List Addr} {n0 : Nat} {κ : List Nat} (h1 : ∀ (i : Nat) (a : Addr),μ[i]? = some a → i < n0 → μ'[i]? = some a) (h2 : ∀ (j i : Nat) (a : Addr),κ[j]? = some i → μ[i]? = some a → μ'[n0 + j]? = some a)
    {xs : List Value} {l u : L} (r : VRs X h μ ν xs l.vs) (e : renL n0 κ l = some u) : VRs X h μ' ν' xs u.vs:=by
  rcases l with ns | vs
  · cases e; exact ints_any r
  · unfold renL at e
    dsimp only at e
    revert e; refine m_Vs fun _ _ e=>?_
    refine re1_e e ?_; exact renVs_ok h1 h2 r ‹_›
theorem expLs_get {n0 : Nat} {H : List L} : ∀ {κ done : List Nat} {ls : List L},expLs n0 H κ done = some ls → ls.length = κ.length ∧ ∀ (j : Nat) (l' : L),ls[j]? = some l' → ∃ i l,κ[j]? = some i ∧ H[i]? = some l ∧ renL n0 (done ++ κ.take j) l = some l'
  | [],_,_,e=>by refine re1_e e ?_; exact ⟨rfl,fun j l' q=>by simp at q⟩
  | i :: r,done,ls,e=>by
    revert e; refine m_L fun l hl e=>?_
    revert e; refine m_L fun l' hl' e=>?_
    revert e; refine m_Ls fun ls' hls e=>?_
    refine re1_e e ?_
    refine e0a2 (expLs_get hls) fun a b=>?_
    refine ⟨by simp [a],fun j m q=>?_⟩
    cases j with
    | zero=>simp at q; subst q; exact ⟨i,l,rfl,hl,by simpa using hl'⟩
    | succ j =>
      refine e2a3 (b j m (by simpa using q)) fun i' l2 q1 q2 q3=>?_
      exact ⟨i',l2,by simpa using q1,q2,by simpa [List.append_assoc] using q3⟩
theorem nodup_map_of {α : Type} {f : α → Addr} : ∀ {κ : List α},κ.Nodup → (∀ i ∈ κ,∀ j ∈ κ,f i = f j → i = j) → (κ.map f).Nodup
  | [],_,_=>.nil
  | k :: r,nd,h=>by
    refine e0a2 (List.nodup_cons.mp nd) fun a b=>?_
    rw [List.map_cons,List.nodup_cons]
    refine ⟨fun q=>?_,nodup_map_of b fun i hi j hj=>h i (.tail _ hi) j (.tail _ hj)⟩
    refine e1a2 (List.mem_map.mp q) fun i hi e=>?_
    exact a (h i (.tail _ hi) k (.head _) e ▸ hi)
section
variable {X : Cx}
noncomputable def keptAt (μ : List Addr) (n0 : Nat) (κ : List Nat) : List Addr:=μ.take n0 ++ κ.map fun i=>μ.getD i 0
theorem kept_get {μ : List Addr} {n0 : Nat} {κ : List Nat} (hn : n0 ≤ μ.length) {j : Nat} : (keptAt μ n0 κ)[n0 + j]? = κ[j]?.map fun i=>μ.getD i 0:=by
  unfold keptAt
  rw [List.getElem?_append_right (by rw [List.length_take]; lia),List.length_take,Nat.min_eq_left hn,Nat.add_sub_cancel_left,List.getElem?_map]
theorem kept_lo {μ : List Addr} {n0 : Nat} {κ : List Nat} (hn : n0 ≤ μ.length) {i : Nat} (hi : i < n0) : (keptAt μ n0 κ)[i]? = μ[i]?:=by
  unfold keptAt
  rw [List.getElem?_append_left (by rw [List.length_take]; lia),List.getElem?_take,if_pos hi]
theorem kept_h1 {μ : List Addr} {n0 : Nat} {κ : List Nat} (hn : n0 ≤ μ.length) (i : Nat) (a : Addr) (e : μ[i]? = some a) (hi : i < n0) : (keptAt μ n0 κ)[i]? = some a:=by rw [kept_lo hn hi]; exact e
theorem kept_h2 {μ : List Addr} {n0 : Nat} {κ : List Nat} (hn : n0 ≤ μ.length) (j i : Nat) (a : Addr) (e : κ[j]? = some i) (f : μ[i]? = some a) : (keptAt μ n0 κ)[n0 + j]? = some a:=by
  rw [kept_get hn,e]; simp [f]
theorem Rep.export {μ ν ν0 : List Addr} {H : List L} {C C0 : List (Option V)} {s : Shared} {n0 : Nat} {κ : List Nat} {ls : List L} (R : Rep X φ μ ν H C s) (hn : n0 ≤ μ.length) (hκ : κ.Nodup) (hlo : ∀ i ∈ κ,n0 ≤ i) (e : expLs n0 H κ [] = some ls)
    (hν : ν0 <+: ν) (hC : ν0.length = C0.length) (hc : ∀ (i : Nat) (a : Addr) (v : Option V),ν0[i]? = some a → C0[i]? = some v → CellR X s.heap (keptAt μ n0 κ) ν0 a v) : Rep X φ (keptAt μ n0 κ) ν0 (H.take n0 ++ ls) C0 s:=by
  refine e0a2 (expLs_get e) fun e1 e2=>?_
  have hin : ∀ i ∈ κ,∃ a,μ[i]? = some a:=fun i hi=>by
    refine e1a1 (List.mem_iff_getElem?.mp hi) fun j hj=>?_
    have hjl : j < ls.length:=by rw [e1]; exact (List.getElem?_eq_some_iff.mp hj).1
    refine e2a3 (e2 j _ (List.getElem?_eq_getElem hjl)) fun i' l q1 q2 _=>?_
    rw [hj] at q1; cases q1
    have : i < μ.length:=by rw [R.lenH]; exact (List.getElem?_eq_some_iff.mp q2).1
    exact ⟨_,List.getElem?_eq_getElem this⟩
  have hsub : ∀ a ∈ keptAt μ n0 κ,a ∈ μ:=fun a ha=>by
    rcases List.mem_append.mp ha with ha | ha
    · exact List.mem_of_mem_take ha
    · refine e1a2 (List.mem_map.mp ha) fun i hi hr2=>?_; subst hr2
      obtain ⟨b,hb⟩:=hin i hi
      rw [List.getD_eq_getElem?_getD,hb]
      exact List.mem_of_getElem? hb
  have nd:=List.nodup_append.mp R.nodup
  exact
  { frs:=fun L hL=>let ⟨f1,f2,f3⟩:=R.frs L hL; ⟨f1,fun q=>f2 (q.elim (fun q=>.inl (hsub L q)) fun q=>q.elim (fun q=>.inr (.inl (hν.subset q))) fun q=>.inr (.inr q)),f3⟩
    same:=R.same
    keep:=R.keep
    lenH:=by simp only [keptAt,List.length_append,List.length_take,List.length_map,e1,R.lenH]
    lenC:=hC
    nodup:=by
      refine List.nodup_append.mpr ⟨List.nodup_append.mpr ⟨nd.1.sublist (List.take_sublist _ _),?_,?_⟩,nd.2.1.sublist hν.sublist,fun a ha b hb=>nd.2.2 a (hsub a ha) b (hν.subset hb)⟩
      · refine nodup_map_of hκ fun a ha b hb q=>?_
        refine e1a1 (hin a ha) fun x hx=>?_
        refine e1a1 (hin b hb) fun y hy=>?_
        simp only [List.getD_eq_getElem?_getD,hx,hy,Option.getD_some] at q
        subst q
        exact nodup_idx nd.1 hx hy
      · intro a ha b hb q
        subst q
        refine e1a2 (List.mem_map.mp hb) fun i hi hb=>?_
        refine e1a1 (hin i hi) fun x hx=>?_
        rw [List.getD_eq_getElem?_getD,hx] at hb
        simp at hb
        subst hb
        refine e1a1 (List.mem_iff_getElem?.mp ha) fun k hk=>?_
        rw [List.getElem?_take] at hk
        revert hk; refine if_e fun _ hk=>?_
        have:=nodup_idx nd.1 hk hx
        have:=hlo i hi
        lia
    fresh:=fun a ha=>R.fresh a (ha.elim (fun q=>.inl (hsub a q)) fun q=>.inr (hν.subset q))
    lists:=fun i a l q1 q2=>by
      by_cases hi : i < n0
      · rw [kept_lo hn hi] at q1
        rw [List.getElem?_append_left (by rw [List.length_take,← R.lenH]; lia),List.getElem?_take,if_pos hi] at q2
        refine e2a3 (R.lists i a l q1 q2) fun its k q3 q4 q5=>?_
        refine ⟨its,k,q3,q4,?_⟩
        have : (keptAt μ n0 κ).take i = μ.take i:=by
          unfold keptAt
          rw [List.take_append_of_le_length (by rw [List.length_take]; lia),List.take_take,Nat.min_eq_left (Nat.le_of_lt hi)]
        rw [this]; exact q5
      · obtain ⟨j,rfl⟩ : ∃ j,i = n0 + j:=⟨i - n0,by lia⟩
        rw [kept_get hn] at q1
        rw [List.getElem?_append_right (by rw [List.length_take]; lia),List.length_take,← R.lenH,Nat.min_eq_left hn,Nat.add_sub_cancel_left] at q2
        refine e2a3 (e2 j l q2) fun i' l' p1 p2 p3=>?_
        rw [p1] at q1
        refine e1a1 (hin i' (List.mem_of_getElem? p1)) fun x hx=>?_
        simp [hx] at q1
        subst q1
        refine e2a3 (R.lists i' x l' hx p2) fun its k q3 q4 q5=>?_
        refine ⟨its,k,q3,q4,?_⟩
        refine renL_ok (n0:=n0) (κ:=κ.take j) (fun i2 a2 f1 f2=>?_) (fun j2 i2 a2 f1 f2=>?_) q5 (by simpa using p3)
        · rw [List.getElem?_take] at f1
          revert f1; refine if_e fun _ f1=>?_
          rw [List.getElem?_take,if_pos (by lia),kept_lo hn f2]; exact f1
        · rw [List.getElem?_take] at f1
          revert f1; refine if_e fun hj2 f1=>?_
          rw [List.getElem?_take] at f2
          revert f2; refine if_e fun _ f2=>?_
          rw [List.getElem?_take,if_pos (by lia)]
          exact kept_h2 hn j2 i2 a2 f1 f2
    cells:=hc
    tabs:=R.tabs }
theorem Rep.addCells {μ ν : List Addr} {H : List L} {C : List (Option V)} {s : Shared} {bs : List Addr} {vs : List (Option V)} (R : Rep X φ μ ν H C s) (hl : bs.length = vs.length) (hf : ∀ b ∈ bs,¬ Mut X μ ν b ∧ X.h₀.get? b = none) (nd : bs.Nodup)
    (hc : ∀ (i : Nat) (a : Addr) (v : Option V),bs[i]? = some a → vs[i]? = some v → CellR X s.heap μ ν a v) : Rep X φ μ (ν ++ bs) H (C ++ vs) s where
  frs:=fun L hL=>let ⟨f1,f2,f3⟩:=R.frs L hL; ⟨f1,fun q=>by
    rcases q with q | q | q
    · exact f2 (.inl q)
    · rcases List.mem_append.mp q with q | q
      · exact f2 (.inr (.inl q))
      · refine e1a1 (List.mem_iff_getElem?.mp q) fun j hj=>?_
        have hjl : j < vs.length:=by rw [← hl]; exact (List.getElem?_eq_some_iff.mp hj).1
        have hcell:=hc j L _ hj (List.getElem?_eq_getElem hjl)
        refine e3a2 f3 fun o es ep e d=>?_
        have hv : ∃ v,s.heap.IsCell L v:=by
          cases z : vs[j] with
          | none=>rw [z] at hcell; exact hcell
          | some x=>rw [z] at hcell; obtain ⟨v,hv,_⟩:=hcell; exact ⟨_,hv⟩
        refine e1a1 hv fun v hv=>?_
        have:=IsCell_data hv e
        rw [d] at this; cases this
    · exact f2 (.inr (.inr q)),f3⟩
  same:=R.same
  keep:=R.keep
  lenH:=R.lenH
  lenC:=by simp [R.lenC,hl]
  nodup:=by
    have n0:=List.nodup_append.mp R.nodup
    refine List.nodup_append.mpr ⟨n0.1,List.nodup_append.mpr ⟨n0.2.1,nd,fun a ha b hb q=>(hf b hb).1 (.inr (.inl (q ▸ ha)))⟩,fun a ha b hb q=>?_⟩
    rcases List.mem_append.mp hb with hb | hb
    · exact n0.2.2 a ha b hb q
    · exact (hf b hb).1 (.inl (q ▸ ha))
  fresh:=fun a ha=>by
    rcases ha with ha | ha
    · exact R.fresh a (.inl ha)
    · rcases List.mem_append.mp ha with ha | ha
      · exact R.fresh a (.inr ha)
      · exact ⟨(hf a ha).2,fun q=>(hf a ha).1 (.inr (.inr q))⟩
  lists:=R.lists
  cells:=fun i a v e1 e2=>by
    by_cases hi : i < ν.length
    · rw [List.getElem?_append_left hi] at e1
      rw [List.getElem?_append_left (by rw [← R.lenC]; exact hi)] at e2
      exact (R.cells i a v e1 e2).mono (Stab.refl _) (List.prefix_refl _) (List.prefix_append _ _) fun _ e=>e
    · rw [List.getElem?_append_right (by lia)] at e1
      rw [List.getElem?_append_right (by rw [← R.lenC]; lia),← R.lenC] at e2
      exact (hc _ a v e1 e2).mono (Stab.refl _) (List.prefix_refl _) (List.prefix_append _ _) fun _ e=>e
  tabs:=R.tabs
end
end Mine
namespace Mine
structure Df where
  name : Str
  params : Arguments
  body : List Stmt
  scope : Scope
  nm : Nm
  pars : List Str
  li : List (Option Nat)
  ci : List (Option Nat)
noncomputable def idxS (x : Str) : List Str → Option Nat
  | []=>none
  | y :: r=>if x = y then some 0 else (idxS x r).map (· + 1)
noncomputable def dfOk (d : Df) : Bool:=nmOk d.nm && decide (d.nm.scope.names = d.scope.names) && decide (d.nm.scope.kind = d.scope.kind) && !d.scope.isCoroutine && !d.scope.isGenerator && decide (d.li = d.nm.loc.map fun x=>idxS x d.pars) && decide (d.ci = d.nm.cel.map fun x=>idxS x d.pars) &&
  d.scope.names.all (fun x=>x.2 != .cell || d.nm.cel.contains x.1) && d.nm.cel.all (fun x=>decide (d.scope.names.lookup x = some .cell)) && d.pars.all (fun x=>decide (d.scope.names.lookup x = some .local ∨ d.scope.names.lookup x = some .cell)) && decide d.pars.Nodup &&
  decide ((d.scope.names.filter (·.2 == .cell)).map (·.1)).Nodup
structure DfOk (d : Df) : Prop where
  nm : NmOk d.nm
  names : d.nm.scope.names = d.scope.names
  kind : d.nm.scope.kind = d.scope.kind
  co : d.scope.isCoroutine = false
  gen : d.scope.isGenerator = false
  li : d.li = d.nm.loc.map fun x=>idxS x d.pars
  ci : d.ci = d.nm.cel.map fun x=>idxS x d.pars
  cells : ∀ x ∈ d.scope.names,x.2 = .cell → x.1 ∈ d.nm.cel
  cel : ∀ x ∈ d.nm.cel,d.scope.names.lookup x = some .cell
  pars : ∀ x ∈ d.pars,d.scope.names.lookup x = some .local ∨ d.scope.names.lookup x = some .cell
  npars : d.pars.Nodup
  ncells : ((d.scope.names.filter (·.2 == .cell)).map (·.1)).Nodup
theorem DfOk.of {d : Df} (h : dfOk d = true) : DfOk d:=by
  simp only [dfOk,Bool.and_eq_true,decide_eq_true_eq,List.all_eq_true,Bool.not_eq_true',Bool.or_eq_true,bne_iff_ne,ne_eq,List.contains_iff_mem] at h
  obtain ⟨⟨⟨⟨⟨⟨⟨⟨⟨⟨⟨h1,h2⟩,h3⟩,h4⟩,h5⟩,h6⟩,h7⟩,h8⟩,h9⟩,h10⟩,h11⟩,h12⟩:=h
  exact ⟨.of h1,h2,h3,h4,h5,h6,h7,fun x hx e=>(h8 x hx).resolve_left (fun q=>q e),h9,h10,h11,h12⟩
structure FnAt (X : Cx) (a : Addr) (d : Df) : Prop where
  obj : ∃ o fd,X.h₀.get? a = some o ∧ o.data = .func fd ∧ fd.qualname = d.name ∧ fd.params = d.params ∧ fd.body = .stmts d.body ∧ fd.scope = d.scope ∧ fd.globals = mainGlobals ∧ fd.closure = [] ∧ fd.builtins = builtinsNs ∧
    X.h₀.CodeRec fd.code d.name ∧ (∀ q,X.tabs[d.nm.tab]? = some q → fd.code = .ref q.1)
  qual : d.name ++ ".<locals>." = d.nm.qual
  scope : d.nm.scope = d.scope
theorem bindL_look {kindOf : Str → Option NameKind} {x : Str} (hk : kindOf x = some .local) : ∀ {binds : List (Str × Value)} {m : Str → Option Value},(binds.map (·.1)).Nodup → bindL kindOf binds m x = match binds.lookup x with
    | some v=>some v
    | none=>m x
  | [],_,_=>rfl
  | (y,v) :: r,m,nd=>by
    refine e0a2 (List.nodup_cons.mp nd) fun n1 n2=>?_
    unfold bindL
    rw [bindL_look hk n2,List.lookup_cons]
    by_cases hxy : x = y
    · subst hxy
      have : r.lookup x = none:=by
        cases q : r.lookup x with
        | none=>rfl
        | some w=>exact absurd (List.mem_map_of_mem (f:=(·.1)) (mem_of_lookup q)) n1
      simp [this,hk]
    · have hb : (x == y) = false:=beq_eq_false_iff_ne.mpr hxy
      rw [hb]
      dsimp only
      cases r.lookup x with
      | some w=>rfl
      | none=>dsimp only; split <;> simp [hxy]
theorem bindC_look {kindOf : Str → Option NameKind} {x : Str} (hk : kindOf x = some .cell) : ∀ {binds : List (Str × Value)} {m : Str → Option Value},(binds.map (·.1)).Nodup → bindC kindOf binds m x = match binds.lookup x with
    | some v=>some v
    | none=>m x
  | [],_,_=>rfl
  | (y,v) :: r,m,nd=>by
    refine e0a2 (List.nodup_cons.mp nd) fun n1 n2=>?_
    unfold bindC
    rw [bindC_look hk n2,List.lookup_cons]
    by_cases hxy : x = y
    · subst hxy
      have : r.lookup x = none:=by
        cases q : r.lookup x with
        | none=>rfl
        | some w=>exact absurd (List.mem_map_of_mem (f:=(·.1)) (mem_of_lookup q)) n1
      simp [this,hk]
    · have hb : (x == y) = false:=beq_eq_false_iff_ne.mpr hxy
      rw [hb]
      dsimp only
      cases r.lookup x with
      | some w=>rfl
      | none=>dsimp only; split <;> simp [hxy]
set_option tactic.hygienic true in
theorem zip_look {α : Type} : ∀ {ps : List Str} {vs : List α} {x : Str} {j : Nat},idxS x ps = some j → (ps.zip vs).lookup x = vs[j]?
  | p :: ps,[],x,j,e=>by simp
  | p :: ps,v :: vs,x,j,e=>by
    unfold idxS at e
    rw [List.zip_cons_cons,List.lookup_cons]
    split at e
    · rename_i h; subst h; refine re1_e e ?_; simp
    · rename_i h
      have hb : (x == p) = false:=beq_eq_false_iff_ne.mpr h
      rw [hb]
      cases q : idxS x ps with
      | none=>rw [q] at e; cases e
      | some k=>rw [q] at e; refine re1_e e ?_; simpa using zip_look q
noncomputable def KwR (X : Cx) (h : Heap) (μ ν : List Addr) (kws : List (Str × Value)) : Option V → Prop
  | none=>kws = []
  | some v=>∃ kv,kws = [(("key" : Str),kv)] ∧ VR X h μ ν kv v
noncomputable abbrev FCall:=List V → Option V → List (Option V) → List L → Option (V × List L)
inductive RetR (X : Cx) (φ : List Env) (μ ν : List Addr) (s : Shared) (H' : List L) (C : List (Option V)) (v : V) (r : Result) (s' : Shared) : Prop
  | mk (v' : Value) (e : r = .ok (.ret v')) (μ' : List Addr) (a : Aft X φ μ ν s H' C μ' s' NoFree) (q : VR X s'.heap μ' ν v' v)
noncomputable def CallOk (X : Cx) (φ : List Env) (n : Nat) (a : Addr) (f : FCall) : Prop :=
  ∀ (A : Around) (s : Shared) (μ ν : List Addr) (H : List L) (C : List (Option V)) (xs : List Value) (kws : List (Str × Value)) (vs : List V) (kv : Option V) (v : V) (H' : List L),Room φ n A → Rep X φ μ ν H C s → VRs X s.heap μ ν xs vs → KwR X s.heap μ ν kws kv → f vs kv C H = some (v,H') →
    codeAny (model X.prog X.w) A (.call (.ref a) ⟨xs,kws⟩) (RetR X φ μ ν s H' C v) s
noncomputable abbrev Full:=List V → Option V → Option (List V)
noncomputable def BindOk (X : Cx) (a : Addr) (d : Df) (full : Full) : Prop :=
  ∀ (fd : FuncData) (o : Obj),X.h₀.get? a = some o → o.data = .func fd → ∀ (φ : List Env) (s : Shared) (μ ν : List Addr) (H : List L) (C : List (Option V)) (xs : List Value) (kws : List (Str × Value)) (vs : List V) (kv : Option V) (fv : List V),Rep X φ μ ν H C s → VRs X s.heap μ ν xs vs → KwR X s.heap μ ν kws kv →
    full vs kv = some fv → ∃ fxs,VRs X s.heap μ ν fxs fv ∧ fxs.length = d.pars.length ∧ BindsTo s fd ⟨xs,kws⟩ (d.pars.zip fxs)
noncomputable def entry (d : Df) (fv : List V) (C : List (Option V)) (H : List L) : S where
  loc:=d.li.map fun o=>o.bind fun j=>fv[j]?
  cel:=(List.range d.ci.length).map (C.length + ·)
  C:=C ++ d.ci.map fun o=>o.bind fun j=>fv[j]?
  H:=H
noncomputable def fnSem (d : Df) (full : Full) (κ : Kap) (m : Sm) : FCall:=fun vs kv C H=>match full vs kv with
  | some fv=>(match m (entry d fv C H) with
    | some (.ret v,σ)=>expo κ H.length v σ.H
    | some (.next,σ)=>expo κ H.length .none σ.H
    | none=>none)
  | none=>none
set_option tactic.hygienic true in
theorem mem_cellsFrom {x : Str} : ∀ {names : List (Str × NameKind)} {k : Nat} {acc : List (Str × Addr)},x ∈ (cellsFrom k names acc).map (·.1) ↔ x ∈ acc.map (·.1) ∨ (x,NameKind.cell) ∈ names
  | [],_,_=>by simp [cellsFrom]
  | (y,kd) :: r,k,acc=>by
    unfold cellsFrom
    split
    · rename_i h
      have h' : kd = .cell:=by simpa using h
      rw [mem_cellsFrom,List.map_cons,List.mem_cons,List.mem_cons,h']
      constructor
      · rintro ((e | e) | e)
        · exact .inr (.inl (by rw [e]))
        · exact .inl e
        · exact .inr (.inr e)
      · rintro (e | e | e)
        · exact .inl (.inr e)
        · cases e; exact .inl (.inl rfl)
        · exact .inr e
    · rename_i h
      have h' : kd ≠ .cell:=by simpa using h
      rw [mem_cellsFrom,List.mem_cons]
      constructor
      · rintro (e | e)
        · exact .inl e
        · exact .inr (.inr e)
      · rintro (e | e | e)
        · exact .inl e
        · cases e; exact absurd rfl h'
        · exact .inr e
theorem look_of_mem_fst {α : Type} {x : Str} : ∀ {l : List (Str × α)},x ∈ l.map (·.1) → ∃ c,l.lookup x = some c
  | (y,c) :: r,h=>by
    rw [List.lookup_cons]
    by_cases e : x = y
    · subst e; exact ⟨c,by simp⟩
    · rw [beq_eq_false_iff_ne.mpr e]
      exact look_of_mem_fst ((List.mem_cons.mp h).resolve_left e)
theorem getElem?_map_some {α β : Type} {f : α → β} {l : List α} {i : Nat} {b : β} (e : (l.map f)[i]? = some b) : ∃ a,l[i]? = some a ∧ f a = b:=by
  rw [List.getElem?_map] at e
  cases q : l[i]? with
  | none=>rw [q] at e; cases e
  | some a=>rw [q] at e; refine re1_e e ?_; exact ⟨a,rfl,rfl⟩
theorem mem_zip_fst {α : Type} {ps : List Str} {vs : List α} {y : Str × α} (h : y ∈ ps.zip vs) : y.1 ∈ ps:=(List.of_mem_zip (a:=y.1) (b:=y.2) h).1
theorem zip_fst {α : Type} : ∀ {ps : List Str} {vs : List α},vs.length = ps.length → (ps.zip vs).map (·.1) = ps
  | [],[],_=>rfl
  | p :: ps,v :: vs,h=>by simp [zip_fst (ps:=ps) (vs:=vs) (by simpa using h)]
noncomputable def retVal : Flow → Value
  | .ret v=>v
  | _=>.none
theorem Rep.pushFr {X : Cx} {φ : List Env} {μ ν : List Addr} {H : List L} {C : List (Option V)} {s : Shared} (R : Rep X φ μ ν H C s) {env : Env} {L0 : Addr} (hf : env.frame = some L0) (h0 : X.h₀.get? L0 = none) (hm : ¬ Mut X μ ν L0) (hd : IsDictAt s.heap L0) : Rep X (env :: φ) μ ν H C s:=by
  have key : ∀ b ∈ frsOf (env :: φ),X.h₀.get? b = none ∧ ¬ Mut X μ ν b ∧ IsDictAt s.heap b:=by
    intro b hb
    unfold frsOf at hb
    rw [List.filterMap_cons,hf] at hb
    rcases List.mem_cons.mp hb with rfl | hb
    · exact ⟨h0,hm,hd⟩
    · exact R.frs b hb
  exact ⟨key,R.same,R.keep,R.lenH,R.lenC,R.nodup,R.fresh,R.lists,R.cells,R.tabs⟩
theorem Rep.popFr {X : Cx} {φ : List Env} {μ ν : List Addr} {H : List L} {C : List (Option V)} {s : Shared} {env : Env} (R : Rep X (env :: φ) μ ν H C s) : Rep X φ μ ν H C s:=by
  have key : ∀ b ∈ frsOf φ,X.h₀.get? b = none ∧ ¬ Mut X μ ν b ∧ IsDictAt s.heap b:=by
    intro b hb
    refine R.frs b ?_
    unfold frsOf at hb ⊢
    rw [List.filterMap_cons]
    split
    · exact hb
    · exact List.mem_cons_of_mem _ hb
  exact ⟨key,R.same,R.keep,R.lenH,R.lenC,R.nodup,R.fresh,R.lists,R.cells,R.tabs⟩
theorem Aft.popFr {X : Cx} {φ : List Env} {μ ν μ' : List Addr} {H : List L} {C : List (Option V)} {s s' : Shared} {env : Env} {free : Addr → Prop} (a : Aft X (env :: φ) μ ν s H C μ' s' free) : Aft X φ μ ν s H C μ' s' free:=⟨a.pre,a.new,a.rep.popFr,a.keeps,a.alive⟩
theorem FnEnter {X : Cx} (O : XOk X) {n : Nat} {a : Addr} {d : Df} {full : Full} (D : DfOk d) (T : FnAt X a d) (B : BindOk X a d full) {RR : Result → Shared → Prop} {A : Around} {s : Shared} {μ ν : List Addr} {H : List L} {C : List (Option V)} {xs : List Value} {kws : List (Str × Value)} {vs : List V} {kv : Option V} {fv : List V}
    (hA : Room φ (n + 1) A) (R : Rep X φ μ ν H C s) (rxs : VRs X s.heap μ ν xs vs) (rk : KwR X s.heap μ ν kws kv) (efull : full vs kv = some fv)
    (k : ∀ env s1 bs,(∀ b,FrW d.nm env b → s.heap.get? b = none) → (∀ b o,s.heap.get? b = some o → s1.heap.get? b = some o) → env.frame = some env.locals → Room (env :: φ) n (A.deeper env) → FrOk X (env :: φ) d.nm env (entry d fv C H).loc (entry d fv C H).cel μ (ν ++ bs) s1.heap → Rep X (env :: φ) μ (ν ++ bs) (entry d fv C H).H (entry d fv C H).C s1 →
      wpAny (model X.prog X.w) (A.deeper env) (execs d.body env) (fun fl s'=>RR (.ok (.ret (match fl with | .ret v=>v | _=>.none))) s')
            (fun e s'=>wpAny (model X.prog X.w) (A.deeper env) (leaving env e) (fun _ s''=>RR (.error e) s'') (fun e' s''=>RR (.error e') s'') s') s1) :
    codeAny (model X.prog X.w) A (.call (.ref a) ⟨xs,kws⟩) RR s:=by
  refine e2a11 T.obj fun o fd ho hd hq hpar hbody hsc hgl hclo hbui hcd hcode=>?_
  refine e1a3 (B fd o ho hd φ s μ ν H C xs kws vs kv fv R rxs rk efull) fun fxs rf hlen HB=>?_
  have hos:=R.keep _ _ ho
  have hkind : d.scope.kind = .function:=D.kind ▸ D.nm.kind
  refine codeAny_call_function (hA.rl) hos hd (by rw [hsc]; exact D.co) (by rw [hsc]; exact D.gen) hbody (by rw [hq]; exact hcd.keeps R.keep) (HB _ _ _ _ ?_)
  rw [hsc,hgl,hclo,hq,hbui]
  have hcn : ∀ k,((cellsFrom k d.scope.names []).map (·.1)) = ((cellsFrom 0 d.scope.names []).map (·.1)):=fun k=>cellsFrom_names _ _ _ _ _ rfl
  have hlk : ∀ {x : Str} {kd : NameKind},d.scope.names.lookup x = some kd → (x,kd) ∈ d.scope.names:=fun e=>mem_of_lookup e
  refine wpAny_newFunctionEnv_cells hkind (fun x hx=>?_) fun env he s1 x1=>?_
  · have hp:=D.pars x.1 (mem_zip_fst hx)
    rcases hp with hp | hp
    · exact .inl hp
    · refine .inr ⟨hp,?_⟩
      refine e1a1 (look_of_mem_fst (mem_cellsFrom (k:=s.heap.objs.size + 1) (acc:=[]) |>.mpr (.inr (hlk hp)))) fun c hc=>?_
      rw [hc]; rfl
  · have heL : env.locals = s.heap.objs.size:=by rw [he]; rfl
    have heC : env.cells = cellsFrom (s.heap.objs.size + 1) d.scope.names []:=by rw [he]; rfl
    have heS : env.scope = d.scope:=by rw [he]; rfl
    have hek : ∀ x,env.kindOf x = d.scope.names.lookup x:=fun x=>by unfold Env.kindOf; rw [heS]
    have keep1:=x1.toInCall.keep
    refine e2a1 x1.toInCall.same fun h1 tk1 hs1=>?_
    have npz : ((d.pars.zip fxs).map (·.1)).Nodup:=by rw [zip_fst hlen]; exact D.npars
    refine ⟨(O.nolimit.keeps R.keep).keeps keep1,codeAny_func ?_⟩
    have hlook : ∀ x ∈ d.nm.cel,∃ c,env.cells.lookup x = some c:=fun x hx=>by
      rw [heC]
      exact look_of_mem_fst (mem_cellsFrom.mpr (.inr (hlk (D.cel x hx))))
    let bs : List Addr:=d.nm.cel.map fun x=>(env.cells.lookup x).getD 0
    have hbs : ∀ (i : Nat) (b : Addr),bs[i]? = some b → ∃ x,d.nm.cel[i]? = some x ∧ env.cells.lookup x = some b:=fun i b e=>by
      refine e1a2 (getElem?_map_some e) fun x e1 e2=>?_
      refine e1a1 (hlook x (List.mem_of_getElem? e1)) fun c hc=>?_
      rw [hc] at e2
      exact ⟨x,e1,by rw [hc]; exact congrArg some e2⟩
    have hfresh : ∀ b ∈ bs,s.heap.get? b = none:=fun b hb=>by
      refine e1a1 (List.mem_iff_getElem?.mp hb) fun i hi=>?_
      refine e1a2 (hbs i b hi) fun x _ e2=>?_
      have:=x1.above x b (mem_of_lookup e2)
      rw [heL] at this
      exact Heap.get?_none_of_le (Nat.le_of_lt this)
    have R1 : Rep X φ μ ν H C s1:=by
      have:=R.grow (h':=h1) (tk:=tk1) (by rw [hs1] at keep1; exact keep1)
      rw [hs1]; exact this
    have st1 : Stab s.heap s1.heap:=fun b o e _=>keep1 b o e
    have hci : d.ci.length = d.nm.cel.length:=by rw [D.ci,List.length_map]
    have hval : ∀ (x : Str) (j : Nat) (w : V),idxS x d.pars = some j → fv[j]? = some w → ∃ w',(d.pars.zip fxs).lookup x = some w' ∧ VR X s1.heap μ ν w' w:=fun x j w e1 e2=>by
      refine e1a2 (rf.get e2) fun w' e3 r3=>?_
      exact ⟨w',by rw [zip_look e1]; exact e3,r3.mono st1 (List.prefix_refl _) (List.prefix_refl _)⟩
    have R2 : Rep X φ μ (ν ++ bs) H (C ++ d.ci.map fun o=>o.bind fun j=>fv[j]?) s1:=by
      refine R1.addCells (by simp [bs,hci]) (fun b hb=>?_) ?_ fun i b w e1 e2=>?_
      · have hn:=hfresh b hb
        exact ⟨R.not_mut hn,R.base_none hn⟩
      · refine nodup_map_of D.nm.ncel fun x hx y hy q=>?_
        refine e1a1 (hlook x hx) fun c hc=>?_
        refine e1a1 (hlook y hy) fun c' hc'=>?_
        rw [hc,hc'] at q
        have q' : c = c':=q
        subst q'
        exact name_of_addr x1.apart (mem_of_lookup hc) (mem_of_lookup hc')
      · refine e1a2 (hbs i b e1) fun x p1 p2=>?_
        have hcx:=x1.cell x b p2
        have hkx : env.kindOf x = some .cell:=(hek x).trans (D.cel x (List.mem_of_getElem? p1))
        rw [bindC_look hkx npz] at hcx
        refine e1a2 (getElem?_map_some e2) fun o' q1 q2=>?_
        have q3 : o' = idxS x d.pars:=by
          rw [D.ci,List.getElem?_map,p1] at q1
          exact (Option.some.inj q1).symm
        subst q3
        cases q4 : idxS x d.pars with
        | none =>
          rw [q4] at q2
          cases q2
          exact ⟨_,hcx⟩
        | some j =>
          rw [q4] at q2
          cases w with
          | none=>exact ⟨_,hcx⟩
          | some w =>
            refine e1a2 (hval x j w q4 q2) fun w' e3 r3=>?_
            rw [e3] at hcx
            exact ⟨w',hcx,r3⟩
    have F1 : FrOk X (env :: φ) d.nm env (entry d fv C H).loc (entry d fv C H).cel μ (ν ++ bs) s1.heap :=
      { top:=⟨env,φ,rfl,rfl⟩
        scope:=by rw [heS,T.scope]
        glob:=by rw [he]; rfl
        bui:=by rw [he]; rfl
        qual:=by rw [he]; exact T.qual
        ns:=⟨_,x1.toInCall.ns,fun i x w e1 e2=>by
          refine e1a2 (getElem?_map_some e2) fun o' q1 q2=>?_
          have q3 : o' = idxS x d.pars:=by
            rw [D.li,List.getElem?_map,e1] at q1
            exact (Option.some.inj q1).symm
          subst q3
          have hkx : env.kindOf x = some .local:=(hek x).trans (by rw [← D.names]; exact (D.nm.loc x (List.mem_of_getElem? e1)).1)
          cases q4 : idxS x d.pars with
          | none=>rw [q4] at q2; cases q2
          | some j =>
            rw [q4] at q2
            refine e1a2 (hval x j w q4 q2) fun w' e3 r3=>?_
            refine ⟨w',?_,r3.mono (Stab.refl _) (List.prefix_refl _) (List.prefix_append _ _)⟩
            rw [bindL_look hkx npz,e3]⟩
        own:=by
          have hn : s.heap.get? env.locals = none:=by rw [heL]; exact none_at_size _
          refine ⟨fun q=>?_,R.base_none hn⟩
          rcases q with q | q | q
          · exact R.not_mut hn (.inl q)
          · rcases List.mem_append.mp q with q | q
            · exact R.not_mut hn (.inr (.inl q))
            · refine e1a1 (List.mem_iff_getElem?.mp q) fun i hi=>?_
              refine e1a2 (hbs i _ hi) fun x _ e2=>?_
              exact Nat.lt_irrefl _ (x1.above x _ (mem_of_lookup e2))
          · exact R.not_mut hn (.inr (.inr q))
        cell:=fun i x c e1 e2=>by
          have e2' : ((List.range d.ci.length).map (C.length + ·))[i]? = some c:=e2
          refine e1a2 (getElem?_map_some e2') fun i' q1 q2=>?_
          have hii : i' = i:=by
            have h1:=(List.getElem?_eq_some_iff.mp q1).2
            simp at h1; exact h1.symm
          subst hii
          refine e1a1 (hlook x (List.mem_of_getElem? e1)) fun b hb=>?_
          refine ⟨b,?_,hb⟩
          rw [← q2,← R.lenC,List.getElem?_append_right (by lia),Nat.add_sub_cancel_left]
          simp [bs,e1,hb]
        code:=fun q e=>by rw [he]; exact hcode q e
        ownc:=fun x b e f=>by
          have hx : x ∈ d.nm.cel:=by
            rw [D.names] at e
            exact D.cells (x,.cell) (hlk e) rfl
          refine e1a1 (List.mem_iff_getElem?.mp hx) fun i hi=>?_
          refine List.mem_append_right _ (List.mem_of_getElem? (i:=i) ?_)
          simp [bs,hi,f] }
    have hfrm : env.frame = some env.locals:=by rw [he]; rfl
    refine k env s1 bs (fun b q=>?_) keep1 hfrm (hA.deeper env ⟨by rw [heS,hkind]; decide,_,hfrm⟩) F1 (R2.pushFr hfrm F1.own.2 F1.own.1 (let ⟨_,⟨o,es,ep,e,d,_⟩,_⟩:=F1.ns; ⟨o,es,ep,e,d⟩))
    rcases q with q | ⟨x,q,q'⟩
    · rw [q,heL]; exact none_at_size _
    · have:=x1.above x b (mem_of_lookup q')
      rw [heL] at this
      exact Heap.get?_none_of_le (Nat.le_of_lt this)
theorem Aft.leave {X : Cx} {φ : List Env} {nm : Nm} {env : Env} {μ ν bs μ2 : List Addr} {H H2 ls : List L} {C C2 : List (Option V)} {s s1 s2 : Shared} {κ : List Nat} (R : Rep X φ μ ν H C s) (hW : ∀ b,FrW nm env b → s.heap.get? b = none) (keep1 : ∀ b o,s.heap.get? b = some o → s1.heap.get? b = some o)
    (a2 : Aft X (env :: φ) μ (ν ++ bs) s1 H2 C2 μ2 s2 (FrW nm env)) (hk : κ.Nodup) (hlo : ∀ i ∈ κ,H.length ≤ i) (hls : expLs H.length H2 κ [] = some ls) :
    Aft X φ μ ν s (H2.take H.length ++ ls) C (keptAt μ2 H.length κ) s2 NoFree ∧ H.length ≤ μ2.length:=by
  have hn : H.length ≤ μ2.length:=by rw [← R.lenH]; exact a2.pre.length_le
  have hold : ∀ b o,s.heap.get? b = some o → ¬ Chg X μ b → Kept s2.heap b o:=fun b o e hc=>a2.keeps b o (fun q=>q.elim hc fun q=>by rw [hW b q] at e; cases e) (keep1 b o e)
  have hnew : ∀ b,b ∈ keptAt μ2 H.length κ → b ∈ μ2:=fun b hb=>by
    rcases List.mem_append.mp hb with hb | hb
    · exact List.mem_of_mem_take hb
    · refine e1a2 (List.mem_map.mp hb) fun i hi hr2=>?_; subst hr2
      refine e1a1 (List.mem_iff_getElem?.mp hi) fun j hj=>?_
      refine e0a2 (expLs_get hls) fun e1 e2=>?_
      have hjl : j < ls.length:=by rw [e1]; exact (List.getElem?_eq_some_iff.mp hj).1
      obtain ⟨i',l,q1,q2,_⟩:=e2 j _ (List.getElem?_eq_getElem hjl)
      rw [hj] at q1; cases q1
      have : i < μ2.length:=by rw [a2.rep.lenH]; exact (List.getElem?_eq_some_iff.mp q2).1
      rw [List.getD_eq_getElem?_getD,List.getElem?_eq_getElem this]
      exact List.getElem_mem _
  have hpre : μ <+: keptAt μ2 H.length κ:=by
    have : μ2.take H.length = μ:=by
      refine e1a1 a2.pre fun r hr=>?_
      rw [← hr,← R.lenH,List.take_append_of_le_length (Nat.le_refl _),List.take_length]
    unfold keptAt
    rw [this]
    exact List.prefix_append _ _
  have R3:=a2.rep.export (ν0:=ν) (C0:=C) hn hk hlo hls (List.prefix_append _ _) R.lenC fun i b w' e1 e2=>by
    have hbm : b ∈ ν:=List.mem_of_getElem? e1
    refine (R.cells i b w' e1 e2).mono (fun c o e sb=>(hold c o e fun q=>R.not_stable q.mut e sb).nd sb.nd) hpre (List.prefix_refl _) fun o e=>(hold b o e fun q=>?_).nd (fun es ep d=>by
      refine e1a1 (R.cell_at hbm) fun cv hcv=>?_
      have:=IsCell_data hcv e
      rw [d] at this; cases this)
    have nd:=List.nodup_append.mp R.nodup
    rcases q with q | q
    · exact nd.2.2 b q b hbm rfl
    · exact (R.fresh b (.inr hbm)).2 q
  refine ⟨⟨hpre,fun b hb=>?_,R3.popFr,fun b o q e=>hold b o e fun z=>q (.inl z),fun b o e=>?_⟩,hn⟩
  · rcases a2.new b (hnew b hb) with z | z
    · exact .inl z
    · cases q : s.heap.get? b with
      | none=>exact .inr rfl
      | some o=>rw [keep1 b o q] at z; cases z
  · exact a2.alive b o (keep1 b o e)
set_option tactic.hygienic true in
theorem FnOk {X : Cx} (O : XOk X) {n : Nat} {a : Addr} {d : Df} {full : Full} {κ : Kap} {m : Sm} (D : DfOk d) (T : FnAt X a d) (B : BindOk X a d full) (hb : ∀ env,RSs X (env :: φ) n d.nm d.body m) : CallOk X φ (n + 1) a (fnSem d full κ m):=fun A s μ ν H C xs kws vs kv v H' hA R rxs rk em=>by
  revert em; refine m_Vs fun fv efull em=>?_
  refine FnEnter O D T B hA R rxs rk efull fun env s1 bs hW keep1 hfrm hA1 F1 R1=>?_
  have fin : ∀ (w : V) (σ1 : S) (f : Fl),m (entry d fv C H) = some (f,σ1) → (f = .ret w ∨ (f = .next ∧ w = .none)) → expo κ H.length w σ1.H = some (v,H') →
      wpAny (model X.prog X.w) (A.deeper env) (execs d.body env) (fun fl s'=>RetR X φ μ ν s H' C v (.ok (.ret (match fl with | .ret v=>v | _=>.none))) s')
        (fun e s'=>wpAny (model X.prog X.w) (A.deeper env) (leaving env e) (fun _ s''=>RetR X φ μ ν s H' C v (.error e) s'') (fun e' s''=>RetR X φ μ ν s H' C v (.error e') s'') s') s1:=by
    intro w σ1 f ef hf hexp
    refine wpAny_mono (hb env (A.deeper env) env (entry d fv C H) s1 μ (ν ++ bs) f σ1 hA1 F1 R1 ef) (fun fl s2 q=>q.e fun μ2 a2 F2 q2=>?_) fun _ _ h=>h.elim
    have hw : ∃ v',retVal fl = v' ∧ VR X s2.heap μ2 (ν ++ bs) v' w:=by
      rcases hf with rfl | ⟨rfl,rfl⟩
      · cases fl with
        | ret y=>exact ⟨y,rfl,q2⟩
        | _=>exact q2.elim
      · cases fl with
        | next=>exact ⟨_,rfl,.none⟩
        | _=>exact q2.elim
    refine e1a2 hw fun v' ev' rv'=>?_
    revert hexp; refine if_e fun hk hexp=>?_
    revert hexp; refine m_V fun v2 hv2 hexp=>?_
    revert hexp; refine m_Ls fun ls hls hexp=>?_
    cases hexp
    refine e0a2 (Aft.leave R hW keep1 a2 hk.1 hk.2 hls) fun a3 hn=>?_
    exact ⟨v',by rw [← ev']; cases fl <;> rfl,_,a3,renV_ok (kept_h1 hn) (kept_h2 hn) rv' hv2⟩
  split at em
  · rename_i w σ1 e1
    exact fin w σ1 _ e1 (.inl rfl) em
  · rename_i σ1 e1
    exact fin .none σ1 _ e1 (.inr ⟨rfl,rfl⟩) em
  · cases em
end Mine
namespace Mine
section
variable {X : Cx} {n : Nat} {nm : Nm}
noncomputable def aNil : Xms:=fun σ=>some ([],σ.H)
noncomputable def aCons (a : Xm) (b : Xms) : Xms:=fun σ=>match a σ with
  | some (v,H)=>(match b { σ with H:=H } with
    | some (vs,H')=>some (v :: vs,H')
    | none=>none)
  | none=>none
theorem RXs_nil : RXs X φ n nm [] aNil:=fun A env σ s μ ν vs H' pos hA F R em=>by
  refine ret_e em ?_
  exact wpAny_items_nil ⟨μ,.refl R,.nil⟩
theorem RXs_cons {e : PySem.Expr} {rest : List PySem.Expr} {a : Xm} {b : Xms} (ra : RX X φ n nm e a) (rb : RXs X φ n nm rest b) (he : ∀ env,starEach (e :: rest) env = (false,eval e env) :: starEach rest env:=by intro _; rfl) : RXs X φ n nm (e :: rest) (aCons a b):=fun A env σ s μ ν vs H' pos hA F R em=>by
  revert em; refine m_VH fun v H1 e1 em=>?_
  revert em; refine m_VsH fun us H2 e2 em=>?_
  refine ret_e em ?_
  refine wpAny_items_cons (ra.use hA F R e1 fun x' s1 μ1 a1 F1 r1=>rb.use (σ:={ σ with H:=H1 }) hA F1 a1.rep e2 fun xs s2 μ2 a2 F2 r2=>?_) (he env)
  exact ⟨μ2,a1.trans a2,.cons (r1.aft a1.rep a2) r2⟩
noncomputable def toInts : List V → Option (List Int)
  | []=>some []
  | .int i :: r=>(match toInts r with
    | some xs=>some (i :: xs)
    | none=>none)
  | _ :: _=>none
mutual
noncomputable def V.still : V → Bool
  | .clo _ _=>false
  | .tup vs=>stills vs
  | _=>true
noncomputable def stills : List V → Bool
  | []=>true
  | v :: r=>v.still && stills r
end
noncomputable def mkL (vs : List V) : L:=match toInts vs with
  | some xs=>.ints xs
  | none=>.vals vs
theorem toInts_eq : ∀ {vs : List V} {xs : List Int},toInts vs = some xs → vs = xs.map .int
  | [],xs,e=>by refine re1_e e ?_; rfl
  | v :: r,xs,e=>by
    cases v with
    | int i =>
      revert e; refine m_Is fun ys h e=>?_
      refine re1_e e ?_; rw [toInts_eq h]; rfl
    | _=>cases e
set_option tactic.hygienic true in
theorem mkL_vs (vs : List V) : (mkL vs).vs = vs:=by
  unfold mkL
  split
  · rename_i xs h; exact (toInts_eq h).symm
  · rfl
theorem VRs.still {h : Heap} {μ ν ν' : List Addr} {xs : List Value} {vs : List V} (r : VRs X h μ ν xs vs) : stills vs = true → VRs X h μ ν' xs vs:=fun e =>
  VRs.rec (X:=X) (h:=h) (motive_1:=fun μ ν x v _=>∀ ν' : List Addr,v.still = true → VR X h μ ν' x v) (motive_2:=fun μ ν x v _=>∀ ν' : List Addr,stills v = true → VRs X h μ ν' x v)
    (fun _ _=>.none) (fun b _ _=>.bool b) (fun i t _ _=>.int i t) (fun s t _ _=>.str s t) (fun q _ _=>.ref q) (fun q _ ih ν' e=>.tup q (ih ν' (by rw [V.still] at e; exact e))) (fun q _ _=>.rng q) (fun q _ _=>.fn q)
    (fun _ _ _ _ _ _ e=>by rw [V.still] at e; cases e) (fun q r z _ _ _=>.frz q r z) (fun _ _=>.nil) (fun _ _ iha ihb ν' e=>by rw [stills,Bool.and_eq_true] at e; exact .cons (iha ν' e.1) (ihb ν' e.2)) r ν' e
theorem stills_ints : ∀ xs : List Int,stills (xs.map .int) = true
  | []=>rfl
  | x :: xs=>by simp only [List.map_cons,stills,V.still,Bool.true_and]; exact stills_ints xs
noncomputable def mList (a : Xms) : Xm:=fun σ=>match a σ with
  | some (vs,H)=>if vs.length ≤ 1048576 && stills vs then some (.ref H.length,H ++ [mkL vs]) else none
  | none=>none
theorem pre_take_self {μ : List Addr} {H : List L} (e : μ.length = H.length) (a : Addr) : (μ ++ [a])[H.length]? = some a:=by
  rw [← e,List.getElem?_append_right (Nat.le_refl _),Nat.sub_self]; rfl
theorem sizeLine_val : sizeLine = 16777216:=by rw [sizeLine_eq]
theorem new_list {s : Shared} {μ ν : List Addr} {H : List L} {C : List (Option V)} {xs : List Value} {vs : List V} {tk : Nat} (R : Rep X φ μ ν H C s) (r : VRs X s.heap μ ν xs vs) (hz : vs.length ≤ 1048576) (hs : stills vs = true) :
    Aft X φ μ ν s (H ++ [mkL vs]) C (μ ++ [s.heap.objs.size]) { s with heap:=s.heap.push { cls:=.type "list",data:=.seq xs.toArray },toks:=tk } NoFree ∧ VR X (s.heap.push { cls:=.type "list",data:=.seq xs.toArray }) (μ ++ [s.heap.objs.size]) ν (.ref s.heap.objs.size) (.ref H.length) :=
  ⟨.pushList R (by rw [r.length]; exact hz) (by rw [mkL_vs]; exact r.still hs),.ref (pre_take_self R.lenH _)⟩
theorem RX_list {es : List PySem.Expr} {pos : Pos} {a : Xms} (r : RXs X φ n nm es a) : RX X φ n nm (.List es pos) (mList a):=fun A env σ s μ ν v H' hA F R em=>by
  revert em; refine m_VsH fun vs H1 e1 em=>?_
  revert em; refine if_e fun hc em=>?_
  refine ret_e em ?_
  simp only [Bool.and_eq_true,decide_eq_true_eq] at hc
  refine wpAny_List (r.use hA F R e1 fun xs s1 μ1 a1 F1 r1=>⟨by rw [r1.length,sizeLine_val]; lia,?_⟩)
  refine e0a2 (new_list (tk:=s1.toks) a1.rep r1 hc.1 hc.2) fun a2 r2=>?_
  exact ⟨_,a1.trans a2,r2⟩
noncomputable def mTup (a : Xms) : Xm:=fun σ=>match a σ with
  | some (vs,H)=>if vs.length ≤ 1048576 then some (.tup vs,H) else none
  | none=>none
theorem RX_tup {es : List PySem.Expr} {k : Nat} {pos : Pos} {a : Xms} (r : RXs X φ n nm es a) : RX X φ n nm (.Tuple es k pos) (mTup a):=fun A env σ s μ ν v H' hA F R em=>by
  unfold mTup at em
  revert em; refine m_VsH fun vs H1 e1 em=>?_
  revert em; refine if_e fun hc em=>?_
  cases em
  refine wpAny_Tuple (r.use hA F R e1 fun xs s1 μ1 a1 F1 r1=>⟨by rw [r1.length,sizeLine_val]; lia,?_⟩)
  have a2 : Aft X φ μ1 ν s1 H' σ.C μ1 { s1 with heap:=s1.heap.push { cls:=.type "tuple",data:=.seq xs.toArray } } NoFree:=.push a1.rep _
  exact ⟨_,a1.trans a2,.tup (Heap.get?_push_size _ rfl) (r1.aft a1.rep a2)⟩
structure CallV (X : Cx) (φ : List Env) (n : Nat) (v : V) (f : FCall) : Prop where
  code : ∀ (A : Around) (s : Shared) (μ ν : List Addr) (H : List L) (C : List (Option V)) (x : Value) (xs : List Value) (kws : List (Str × Value)) (vs : List V) (kv : Option V) (r : V) (H' : List L),Room φ n A → Rep X φ μ ν H C s → VR X s.heap μ ν x v → VRs X s.heap μ ν xs vs → KwR X s.heap μ ν kws kv → f vs kv C H = some (r,H') →
    codeAny (model X.prog X.w) A (.call x ⟨xs,kws⟩) (RetR X φ μ ν s H' C r) s
  obj : ∀ (s : Shared) (μ ν : List Addr) (H : List L) (C : List (Option V)) (x : Value),Rep X φ μ ν H C s → VR X s.heap μ ν x v → ∃ a o fd,x = .ref a ∧ s.heap.get? a = some o ∧ o.data = .func fd
theorem CallV.of_fn {k : Nat} {a : Addr} {d : Df} {f : FCall} (hk : X.fn k = some a) (T : FnAt X a d) (c : CallOk X φ n a f) : CallV X φ n (.fn k) f where
  code:=fun A s μ ν H C x xs kws vs kv r H' hA R rx rxs rk e=>by
    refine rx.fn_e fun b hb=>?_
    rw [hk] at hb; cases hb
    exact c A s μ ν H C xs kws vs kv r H' hA R rxs rk e
  obj:=fun s μ ν H C x R rx=>by
    refine rx.fn_e fun b hb=>?_
    rw [hk] at hb; cases hb
    refine e2a3 T.obj fun o fd ho hd _=>?_
    exact ⟨_,o,fd,rfl,R.keep _ _ ho,hd⟩
theorem CallV.call {v : V} {f : FCall} (c : CallV X φ n v f) {A : Around} {s : Shared} {μ ν : List Addr} {H : List L} {C : List (Option V)} {x : Value} {xs : List Value} {kws : List (Str × Value)} {vs : List V} {kv : Option V} {r : V} {H' : List L} {Q E : Value → Shared → Prop}
    (hA : Room φ n A) (R : Rep X φ μ ν H C s) (rx : VR X s.heap μ ν x v) (rxs : VRs X s.heap μ ν xs vs) (rk : KwR X s.heap μ ν kws kv) (e : f vs kv C H = some (r,H')) (k : ∀ v' s' μ',Aft X φ μ ν s H' C μ' s' NoFree → VR X s'.heap μ' ν v' r → Q v' s') :
    wpAny (model X.prog X.w) A (PySem.call x xs kws) Q E s :=
  wpAny_call (codeAny_mono (c.code A s μ ν H C x xs kws vs kv r H' hA R rx rxs rk e) fun r' s' ⟨v',hr,μ',a,q⟩=>by subst hr; exact k v' s' μ' a q)
theorem looks_keeper {M : Model} {h : Heap} {a : Addr} {o : Obj} {fd : FuncData} (e : h.get? a = some o) (d : o.data = .func fd) : Looks M h (keeperOf (.ref a)) .frame:=by
  obtain ⟨c,dd,dt,sl⟩:=o
  cases d
  exact (Looks.ld (part:=none) e).andThen .now
noncomputable def mCall (fm : Xm) (disp : V → Option FCall) (args : Xms) : Xm:=fun σ=>match fm σ with
  | some (fv,H0)=>(match disp fv with
    | some f=>(match args { σ with H:=H0 } with
      | some (vs,H1)=>f vs none σ.C H1
      | none=>none)
    | none=>none)
  | none=>none
noncomputable def mCallK (fm : Xm) (disp : V → Option FCall) (args : Xms) (km : Xm) : Xm:=fun σ=>match fm σ with
  | some (fv,H0)=>(match disp fv with
    | some f=>(match args { σ with H:=H0 } with
      | some (vs,H1)=>(match km { σ with H:=H1 } with
        | some (kv,H2)=>f vs (some kv) σ.C H2
        | none=>none)
      | none=>none)
    | none=>none)
  | none=>none
theorem RX_call {x : Str} {np pos : Pos} {e : PySem.Expr} {rest : List PySem.Expr} {fm : Xm} {disp : V → Option FCall} {args : Xms} (rf : RX X φ n nm (.Name x np) fm) (hd : ∀ v f,disp v = some f → CallV X φ n v f) (ra : RXs X φ n nm (e :: rest) args)
    (he : ∀ env,starEach (e :: rest) env = (false,eval e env) :: starEach rest env:=by intro _; rfl) (hplain : ∀ env,(backTo pos (starEach rest env)).any (·.1) = false:=by intro _; rfl) :
    RX X φ n nm (.Call (.Name x np) (e :: rest) [] pos) (mCall fm disp args):=fun A env σ s μ ν v H' hA F R em=>by
  revert em; refine m_VH fun fv H0 e0 em=>?_
  revert em; refine m_FC fun f ef em=>?_
  revert em; refine m_VsH fun vs H1 e1 em=>?_
  refine wpAny_Call_ofName (rf.use hA F R e0 fun x' s1 μ1 a1 F1 r1=>?_)
  have cv:=hd fv f ef
  obtain ⟨a,o,fd,rfl,ho,hdd⟩:=cv.obj s1 μ1 ν H0 σ.C x' a1.rep r1
  show wpAny _ A (callWith pos (.ref a) [] (backTo pos (starEach (e :: rest) env)) []) _ _ s1
  refine callWith_of (P:=fun h=>∃ o fd,h.get? a = some o ∧ o.data = .func fd) (by rw [he env]; show ((false || (backTo pos (starEach rest env)).any (·.1)) || false) = false; rw [hplain env]; rfl)
    (fun h q=>e2a2 q fun o fd e1 e2=>⟨.frame,.inl rfl,looks_keeper e1 e2⟩) ?_
  have harg:=ra.use (σ:={ σ with H:=H0 }) (pos:=pos) hA F1 a1.rep e1 (Q:=fun vs' s'=>(∃ o fd,s'.heap.get? a = some o ∧ o.data = .func fd) ∧ wpAny (model X.prog X.w) A (PySem.call (.ref a) ([] ++ vs') []) (QX X φ μ ν s H' σ.C v) (fun _ _=>False) s') (E:=fun _ _=>False)
    fun xs s2 μ2 a2 F2 r2=>⟨?_,cv.call (kv:=none) hA a2.rep (r1.aft a1.rep a2) r2 rfl em fun v' s3 μ3 a3 r3=>⟨μ3,(a1.trans a2).trans a3,r3⟩⟩
  · rw [he env] at harg ⊢
    exact Calls.evalArgs_plain harg
  · exact ⟨o,fd,(a2.keeps a o (fun q=>q.elim (fun q=>a1.rep.not_stable q.mut ho (.inr (.inr ⟨fd,hdd⟩))) False.elim) ho).nd (fun _ _ d=>by rw [hdd] at d; cases d),hdd⟩
theorem RX_callK {x : Str} {np pos kp : Pos} {e ke : PySem.Expr} {rest : List PySem.Expr} {fm km : Xm} {disp : V → Option FCall} {args : Xms} (rf : RX X φ n nm (.Name x np) fm) (hd : ∀ v f,disp v = some f → CallV X φ n v f) (ra : RXs X φ n nm (e :: rest) args) (rk : RX X φ n nm ke km)
    (he : ∀ env,starEach (e :: rest) env = (false,eval e env) :: starEach rest env:=by intro _; rfl) (hplain : ∀ env,(backTo pos (starEach rest env)).any (·.1) = false:=by intro _; rfl) :
    RX X φ n nm (.Call (.Name x np) (e :: rest) [⟨some "key",ke,kp⟩] pos) (mCallK fm disp args km):=fun A env σ s μ ν v H' hA F R em=>by
  revert em; refine m_VH fun fv H0 e0 em=>?_
  revert em; refine m_FC fun f ef em=>?_
  revert em; refine m_VsH fun vs H1 e1 em=>?_
  revert em; refine m_VH fun kv H2 e2 em=>?_
  refine wpAny_Call_ofName (rf.use hA F R e0 fun x' s1 μ1 a1 F1 r1=>?_)
  have cv:=hd fv f ef
  obtain ⟨a,o,fd,rfl,ho,hdd⟩:=cv.obj s1 μ1 ν H0 σ.C x' a1.rep r1
  refine callWith_of (P:=fun h=>∃ o fd,h.get? a = some o ∧ o.data = .func fd) (by rw [he env]; show ((false || (backTo pos (starEach rest env)).any (·.1)) || false) = false; rw [hplain env]; rfl)
    (fun h q=>e2a2 q fun o fd e1 e2=>⟨.frame,.inl rfl,looks_keeper e1 e2⟩) ?_
  refine evalArgs_kw2 rfl (ra.use (σ:={ σ with H:=H0 }) (pos:=pos) hA F1 a1.rep e1 fun xs s2 μ2 a2 F2 r2=>?_) (he env)
  show wpAny _ A (evalAll [do let v ← eval ke env; standAt pos; pure v]) _ _ s2
  refine wpAny_evalAll_cons (wpAny_bind (rk.use (σ:={ σ with H:=H1 }) hA F2 a2.rep e2 fun k' s3 μ3 a3 F3 r3=>wpAny_bind (wpAny_standAt (wpAny_pure (wpAny_evalAll_nil ?_)))))
  have a23:=a2.trans a3
  refine ⟨⟨o,fd,(a23.keeps a o (fun q=>q.elim (fun q=>a1.rep.not_stable q.mut ho (.inr (.inr ⟨fd,hdd⟩))) False.elim) ho).nd (fun _ _ d=>by rw [hdd] at d; cases d),hdd⟩,?_⟩
  exact cv.call (kws:=[(("key" : Str),k')]) (kv:=some kv) hA a3.rep (r1.aft a1.rep a23) (r2.aft a2.rep a3) ⟨k',rfl,r3⟩ em fun v' s4 μ4 a4 r4=>⟨μ4,(a1.trans a23).trans a4,r4⟩
structure LamOk (X : Cx) (n k : Nat) (l : Lam) (nm : Nm) (p : Str) (m : Xm) : Prop where
  at_ : X.lams k = some l
  names : NmOk nm
  loc : nm.loc = [p]
  cel : nm.cel = l.names
  scope : nm.scope = l.scope
  qual : l.qual ++ ".<locals>." = nm.qual
  tab : X.tabs[nm.tab]? = none
  co : l.scope.isCoroutine = false
  gen : l.scope.isGenerator = false
  nocell : ∀ x ∈ l.scope.names,x.2 ≠ .cell
  bind : ∀ (cl : List (Str × Addr)) (pm cd ct x : Value),bindArgs (lamFd l cl pm cd ct) ⟨[x],[]⟩ = pure [(p,x)]
  body : ∀ φ,RX X φ n nm l.body m
noncomputable def loSem (m : Xm) (cs : List Nat) : FCall:=fun vs kv C H=>match vs,kv with
  | [v],none=>m { loc:=[some v],cel:=cs,C:=C,H:=H }
  | _,_=>none
theorem lookup_zip_idx {cl : List (Str × Addr)} (nd : (cl.map (·.1)).Nodup) {i : Nat} {x : Str} {a : Addr} (e1 : (cl.map (·.1))[i]? = some x) (e2 : (cl.map (·.2))[i]? = some a) : cl.lookup x = some a:=by
  refine e1a2 (getElem?_map_some e1) fun p q1 q2=>?_
  refine e1a2 (getElem?_map_some e2) fun p' q3 q4=>?_
  rw [q1] at q3; cases q3
  exact lookup_of_mem_nodup nd (by rw [← q2,← q4]; exact List.mem_of_getElem? q1)
set_option tactic.hygienic true in
theorem CallV.of_lam (O : XOk X) {k : Nat} {l : Lam} {nm : Nm} {p : Str} {m : Xm} (Lk : LamOk X n k l nm p m) (cs : List Nat) : CallV X φ (n + 1) (.clo k cs) (loSem m cs) where
  obj:=fun s μ ν H C x R rx=>by
    refine rx.clo_e fun a l cl pm cd ct e hl hc hn ha=>?_
    exact ⟨_,_,_,rfl,e,rfl⟩
  code:=fun A s μ ν H C x xs kws vs kv r H' hA R rx rxs rk em=>by
    unfold loSem at em
    split at em
    · rename_i v
      refine rx.clo_e fun a l' cl pm cd ct e hl hc hn ha=>?_
      rw [Lk.at_] at hl; cases hl
      refine rxs.e1 fun x' rv=>?_
      cases rk
      refine kla_callFunE hA.rl e rfl Lk.co Lk.gen rfl hc.rec ?_
      rw [Lk.bind]
      have hkind : l.scope.kind = .function:=Lk.scope ▸ Lk.names.kind
      refine wpAny_pure (wpAny_newFunctionEnv Lk.nocell (fun y hy=>?_) (fun h' hns hsb=>?_) hkind)
      · simp at hy; subst hy
        have:=(Lk.names.loc p (by rw [Lk.loc]; simp)).1
        rw [Lk.scope] at this
        exact this
      · have keep1 : ∀ b o,s.heap.get? b = some o → h'.get? b = some o:=fun b o eb=>hsb.extBut b o (Nat.ne_of_lt (Heap.lt_size eb)) (Heap.get?_push_of_some _ eb)
        have R1 : Rep X φ μ ν H C { s with heap:=h',toks:=s.toks + 1 }:=R.grow keep1
        have a1 : Aft X φ μ ν s H C μ { s with heap:=h',toks:=s.toks + 1 } NoFree:=.grow R keep1
        have hnone : s.heap.get? s.heap.objs.size = none:=none_at_size _
        refine ⟨(O.nolimit.keeps R.keep).keeps keep1,kla_codeExpr ?_⟩
        have ndn : (cl.map (·.1)).Nodup:=by rw [hn,← Lk.cel]; exact Lk.names.ncel
        have F1 : FrOk X (newEnv l.scope s.heap.objs.size mainGlobals cl (l.qual ++ ".<locals>.") (some a) cd none builtinsNs :: φ) nm (newEnv l.scope s.heap.objs.size mainGlobals cl (l.qual ++ ".<locals>.") (some a) cd none builtinsNs) [some v] cs μ ν h' :=
          { top:=⟨_,_,rfl,rfl⟩
            scope:=Lk.scope.symm
            glob:=rfl
            bui:=rfl
            qual:=Lk.qual
            ns:=⟨_,hns,fun i y w e1 e2=>by
              rw [Lk.loc] at e1
              cases i with
              | zero =>
                simp at e1 e2
                subst e1 e2
                exact ⟨x',by simp,rv.aft R a1⟩
              | succ i=>simp at e1⟩
            own:=⟨R.not_mut hnone,R.base_none hnone⟩
            cell:=fun i y c e1 e2=>by
              have hclen : cs.length = cl.length:=by have:=congrArg List.length ha; simpa using this
              have hi : i < cl.length:=by rw [← hclen]; exact (List.getElem?_eq_some_iff.mp e2).1
              have h1 : (cs.map fun c=>ν[c]?)[i]? = some (ν[c]?):=by rw [List.getElem?_map,e2]; rfl
              rw [ha,List.getElem?_map,List.getElem?_eq_getElem hi] at h1
              have h2 : ν[c]? = some cl[i].2:=(Option.some.inj h1).symm
              refine ⟨cl[i].2,h2,lookup_zip_idx ndn (i:=i) ?_ ?_⟩
              · rw [hn,← Lk.cel]; exact e1
              · rw [List.getElem?_map,List.getElem?_eq_getElem hi]; rfl
            code:=fun q eq=>by rw [Lk.tab] at eq; cases eq
            ownc:=fun y b e1 e2=>by
              rw [Lk.scope] at e1
              exact absurd rfl (Lk.nocell (y,.cell) (mem_of_lookup e1)) }
        refine (Lk.body _).use (σ:={ loc:=[some v],cel:=cs,C:=C,H:=H }) (hA.deeper _ ⟨?_,_,rfl⟩) F1 (R1.pushFr rfl F1.own.2 F1.own.1 (let ⟨_,⟨o,es,ep,e,d,_⟩,_⟩:=F1.ns; ⟨o,es,ep,e,d⟩)) em fun v' s2 μ2 a2 F2 r2=>⟨v',rfl,μ2,a1.trans a2.popFr,r2⟩
        show l.scope.kind ≠ .module
        rw [hkind]; decide
    · cases em
end
end Mine
namespace Mine
noncomputable def freeRev : List (Str × NameKind) → List Str → List Str
  | [],acc=>acc
  | (x,k) :: r,acc=>if k == .free then freeRev r (x :: acc) else freeRev r acc
noncomputable def closAcc (cells : List (Str × Addr)) : List (Str × NameKind) → List (Str × Addr) → List (Str × Addr)
  | [],acc=>acc
  | (x,k) :: r,acc=>if k == .free then closAcc cells r ((x,(cells.lookup x).getD 0) :: acc) else closAcc cells r acc
theorem closAcc_fst (cells : List (Str × Addr)) : ∀ (names : List (Str × NameKind)) (acc : List (Str × Addr)),(closAcc cells names acc).map (·.1) = freeRev names (acc.map (·.1))
  | [],_=>rfl
  | (x,k) :: r,acc=>by
    unfold closAcc freeRev
    split
    · rw [closAcc_fst cells r]; rfl
    · rw [closAcc_fst cells r]
theorem closAcc_snd (cells : List (Str × Addr)) : ∀ (names : List (Str × NameKind)) (acc : List (Str × Addr)),(∀ y ∈ acc,y.2 = (cells.lookup y.1).getD 0) → ∀ y ∈ closAcc cells names acc,y.2 = (cells.lookup y.1).getD 0
  | [],_,h,y,hy=>h y hy
  | (x,k) :: r,acc,h,y,hy=>by
    unfold closAcc at hy
    split at hy
    · exact closAcc_snd cells r _ (fun z hz=>by
        rcases List.mem_cons.mp hz with rfl | hz
        · rfl
        · exact h z hz) y hy
    · exact closAcc_snd cells r acc h y hy
theorem closureFor_eq {scope : Scope} {env : Env} (h : ∀ x ∈ scope.names,x.2 = .free → ∃ c,env.cells.lookup x.1 = some c) : closureFor scope env = pure (closAcc env.cells scope.names []):=by
  have key : ∀ (names : List (Str × NameKind)) (acc : List (Str × Addr)),(∀ x ∈ names,x.2 = .free → ∃ c,env.cells.lookup x.1 = some c) →
      (forIn names acc (fun (x : Str × NameKind) (r : List (Str × Addr))=>if (x.2 == NameKind.free) = true then (do let c ← cellOf env x.1; pure (ForInStep.yield ((x.1,c) :: r))) else pure (ForInStep.yield r)) : Sem (List (Str × Addr))) = pure (closAcc env.cells names acc):=by
    intro names
    induction names with
    | nil=>intro acc _; rfl
    | cons x r ih =>
      intro acc hx
      obtain ⟨y,k⟩:=x
      rw [List.forIn_cons]
      unfold closAcc
      by_cases hk : (k == NameKind.free) = true
      · refine e1a1 (hx (y,k) List.mem_cons_self (by simpa using hk)) fun c hc=>?_
        have hcell : cellOf env y = pure c:=by unfold cellOf; rw [show env.cells.lookup y = some c from hc]
        simp only [hk,if_true,hcell,pure_bind]
        rw [show env.cells.lookup y = some c from hc]
        exact ih _ fun z hz=>hx z (List.mem_cons_of_mem _ hz)
      · simp only [hk,Bool.false_eq_true,if_false,pure_bind]
        exact ih _ fun z hz=>hx z (List.mem_cons_of_mem _ hz)
  simp only [closureFor]
  rw [key scope.names [] h,pure_bind]
set_option tactic.hygienic true in
theorem codeAmong_app {pos : Pos} {a b : Int} {c cv : Value} (l : List Value) (h : TriplesOk l) : codeAmong pos (l ++ [rawInt a,rawInt b,c]) = some cv → codeAmong pos l = some cv ∨ cv = c:=by
  fun_induction TriplesOk l with
  | case1 =>
    intro e
    simp only [List.nil_append,rawInt,codeAmong] at e
    revert e; refine if_e fun _ e=>?_
    refine re1_e e ?_; exact .inr rfl
  | case2 a' t b' u x rest ih =>
    intro e
    simp only [List.cons_append,codeAmong] at e ⊢
    split at e
    · rename_i hc; rw [if_pos hc]; exact .inl e
    · rename_i hc; rw [if_neg hc]; exact ih h e
  | case3 l h1 h2=>exact h.elim
section
variable {X : Cx} {n : Nat} {nm : Nm}
theorem Rep.tabGrow {μ ν : List Addr} {H : List L} {C : List (Option V)} {s : Shared} (R : Rep X φ μ ν H C s) (nd : X.ptabs.Nodup) {q : Addr × Addr × Str} (hb : X.h₀.get? q.2.1 = none) (hq : q ∈ X.tabs) {h' : Heap} {tk : Nat} (k : Heap.ExtBut q.2.1 s.heap h') {ps' : Array Value}
    (e : h'.get? q.2.1 = some (tabObj ps')) (ht : TriplesOk ps'.toList) (hc : ∀ pos cv,codeAmong pos ps'.toList = some cv → CodeC h' cv q.2.2) : Rep X φ μ ν H C { s with heap:=h',toks:=tk }:=by
  have hP : q.2.1 ∈ X.ptabs:=List.mem_map_of_mem hq
  refine e1a1 (R.tab_at hP) fun ps0 e0=>?_
  have st : Stab s.heap h':=fun b o eb sb=>k b o (fun z=>by subst z; exact R.not_stable (.inr (.inr hP)) eb sb) eb
  exact
  { frs:=fun L hL=>let ⟨f1,f2,f3⟩:=R.frs L hL; ⟨f1,f2,f3.keeps fun o e=>k L o (fun z=>f2 (z ▸ .inr (.inr hP))) e⟩
    same:=let ⟨_,_,e⟩:=R.same; ⟨h',tk,by rw [e]⟩
    keep:=fun b o eb=>k b o (fun z=>by
      subst z
      rw [hb] at eb; cases eb) (R.keep b o eb)
    lenH:=R.lenH
    lenC:=R.lenC
    nodup:=R.nodup
    fresh:=R.fresh
    lists:=fun j b l' e1 e2=>by
      refine e2a3 (R.lists j b l' e1 e2) fun its' n' e' hz' r=>?_
      exact ⟨its',n',k b _ (fun z=>(R.fresh b (.inl (List.mem_of_getElem? e1))).2 (z ▸ hP)) e',hz',r.mono st (List.prefix_refl _) (List.prefix_refl _)⟩
    cells:=fun j b w e1 e2=>(R.cells j b w e1 e2).mono st (List.prefix_refl _) (List.prefix_refl _) fun o eo=>k b o (fun z=>(R.fresh b (.inr (List.mem_of_getElem? e1))).2 (z ▸ hP)) eo
    tabs:=fun q' hq'=>by
      by_cases z : q'.2.1 = q.2.1
      · have : q' = q:=by
          refine e1a1 (List.mem_iff_getElem?.mp hq') fun i hi=>?_
          refine e1a1 (List.mem_iff_getElem?.mp hq) fun j hj=>?_
          have h1 : X.ptabs[i]? = some q'.2.1:=by unfold Cx.ptabs; rw [List.getElem?_map,hi]; rfl
          have h2 : X.ptabs[j]? = some q.2.1:=by unfold Cx.ptabs; rw [List.getElem?_map,hj]; rfl
          rw [z] at h1
          have:=nodup_idx nd h1 h2
          subst this
          rw [hi] at hj; exact Option.some.inj hj
        subst this
        exact ⟨ps',e,ht,hc⟩
      · refine e1a3 (R.tabs q' hq') fun ps eq ht' hc'=>?_
        exact ⟨ps,k _ _ z eq,ht',fun pos cv ec=>(hc' pos cv ec).stab st⟩ }
structure LamAt (X : Cx) (nm : Nm) (k : Nat) (l : Lam) (params : Arguments) (body : PySem.Expr) (scope : Scope) (is : List Nat) : Prop where
  at_ : X.lams k = some l
  params : l.params = params
  body : l.body = body
  scp : l.scope = scope
  qual : nm.qual ++ "<lambda>" = l.qual
  names : l.names = freeRev scope.names []
  nodup : l.names.Nodup
  slots : is.map (fun i=>nm.cel[i]?) = l.names.map some
  tab : ∃ q,X.tabs[nm.tab]? = some q ∧ q.2.2 = l.qual
noncomputable def mLam (k : Nat) (is : List Nat) : Xm:=fun σ=>if is.all (fun i=>i < σ.cel.length) then some (.clo k (is.map fun i=>σ.cel.getD i 0),σ.H) else none
set_option tactic.hygienic true in
theorem freeRev_mem {x : Str} : ∀ {names : List (Str × NameKind)} {acc : List Str},x ∈ freeRev names acc ↔ x ∈ acc ∨ (x,NameKind.free) ∈ names
  | [],_=>by simp [freeRev]
  | (y,kd) :: r,acc=>by
    unfold freeRev
    split
    · rename_i h
      have h' : kd = .free:=by simpa using h
      rw [freeRev_mem,List.mem_cons,List.mem_cons,h']
      constructor
      · rintro ((e | e) | e)
        · exact .inr (.inl (by rw [e]))
        · exact .inl e
        · exact .inr (.inr e)
      · rintro (e | e | e)
        · exact .inl (.inr e)
        · cases e; exact .inl (.inl rfl)
        · exact .inr e
    · rename_i h
      have h' : kd ≠ .free:=by simpa using h
      rw [freeRev_mem,List.mem_cons]
      constructor
      · rintro (e | e)
        · exact .inl e
        · exact .inr (.inr e)
      · rintro (e | e | e)
        · exact .inl e
        · cases e; exact absurd rfl h'
        · exact .inr e
structure XTab (X : Cx) : Prop where
  nodup : X.ptabs.Nodup
  hidden : ∀ P ∈ X.ptabs,X.h₀.get? P = none
theorem RX_lam (O : XOk X) (OT : XTab X) {k : Nat} {l : Lam} {params : Arguments} {body : PySem.Expr} {scope : Scope} {pos : Pos} {is : List Nat} (Lk : LamAt X nm k l params body scope is) (hdef : ∀ env,defaultsOf params env = ([],[]):=by intro _; rfl) :
    RX X φ n nm (.Lambda params body scope pos) (mLam k is):=fun A env σ s μ ν v H' hA F R em=>by
  revert em; refine if_e fun hall em=>?_
  refine ret_e em ?_
  obtain ⟨hat,rfl,rfl,rfl,hqual,hnames,hnd,hslots,q,hq,hqq⟩:=Lk
  refine kla_eval (hdef env) ?_
  rw [F.qual,hqual]
  have hqm : q ∈ X.tabs:=List.mem_of_getElem? hq
  have hP : q.2.1 ∈ X.ptabs:=List.mem_map_of_mem hqm
  refine e1a3 (R.tabs q hqm) fun ps eP ht hcs=>?_
  have hcode:=F.code q hq
  have CH : CodeHd s.heap q.1 q.2.1:=(O.codes q hqm).keeps R.keep
  have hcelLen : ∀ i ∈ is,i < σ.cel.length:=fun i hi=>by
    have:=List.all_eq_true.mp hall i hi
    simpa using this
  have hfree : ∀ x ∈ l.scope.names,x.2 = .free → ∃ c,env.cells.lookup x.1 = some c:=fun x hx e=>by
    have hxl : x.1 ∈ l.names:=by rw [hnames]; exact freeRev_mem.mpr (.inr (by rw [← e]; exact hx))
    refine e1a1 (List.mem_iff_getElem?.mp hxl) fun j hj=>?_
    have h1 : (is.map fun i=>nm.cel[i]?)[j]? = some (some x.1):=by rw [hslots,List.getElem?_map,hj]; rfl
    refine e1a2 (getElem?_map_some h1) fun i p1 p2=>?_
    have hlt:=hcelLen i (List.mem_of_getElem? p1)
    refine e1a2 (F.cell i x.1 _ p2 (List.getElem?_eq_getElem hlt)) fun a _ ha=>?_
    exact ⟨a,ha⟩
  let cl:=closAcc env.cells l.scope.names []
  have hcl : closureFor l.scope env = pure cl:=closureFor_eq hfree
  have hclf : cl.map (·.1) = l.names:=by rw [hnames]; exact closAcc_fst _ _ _
  have hcls : (is.map fun i=>σ.cel.getD i 0).map (fun c=>ν[c]?) = cl.map (fun x=>some x.2):=by
    apply List.ext_getElem?
    intro j
    rw [List.getElem?_map,List.getElem?_map,List.getElem?_map]
    have hlen : is.length = cl.length:=by
      have h1:=congrArg List.length hslots
      have h2:=congrArg List.length hclf
      simp only [List.length_map] at h1 h2
      lia
    cases hj : is[j]? with
    | none =>
      have : cl[j]? = none:=by rw [List.getElem?_eq_none_iff] at hj ⊢; lia
      rw [this]; rfl
    | some i =>
      have hjl : j < cl.length:=by rw [← hlen]; exact (List.getElem?_eq_some_iff.mp hj).1
      rw [List.getElem?_eq_getElem hjl]
      have hx : l.names[j]? = some cl[j].1:=by rw [← hclf,List.getElem?_map,List.getElem?_eq_getElem hjl]; rfl
      have h1 : (is.map fun i=>nm.cel[i]?)[j]? = some (some cl[j].1):=by rw [hslots,List.getElem?_map,hx]; rfl
      rw [List.getElem?_map,hj] at h1
      have p2:=Option.some.inj h1
      have hlt:=hcelLen i (List.mem_of_getElem? hj)
      refine e1a2 (F.cell i _ _ p2 (List.getElem?_eq_getElem hlt)) fun a ha1 ha2=>?_
      have h2:=closAcc_snd env.cells l.scope.names [] (fun _ h=>nomatch h) cl[j] (List.getElem_mem hjl)
      rw [ha2] at h2
      have h2' : cl[j].2 = a:=h2
      simp only [Option.map_some]
      rw [h2',List.getD_eq_getElem?_getD,List.getElem?_eq_getElem hlt]
      simpa using ha1
  refine e2a6 O.bmain fun bm ob hbm hne0 hbo hbc hbd hbdat=>?_
  have last : ∀ (s1 : Shared) (cd : Value) (ctv : Value),Aft X φ μ ν s σ.H σ.C μ s1 NoFree → CodeC s1.heap cd l.qual →
      wpAny (model X.prog X.w) A (do
        let b ← builtinsFor env.globals env.builtins
        let m ← nsGet env.globals "__name__"
        newObj (.type "function") (.func { lamFd l cl (m.getD .none) cd ctv with builtins:=b })) (QX X φ μ ν s σ.H σ.C (.clo k (is.map fun i=>σ.cel.getD i 0))) (fun _ _=>False) s1:=by
    intro s1 cd ctv a1 hc1
    refine wpAny_bind (wpAny_builtinsFor (by rw [F.glob]; exact O.g.keeps a1.rep.keep) hbm hne0 (a1.rep.keep _ _ hbo) hbc hbd hbdat ?_)
    refine wpAny_bind (wpAny_nsGet (by rw [F.glob]; exact O.g.keeps a1.rep.keep) ?_)
    refine wpAny_newObj_type ?_ (by size_fits)
    have a2 : Aft X φ μ ν s1 σ.H σ.C μ { s1 with heap:=s1.heap.push { cls:=.type "function",data:=.func (lamFd l cl ((X.mg "__name__").getD .none) cd ctv) } } NoFree:=.push a1.rep _
    exact ⟨μ,a1.trans a2,.clo (Heap.get?_push_size _ rfl) hat (hc1.stab (a2.stab a1.rep)) hclf hcls⟩
  have mid : ∀ (s1 : Shared) (ctv : Value),(∀ b o,s.heap.get? b = some o → s1.heap.get? b = some o) → Aft X φ μ ν s σ.H σ.C μ s1 NoFree →
      wpAny (model X.prog X.w) A (do
        let c ← functionCode env pos pos.line "<lambda>" l.qual l.params l.scope (.expr l.body)
        let b ← builtinsFor env.globals env.builtins
        let m ← nsGet env.globals "__name__"
        newObj (.type "function") (.func { lamFd l cl (m.getD .none) c ctv with builtins:=b })) (QX X φ μ ν s σ.H σ.C (.clo k (is.map fun i=>σ.cel.getD i 0))) (fun _ _=>False) s1:=by
    intro s1 ctv hk1 a1
    cases hca : codeAmong pos ps.toList with
    | some cv =>
      refine wpAny_bind (wpAny_functionCode_hit hcode ((CH.keeps hk1).code (hk1 _ _ eP) ht) hca ?_)
      have hcv:=hcs pos cv hca
      rw [hqq] at hcv
      exact last s1 cv ctv a1 (hcv.stab fun b o e _=>hk1 b o e)
    | none =>
      refine wpAny_bind (wpAny_functionCodeX hcode ((CH.keeps hk1).code (hk1 _ _ eP) ht) ((CH.keeps hk1).tab (hk1 _ _ eP)) hca fun c' h' tk hx hge hlt hic hrec htb hcc=>?_)
      have hcodec : CodeC h' (.ref c') l.qual:=by
        obtain ⟨P',_,_,⟨o,vs,g1,g2,g3,_⟩,_⟩:=hcc
        refine e4a4 hrec fun c2 o2 vs2 t2 e2 g4 g5 g6=>?_
        cases e2
        rw [g1] at g4; cases g4
        exact ⟨c',o,vs2,t2,rfl,g1,g2,g5,g6⟩
      have st1 : Stab s1.heap h':=fun b o e sb=>hx b o (fun z=>by subst z; exact a1.rep.not_stable (.inr (.inr hP)) e sb) e
      have R2 : Rep X φ μ ν σ.H σ.C { s1 with heap:=h',toks:=tk }:=a1.rep.tabGrow OT.nodup (OT.hidden _ hP) hqm hx htb.2 (by
          rw [show (ps ++ #[rawInt pos.line,rawInt pos.col,Value.ref c']).toList = ps.toList ++ [rawInt pos.line,rawInt pos.col,.ref c'] by simp]
          exact TriplesOk_snoc _ _ _ _ ht) fun pos' cv e=>by
        rw [show (ps ++ #[rawInt pos.line,rawInt pos.col,Value.ref c']).toList = ps.toList ++ [rawInt pos.line,rawInt pos.col,.ref c'] by simp] at e
        rcases codeAmong_app _ ht e with e | e
        · exact (hcs pos' cv e).stab fun b o eb sb=>st1 b o (hk1 b o eb) sb
        · rw [e,hqq]; exact hcodec
      have a2 : Aft X φ μ ν s1 σ.H σ.C μ { s1 with heap:=h',toks:=tk } NoFree:=⟨List.prefix_refl _,fun _ z=>.inl z,R2,fun b o z e=>.inl (hx b o (fun y=>z (.inl (.inr (y ▸ hP)))) e),fun b o e=>by
        by_cases z : b = q.2.1
        · subst z; exact ⟨_,htb.2⟩
        · exact ⟨o,hx b o z e⟩⟩
      exact last _ (.ref c') ctv (a1.trans a2) hcodec
  rw [makeFunction_eq]
  simp only [List.zip_nil_right,List.filterMap_nil,List.isEmpty_nil,if_true,pure_bind]
  unfold makeTail
  rw [hcl]
  refine wpAny_bind (wpAny_pure ?_)
  by_cases hemp : cl.isEmpty = true
  · simp only [hemp,if_true,pure_bind]
    have:=mid s .none (fun _ _ e=>e) (.refl R)
    rw [F.glob] at this ⊢
    exact this
  · simp only [hemp,Bool.false_eq_true,if_false]
    refine wpAny_bind (wpAny_newTextTuple ?_)
    have:=mid _ (.ref s.heap.objs.size) (fun _ _ e=>Heap.get?_push_of_some _ e) (.push (tk:=s.toks) R { cls:=.type "tuple",data:=.seq ((cl.mergeSort fun a b=>a.1.cps.toList ≤ b.1.cps.toList).map (.ref ·.2)).toArray })
    rw [F.glob] at this ⊢
    exact this
end
end Mine
namespace Mine
section
variable {X : Cx} {n : Nat} {nm : Nm}
noncomputable def pyIdx (k : Int) (len : Nat) : Option Nat:=if 0 ≤ k then (if k < len then some k.toNat else none) else if -(len : Int) ≤ k then some (k + len).toNat else none
theorem pyIdx_seq {k : Int} {len j : Nat} (e : pyIdx k len = some j) : seqIndex? k len = some j:=by
  unfold pyIdx at e
  unfold seqIndex?
  by_cases hk : k < 0
  · rw [if_neg (by lia)] at e
    revert e; refine if_e fun _ e=>?_
    simp only [if_pos hk]
    rw [if_pos (by simp only [Bool.and_eq_true,decide_eq_true_eq]; lia)]
    exact e
  · rw [if_pos (by lia)] at e
    revert e; refine if_e fun _ e=>?_
    simp only [if_neg hk]
    rw [if_pos (by simp only [Bool.and_eq_true,decide_eq_true_eq]; lia)]
    exact e
noncomputable def fItem : F2:=fun v w H=>match v,w with
  | .ref i,.int k=>(match H[i]? with
    | some l=>(match pyIdx k l.vs.length with
      | some j=>(match l.vs[j]? with
        | some r=>some (r,H)
        | none=>none)
      | none=>none)
    | none=>none)
  | .tup vs,.int k=>(match pyIdx k vs.length with
    | some j=>(match vs[j]? with
      | some r=>if vs.length ≤ 1048576 then some (r,H) else none
      | none=>none)
    | none=>none)
  | _,_=>none
theorem getItem_list_any {A : Around} {s : Shared} {l : Addr} {its : List Value} {m : Nat} {k : Int} {t : Tok} {j : Nat} {x : Value} {Q E : Value → Shared → Prop} (e : s.heap.get? l = some { cls:=.type "list",data:=.seq its.toArray m }) (hz : its.length ≤ 1048576)
    (hj : pyIdx k its.length = some j) (hx : its[j]? = some x) (h : Q x s) : wpAny (model X.prog X.w) A (getItem (.ref l) (.int k t)) Q E s:=by
  have hl : s.heap.IsList l its.toArray:=⟨_,e,rfl,m,rfl⟩
  unfold pyIdx at hj
  split at hj
  · revert hj; refine if_e fun _ hj=>?_
    cases hj
    exact wpAny_getItem_list hl (by lia) (by lia) (by simpa using hx) h
  · revert hj; refine if_e fun _ hj=>?_
    cases hj
    exact wpAny_getItem_list_neg hl (by lia) (by rw [List.size_toArray]; lia) (by lia) (by rw [List.size_toArray]; simpa using hx) h
theorem tail_item {A : Around} {s : Shared} {μ ν : List Addr} {H : List L} {C : List (Option V)} {value slice : PySem.Expr} {x y : Value} {v w r : V} {H' : List L} {Q E : Value → Shared → Prop} (R : Rep X φ μ ν H C s) (rx : VR X s.heap μ ν x v) (ry : VR X s.heap μ ν y w) (em : fItem v w H = some (r,H'))
    (hs : ∀ x y,subscripted slice false x y = operate [x,y] (getItem x y)) (h : ∀ z,H' = H → VR X s.heap μ ν z r → Q z s) : wpAny (model X.prog X.w) A (subscriptTail value slice x y) Q E s:=by
  unfold fItem at em
  split at em
  · revert em; refine m_L fun l hl em=>?_
    revert em; refine m_N fun j hj em=>?_
    revert em; refine m_V fun u hu em=>?_
    cases em; refine rx.ref_e fun a ha=>ry.int_e fun t=>?_
    refine e2a3 (R.lists _ a l ha hl) fun its m e hz rv=>?_
    refine e1a2 (rv.get hu) fun z hz' rz=>?_
    exact tail_any (s:=s) ⟨_,e,rfl⟩ slot_list_getitem.lookup (getItem_list_any e hz (by rw [rv.length]; exact hj) hz' (h z rfl (rz.mono (Stab.refl _) (List.take_prefix _ _) (List.nil_prefix)))) (hs _ _)
  · revert em; refine m_N fun j hj em=>?_
    revert em; refine m_V fun u hu em=>?_
    revert em; refine if_e fun hsz em=>?_
    cases em; refine rx.tup_e fun a its m e rv=>ry.int_e fun t=>?_
    refine e1a2 (rv.get hu) fun z hz' rz=>?_
    have ht : IsTup s.heap a its.toArray:=⟨_,e,rfl,m,rfl⟩
    have hlen:=rv.length
    refine tail_any (s:=s) ⟨_,e,rfl⟩ slot_tuple_getitem.lookup (PyProof.Rows.getItem_tuple ht (j:=j) ?_ ?_ ?_ (by simpa using hz') (h z rfl rz)) (hs _ _)
    · unfold pyIdx at hj; split at hj <;> split at hj <;> first | lia | cases hj
    · unfold pyIdx at hj; split at hj <;> split at hj <;> first | lia | cases hj
    · rw [List.size_toArray,hlen]; exact pyIdx_seq hj
  · cases em
theorem RX_item {e i : PySem.Expr} {pos : Pos} {a b : Xm} (ra : RX X φ n nm e a) (rb : RX X φ n nm i b) (hs : ∀ x y,subscripted i false x y = operate [x,y] (getItem x y):=by intro _ _; rfl) : RX X φ n nm (.Subscript e i pos) (mBin fItem a b):=fun A env σ s μ ν v H' hA F R em=>by
  revert em; refine m_VH fun x H1 e1 em=>?_
  revert em; refine m_VH fun y H2 e2 em=>?_
  refine Subscript_ (ra.use hA F R e1 fun x' s1 μ1 a1 F1 r1=>rb.use (σ:={ σ with H:=H1 }) hA F1 a1.rep e2 fun y' s2 μ2 a2 F2 r2=>?_)
  exact tail_item a2.rep (r1.aft a1.rep a2) r2 em hs fun z eH rz=>⟨μ2,by subst eH; exact a1.trans a2,rz⟩
noncomputable def pick {α : Type} (l : List α) (lo hi st : Option Int) : List α:=(sliceRange (sliceBounds lo hi st l.length).1 (sliceBounds lo hi st l.length).2.1 (sliceBounds lo hi st l.length).2.2).filterMap fun i=>l[i]?
theorem pick_map {α β : Type} (f : α → β) (l : List α) (lo hi st : Option Int) : pick (l.map f) lo hi st = (pick l lo hi st).map f:=by
  unfold pick
  rw [List.length_map]
  generalize sliceRange _ _ _ = r
  induction r with
  | nil=>rfl
  | cons i r ih =>
    rw [List.filterMap_cons,List.filterMap_cons,List.getElem?_map]
    cases l[i]? with
    | none=>simpa using ih
    | some y=>simpa using ih
noncomputable def L.pick (l : L) (lo hi st : Option Int) : L:=match l with
  | .ints xs=>.ints (Mine.pick xs lo hi st)
  | .vals vs=>.vals (Mine.pick vs lo hi st)
theorem L.pick_vs (l : L) (lo hi st : Option Int) : (l.pick lo hi st).vs = Mine.pick l.vs lo hi st:=by
  rcases l with xs | vs
  · exact (pick_map _ _ _ _ _).symm
  · rfl
theorem VRs.pickIdx {h : Heap} {μ ν : List Addr} {xs : List Value} {vs : List V} (r : VRs X h μ ν xs vs) : ∀ is : List Nat,VRs X h μ ν (is.filterMap fun i=>xs[i]?) (is.filterMap fun i=>vs[i]?)
  | []=>.nil
  | i :: is=>by
    rw [List.filterMap_cons,List.filterMap_cons]
    cases e : vs[i]? with
    | none=>rw [r.getNone e]; exact VRs.pickIdx r is
    | some v =>
      refine e1a2 (r.get e) fun x hx rx=>?_
      rw [hx]
      exact .cons rx (VRs.pickIdx r is)
theorem VRs.pick {h : Heap} {μ ν : List Addr} {xs : List Value} {vs : List V} (r : VRs X h μ ν xs vs) (lo hi st : Option Int) : VRs X h μ ν (Mine.pick xs lo hi st) (Mine.pick vs lo hi st):=by
  unfold Mine.pick
  rw [r.length]
  exact r.pickIdx _
theorem slicePick_eq (xs : List Value) (lo hi st : Option Int) : slicePick xs.toArray lo hi st = (pick xs lo hi st).toArray:=by
  unfold slicePick pick
  rw [List.size_toArray]
  congr 1
  simp
noncomputable def partOf : V → Option (Option Int)
  | .none=>some none
  | .int i=>some (some i)
  | _=>none
theorem IsPart_of {h : Heap} {μ ν : List Addr} {x : Value} {v : V} {p : Option Int} (r : VR X h μ ν x v) (e : partOf v = some p) : IsPart x p:=by
  cases r <;> cases e
  · exact .none
  · exact .int _ _
noncomputable def RP (X : Cx) (φ : List Env) (n : Nat) (nm : Nm) : Option PySem.Expr → Xm → Prop
  | none,m=>m = mNone
  | some e,m=>RX X φ n nm e m
theorem RP.use {o : Option PySem.Expr} {m : Xm} (r : RP X φ n nm o m) {env : Env} {A : Around} {σ : S} {s : Shared} {μ ν : List Addr} {H' : List L} {Q E : Value → Shared → Prop} (hA : Room φ n A) (F : FrOk X φ nm env σ.loc σ.cel μ ν s.heap) (R : Rep X φ μ ν σ.H σ.C s) {v : V} (em : m σ = some (v,H'))
    (k : ∀ v' s' μ',Aft X φ μ ν s H' σ.C μ' s' NoFree → FrOk X φ nm env σ.loc σ.cel μ' ν s'.heap → VR X s'.heap μ' ν v' v → Q v' s') : wpAny (model X.prog X.w) A (evalPart o env) Q E s:=by
  cases o with
  | none =>
    have : m = mNone:=r
    subst this
    cases em
    exact wpAny_evalPart_none (k _ _ μ (.refl R) F .none)
  | some e=>exact wpAny_evalPart_some (RX.use r hA F R em k)
noncomputable def mSlice (a lo hi st : Xm) : Xm:=fun σ=>match a σ with
  | some (v,H1)=>(match lo { σ with H:=H1 } with
    | some (vl,H2)=>(match hi { σ with H:=H2 } with
      | some (vh,H3)=>(match st { σ with H:=H3 } with
        | some (vs,H4)=>(match partOf vl,partOf vh,partOf vs with
          | some l,some h,some t=>if t = some 0 then none else (match v with
            | .ref i=>(match H4[i]? with
              | some x=>if (x.pick l h t).vs.length ≤ 1048576 && stills (x.pick l h t).vs then some (.ref H4.length,H4 ++ [x.pick l h t]) else none
              | none=>none)
            | .frz xs=>if (pick xs l h t).length ≤ 1048576 then some (.ref H4.length,H4 ++ [.ints (pick xs l h t)]) else none
            | _=>none)
          | _,_,_=>none)
        | none=>none)
      | none=>none)
    | none=>none)
  | none=>none
set_option tactic.hygienic true in
theorem RX_slice {e : PySem.Expr} {lo hi st : Option PySem.Expr} {p pos : Pos} {a ml mh ms : Xm} (ra : RX X φ n nm e a) (rl : RP X φ n nm lo ml) (rh : RP X φ n nm hi mh) (rs : RP X φ n nm st ms)
    (hs : ∀ o i,∃ ops,subscripted (.Slice lo hi st p) false o i = operate ops (getItem o i):=by intro _ _; exact ⟨_,rfl⟩) : RX X φ n nm (.Subscript e (.Slice lo hi st p) pos) (mSlice a ml mh ms):=fun A env σ s μ ν v H' hA F R em=>by
  revert em; refine m_VH fun w H1 e1 em=>?_
  revert em; refine m_VH fun vl H2 e2 em=>?_
  revert em; refine m_VH fun vh H3 e3 em=>?_
  revert em; refine m_VH fun vs H4 e4 em=>?_
  split at em
  · rename_i l h t q1 q2 q3
    revert em; refine ifn_e fun ht0 em=>?_
    refine Subscript_ (ra.use hA F R e1 fun x' s1 μ1 a1 F1 r1=>wpAny_Slice (rl.use (σ:={ σ with H:=H1 }) hA F1 a1.rep e2 fun xl s2 μ2 a2 F2 r2 =>
      rh.use (σ:={ σ with H:=H2 }) hA F2 a2.rep e3 fun xh s3 μ3 a3 F3 r3=>rs.use (σ:={ σ with H:=H3 }) hA F3 a3.rep e4 fun xs s4 μ4 a4 F4 r4=>?_))
    have a24:=a2.trans (a3.trans a4)
    have r1':=r1.aft a1.rep a24
    have p1 : IsPart xl l:=IsPart_of r2 q1
    have p2 : IsPart xh h:=IsPart_of r3 q2
    have p3 : IsPart xs t:=IsPart_of r4 q3
    have a5 : Aft X φ μ4 ν s4 H4 σ.C μ4 { s4 with heap:=s4.heap.push { cls:=.type "slice",data:=.fields #[xl,xh,xs] } } NoFree:=.push a4.rep _
    have tot:=(a1.trans a24).trans a5
    split at em
    · rename_i i
      revert em; refine m_L fun x hx em=>?_
      revert em; refine if_e fun hc em=>?_
      refine ret_e em ?_
      simp only [Bool.and_eq_true,decide_eq_true_eq] at hc
      refine r1'.ref_e fun ad ha=>?_
      refine e1a1 (hs (.ref ad) (.ref s4.heap.objs.size)) fun ops hops=>?_
      refine e2a3 (a4.rep.lists _ ad x ha hx) fun its m eo hz rv=>?_
      have eo':=Heap.get?_push_of_some { cls:=.type "slice",data:=.fields #[xl,xh,xs] } eo
      have hl : (s4.heap.push { cls:=.type "slice",data:=.fields #[xl,xh,xs] }).IsList ad its.toArray:=⟨_,eo',rfl,m,rfl⟩
      refine tail_any (s:={ s4 with heap:=s4.heap.push { cls:=.type "slice",data:=.fields #[xl,xh,xs] } }) hl.typeIs slot_list_getitem.lookup (wpAny_getItem_list_slice hl (Heap.IsSliceOf.new ..) p1 p2 p3 ht0 ?_ (by rw [List.size_toArray,sizeLine_val]; lia)) hops
      rw [slicePick_eq]
      have rp : VRs X (s4.heap.push { cls:=.type "slice",data:=.fields #[xl,xh,xs] }) μ4 [] (pick its l h t) (x.pick l h t).vs:=by
        rw [L.pick_vs]
        exact (rv.pick l h t).mono (fun b o eb _=>Heap.get?_push_of_some _ eb) (List.take_prefix _ _) (List.prefix_refl _)
      exact ⟨_,tot.trans (.pushList a5.rep (tk:=s4.toks) (by rw [rp.length]; exact hc.1) rp),.ref (pre_take_self a5.rep.lenH _)⟩
    · rename_i xs0
      revert em; refine if_e fun hc em=>?_
      refine ret_e em ?_
      refine r1'.frz_e fun ad its eo rv hz=>?_
      refine e1a1 (hs (.ref ad) (.ref s4.heap.objs.size)) fun ops hops=>?_
      have hl : (s4.heap.push { cls:=.type "slice",data:=.fields #[xl,xh,xs] }).IsList ad its.toArray:=let ⟨o,eo,c,d⟩:=eo; ⟨o,a5.rep.keep _ _ eo,c,d⟩
      refine tail_any (s:={ s4 with heap:=s4.heap.push { cls:=.type "slice",data:=.fields #[xl,xh,xs] } }) hl.typeIs slot_list_getitem.lookup (wpAny_getItem_list_slice hl (Heap.IsSliceOf.new ..) p1 p2 p3 ht0 ?_ (by rw [List.size_toArray,sizeLine_val]; lia)) hops
      rw [slicePick_eq]
      have rp : VRs X (s4.heap.push { cls:=.type "slice",data:=.fields #[xl,xh,xs] }) μ4 [] (pick its l h t) ((pick xs0 l h t).map .int):=by
        have:=rv.pick l h t
        rw [pick_map] at this
        exact ints_any (this.mono (fun b o eb _=>Heap.get?_push_of_some _ eb) (List.prefix_refl _) (List.prefix_refl _))
      exact ⟨_,tot.trans (.pushList (l:=.ints (pick xs0 l h t)) a5.rep (tk:=s4.toks) (by rw [rp.length,List.length_map]; exact hc) rp),.ref (pre_take_self a5.rep.lenH _)⟩
    · cases em
  · cases em
end
end Mine
namespace Mine
section
variable {X : Cx} {n : Nat} {nm : Nm}
mutual
noncomputable def V.flat : V → Bool
  | .clo _ _=>false
  | .ref _=>false
  | .tup vs=>flats vs
  | _=>true
noncomputable def flats : List V → Bool
  | []=>true
  | v :: r=>v.flat && flats r
end
theorem VR.flat {h : Heap} {μ ν μ' ν' : List Addr} {x : Value} {v : V} (r : VR X h μ ν x v) : v.flat = true → VR X h μ' ν' x v:=fun e =>
  VR.rec (X:=X) (h:=h) (motive_1:=fun μ ν x v _=>∀ μ' ν' : List Addr,v.flat = true → VR X h μ' ν' x v) (motive_2:=fun μ ν x v _=>∀ μ' ν' : List Addr,flats v = true → VRs X h μ' ν' x v)
    (fun _ _ _=>.none) (fun b _ _ _=>.bool b) (fun i t _ _ _=>.int i t) (fun s t _ _ _=>.str s t) (fun _ _ _ e=>by rw [V.flat] at e; cases e) (fun q _ ih μ' ν' e=>.tup q (ih μ' ν' (by rw [V.flat] at e; exact e))) (fun q _ _ _=>.rng q) (fun q _ _ _=>.fn q)
    (fun _ _ _ _ _ _ _ e=>by rw [V.flat] at e; cases e) (fun q r z _ _ _ _=>.frz q r z) (fun _ _ _=>.nil) (fun _ _ iha ihb μ' ν' e=>by rw [flats,Bool.and_eq_true] at e; exact .cons (iha μ' ν' e.1) (ihb μ' ν' e.2)) r μ' ν' e
theorem VRs.flat {h : Heap} {μ ν μ' ν' : List Addr} {xs : List Value} {vs : List V} (r : VRs X h μ ν xs vs) : flats vs = true → VRs X h μ' ν' xs vs :=
  VRs.ind (P:=fun xs vs=>flats vs = true → VRs X h μ' ν' xs vs) (fun _=>.nil) (fun _ _ _ _ a _ ih e=>by
    rw [flats,Bool.and_eq_true] at e
    exact .cons (a.flat e.1) (ih e.2)) r
noncomputable def insL {α : Type} (l : List α) (k : Int) (x : α) : List α:=l.take (if k < 0 then (k + (l.length : Int)).toNat else min k.toNat l.length) ++ x :: l.drop (if k < 0 then (k + (l.length : Int)).toNat else min k.toNat l.length)
noncomputable def L.ins (l : L) (k : Int) (v : V) : L:=match l,v with
  | .ints xs,.int x=>.ints (insL xs k x)
  | l,v=>.vals (insL l.vs k v)
theorem insL_map {α β : Type} (f : α → β) (l : List α) (k : Int) (x : α) : insL (l.map f) k (f x) = (insL l k x).map f:=by
  unfold insL
  simp only [List.length_map,List.map_append,List.map_cons,List.map_take,List.map_drop]
theorem L.ins_vs (l : L) (k : Int) (v : V) : (l.ins k v).vs = insL l.vs k v:=by
  rcases l with xs | vs
  · cases v <;> first | rfl | exact (insL_map V.int xs k _).symm
  · rfl
theorem VRs.insL {h : Heap} {μ ν : List Addr} {xs : List Value} {vs : List V} (r : VRs X h μ ν xs vs) {x : Value} {v : V} (rx : VR X h μ ν x v) (k : Int) : VRs X h μ ν (Mine.insL xs k x) (Mine.insL vs k v):=by
  unfold Mine.insL
  rw [r.length]
  exact (r.take _).append (.cons rx (r.drop _))
theorem insL_length {α : Type} (l : List α) (k : Int) (x : α) : (insL l k x).length = l.length + 1:=by
  unfold insL
  rw [List.length_append,List.length_cons,← Nat.add_assoc,← List.length_append,List.take_append_drop]
theorem list_turns {s : Shared} {μ ν : List Addr} {H : List L} {C : List (Option V)} {i : Nat} {a : Addr} {its its' : List Value} {m : Nat} {l' : L} (R : Rep X φ μ ν H C s) (ha : μ[i]? = some a) (e : s.heap.get? a = some { cls:=.type "list",data:=.seq its.toArray m })
    (f : Array Value → Array Value) (hf : f its.toArray = its'.toArray) (hz : its'.length ≤ 1048576) (hv : VRs X s.heap (μ.take i) [] its' l'.vs) {tk : Nat} : Aft X φ μ ν s (H.set i l') C μ { s with heap:=s.heap.update a (Obj.mapSeq f),toks:=tk } NoFree:=by
  have h1:=PySem.IsL.update (n:=m) e f
  rw [hf] at h1
  exact .setList R ha (Heap.SameBut.update ..).extBut h1 hz hv
noncomputable def fInsert : FN:=fun vs H=>match vs with
  | [.ref i,.int k,v]=>(match H[i]? with
    | some l=>if v.flat && decide (l.vs.length < 1048576) && Builtin.List.listFitsIndex k then some (.none,H.set i (l.ins k v)) else none
    | none=>none)
  | _=>none
set_option tactic.hygienic true in
theorem OpN_insert : OpN X φ n (fun xs=>call (.builtin "list.insert") xs) fInsert:=fun A s μ ν H C xs vs H' r hA R rx em=>by
  unfold fInsert at em
  split at em
  · rename_i i0 k0 v0
    revert em; refine m_L fun l hl em=>?_
    revert em; refine if_e fun hc em=>?_
    refine ret_e em ?_
    simp only [Bool.and_eq_true,decide_eq_true_eq] at hc
    refine rx.e3 fun x1 x2 x3 r1 q2 q3=>r1.ref_e fun a ha=>q2.int_e fun t=>?_
    refine e2a3 (R.lists _ a l ha hl) fun its m e hz rv=>?_
    refine call_meets PySem.F.slot_list_insert ⟨_,e,rfl⟩ PySem.F.entry_list_insert (PySem.F.args_list_insert_3 _ _ _) (PySem.AutoSeq1.list_insert_list_int_val_1 a its.toArray m _ t x3 (by simp [hc.2]) (by rw [List.size_toArray,sizeLine_val]; lia)) ⟨e,?_⟩
    refine ⟨μ,list_turns (its':=insL its k0 x3) R ha e _ ?_ ?_ ?_,.none⟩
    · simp only [List.size_toArray]
      exact kl_ins_eq its _ x3
    · rw [insL_length,rv.length]; lia
    · rw [L.ins_vs]
      exact rv.insL (q3.flat hc.1.1) _
  · cases em
noncomputable def L.cat (l l2 : L) : L:=match l,l2 with
  | .ints xs,.ints ys=>.ints (xs ++ ys)
  | l,l2=>.vals (l.vs ++ l2.vs)
theorem L.cat_vs (l l2 : L) : (l.cat l2).vs = l.vs ++ l2.vs:=by
  rcases l with xs | vs <;> rcases l2 with ys | us <;> simp [L.cat,L.vs]
theorem VRs.ints {h : Heap} {μ ν : List Addr} {P : List Value → List Int → Prop} (h0 : P [] []) (h1 : ∀ i t xs ns,P xs ns → P (.int i t :: xs) (i :: ns)) : ∀ {ns : List Int} {xs : List Value},VRs X h μ ν xs (ns.map V.int) → P xs ns:=fun {ns}=>by
  induction ns with
  | nil=>exact fun r=>r.nil_e h0
  | cons n ns ih=>exact fun r=>r.cons_e fun x ys rx rs=>rx.int_e fun t=>h1 n t ys ns (ih rs)
theorem intsAre_of {h : Heap} {μ ν : List Addr} {xs : List Value} {ns : List Int} (r : VRs X h μ ν xs (ns.map V.int)) : IntsAre xs ns :=
  VRs.ints (P:=IntsAre) .nil (fun _ _ _ _ ih=>.cons _ _ ih) r
structure ListMeth (name : Str) (id : String) : Prop where
  slot : Slot "list" name id
  ty : typeOf (.builtin id) = pure (.type "method_descriptor")
noncomputable def mMeth (f : FN) (a : Xm) (args : Xms) : Xm:=fun σ=>match a σ with
  | some (v,H1)=>(match v with
    | .ref i=>if i < H1.length then (match args { σ with H:=H1 } with
      | some (vs,H2)=>f (.ref i :: vs) H2
      | none=>none) else none
    | _=>none)
  | none=>none
set_option tactic.hygienic true in
theorem RX_meth {name : Str} {id : String} {x : Str} {np apos pos : Pos} {e : PySem.Expr} {rest : List PySem.Expr} {a : Xm} {args : Xms} {f : FN} {pl : Env → Sem Bool} (M : ListMeth name id) (ra : RX X φ n nm (.Name x np) a) (rs : RXs X φ n nm (e :: rest) args) (hf : OpN X φ n (fun xs=>call (.builtin id) xs) f)
    (he : ∀ env,eval (.Call (.Attribute (.Name x np) name apos) (e :: rest) [] pos) env = (do
      let ov ← eval (.Name x np) env
      standAt apos.atName
      let (f,first) ← holding [ov] (getMethod ov name (pl env))
      callWith pos f first (backTo pos (starEach (e :: rest) env)) (backToKw pos (keywordEach [] env))):=by intro _; rfl)
    (hst : ∀ env,starEach (e :: rest) env = (false,eval e env) :: starEach rest env:=by intro _; rfl) (hplain : ∀ env,(backTo pos (starEach rest env)).any (·.1) = false:=by intro _; rfl) :
    RX X φ n nm (.Call (.Attribute (.Name x np) name apos) (e :: rest) [] pos) (mMeth f a args):=fun A env σ s μ ν v H' hA F R em=>by
  revert em; refine m_VH fun v1 H1 e1 em=>?_
  split at em
  · rename_i i
    revert em; refine if_e fun hlt em=>?_
    revert em; refine m_VsH fun vs H2 e2 em=>?_
    refine methodCall_KW (pl:=pl env) (ra.use hA F R e1 fun x' s1 μ1 a1 F1 r1=>?_) (he env)
    refine r1.ref_e fun ad ha=>?_
    refine e2a3 (a1.rep.lists _ ad _ ha (List.getElem?_eq_getElem hlt)) fun its m eo hz rv=>?_
    refine getMethod_list_of (items:=its.toArray) M.slot M.ty ⟨_,eo,rfl,m,rfl⟩ ⟨_,eo,rfl⟩ ?_
    show wpAny _ A (callWith pos (.builtin id) [.ref ad] (backTo pos (starEach (e :: rest) env)) []) _ _ s1
    refine Calls.callWith_builtin (by rw [hst env]; show (false || (backTo pos (starEach rest env)).any (·.1)) = false; rw [hplain env]; rfl) ?_
    have harg:=rs.use (σ:={ σ with H:=H1 }) (pos:=pos) hA F1 a1.rep e2 (Q:=fun vs' s'=>wpAny (model X.prog X.w) A (PySem.call (.builtin id) ([.ref ad] ++ vs') []) (QX X φ μ ν s H' σ.C v) (fun _ _=>False) s') (E:=fun _ _=>False)
      fun xs s2 μ2 a2 F2 r2=>wpAny_mono (hf A s2 μ2 ν H2 σ.C (.ref ad :: xs) (.ref i :: vs) H' v hA a2.rep (.cons (.ref (getElem?_pre a2.pre ha)) r2) em) (QX.aft ((a1.trans a2))) fun _ _ h=>h
    rw [hst env] at harg ⊢
    exact Calls.evalArgs_plain harg
  · cases em
theorem LM_insert : ListMeth "insert" "list.insert":=⟨PySem.F.slot_list_insert,by show builtinType _ = _; rw [builtinType_eq_fast]; kernel_rfl⟩
end
end Mine
namespace Mine
section
variable {X : Cx} {n : Nat} {nm : Nm}
noncomputable abbrev Put:=V → S → Option S
noncomputable def RT (X : Cx) (φ : List Env) (nm : Nm) (e : PySem.Expr) (put : Put) : Prop :=
  ∀ (A : Around) (env : Env) (σ σ' : S) (s : Shared) (μ ν : List Addr) (v' : Value) (v : V),A.handled = none → FrOk X φ nm env σ.loc σ.cel μ ν s.heap → Rep X φ μ ν σ.H σ.C s → VR X s.heap μ ν v' v → put v σ = some σ' →
    wpAny (model X.prog X.w) A (assign e env v') (fun _ s'=>Aft X φ μ ν s σ'.H σ'.C μ s' (FrW nm env) ∧ FrOk X φ nm env σ'.loc σ'.cel μ ν s'.heap) (fun _ _=>False) s
noncomputable def putAll : List Tgt → List V → S → Option S
  | [],[],σ=>some σ
  | t :: ts,v :: vs,σ=>(match t.put v σ with
    | some σ'=>putAll ts vs σ'
    | none=>none)
  | _,_,_=>none
theorem putAll_len : ∀ {ts : List Tgt} {vs : List V} {σ σ' : S},putAll ts vs σ = some σ' → vs.length = ts.length
  | [],[],_,_,_=>rfl
  | [],_ :: _,_,_,e=>by cases e
  | _ :: _,[],_,_,e=>by cases e
  | t :: ts,v :: vs,σ,σ',e=>by
    revert e; refine m_S fun _ _ e=>?_
    simp [putAll_len e]
inductive Tgts (nm : Nm) : List Str → List Tgt → Prop
  | nil : Tgts nm [] []
  | cons {x : Str} {t : Tgt} {xs : List Str} {ts : List Tgt} (h : t.At nm x) (r : Tgts nm xs ts) : Tgts nm (x :: xs) (t :: ts)
theorem stores_in_order (N : NmOk nm) {A : Around} {env : Env} {μ ν : List Addr} (f : Str → Value → Sem Unit) (hf : ∀ x v' (Q : Unit → Shared → Prop) s,wpAny (model X.prog X.w) A (storeName env x v') Q (fun _ _=>False) s → wpAny (model X.prog X.w) A (f x v') Q (fun _ _=>False) s) :
    ∀ {xs : List Str} {ts : List Tgt} {vs' : List Value} {vs : List V} {σ σ' : S} {s : Shared},Tgts nm xs ts → FrOk X φ nm env σ.loc σ.cel μ ν s.heap → Rep X φ μ ν σ.H σ.C s → VRs X s.heap μ ν vs' vs → putAll ts vs σ = some σ' →
      wpAny (model X.prog X.w) A (assignInOrder (xs.map f) vs') (fun _ s'=>Aft X φ μ ν s σ'.H σ'.C μ s' (FrW nm env) ∧ FrOk X φ nm env σ'.loc σ'.cel μ ν s'.heap) (fun _ _=>False) s:=by
  intro xs ts vs' vs σ σ' s T
  induction T generalizing vs' vs σ s with
  | nil =>
    intro F R r e
    cases vs with
    | nil=>refine re1_e e ?_; exact assignInOrder_nil ⟨.refl R,F⟩
    | cons v vs=>cases e
  | cons h T ih =>
    intro F R r e
    cases vs with
    | nil=>cases e
    | cons v vs =>
      revert e; refine m_S fun σ1 e1 e=>?_
      cases r with
      | cons a b =>
        refine assignInOrder_cons (hf _ _ _ _ (store_tgt N F R h e1 a fun s1 a1 F1=>?_))
        have hb:=b.mono (F.stabW R a1.keeps) (List.prefix_refl _) (List.prefix_refl _)
        exact wpAny_mono (ih F1 a1.rep hb e) (fun _ s2 q=>q.elim fun a2 F2=>⟨a1.trans a2,F2⟩) fun _ _ h=>h
theorem assignEach_names (env : Env) : ∀ (xs : List (Str × Pos)),assignEach (xs.map fun x=>.Name x.1 x.2) env = xs.map fun x=>(false,assign (.Name x.1 x.2) env)
  | []=>rfl
  | x :: xs=>by
    show (false,_) :: assignEach (xs.map _) env = _
    rw [assignEach_names env xs]; rfl
noncomputable def putTup (ts : List Tgt) : Put:=fun v σ=>match v with
  | .tup vs=>putAll ts vs σ
  | _=>none
theorem findIdx_none_map {α : Type} (f : α → Value → Sem Unit) : ∀ xs : List α,(xs.map fun x=>(false,f x)).findIdx? (·.1) = none
  | []=>rfl
  | x :: xs=>by
    rw [List.map_cons,List.findIdx?_cons]
    simp only [Bool.false_eq_true,if_false]
    rw [findIdx_none_map f xs]; rfl
set_option tactic.hygienic true in
theorem stores_pos (N : NmOk nm) {A : Around} {env : Env} {μ ν : List Addr} :
    ∀ {xs : List (Str × Pos)} {ts : List Tgt} {vs' : List Value} {vs : List V} {σ σ' : S} {s : Shared},Tgts nm (xs.map (·.1)) ts → FrOk X φ nm env σ.loc σ.cel μ ν s.heap → Rep X φ μ ν σ.H σ.C s → VRs X s.heap μ ν vs' vs → putAll ts vs σ = some σ' →
      wpAny (model X.prog X.w) A (assignInOrder (xs.map fun x=>assign (.Name x.1 x.2) env) vs') (fun _ s'=>Aft X φ μ ν s σ'.H σ'.C μ s' (FrW nm env) ∧ FrOk X φ nm env σ'.loc σ'.cel μ ν s'.heap) (fun _ _=>False) s
  | [],ts,vs',vs,σ,σ',s,T,F,R,r,e=>by
    cases T
    cases vs with
    | nil=>refine re1_e e ?_; exact assignInOrder_nil ⟨.refl R,F⟩
    | cons v vs=>cases e
  | x :: xs,ts,vs',vs,σ,σ',s,T,F,R,r,e=>by
    cases T
    rename_i t ts h T
    cases vs with
    | nil=>cases e
    | cons v vs =>
      revert e; refine m_S fun σ1 e1 e=>?_
      cases r with
      | cons a b =>
        refine assignInOrder_cons (wpAny_assign_Name (store_tgt N F R h e1 a fun s1 a1 F1=>?_))
        have hb:=b.mono (F.stabW R a1.keeps) (List.prefix_refl _) (List.prefix_refl _)
        exact wpAny_mono (stores_pos N T F1 a1.rep hb e) (fun _ s2 q=>q.elim fun a2 F2=>⟨a1.trans a2,F2⟩) fun _ _ h=>h
theorem ext_size {h h' : Heap} (k : Heap.ExtBut h.objs.size h h') : ∀ b o,h.get? b = some o → h'.get? b = some o:=fun b o e=>k b o (Nat.ne_of_lt (Heap.lt_size e)) e
theorem Tgts.len {xs : List Str} {ts : List Tgt} (T : Tgts nm xs ts) : ts.length = xs.length:=by
  induction T with
  | nil=>rfl
  | cons _ _ ih=>exact congrArg (· + 1) ih
theorem RT_tup (N : NmOk nm) {xs : List (Str × Pos)} {k : Nat} {pos : Pos} {ts : List Tgt} (T : Tgts nm (xs.map (·.1)) ts) : RT X φ nm (.Tuple (xs.map fun x=>.Name x.1 x.2) k pos) (putTup ts):=fun A env σ σ' s μ ν v' v hA F R r e=>by
  unfold putTup at e
  refine tup_m (P:=fun v=>VR X s.heap μ ν v' v → _) (fun vs e r=>?_) e r
  refine r.tup_e fun a its m eo rv=>?_
  have hl : ts.length = xs.length:=by rw [T.len,List.length_map]
  refine wpAny_assign_Tuple (items:=its.toArray) hA ⟨_,eo,rfl,m,rfl⟩ ?_ ?_ fun h' hs=>?_
  · rw [assignEach_names]; simp [rv.length,putAll_len e,hl]
  · rw [assignEach_names]; exact findIdx_none_map (fun x=>assign (.Name x.1 x.2) env) xs
  · rw [assignEach_names,List.map_map]
    have hk:=ext_size hs
    have st : Stab s.heap h':=fun b o e _=>hk b o e
    have a1 : Aft X φ μ ν s σ.H σ.C μ { s with heap:=h' } (FrW nm env):=.grow R hk
    have F1 : FrOk X φ nm env σ.loc σ.cel μ ν h':=F.mono st (List.prefix_refl _) (List.prefix_refl _) (fun o e=>hk _ o e) F.own.1
    exact wpAny_mono (stores_pos N (A:=A) T F1 a1.rep (rv.mono st (List.prefix_refl _) (List.prefix_refl _)) e) (fun _ s2 q=>q.elim fun a2 F2=>⟨a1.trans a2,F2⟩) fun _ _ h=>h
noncomputable def sUnpack (put : Put) (m : Xm) : Sm:=fun σ=>match m σ with
  | some (v,H)=>(match put v { σ with H:=H } with
    | some σ'=>some (.next,σ')
    | none=>none)
  | none=>none
theorem RS_unpack {elts : List PySem.Expr} {k : Nat} {tpos pos : Pos} {e : PySem.Expr} {m : Xm} {put : Put} (r : RX X φ n nm e m) (ht : RT X φ nm (.Tuple elts k tpos) put)
    (hw : ∀ env : Env,env.scope = nm.scope → swappedStores [.Tuple elts k tpos] e env = pure none:=by rintro ⟨⟩ rfl; rfl) (hs : ∀ env,swapsWithSole [.Tuple elts k tpos] e pos.line env = pure false:=by intro _; rfl) :
    RS X φ n nm (.Assign [.Tuple elts k tpos] e pos) (sUnpack put m):=fun A env σ s μ ν f σ' hA F R em=>by
  unfold sUnpack at em
  revert em; refine m_VH fun v H1 e1 em=>?_
  revert em; refine m_S fun σ1 e2 em=>?_
  cases em
  refine Assign_Tuple (r.use hA F R e1 fun x' s1 μ1 a1 F1 r1=>?_) (hs env) (hw env F.scope)
  exact wpAny_mono (ht A env { σ with H:=H1 } σ' s1 μ1 ν x' v hA.handled F1 a1.rep r1 e2) (fun _ s2 q=>q.elim fun a2 F2=>⟨μ1,a1.toFr.trans a2,F2,trivial⟩) fun _ _ h=>h.elim
noncomputable def sSwap (ts : List Tgt) (m : Xm) : Sm:=fun σ=>match m σ with
  | some (.tup vs,H)=>(match putAll ts.reverse vs.reverse { σ with H:=H } with
    | some σ'=>some (.next,σ')
    | none=>none)
  | _=>none
theorem VRs.reverse {h : Heap} {μ ν : List Addr} {xs : List Value} {vs : List V} (r : VRs X h μ ν xs vs) : VRs X h μ ν xs.reverse vs.reverse :=
  VRs.ind (P:=fun xs vs=>VRs X h μ ν xs.reverse vs.reverse) .nil (fun _ _ _ _ a _ ih=>by
    rw [List.reverse_cons,List.reverse_cons]
    exact ih.append (.cons a .nil)) r
theorem Tgts.append {xs ys : List Str} {ts us : List Tgt} (a : Tgts nm xs ts) (b : Tgts nm ys us) : Tgts nm (xs ++ ys) (ts ++ us):=by
  induction a with
  | nil=>exact b
  | cons h _ ih=>exact .cons h ih
theorem Tgts.reverse {xs : List Str} {ts : List Tgt} (a : Tgts nm xs ts) : Tgts nm xs.reverse ts.reverse:=by
  induction a with
  | nil=>exact .nil
  | cons h _ ih=>rw [List.reverse_cons,List.reverse_cons]; exact ih.append (.cons h .nil)
theorem Tgts.length {xs : List Str} {ts : List Tgt} (a : Tgts nm xs ts) : ts.length = xs.length:=by
  induction a with
  | nil=>rfl
  | cons h _ ih=>simp [ih]
set_option tactic.hygienic true in
theorem RS_swap (N : NmOk nm) {elts : List PySem.Expr} {k : Nat} {tpos pos : Pos} {e : PySem.Expr} {m : Xm} {xs : List Str} {ts : List Tgt} (r : RX X φ n nm e m) (T : Tgts nm xs ts)
    (hw : ∀ env : Env,env.scope = nm.scope → swappedStores [.Tuple elts k tpos] e env = pure (some xs)) (hs : ∀ env,swapsWithSole [.Tuple elts k tpos] e pos.line env = pure false:=by intro _; rfl) :
    RS X φ n nm (.Assign [.Tuple elts k tpos] e pos) (sSwap ts m):=fun A env σ s μ ν f σ' hA F R em=>by
  unfold sSwap at em
  split at em
  · rename_i vs H1 e1
    revert em; refine m_S fun σ1 e2 em=>?_
    refine ret_e em ?_
    refine Assign_Tuple_swapped (r.use hA F R e1 fun x' s1 μ1 a1 F1 r1=>?_) (hs env) (hw env F.scope)
    refine r1.tup_e fun a its mm eo rv=>?_
    have hl : xs.length = its.toArray.size:=by
      have h1:=putAll_len e2
      have h2:=T.length
      have h3:=rv.length
      simp only [List.length_reverse] at h1
      simp only [List.size_toArray]
      lia
    rw [hl]
    refine wpAny_unpackItems_tuple (items:=its.toArray) hA.handled ⟨_,eo,rfl,mm,rfl⟩ fun h' hs'=>?_
    have hk:=ext_size hs'
    have st : Stab s1.heap h':=fun b o e _=>hk b o e
    have a2 : Aft X φ μ1 ν s1 H1 σ.C μ1 { s1 with heap:=h' } (FrW nm env):=.grow a1.rep hk
    have F2 : FrOk X φ nm env σ.loc σ.cel μ1 ν h':=F1.mono st (List.prefix_refl _) (List.prefix_refl _) (fun o e=>hk _ o e) F1.own.1
    have rv2:=(rv.mono st (List.prefix_refl _) (List.prefix_refl _)).reverse
    exact wpAny_mono (stores_in_order N (A:=A) (fun n=>bindName env n) (fun x v' Q s h=>bindName_ h) (σ:={ σ with H:=H1 }) T.reverse F2 a2.rep rv2 e2) (fun _ s2 q=>q.elim fun a3 F3=>⟨μ1,(a1.toFr.trans a2).trans a3,F3,trivial⟩) fun _ _ h=>h.elim
  · cases em
end
end Mine
namespace Mine
section
variable {X : Cx} {n : Nat} {nm : Nm}
noncomputable def LocF (env : Env) (b : Addr) : Prop:=b = env.locals
set_option tactic.hygienic true in
theorem store_locL (N : NmOk nm) {A : Around} {env : Env} {loc : List (Option V)} {cel : List Nat} {s : Shared} {μ ν : List Addr} {H : List L} {C : List (Option V)} {i : Nat} {x : Str} {v' : Value} {v : V} {Q : Unit → Shared → Prop} {E : Value → Shared → Prop}
    (F : FrOk X φ nm env loc cel μ ν s.heap) (R : Rep X φ μ ν H C s) (hi : nm.loc[i]? = some x) (r : VR X s.heap μ ν v' v)
    (h : ∀ s',Aft X φ μ ν s H C μ s' (LocF env) → FrOk X φ nm env (loc.set i (some v)) cel μ ν s'.heap → Q () s') : wpAny (model X.prog X.w) A (storeName env x v') Q E s:=by
  refine e1a2 F.ns fun m hn hm=>?_
  refine e3a3 hn fun oL es ep hL hLd _=>?_
  refine wpAny_storeName_local (F.kindLoc N hi) F.ns.choose_spec.1 (fun h' hn' hs'=>?_) (F.notModule N)
  have hext:=hs'.extBut
  have R' : Rep X φ μ ν H C { s with heap:=h',toks:=s.toks + 1 }:=R.upd hext hL (not_stable_dict hLd) F.own.1 F.own.2 (.inr (.inl (let ⟨o,es,ep,e,d,_⟩:=hn'; ⟨o,es,ep,e,d⟩)))
  have st : Stab s.heap h':=fun b o e sb=>hext b o (fun z=>by subst z; rw [hL] at e; cases e; exact not_stable_dict hLd sb) e
  obtain ⟨oL',es',ep',hL',r'⟩:=id hn'
  refine h _ ⟨List.prefix_refl _,fun _ q=>.inl q,R',fun b o q e=>.inl (hext b o (fun z=>q (.inr z)) e),fun b o e=>?_⟩ ?_
  · by_cases z : b = env.locals
    · subst z; exact ⟨_,hL'⟩
    · exact ⟨o,hext b o z e⟩
  · exact
    { top:=F.top,scope:=F.scope,glob:=F.glob,bui:=F.bui,qual:=F.qual,own:=F.own,cell:=F.cell,code:=F.code,ownc:=F.ownc
      ns:=⟨_,hn',fun j y w e1 e2=>by
        rw [List.getElem?_set] at e2
        split at e2
        · rename_i hij
          subst hij
          revert e2; refine if_e fun _ e2=>?_
          cases e2
          rw [hi] at e1; cases e1
          exact ⟨v',by simp,r.mono st (List.prefix_refl _) (List.prefix_refl _)⟩
        · rename_i hij
          refine e1a2 (F.ns.choose_spec.2 j y w e1 e2) fun w' e q=>?_
          have hne : y ≠ x:=fun z=>hij (by
            subst z
            exact (List.getElem?_inj (List.getElem?_eq_some_iff.mp hi).1 N.nloc).mp (hi.trans e1.symm))
          exact ⟨w',by simp only [hne,if_false]; exact e,q.mono st (List.prefix_refl _) (List.prefix_refl _)⟩⟩ }
theorem FrOk.stabL {env : Env} {loc : List (Option V)} {cel : List Nat} {μ ν : List Addr} {H : List L} {C : List (Option V)} {s : Shared} {h' : Heap} (F : FrOk X φ nm env loc cel μ ν s.heap) (R : Rep X φ μ ν H C s)
    (k : Keeps (fun b=>Chg X μ b ∨ LocF env b) s.heap h') : Stab s.heap h':=F.stabW R (k.weaken fun b q=>q.imp id .inl)
noncomputable def RTL (X : Cx) (φ : List Env) (nm : Nm) (e : PySem.Expr) (put : Put) : Prop :=
  ∀ (A : Around) (env : Env) (σ σ' : S) (s : Shared) (μ ν : List Addr) (v' : Value) (v : V),A.handled = none → FrOk X φ nm env σ.loc σ.cel μ ν s.heap → Rep X φ μ ν σ.H σ.C s → VR X s.heap μ ν v' v → put v σ = some σ' →
    wpAny (model X.prog X.w) A (assign e env v') (fun _ s'=>Aft X φ μ ν s σ.H σ.C μ s' (LocF env) ∧ FrOk X φ nm env σ'.loc σ.cel μ ν s'.heap ∧ σ'.H = σ.H ∧ σ'.C = σ.C ∧ σ'.cel = σ.cel) (fun _ _=>False) s
noncomputable def putL (i : Nat) : Put:=fun v σ=>some { σ with loc:=σ.loc.set i (some v) }
theorem RTL_name (N : NmOk nm) {x : Str} {p : Pos} {i : Nat} (hi : nm.loc[i]? = some x) : RTL X φ nm (.Name x p) (putL i):=fun A env σ σ' s μ ν v' v hA F R r e=>by
  refine re1_e e ?_
  exact wpAny_assign_Name (store_locL N F R hi r fun s' a F'=>⟨a,F',rfl,rfl,rfl⟩)
noncomputable def PrivL (X : Cx) (h : Heap) (μ ν : List Addr) (D : Addr) (vs : List V) : Prop:=∃ its m,h.get? D = some { cls:=.type "list",data:=.seq its.toArray m } ∧ VRs X h μ ν its vs
theorem PrivL.nd {h : Heap} {μ ν : List Addr} {D : Addr} {vs : List V} (p : PrivL X h μ ν D vs) {o : Obj} (e : h.get? D = some o) : ∀ es ep,o.data ≠ .dict es ep:=by
  refine e2a2 p fun its m e' _=>?_
  rw [e] at e'; cases e'; intro _ _ z; cases z
theorem PrivL.mono {h h' : Heap} {μ μ' ν : List Addr} {D : Addr} {vs : List V} (p : PrivL X h μ ν D vs) (st : Stab h h') (hp : μ <+: μ') (k : ∀ o,h.get? D = some o → h'.get? D = some o) : PrivL X h' μ' ν D vs :=
  let ⟨its,m,e,r⟩:=p; ⟨its,m,k _ e,r.mono st hp (List.prefix_refl _)⟩
theorem Rep.adopt {μ ν : List Addr} {H : List L} {C : List (Option V)} {s : Shared} {D : Addr} {vs : List V} {l : L} (R : Rep X φ μ ν H C s) (p : PrivL X s.heap μ ν D vs) (hm : ¬ Mut X μ ν D) (hb : X.h₀.get? D = none) (hz : vs.length ≤ 1048576) (hs : stills vs = true) (hl : l.vs = vs) :
    Rep X φ (μ ++ [D]) ν (H ++ [l]) C s where
  frs:=fun L hL=>let ⟨f1,f2,f3⟩:=R.frs L hL; ⟨f1,fun q=>by
    rcases q with q | q | q
    · rcases List.mem_append.mp q with q | q
      · exact f2 (.inl q)
      · simp at q; subst q
        refine e2a2 p fun its m e _=>?_
        refine e2a1 (f3.not_stable e) fun es ep d=>?_
        cases d
    · exact f2 (.inr (.inl q))
    · exact f2 (.inr (.inr q)),f3⟩
  same:=R.same
  keep:=R.keep
  lenH:=by simp [R.lenH]
  lenC:=R.lenC
  nodup:=by
    have h1 : D ∉ μ:=fun q=>hm (.inl q)
    have h2 : D ∉ ν:=fun q=>hm (.inr (.inl q))
    have nd:=R.nodup
    rw [List.nodup_append] at nd ⊢
    refine ⟨?_,nd.2.1,?_⟩
    · rw [List.nodup_append]
      exact ⟨nd.1,by simp,fun a ha b hb'=>by simp at hb'; subst hb'; exact fun q=>h1 (q ▸ ha)⟩
    · intro a ha b hb'
      rcases List.mem_append.mp ha with ha | ha
      · exact nd.2.2 a ha b hb'
      · simp at ha; subst ha; exact fun q=>h2 (q ▸ hb')
  fresh:=fun a ha=>by
    rcases ha with ha | ha
    · rcases List.mem_append.mp ha with ha | ha
      · exact R.fresh a (.inl ha)
      · simp at ha; subst ha
        exact ⟨hb,fun q=>hm (.inr (.inr q))⟩
    · exact R.fresh a (.inr ha)
  lists:=fun i a l' e1 e2=>by
    by_cases hi : i < μ.length
    · rw [List.getElem?_append_left hi] at e1
      rw [List.getElem?_append_left (by rw [← R.lenH]; exact hi)] at e2
      refine e2a3 (R.lists i a l' e1 e2) fun its m e z r=>?_
      refine ⟨its,m,e,z,?_⟩
      rw [List.take_append_of_le_length (Nat.le_of_lt hi)]
      exact r
    · have h1:=(List.getElem?_eq_some_iff.mp e1).1
      simp only [List.length_append,List.length_cons,List.length_nil] at h1
      have hi' : i = μ.length:=by lia
      subst hi'
      rw [List.getElem?_append_right (Nat.le_refl _),Nat.sub_self] at e1
      rw [R.lenH,List.getElem?_append_right (Nat.le_refl _),Nat.sub_self] at e2
      refine re1_e e1 ?_; cases e2
      refine e2a2 p fun its m e r=>?_
      refine ⟨its,m,e,by rw [r.length]; exact hz,?_⟩
      rw [List.take_append_of_le_length (Nat.le_refl _),List.take_length,hl]
      exact r.still hs
  cells:=fun i a v e1 e2=>(R.cells i a v e1 e2).mono (fun _ _ e _=>e) (prefix_snoc _ _) (List.prefix_refl _) fun _ e=>e
  tabs:=R.tabs
noncomputable def compOk (ifs : List PySem.Expr) (env : Env) : Sem Bool:=forIn ifs true fun c r=>if r = true then do let ok ← isTrue c env (eval c env); pure (ForInStep.yield ok) else pure (ForInStep.yield r)
noncomputable def RIf (X : Cx) (φ : List Env) (n : Nat) (nm : Nm) (ifs : List PySem.Expr) (m : Bm) : Prop :=
  ∀ (A : Around) (env : Env) (σ : S) (s : Shared) (μ ν : List Addr) (v : Bool) (H' : List L),Room φ n A → FrOk X φ nm env σ.loc σ.cel μ ν s.heap → Rep X φ μ ν σ.H σ.C s → m σ = some (v,H') →
    wpAny (model X.prog X.w) A (compOk ifs env) (QB X φ μ ν s H' σ.C v) (fun _ _=>False) s
theorem RIf_nil : RIf X φ n nm [] (mConst true):=fun A env σ s μ ν v H' hA F R em=>by
  refine ret_e em ?_
  exact wpAny_tests_nil ⟨rfl,μ,.refl R⟩
theorem RIf_one {c : PySem.Expr} {m : Bm} (r : RB X φ n nm c m) : RIf X φ n nm [c] m:=fun A env σ s μ ν v H' hA F R em =>
  wpAny_tests_one (r A env σ s μ ν v H' hA F R em)
noncomputable abbrev Cm:=List V → S → Option (List V × S)
noncomputable def bodyAt (elt : PySem.Expr) (gens : List Comprehension) (scope : Scope) (pos : Pos) (d : Nat) (acc : Value) (env : Env) : Sem Unit:=match gens[d + 1]? with
  | some g'=>do
    let x ← eval g'.iter env
    standAt g'.iter.pos
    let x ← if g'.is_async != 0 then foldedIterable g'.iter x else foldedSetIterable g'.iter env x
    let _ ← runOwn (.compStart (.ListComp elt gens scope pos) (d + 1) (← holding [x] (if g'.is_async != 0 then asyncIter x else pyIter x)) acc env) env
  | none=>do let _ ← call (.builtin "list.append") [acc,← eval elt env]
theorem compTurn_at {elt : PySem.Expr} {gens : List Comprehension} {scope : Scope} {pos : Pos} {d : Nat} {it acc : Value} {env : Env} {target iter : PySem.Expr} {ifs : List PySem.Expr} (hg : gens[d]? = some ⟨target,iter,ifs,0⟩) (hz : ∀ g ∈ gens,g.is_async = 0) :
    compTurn (.ListComp elt gens scope pos) d it acc env = (do
      standAt iter.pos
      match ← pyNext it with
      | none=>pure (.done .next)
      | some v =>
        letOwnedTupleGo target it v
        assign target env v
        let ok ← compOk ifs env
        if ok then bodyAt elt gens scope pos d acc env
        again (.compLoop (.ListComp elt gens scope pos) d it acc env)):=by
  unfold compTurn
  simp only [hg,bne_self_eq_false,Bool.false_eq_true,if_false]
  unfold bodyAt
  cases hd : gens[d + 1]? with
  | none=>rfl
  | some g' =>
    have h0:=hz g' (List.mem_of_getElem? hd)
    obtain ⟨t',i',f',a'⟩:=g'
    have h0' : a' = 0:=h0
    subst h0'
    simp only [bne_self_eq_false,Bool.false_eq_true,if_false,bind_assoc,pure_bind]
    rfl
noncomputable def CompF (env : Env) (D : Addr) (b : Addr) : Prop:=b = env.locals ∨ b = D
inductive QC (X : Cx) (φ : List Env) (nm : Nm) (env : Env) (μ ν : List Addr) (s : Shared) (σ σ' : S) (D : Addr) (vs' : List V) (u : Unit) (s' : Shared) : Prop
  | mk (μ' : List Addr) (a : Aft X φ μ ν s σ'.H σ.C μ' s' (CompF env D)) (F : FrOk X φ nm env σ'.loc σ.cel μ' ν s'.heap) (P : PrivL X s'.heap μ' ν D vs') (hC : σ'.C = σ.C) (hcel : σ'.cel = σ.cel)
noncomputable def RCm (X : Cx) (φ : List Env) (n : Nat) (nm : Nm) (elt : PySem.Expr) (gens : List Comprehension) (scope : Scope) (pos : Pos) (d : Nat) (c : Cm) : Prop :=
  ∀ (A : Around) (env : Env) (σ σ' : S) (s : Shared) (μ ν : List Addr) (D : Addr) (vs vs' : List V),Room φ n A → FrOk X φ nm env σ.loc σ.cel μ ν s.heap → Rep X φ μ ν σ.H σ.C s → PrivL X s.heap μ ν D vs → ¬ Mut X μ ν D → X.h₀.get? D = none → D ≠ env.locals → c vs σ = some (vs',σ') →
    wpAny (model X.prog X.w) A (bodyAt elt gens scope pos d (.ref D) env) (QC X φ nm env μ ν s σ σ' D vs') (fun _ _=>False) s
noncomputable def cElt (m : Xm) : Cm:=fun vs σ=>match m σ with
  | some (v,H)=>if vs.length < 1048576 then some (vs ++ [v],{ σ with H:=H }) else none
  | none=>none
theorem RCm_elt {elt : PySem.Expr} {gens : List Comprehension} {scope : Scope} {pos : Pos} {d : Nat} {m : Xm} (r : RX X φ n nm elt m) (hd : gens[d + 1]? = none) : RCm X φ n nm elt gens scope pos d (cElt m):=fun A env σ σ' s μ ν D vs vs' hA F R P hm hb hne em=>by
  unfold cElt at em
  revert em; refine m_VH fun v H1 e1 em=>?_
  revert em; refine if_e fun hlt em=>?_
  cases em
  unfold bodyAt
  rw [hd]
  refine wpAny_bind (r.use hA F R e1 fun x' s1 μ1 a1 F1 r1=>?_)
  obtain ⟨its0,m0,eD0,rD0⟩:=id P
  have hD1 : s1.heap.get? D = some { cls:=.type "list",data:=.seq its0.toArray m0 }:=(a1.keeps D _ (fun q=>q.elim (fun q=>hm q.mut) False.elim) eD0).nd fun _ _ z=>by cases z
  refine e2a2 (P.mono (a1.stab R) a1.pre (fun o e=>(a1.keeps D o (fun q=>q.elim (fun q=>hm q.mut) False.elim) e).nd (P.nd e))) fun its mm eD rD=>?_
  have hm1 : ¬ Mut X μ1 ν D:=a1.mut eD0 hm
  have hz : its.length < 1048576:=by rw [rD.length]; exact hlt
  refine wpAny_bind (call_meets PySem.F.slot_list_append ⟨_,eD,rfl⟩ PySem.F.entry_list_append (PySem.F.args_list_append_2 _ _) (PySem.list_append D its.toArray mm x' (by rw [List.size_toArray,sizeLine_val]; lia)) ⟨eD,?_⟩)
  have h1:=PySem.IsL.update (n:=mm) eD (fun xs=>xs.push x')
  have hsb : Heap.ExtBut D s1.heap (s1.heap.update D (Obj.mapSeq fun xs=>xs.push x')):=(Heap.SameBut.update ..).extBut
  have R2:=a1.rep.upd (tk:=s1.toks) hsb eD not_stable_list hm1 hb (.inl fun _ _ z=>by cases z)
  have st : Stab s1.heap (s1.heap.update D (Obj.mapSeq fun xs=>xs.push x')):=fun b o e sb=>hsb b o (fun z=>by subst z; rw [eD] at e; cases e; exact not_stable_list sb) e
  refine wpAny_pure ⟨μ1,?_,?_,?_,rfl,rfl⟩
  · refine ⟨a1.pre,a1.new,R2,fun b o q e=>(a1.keeps b o (fun q'=>q'.elim (fun q'=>q (.inl q')) False.elim) e).step fun o' e'=>hsb b o' (fun z=>q (.inr (.inr z))) e',fun b o e=>?_⟩
    refine e1a1 (a1.alive b o e) fun o' e'=>?_
    by_cases z : b = D
    · subst z; exact ⟨_,h1⟩
    · exact ⟨o',hsb b o' z e'⟩
  · exact F1.mono st (List.prefix_refl _) (List.prefix_refl _) (fun o e=>hsb _ o (fun z=>hne z.symm) e) F1.own.1
  · refine ⟨its ++ [x'],_,by rw [h1]; simp; rfl,?_⟩
    exact (rD.append (.cons r1 .nil)).mono st (List.prefix_refl _) (List.prefix_refl _)
end
end Mine
namespace Mine
section
variable {X : Cx} {n : Nat} {nm : Nm}
theorem letOwned_other {M : Model} {A : Around} {s : Shared} {E : Value → Shared → Prop} {target : PySem.Expr} {it : Addr} {o : Obj} {T : String} {v : Value} {Q : Unit → Shared → Prop} (ho : s.heap.get? it = some o) (hc : o.cls = .type T)
    (hT : ["enumerate","zip","dict_itemiterator","dict_reverseitemiterator","odict_iterator","itertools.zip_longest","itertools.pairwise"].contains T = false) (h : Q () s) : wpAny M A (letOwnedTupleGo target (.ref it) v) Q E s:=by
  have key : ∀ a : Addr,wpAny M A (do
      let o ← load it
      match o.cls,o.data with
      | .type n,.fields vs =>
        if ["enumerate","zip","dict_itemiterator","dict_reverseitemiterator","odict_iterator","itertools.zip_longest","itertools.pairwise"].contains n && vs[0]? == some (rawInt a) then
          rule "for.unpacks-the-owned-tuple"
          updateField it 0 .none
      | _,_=>pure ()) Q E s:=fun a=>by
    refine wpAny_bind (wpAny_load ho ?_)
    obtain ⟨c,d,dt,sl⟩:=o
    have hc' : c = .type T:=hc
    subst hc'
    cases dt with
    | fields vs =>
      dsimp only
      rw [hT]
      exact wpAny_pure h
    | _=>exact wpAny_pure h
  unfold letOwnedTupleGo
  cases target with
  | Tuple elts k pos=>cases v with
    | ref a=>exact key a
    | _=>exact wpAny_pure h
  | List elts pos=>cases v with
    | ref a=>exact key a
    | _=>exact wpAny_pure h
  | _=>exact wpAny_pure h
theorem letOwned_it {A : Around} {s : Shared} {μ ν : List Addr} {E : Value → Shared → Prop} {target : PySem.Expr} {it : Addr} {k : Nat} {src : V} {v : Value} {Q : Unit → Shared → Prop} (I : ItAt X s.heap μ ν it k src) (h : Q () s) : wpAny (model X.prog X.w) A (letOwnedTupleGo target (.ref it) v) Q E s:=by
  cases src with
  | ref i=>obtain ⟨a,_,o,e,c,d⟩:=I; exact letOwned_other e c (by decide) h
  | tup vs=>obtain ⟨a,its,m,_,_,o,e,c,d⟩:=I; exact letOwned_other e c (by decide) h
  | rng a b c=>exact letOwned_other I.2 rfl (by decide) h
  | _=>exact I.elim
theorem iter_self {A : Around} {s : Shared} {μ ν : List Addr} {E : Value → Shared → Prop} {it : Addr} {k : Nat} {src : V} {Q : Value → Shared → Prop} (I : ItAt X s.heap μ ν it k src) (h : Q (.ref it) s) : wpAny (model X.prog X.w) A (pyIter (.ref it)) Q E s:=by
  cases src with
  | ref i=>obtain ⟨a,_,e⟩:=I; exact wpAny_pyIter_listiter e h
  | tup vs=>obtain ⟨a,its,m,_,_,e⟩:=I; exact wpAny_pyIter_tupleiter e h
  | rng a b c=>exact wpAny_pyIter_rangeiter I.2 h
  | _=>exact I.elim
theorem compStart_at {A : Around} {s : Shared} {R : Result → Shared → Prop} {elt : PySem.Expr} {gens : List Comprehension} {scope : Scope} {pos : Pos} {d : Nat} {it acc : Value} {env : Env} {target iter : PySem.Expr} {ifs : List PySem.Expr} (hg : gens[d]? = some ⟨target,iter,ifs,0⟩)
    (h0 : codeAny (model X.prog X.w) A (.compLoop (.ListComp elt gens scope pos) d it acc env) R s)
    (h : wpAny (model X.prog X.w) A (pyIter it) (fun it' s'=>codeAny (model X.prog X.w) A (.compLoop (.ListComp elt gens scope pos) d it' acc env) R s') (fun _ _=>False) s) :
    codeAny (model X.prog X.w) A (.compStart (.ListComp elt gens scope pos) d it acc env) R s:=by
  refine codeAny_of_tree ?_
  show wpAny _ _ ((compStart (.ListComp elt gens scope pos) d it acc env).onRaise (fun x=>do noteFrame x env; standAt theWindowsPlace)) _ _ s
  refine wpAny_notedAt ?_
  unfold compStart
  have hcl : (clausesOf (.ListComp elt gens scope pos))[d]? = some ⟨target,iter,ifs,0⟩:=hg
  rw [hcl]
  show wpAny _ _ (ask >>= _) _ _ s
  refine wpAny_bind (wpAny_askSetting (wpAny_ite ?_))
  split
  · first
      | exact wpAny_bind (wpAny_pure (wpAny_pure (And.intro rfl h0)))
      | exact wpAny_pure (And.intro rfl h0)
  · first
      | exact wpAny_bind (wpAny_rule (wpAny_bind (wpAny_standAt (wpAny_bind (wpAny_mono h (fun it' s' h'=>wpAny_pure (And.intro rfl h')) fun _ _ x=>x.elim)))))
      | (refine wpAny_bind (wpAny_rule ?_); show wpAny _ _ (standAt iter.pos >>= _) _ _ s; exact wpAny_bind (wpAny_standAt (wpAny_bind (wpAny_mono h (fun it' s' h'=>wpAny_pure (And.intro rfl h')) fun _ _ x=>x.elim))))
theorem comp_stab {env : Env} {σ : S} {μ ν μ' : List Addr} {s : Shared} {H' : List L} {C : List (Option V)} {s' : Shared} {D : Addr} {vs : List V} (F : FrOk X φ nm env σ.loc σ.cel μ ν s.heap) (R : Rep X φ μ ν σ.H σ.C s) (P : PrivL X s.heap μ ν D vs)
    (k : Keeps (fun b=>Chg X μ b ∨ CompF env D b) s.heap s'.heap) : Stab s.heap s'.heap:=fun b o e sb=>(k b o (fun q=>by
  rcases q with q | q | q
  · exact R.not_stable q.mut e sb
  · obtain ⟨m0,⟨oL,es,ep,hL,hLd,_⟩,_⟩:=F.ns
    subst q; rw [hL] at e; cases e; exact not_stable_dict hLd sb
  · refine e2a2 P fun its m eD _=>?_
    subst q; rw [eD] at e; cases e; exact not_stable_list sb) e).nd sb.nd
end
end Mine
namespace Mine
section
variable {X : Cx} {n : Nat} {nm nmc : Nm}
noncomputable def relabelS (scope psc : Scope) : Scope :=
  { scope with names:=scope.names.map fun (n,k)=>if (k == .free && psc.kind == .function && psc.names.lookup n == some .cell) then (n,.cell) else (n,k) }
structure CompAt (nm nmc : Nm) (scope : Scope) (is : List Nat) : Prop where
  scp : nmc.scope = relabelS scope nm.scope
  qual : nmc.qual = nm.qual
  tab : nmc.tab = nm.tab
  cel : nmc.cel = freeRev scope.names []
  slots : is.map (fun i=>nm.cel[i]?) = nmc.cel.map some
  ncell : ∀ x ∈ scope.names,x.2 ≠ .cell
  kind : scope.kind = .function
  names : ∀ x ∈ scope.names,x.2 = .local → scope.names.lookup x.1 = some .local
theorem clos_facts {env : Env} {loc : List (Option V)} {cel : List Nat} {μ ν : List Addr} {h : Heap} (F : FrOk X φ nm env loc cel μ ν h) {names : List (Str × NameKind)} {nms : List Str} {is : List Nat} (hnames : nms = freeRev names []) (hslots : is.map (fun i=>nm.cel[i]?) = nms.map some) (hcelLen : ∀ i ∈ is,i < cel.length) :
    (∀ x ∈ names,x.2 = .free → ∃ c,env.cells.lookup x.1 = some c) ∧ (closAcc env.cells names []).map (·.1) = nms ∧ (is.map fun i=>cel.getD i 0).map (fun c=>ν[c]?) = (closAcc env.cells names []).map (fun x=>some x.2):=by
  have hclf : (closAcc env.cells names []).map (·.1) = nms:=by rw [hnames]; exact closAcc_fst _ _ _
  refine ⟨fun x hx e=>?_,hclf,?_⟩
  · have hxl : x.1 ∈ nms:=by rw [hnames]; exact freeRev_mem.mpr (.inr (by rw [← e]; exact hx))
    refine e1a1 (List.mem_iff_getElem?.mp hxl) fun j hj=>?_
    have h1 : (is.map fun i=>nm.cel[i]?)[j]? = some (some x.1):=by rw [hslots,List.getElem?_map,hj]; rfl
    refine e1a2 (getElem?_map_some h1) fun i p1 p2=>?_
    have hlt:=hcelLen i (List.mem_of_getElem? p1)
    refine e1a2 (F.cell i x.1 _ p2 (List.getElem?_eq_getElem hlt)) fun a _ ha=>?_
    exact ⟨a,ha⟩
  · generalize hcl : closAcc env.cells names [] = cl at hclf
    apply List.ext_getElem?
    intro j
    rw [List.getElem?_map,List.getElem?_map,List.getElem?_map]
    have hlen : is.length = cl.length:=by
      have h1:=congrArg List.length hslots
      have h2:=congrArg List.length hclf
      simp only [List.length_map] at h1 h2
      lia
    cases hj : is[j]? with
    | none =>
      have : cl[j]? = none:=by rw [List.getElem?_eq_none_iff] at hj ⊢; lia
      rw [this]; rfl
    | some i =>
      have hjl : j < cl.length:=by rw [← hlen]; exact (List.getElem?_eq_some_iff.mp hj).1
      rw [List.getElem?_eq_getElem hjl]
      have hx : nms[j]? = some cl[j].1:=by rw [← hclf,List.getElem?_map,List.getElem?_eq_getElem hjl]; rfl
      have h1 : (is.map fun i=>nm.cel[i]?)[j]? = some (some cl[j].1):=by rw [hslots,List.getElem?_map,hx]; rfl
      rw [List.getElem?_map,hj] at h1
      have p2:=Option.some.inj h1
      have hlt:=hcelLen i (List.mem_of_getElem? hj)
      refine e1a2 (F.cell i _ _ p2 (List.getElem?_eq_getElem hlt)) fun a ha1 ha2=>?_
      have h2:=closAcc_snd env.cells names [] (fun _ h=>nomatch h) cl[j] (by rw [hcl]; exact List.getElem_mem hjl)
      rw [ha2] at h2
      have h2' : cl[j].2 = a:=h2
      simp only [Option.map_some]
      rw [h2',List.getD_eq_getElem?_getD,List.getElem?_eq_getElem hlt]
      simpa using ha1
theorem mem_of_look {α : Type} {x : Str} {b : α} : ∀ {l : List (Str × α)},l.lookup x = some b → (x,b) ∈ l
  | [],e=>by cases e
  | (y,c) :: l,e=>by
    rw [List.lookup_cons] at e
    cases q : x == y with
    | true =>
      rw [q] at e
      refine re1_e e ?_
      have : x = y:=by simpa using q
      rw [this]; exact List.mem_cons_self
    | false =>
      rw [q] at e
      exact List.mem_cons_of_mem _ (mem_of_look e)
theorem relabel_eq {env : Env} {scope : Scope} (h : env.scope = nm.scope) : relabel scope env = relabelS scope nm.scope:=by
  unfold relabel relabelS Env.kindOf
  rw [h]
theorem comp_frame {scope : Scope} {is : List Nat} (K : CompAt nm nmc scope is) (N : NmOk nmc) {env : Env} {σ : S} {μ ν : List Addr} {s : Shared} {nl : Nat} (F : FrOk X φ nm env σ.loc σ.cel μ ν s.heap) {CA : Addr} {h' : Heap} {m : Str → Option Value} (hn : h'.Ns CA m) (hm : ¬ Mut X μ ν CA) (hb : X.h₀.get? CA = none) (hlen : ∀ i ∈ is,i < σ.cel.length) :
    FrOk X φ nmc (compEnvC scope (closAcc env.cells scope.names []) CA env) (List.replicate nl none) (is.map fun i=>σ.cel.getD i 0) μ ν h':=by
  refine e0a3 (clos_facts F K.cel K.slots hlen) fun _ h2 h3=>?_
  have hnd : ((closAcc env.cells scope.names []).map (·.1)).Nodup:=by rw [h2]; exact N.ncel
  exact
  { top:=F.top
    scope:=by rw [K.scp]; exact relabel_eq F.scope
    glob:=F.glob
    bui:=F.bui
    qual:=by rw [K.qual]; exact F.qual
    ns:=⟨m,hn,fun i x v _ e=>by
      rw [List.getElem?_replicate] at e
      split at e <;> cases e⟩
    own:=⟨hm,hb⟩
    cell:=fun i x c e1 e2=>by
      have h4 : ((is.map fun i=>σ.cel.getD i 0).map (fun c=>ν[c]?))[i]? = some (ν[c]?):=by rw [List.getElem?_map,e2]; rfl
      rw [h3,List.getElem?_map] at h4
      cases hcl : (closAcc env.cells scope.names [])[i]? with
      | none=>rw [hcl] at h4; cases h4
      | some y =>
        rw [hcl] at h4
        have h5 : some y.2 = ν[c]?:=by simpa using h4
        refine ⟨y.2,h5.symm,lookup_zip_idx hnd (i:=i) ?_ ?_⟩
        · rw [h2]; exact e1
        · rw [List.getElem?_map,hcl]; rfl
    code:=fun q e=>F.code q (by rw [← K.tab]; exact e)
    ownc:=fun x b _ e=>by
      have hmem : (x,b) ∈ closAcc env.cells scope.names []:=mem_of_look e
      refine e1a1 (List.mem_iff_getElem?.mp hmem) fun j hj=>?_
      have h4 : ((closAcc env.cells scope.names []).map (fun x=>some x.2))[j]? = some (some b):=by rw [List.getElem?_map,hj]; rfl
      rw [← h3,List.getElem?_map] at h4
      cases hc : (is.map fun i=>σ.cel.getD i 0)[j]? with
      | none=>rw [hc] at h4; cases h4
      | some c =>
        rw [hc] at h4
        have h5 : ν[c]? = some b:=by simpa using h4
        exact List.mem_of_getElem? h5 }
theorem Rep.notFr {μ ν : List Addr} {H : List L} {C : List (Option V)} {s : Shared} {b : Addr} (R : Rep X φ μ ν H C s) (h0 : s.heap.get? b = none) : b ∉ frsOf φ:=fun q=>by
  refine e3a2 ((R.frs b q).2.2) fun o _ _ e _=>?_
  rw [h0] at e; cases e
theorem Rep.dropNs {μ ν : List Addr} {H : List L} {C : List (Option V)} {s : Shared} {CA : Addr} {mC : Str → Option Value} {h' : Heap} (R : Rep X φ μ ν H C s) (hn : s.heap.Ns CA mC) (hm : ¬ Mut X μ ν CA) (hb : X.h₀.get? CA = none) (k : Heap.SameBut CA s.heap h') (hd' : CA ∉ frsOf φ) : Rep X φ μ ν H C { s with heap:=h' } ∧ Stab s.heap h':=by
  refine e3a3 hn fun o es ep e d _=>?_
  exact ⟨R.upd (tk:=s.toks) k.extBut e (not_stable_dict d) hm hb (.inr (.inr hd')),fun b o' eo sb=>k.extBut b o' (fun z=>by subst z; rw [e] at eo; cases eo; exact not_stable_dict d sb) eo⟩
end
end Mine
namespace Mine
section
variable {X : Cx} {n : Nat} {nm : Nm}
noncomputable def mArgs (f : FN) (a : Xms) : Xm:=fun σ=>match a σ with
  | some (vs,H)=>f vs H
  | none=>none
theorem RX_bi (O : XOk X) (N : NmOk nm) {x : Str} {np pos : Pos} {i : Nat} {id : String} {e : PySem.Expr} {rest : List PySem.Expr} {args : Xms} {f : FN} (hi : nm.glb[i]? = some x) (hg : X.mg x = none) (hb : bootBuiltins x = some (.builtin id)) (ra : RXs X φ n nm (e :: rest) args) (hf : OpN X φ n (fun xs=>call (.builtin id) xs) f)
    (he : ∀ env,starEach (e :: rest) env = (false,eval e env) :: starEach rest env:=by intro _; rfl) (hplain : ∀ env,(backTo pos (starEach rest env)).any (·.1) = false:=by intro _; rfl) :
    RX X φ n nm (.Call (.Name x np) (e :: rest) [] pos) (mArgs f args):=fun A env σ s μ ν v H' hA F R em=>by
  revert em; refine m_VsH fun vs H1 e1 em=>?_
  refine wpAny_Call_ofName (name_builtin O N hi hg hb F R ?_)
  show wpAny _ A (callWith pos (.builtin id) [] (backTo pos (starEach (e :: rest) env)) []) _ _ s
  refine Calls.callWith_builtin (by rw [he env]; show (false || (backTo pos (starEach rest env)).any (·.1)) = false; rw [hplain env]; rfl) ?_
  have harg:=ra.use (pos:=pos) hA F R e1 (Q:=fun vs' s'=>wpAny (model X.prog X.w) A (PySem.call (.builtin id) ([] ++ vs') []) (QX X φ μ ν s H' σ.C v) (fun _ _=>False) s') (E:=fun _ _=>False)
    fun xs s2 μ2 a2 F2 r2=>wpAny_mono (hf A s2 μ2 ν H1 σ.C xs vs H' v hA a2.rep r2 em) (QX.aft (a2)) fun _ _ h=>h
  rw [he env] at harg ⊢
  exact Calls.evalArgs_plain harg
theorem RX_ty (O : XOk X) (N : NmOk nm) {x : Str} {np pos : Pos} {i : Nat} {T : String} {e : PySem.Expr} {rest : List PySem.Expr} {args : Xms} {f : FN} (hi : nm.glb[i]? = some x) (hg : X.mg x = none) (hb : bootBuiltins x = some (.type T)) (ra : RXs X φ n nm (e :: rest) args) (hf : OpN X φ n (fun xs=>call (.type T) xs) f)
    (he : ∀ env,starEach (e :: rest) env = (false,eval e env) :: starEach rest env:=by intro _; rfl) (hplain : ∀ env,(backTo pos (starEach rest env)).any (·.1) = false:=by intro _; rfl) :
    RX X φ n nm (.Call (.Name x np) (e :: rest) [] pos) (mArgs f args):=fun A env σ s μ ν v H' hA F R em=>by
  revert em; refine m_VsH fun vs H1 e1 em=>?_
  refine wpAny_Call_ofName (name_builtin O N hi hg hb F R ?_)
  show wpAny _ A (callWith pos (.type T) [] (backTo pos (starEach (e :: rest) env)) []) _ _ s
  refine callWith_excType (by rw [he env]; show (false || (backTo pos (starEach rest env)).any (·.1)) = false; rw [hplain env]; rfl) ?_
  have harg:=ra.use (pos:=pos) hA F R e1 (Q:=fun vs' s'=>wpAny (model X.prog X.w) A (PySem.call (.type T) ([] ++ vs') []) (QX X φ μ ν s H' σ.C v) (fun _ _=>False) s') (E:=fun _ _=>False)
    fun xs s2 μ2 a2 F2 r2=>wpAny_mono (hf A s2 μ2 ν H1 σ.C xs vs H' v hA a2.rep r2 em) (QX.aft (a2)) fun _ _ h=>h
  rw [he env] at harg ⊢
  exact Calls.evalArgs_plain harg
theorem Op_grown {s : Shared} {μ ν : List Addr} {H : List L} {C : List (Option V)} {h' : Heap} {tk : Nat} {z : Value} {r : V} (R : Rep X φ μ ν H C s) (k : ∀ b o,s.heap.get? b = some o → h'.get? b = some o) (q : VR X h' μ ν z r) :
    QX X φ μ ν s H C r z { s with heap:=h',toks:=tk }:=⟨μ,.grow R k,q⟩
noncomputable def fLen : FN:=fun vs H=>match vs with
  | [.ref i]=>(match H[i]? with
    | some l=>some (.int l.vs.length,H)
    | none=>none)
  | _=>none
theorem OpN_len : OpN X φ n (fun xs=>call (.builtin "len") xs) fLen:=fun A s μ ν H C xs vs H' r hA R rx em=>by
  unfold fLen at em
  split at em
  · revert em; refine m_L fun l hl em=>?_
    refine ret_e em ?_
    refine rx.e1 fun x r1=>r1.ref_e fun a ha=>?_
    refine e2a3 (R.lists _ _ l ha hl) fun its m e hz rv=>?_
    refine Calls.call_len_list (items:=its.toArray) ⟨_,e,rfl,m,rfl⟩ (by simp only [List.size_toArray]; lia) ?_
    rw [List.size_toArray,rv.length]
    exact Op_grown R (fun _ _ e=>e) (.int _ _)
  · cases em
noncomputable def fMin2 : FN:=fun vs H=>match vs with
  | [.int a,.int b]=>some (.int (if b < a then b else a),H)
  | _=>none
theorem OpN_min2 : OpN X φ n (fun xs=>call (.builtin "min") xs) fMin2:=fun A s μ ν H C xs vs H' r hA R rx em=>by
  unfold fMin2 at em
  split at em
  · cases em
    refine rx.e2 fun x y r1 r2=>r1.int_e fun t=>r2.int_e fun t2=>?_
    refine min_two_ints hA.handled fun h' tk hk=>?_
    refine Op_grown R hk ?_
    split <;> exact .int _ _
  · cases em
noncomputable def fMax2 : FN:=fun vs H=>match vs with
  | [.int a,.int b]=>some (.int (if a < b then b else a),H)
  | _=>none
set_option tactic.hygienic true in
theorem OpN_max2 : OpN X φ n (fun xs=>call (.builtin "max") xs) fMax2:=fun A s μ ν H C xs vs H' r hA R rx em=>by
  unfold fMax2 at em
  split at em
  · rename_i a b
    refine ret_e em ?_
    refine rx.e2 fun x y r1 r2=>r1.int_e fun t=>r2.int_e fun t2=>?_
    refine max_two_ints hA.handled fun h' tk hk=>?_
    refine Op_grown R hk ?_
    show VR X _ μ ν (if a < b then _ else _) (.int (if a < b then b else a))
    split <;> exact .int _ _
  · cases em
noncomputable def fRange : FN:=fun vs H=>match vs with
  | [.int b]=>some (.rng 0 b 1,H)
  | [.int a,.int b]=>some (.rng a b 1,H)
  | _=>none
theorem OpN_range : OpN X φ n (fun xs=>call (.type "range") xs) fRange:=fun A s μ ν H C xs vs H' r hA R rx em=>by
  unfold fRange at em
  split at em
  · cases em
    refine rx.e1 fun x r1=>r1.int_e fun t=>?_
    exact call_range_1 (Op_grown R (fun _ _ e=>Heap.get?_push_of_some _ e) (.rng (IsRange.new ..)))
  · cases em
    refine rx.e2 fun x y r1 r2=>r1.int_e fun t=>r2.int_e fun t2=>?_
    exact call_range_2 (Op_grown R (fun _ _ e=>Heap.get?_push_of_some _ e) (.rng (IsRange.new ..)))
  · cases em
theorem fresh_list {s : Shared} {μ ν : List Addr} {H : List L} {C : List (Option V)} {h' : Heap} {tk : Nat} {D : Addr} {its : List Value} {m : Nat} {l : L} (R : Rep X φ μ ν H C s) (k : ∀ b o,s.heap.get? b = some o → h'.get? b = some o) (hD : s.heap.get? D = none)
    (e : h'.get? D = some { cls:=.type "list",data:=.seq its.toArray m }) (r : VRs X h' μ ν its l.vs) (hz : l.vs.length ≤ 1048576) (hs : stills l.vs = true) :
    QX X φ μ ν s (H ++ [l]) C (.ref H.length) (.ref D) { s with heap:=h',toks:=tk }:=by
  have a1 : Aft X φ μ ν s H C μ { s with heap:=h',toks:=tk } NoFree:=.grow R k
  have R2:=a1.rep.adopt (D:=D) (vs:=l.vs) (l:=l) ⟨its,m,e,r⟩ (R.not_mut hD) (R.base_none hD) hz hs rfl
  refine ⟨μ ++ [D],⟨prefix_snoc _ _,fun a ha=>?_,R2,a1.keeps,a1.alive⟩,.ref (pre_take_self R.lenH _)⟩
  rcases List.mem_append.mp ha with ha | ha
  · exact .inl ha
  · simp at ha; subst ha; exact .inr hD
noncomputable def fListL : FN:=fun vs H=>match vs with
  | [.ref i]=>(match H[i]? with
    | some l=>if stills l.vs && decide (l.vs.length ≤ 1048576) then some (.ref H.length,H ++ [l]) else none
    | none=>none)
  | _=>none
theorem OpN_list : OpN X φ n (fun xs=>call (.type "list") xs) fListL:=fun A s μ ν H C xs vs H' r hA R rx em=>by
  unfold fListL at em
  split at em
  · revert em; refine m_L fun l hl em=>?_
    revert em; refine if_e fun hc em=>?_
    refine ret_e em ?_
    simp only [Bool.and_eq_true,decide_eq_true_eq] at hc
    refine rx.e1 fun x r1=>r1.ref_e fun a ha=>?_
    refine e2a3 (R.lists _ _ l ha hl) fun its m e hz rv=>?_
    refine call_list_seq (items:=its.toArray) _ (.inl rfl) e rfl rfl (fun h' c' hk he=>?_) (by rw [List.size_toArray,sizeLine_val]; lia)
    refine fresh_list R hk (none_at_size _) he ?_ hc.2 hc.1
    exact (rv.mono (fun b o e _=>hk b o e) (List.take_prefix _ _) (List.nil_prefix))
  · cases em
theorem preSum_take (xs : List Int) : ∀ j,preSum (fun i=>xs.getD i 0) j = (xs.take j).sum
  | 0=>by simp [preSum]
  | j + 1=>by
    rw [preSum,preSum_take xs j,List.take_add_one,List.sum_append,List.getD_eq_getElem?_getD]
    cases xs[j]? <;> simp
theorem intsAt {h : Heap} {μ ν : List Addr} {its : List Value} {ns : List Int} (r : VRs X h μ ν its (ns.map V.int)) {i : Nat} {v : Value} (e : its.toArray[i]? = some v) : ∃ t,v = .int (ns.getD i 0) t:=by
  have e' : its[i]? = some v:=by simpa using e
  have hlt : i < ns.length:=by
    have:=(List.getElem?_eq_some_iff.mp e').1
    have h2:=r.length
    simp only [List.length_map] at h2
    lia
  have h3 : (ns.map V.int)[i]? = some (.int (ns.getD i 0)):=by
    rw [List.getElem?_map,List.getElem?_eq_getElem hlt,List.getD_eq_getElem?_getD,List.getElem?_eq_getElem hlt]; rfl
  refine e1a2 (r.get h3) fun x hx rx=>?_
  rw [e'] at hx; cases hx
  exact rx.int_e fun t=>⟨_,rfl⟩
noncomputable def fSum : FN:=fun vs H=>match vs with
  | [.ref i]=>(match H[i]? with
    | some (.ints xs)=>some (.int xs.sum,H)
    | _=>none)
  | _=>none
theorem iter_list {A : Around} {E : Value → Shared → Prop} {s : Shared} {l : Addr} {its : Array Value} {m : Nat} {Q : Value → Shared → Prop} (e : s.heap.get? l = some { cls:=.type "list",data:=.seq its m })
    (h : ∀ s₂ : Shared,s₂ = { s with heap:=s.heap.push { cls:=.type "list_iterator",data:=.fields #[.ref l,.int 0 0] } } →
      (s₂.heap.IsListIter s.heap.objs.size l 0 ∧ s₂.heap.IsList l its) → (∀ b ∈ [s.heap.objs.size,l],b < s₂.heap.objs.size) → l ≠ s.heap.objs.size → Q (.ref s.heap.objs.size) s₂) :
    wpAny (model X.prog X.w) A (pyIter (.ref l)) Q E s:=by
  have hlt : l < s.heap.objs.size:=Heap.lt_size e
  have hl : s.heap.IsList l its:=⟨_,e,rfl,m,rfl⟩
  refine wpAny_pyIter_list hl (h _ rfl ⟨⟨_,Heap.get?_push_size _ rfl,rfl,rfl⟩,hl.push _⟩ (fun b hb=>?_) (Nat.ne_of_lt hlt))
  show b < (s.heap.push _).objs.size
  rw [Heap.size_push]
  rcases List.mem_cons.mp hb with rfl | hb
  · exact Nat.lt_succ_self _
  · rcases List.mem_cons.mp hb with rfl | hb
    · exact Nat.lt_succ_of_lt hlt
    · cases hb
theorem OpN_sum : OpN X φ n (fun xs=>call (.builtin "sum") xs) fSum:=fun A s μ ν H C xs vs H' r hA R rx em=>by
  unfold fSum at em
  split at em
  · revert em; refine m_LL fun ns hl em=>?_
    refine ret_e em ?_
    refine rx.e1 fun x r1=>r1.ref_e fun a ha=>?_
    refine e2a3 (R.lists _ _ _ ha hl) fun its m e hz rv=>?_
    refine call_sum_walkG (iter_list e fun s₂ e₂ st hfp hlI=>?_)
    subst e₂
    refine ⟨_,_,_,_,_,_,fun i=>ns.getD i 0,rfl,Walks.list (A:=A.in1) hA.handled _ _ hlI its.toArray,st,hfp,(fun i v e=>intsAt rv e),fun h' tk t' hk=>?_⟩
    refine Op_grown R (old_kept hk) ?_
    have hlen : its.length = ns.length:=by rw [rv.length]; exact List.length_map ..
    rw [preSum_take,List.size_toArray,hlen,List.take_length]
    exact .int _ _
  · cases em
end
end Mine
namespace Mine
section
variable {X : Cx} {n : Nat} {nm : Nm}
noncomputable def allSome {α : Type} : List (Option α) → Option (List α)
  | []=>some []
  | some x :: r=>(match allSome r with
    | some xs=>some (x :: xs)
    | none=>none)
  | none :: _=>none
noncomputable def datOf (H : List L) : Nat → V → Option PyData
  | _,.none=>some .none
  | _,.bool b=>some (.bool b)
  | _,.int i=>some (.int i)
  | _,.str s=>some (.str s)
  | f + 1,.ref i=>(match H[i]? with
    | some (.ints xs)=>some (.list (xs.map .int))
    | some (.vals vs)=>(match allSome (vs.map (datOf H f)) with
      | some ds=>some (.list ds)
      | none=>none)
    | none=>none)
  | f + 1,.tup vs=>(match allSome (vs.map (datOf H f)) with
    | some ds=>some (.tuple ds)
    | none=>none)
  | _,_=>none
theorem readsAll_ints {h : Heap} {μ ν : List Addr} {xs : List Value} {ns : List Int} (r : VRs X h μ ν xs (ns.map V.int)) : ReadsAll h xs (ns.map .int) [] :=
  VRs.ints (P:=fun xs ns=>ReadsAll h xs (ns.map .int) []) .nil (fun i t _ _ ih=>.cons (as:=[]) (.int i t) ih) r
theorem allSome_cons {α : Type} {o : Option α} {l : List (Option α)} {ds : List α} (e : allSome (o :: l) = some ds) : ∃ x xs,o = some x ∧ allSome l = some xs ∧ ds = x :: xs:=by
  cases o with
  | none=>cases e
  | some x =>
    unfold allSome at e
    cases h : allSome l with
    | none=>rw [h] at e; cases e
    | some xs=>rw [h] at e; refine re1_e e ?_; exact ⟨x,xs,rfl,rfl,rfl⟩
theorem readsAll_of {h : Heap} {μ ν : List Addr} {g : V → Option PyData} (k : ∀ v x d,VR X h μ ν x v → g v = some d → ∃ as,Reads h x d as) {xs : List Value} {vs : List V} (r : VRs X h μ ν xs vs) : ∀ {ds : List PyData},allSome (vs.map g) = some ds → ∃ as,ReadsAll h xs ds as :=
  VRs.ind (P:=fun xs vs=>∀ {ds : List PyData},allSome (vs.map g) = some ds → ∃ as,ReadsAll h xs ds as) (fun e=>by refine re1_e e ?_; exact ⟨_,.nil⟩) (fun x v xs vs a _ ih ds e=>by
    refine e2a3 (allSome_cons e) fun y ys h1 h2 h3=>?_
    refine e1a1 (k _ _ _ a h1) fun as ra=>?_
    refine e1a1 (ih h2) fun bs rb=>?_
    subst h3
    exact ⟨_,.cons ra rb⟩) r
set_option tactic.hygienic true in
theorem reads_of {s : Shared} {μ ν : List Addr} {H : List L} {C : List (Option V)} (R : Rep X φ μ ν H C s) : ∀ (f : Nat) (v : V) (x : Value) (d : PyData),VR X s.heap μ ν x v → datOf H f v = some d → ∃ as,Reads s.heap x d as:=by
  intro f
  induction f with
  | zero =>
    intro v x d r e
    cases v with
    | none=>exact r.none_e (by refine re1_e e ?_; exact ⟨_,.none⟩)
    | bool b=>exact r.bool_e (by refine re1_e e ?_; exact ⟨_,.bool _⟩)
    | int i=>exact r.int_e fun t=>by refine re1_e e ?_; exact ⟨_,.int _ _⟩
    | str i=>exact r.str_e fun t=>by refine re1_e e ?_; exact ⟨_,.str _ _⟩
    | _=>cases e
  | succ f ih =>
    intro v x d r e
    cases v with
    | none=>exact r.none_e (by refine re1_e e ?_; exact ⟨_,.none⟩)
    | bool b=>exact r.bool_e (by refine re1_e e ?_; exact ⟨_,.bool _⟩)
    | int i=>exact r.int_e fun t=>by refine re1_e e ?_; exact ⟨_,.int _ _⟩
    | str i=>exact r.str_e fun t=>by refine re1_e e ?_; exact ⟨_,.str _ _⟩
    | ref i =>
      refine r.ref_e fun a ha=>?_
      unfold datOf at e
      split at e
      · rename_i xs hl
        refine re1_e e ?_
        refine e2a3 (R.lists i a _ ha hl) fun its m eo hz rv=>?_
        exact ⟨_,.list eo rfl rfl (by simpa using readsAll_ints rv)⟩
      · rename_i vs hl
        split at e
        · rename_i ds hds
          refine re1_e e ?_
          refine e2a3 (R.lists i a _ ha hl) fun its m eo hz rv=>?_
          refine e1a1 (readsAll_of (fun v x d r e=>ih v x d r e) (rv.mono (fun _ _ e _=>e) (List.take_prefix _ _) (List.nil_prefix)) hds) fun as ra=>?_
          exact ⟨_,.list eo rfl rfl (by simpa using ra)⟩
        · cases e
      · cases e
    | tup vs =>
      refine r.tup_e fun a its m eo rv=>?_
      unfold datOf at e
      split at e
      · rename_i ds hds
        refine re1_e e ?_
        refine e1a1 (readsAll_of (fun v x d r e=>ih v x d r e) rv hds) fun as ra=>?_
        exact ⟨_,.tuple eo rfl rfl (by simpa using ra)⟩
      · cases e
    | _=>cases e
noncomputable def fEq : F2:=fun v w H=>match datOf H 8 v,datOf H 8 w with
  | some d,some e=>if SeqAt.shaped d && SeqAt.shaped e then some (.bool (PyData.eqv d e),H) else none
  | _,_=>none
noncomputable def fNe : F2:=fun v w H=>match datOf H 8 v,datOf H 8 w with
  | some d,some e=>if SeqAt.shaped d && SeqAt.shaped e then some (.bool (!PyData.eqv d e),H) else none
  | _,_=>none
theorem Room.u64 {A : Around} (r : Room φ n A) : A.units + 64 < cLine:=by show A.units + 64 < 9900; have:=r.units; lia
set_option tactic.hygienic true in
theorem Op2_eq : Op2 X φ n (compareOp .Eq) fEq:=fun A s μ ν H C x y v u H' r hA R rx ry em=>by
  unfold fEq at em
  split at em
  · rename_i d e hd he
    revert em; refine if_e fun hs em=>?_
    refine ret_e em ?_
    simp only [Bool.and_eq_true] at hs
    refine e1a1 (reads_of R 8 v x d rx hd) fun as ra=>?_
    refine e1a1 (reads_of R 8 u y e ry he) fun bs rb=>?_
    exact SeqAt.compareEq_shaped ra rb hs.1 hs.2 hA.u64 ⟨μ,.refl R,.bool _⟩
  · cases em
set_option tactic.hygienic true in
theorem Op2_ne : Op2 X φ n (compareOp .NotEq) fNe:=fun A s μ ν H C x y v u H' r hA R rx ry em=>by
  unfold fNe at em
  split at em
  · rename_i d e hd he
    revert em; refine if_e fun hs em=>?_
    refine ret_e em ?_
    simp only [Bool.and_eq_true] at hs
    refine e1a1 (reads_of R 8 v x d rx hd) fun as ra=>?_
    refine e1a1 (reads_of R 8 u y e ry he) fun bs rb=>?_
    exact SeqAt.compareNe_shaped ra rb hs.1 hs.2 hA.u64 ⟨μ,.refl R,.bool _⟩
  · cases em
theorem eqv_ints : ∀ (xs ys : List Int),PyData.eqvAll (xs.map .int) (ys.map .int) = decide (xs = ys)
  | [],[]=>by simp [PyData.eqvAll]
  | [],_ :: _=>by simp [PyData.eqvAll]
  | _ :: _,[]=>by simp [PyData.eqvAll]
  | a :: r,b :: t=>by
    simp only [List.map_cons,PyData.eqvAll,PyData.eqv,eqv_ints r t]
    by_cases h : a = b <;> by_cases h' : r = t <;> simp [h,h']
end
end Mine
namespace Mine
section
variable {X : Cx} {n : Nat} {nm : Nm}
section
variable {prog : Program} {w : World} {A : Around} {E : Value → Shared → Prop} {s : Shared}
end
end
end Mine
namespace Mine
section
variable {X : Cx} {n : Nat} {nm : Nm}
end
end Mine
namespace Mine
section
variable {X : Cx} {n : Nat} {nm : Nm}
end
end Mine
namespace Mine
section
variable {X : Cx} {n : Nat} {nm : Nm}
theorem Rep.funFrames {φ : List Env} {μ ν : List Addr} {H : List L} {C : List (Option V)} {s : Shared} (R : Rep X φ μ ν H C s) (hk : ∀ e ∈ φ,e.scope.kind ≠ .module ∧ ∃ L,e.frame = some L) : s.heap.FunFrames X.h₀ φ:=by
  have R':=R.frs
  clear R
  induction φ with
  | nil=>trivial
  | cons env φ ih =>
    obtain ⟨hm,L0,hL⟩:=hk env List.mem_cons_self
    have hmem : L0 ∈ frsOf (env :: φ):=by unfold frsOf; rw [List.filterMap_cons,hL]; exact List.mem_cons_self
    obtain ⟨f1,f2,o,es,ep,e,d⟩:=R' L0 hmem
    refine ⟨hm,⟨L0,o,hL,f1,e,fun vs z=>by rw [d] at z; cases z⟩,ih (fun e he=>hk e (List.mem_cons_of_mem _ he)) fun b hb=>R' b ?_⟩
    unfold frsOf at hb ⊢
    rw [List.filterMap_cons,hL]
    exact List.mem_cons_of_mem _ hb
structure TbT (s0 s' : Shared) (e : Addr) (vs : Array Value) (T : Addr) : Prop where
  h1 : vs[1]? = some (.ref T)
  f1 : s0.heap.get? T = none
  f2 : T ≠ e
  ex : ∃ oT ts,s'.heap.get? T = some oT ∧ oT.cls = .type "traceback" ∧ oT.data = .fields ts ∧ ts[3]? = some .none
inductive FlX (X : Cx) (s0 s' : Shared) (μ' ν : List Addr) (e : Addr) (msg : Str) (tb : Option Addr) : Prop
  | mk (oe : Obj) (vs : Array Value) (t : Addr) (he : s'.heap.get? e = some oe) (hc : oe.cls = .type "ValueError") (hd : oe.data = .fields vs) (h0 : vs[0]? = some (.ref t)) (ht : VR X s'.heap μ' ν (.ref t) (.tup [.str msg]))
    (htb : match tb with | none=>vs[1]? = some .none | some T=>TbT s0 s' e vs T)
structure Flies (X : Cx) (φ : List Env) (μ ν : List Addr) (s0 : Shared) (H : List L) (C : List (Option V)) (μ' : List Addr) (s' : Shared) (free : Addr → Prop) (e : Addr) (msg : Str) (tb : Option Addr) : Prop where
  aft : Aft X φ μ ν s0 H C μ' s' free
  base : ∀ b o,X.h₀.get? b = some o → s0.heap.get? b = some o
  fresh : s0.heap.get? e = none
  exc : FlX X s0 s' μ' ν e msg tb
structure ExStep (φ : List Env) (e : Addr) (tb : Option Addr) (h h' : Heap) : Prop where
  keep : ∀ b o,b ∉ frsOf φ → b ≠ e → (∀ T,tb = some T → b ≠ T) → h.get? b = some o → h'.get? b = some o
  slots : ∀ b ∈ frsOf φ,∀ o,h.get? b = some o → ∃ sl,h'.get? b = some { o with slots:=sl }
theorem not_mut_fields {φ : List Env} {μ ν : List Addr} {H : List L} {C : List (Option V)} {s : Shared} (R : Rep X φ μ ν H C s) {b : Addr} {o : Obj} {vs : Array Value} {T : String} (e : s.heap.get? b = some o) (hc : o.cls = .type T) (hd : o.data = .fields vs) (hT : ∀ ps,(tabObj ps).cls ≠ .type T) : ¬ Mut X μ ν b:=fun q=>by
  rcases q with q | q | q
  · refine e2a1 (R.list_at q) fun its n e'=>?_
    rw [e] at e'; cases e'; cases hd
  · refine e1a1 (R.cell_at q) fun v hv=>?_
    have:=IsCell_data hv e
    rw [hd] at this; cases this
  · refine e1a1 (R.tab_at q) fun ps e'=>?_
    rw [e] at e'; cases e'
    exact hT _ hc
theorem not_stable_exc {o : Obj} {vs : Array Value} {T : String} (hc : o.cls = .type T) (hd : o.data = .fields vs) (h1 : T ≠ "range") (h2 : T ≠ "code") : ¬ Stable o:=not_stable_fields hd hc h1 h2
theorem entry_new {M : Model} {A : Around} {E : Value → Shared → Prop} {φ : List Env} {env : Env} {L0 e : Addr} {oe : Obj} {vs : Array Value} {head : Value} {hadNext : Bool} {base : Heap} {s : Shared} {Q : Unit → Shared → Prop}
    (hfr : A.frames = some (env :: φ)) (hl : s.heap.FunFrames base (env :: φ)) (hf : env.frame = some L0) (he : s.heap.get? e = some oe) (hd : oe.data = .fields vs) (hsz : 1 < vs.size)
    (h : ∀ h' T oT ts,(∀ b o,b ∉ frsOf (env :: φ) → b ≠ e → s.heap.get? b = some o → h'.get? b = some o) → (∀ b ∈ frsOf (env :: φ),∀ o,s.heap.get? b = some o → ∃ sl,h'.get? b = some { o with slots:=sl }) → s.heap.get? T = none → T ≠ e →
      h'.get? e = some (oe.mapFields (·.setIfInBounds 1 (.ref T))) → h'.get? T = some oT → oT.cls = .type "traceback" → oT.data = .fields ts → 3 < ts.size → Q () { s with heap:=h' }) :
    wpAny M A (do let a ← frameOf env; let pl ← entryPlaceOf L0 hadNext; let b ← EntryCells.newEntry head a .none (rawInt L0) .none pl; setField (.ref e) 1 b) Q E s:=by
  have hene : e ∉ frsOf (env :: φ):=fun hm=>by
    obtain ⟨_,o,ho,hnf⟩:=hl.mem hm
    rw [he] at ho; injection ho with ho; subst ho; exact hnf vs hd
  refine wpAny_bind (wpAny_frameOf_fun hfr hl hf fun h₁ hs₁=>?_)
  refine wpAny_bind (wpAny_entryPlaceOf fun pl hpl=>?_)
  unfold EntryCells.newEntry newFields
  refine wpAny_bind (wpAny_newObj_type ?_ (hpl.sizeOk5 _ _ _ _ _))
  have he₁ : h₁.get? e = some oe:=(hs₁.2.1 e hene).trans he
  have he₂:=Heap.get?_push_of_some (h:=h₁) { cls:=.type "traceback",dict:=none,data:=.fields ([head,.ref L0,.none,rawInt L0,.none] ++ (if pl.isEmpty then List.replicate 6 Value.none else pl)).toArray } he₁
  have hTe : h₁.objs.size ≠ e:=Nat.ne_of_gt (Heap.lt_size he₁)
  have hd₃:=Obj.data_mapFields hd (·.setIfInBounds 1 (Value.ref h₁.objs.size))
  have he₃:=Heap.get?_update_self (Obj.mapFields (·.setIfInBounds 1 (Value.ref h₁.objs.size))) he₂ (Obj.isFreed_of_fields hd₃)
  have hT₃:=(Heap.get?_update_other (h₁.push { cls:=.type "traceback",dict:=none,data:=.fields ([head,.ref L0,.none,rawInt L0,.none] ++ (if pl.isEmpty then List.replicate 6 Value.none else pl)).toArray })
    (Obj.mapFields (·.setIfInBounds 1 (Value.ref h₁.objs.size))) (Ne.symm hTe)).trans (Heap.get?_push_size h₁ rfl)
  have keep : ∀ b o,b ≠ e → h₁.get? b = some o →
      ((h₁.push { cls:=.type "traceback",dict:=none,data:=.fields ([head,.ref L0,.none,rawInt L0,.none] ++ (if pl.isEmpty then List.replicate 6 Value.none else pl)).toArray }).update e (Obj.mapFields (·.setIfInBounds 1 (Value.ref h₁.objs.size)))).get? b = some o :=
    fun b o hbe hb=>by
      rw [Heap.get?_update_other _ _ (Ne.symm hbe)]
      exact Heap.get?_push_of_some _ hb
  refine wpAny_setField he₂ hd hsz (h _ h₁.objs.size _ _ (fun b o hb hbe eb=>keep b o hbe ((hs₁.2.1 b hb).trans eb)) (fun b hb o eb=>?_) (Heap.get?_none_of_le (by rw [hs₁.1]; exact Nat.le_refl _)) hTe he₃ hT₃ rfl rfl ?_)
  · refine e1a1 (hs₁.2.2 b o eb) fun sl hs=>?_
    exact ⟨sl,keep b _ (fun z=>hene (z ▸ hb)) hs⟩
  · first | (simp; done) | (rcases hpl with rfl | ⟨_,_,_,_,_,_,_,rfl⟩ <;> simp)
theorem Flies.step {φ : List Env} {μ ν μ' : List Addr} {s0 s' : Shared} {H : List L} {C : List (Option V)} {free : Addr → Prop} {e : Addr} {msg : Str} {tb : Option Addr} (Fl : Flies X φ μ ν s0 H C μ' s' free e msg tb) {h' : Heap} (st : ExStep φ e tb s'.heap h') :
    Aft X φ μ ν s0 H C μ' { s' with heap:=h' } free ∧ Stab s'.heap h':=by
  obtain ⟨a,hbase,hfr,oe,vs,t,he,hc,hd,h0,ht,htb⟩:=Fl
  have R:=a.rep
  have hTf : ∀ T,tb = some T → s0.heap.get? T = none ∧ ∃ oT ts,s'.heap.get? T = some oT ∧ oT.cls = .type "traceback" ∧ oT.data = .fields ts:=fun T z=>by
    subst z
    obtain ⟨_,f1,_,oT,ts,f2,f3,f4,_⟩:=htb
    exact ⟨f1,oT,ts,f2,f3,f4⟩
  have hst : Stab s'.heap h':=fun b o eb sb=>st.keep b o (fun q=>by
    refine e2a1 ((R.frs b q).2.2.not_stable eb) fun es ep d=>?_
    exact sb.nd es ep d) (fun z=>by subst z; rw [he] at eb; cases eb; exact not_stable_exc hc hd (by decide) (by decide) sb) (fun T z q=>by
      subst q
      obtain ⟨_,oT,ts,f2,f3,f4⟩:=hTf b z
      rw [f2] at eb; cases eb
      exact not_stable_exc f3 f4 (by decide) (by decide) sb) eb
  have hme : ¬ Mut X μ' ν e:=not_mut_fields R he hc hd (by intro ps z; cases z)
  have hmT : ∀ T,tb = some T → ¬ Mut X μ' ν T:=fun T z=>by
    obtain ⟨_,oT,ts,f2,f3,f4⟩:=hTf T z
    exact not_mut_fields R f2 f3 f4 (by intro ps z; cases z)
  refine ⟨⟨a.pre,a.new,R.ext (tk:=s'.toks) (fun L hL x=>?_) (fun b o q eb=>st.keep b o (fun z=>?_) (fun z=>?_) (fun T z y=>?_) eb) hst,fun b o q eb=>(a.keeps b o q eb).trans fun o' e'=>?_,fun b o eb=>?_⟩,hst⟩
  · refine e3a2 x fun o es ep eo d=>?_
    refine e1a1 (st.slots L hL o eo) fun sl e'=>?_
    exact ⟨_,es,ep,e',d⟩
  · rcases q with q | q
    · rw [(R.frs b z).1] at q; cases q
    · exact (R.frs b z).2.1 q
  · rcases q with q | q
    · have:=hbase b o q
      rw [z,hfr] at this; cases this
    · exact hme (z ▸ q)
  · rcases q with q | q
    · have:=hbase b o q
      rw [y,(hTf T z).1] at this; cases this
    · exact hmT T z (y ▸ q)
  · by_cases hb : b ∈ frsOf φ
    · refine e2a1 ((R.frs b hb).2.2.not_stable e') fun es ep d=>?_
      exact .inr ⟨⟨es,ep,d⟩,st.slots b hb o' e'⟩
    · exact .inl (st.keep b o' hb (fun z=>by rw [z,hfr] at eb; cases eb) (fun T z y=>by rw [y,(hTf T z).1] at eb; cases eb) e')
  · refine e1a1 (a.alive b o eb) fun o' e'=>?_
    by_cases hb : b ∈ frsOf φ
    · refine e1a1 (st.slots b hb o' e') fun sl e2=>?_
      exact ⟨_,e2⟩
    · exact ⟨o',st.keep b o' hb (fun z=>by rw [z,hfr] at eb; cases eb) (fun T z y=>by rw [y,(hTf T z).1] at eb; cases eb) e'⟩
theorem Flies.noted {φ : List Env} {A : Around} {env : Env} {L0 : Addr} {μ ν μ' : List Addr} {s0 s' : Shared} {H : List L} {C : List (Option V)} {free : Addr → Prop} {e : Addr} {msg : Str} {tb : Option Addr} {Q : Unit → Shared → Prop} {E : Value → Shared → Prop}
    (Fl : Flies X (env :: φ) μ ν s0 H C μ' s' free e msg tb) (hfr : A.frames = some (env :: φ)) (hk : ∀ e ∈ env :: φ,e.scope.kind ≠ .module ∧ ∃ L,e.frame = some L) (hf : env.frame = some L0)
    (h : ∀ s'' T,Flies X (env :: φ) μ ν s0 H C μ' s'' free e msg (some T) → Stab s'.heap s''.heap → (∀ m,s'.heap.Ns L0 m → s''.heap.Ns L0 m) → Q () s'') :
    wpAny (model X.prog X.w) A (noteFrame (.ref e) env) (fun _ s1=>wpAny (model X.prog X.w) A (setFlight (.ref e) none) Q E s1) E s':=by
  have hl:=Fl.aft.rep.funFrames hk
  have Fl0:=Fl
  obtain ⟨a,hbase,hfresh,oe,vs,t,he,hc,hd,h0,ht,htb⟩:=Fl
  have hsz0 : 0 < vs.size:=(Array.getElem?_eq_some_iff.mp h0).1
  have hLm : L0 ∈ frsOf (env :: φ):=by unfold frsOf; rw [List.filterMap_cons,hf]; exact List.mem_cons_self
  have fin : ∀ (h1 : Heap) (head : Value) (hadNext : Bool),1 < vs.size → (∀ b o,(∀ T,tb = some T → b ≠ T) → s'.heap.get? b = some o → h1.get? b = some o) → h1.FunFrames X.h₀ (env :: φ) →
      wpAny (model X.prog X.w) A (do let a ← frameOf env; let pl ← entryPlaceOf L0 hadNext; let b ← EntryCells.newEntry head a .none (rawInt L0) .none pl; setField (.ref e) 1 b) (fun _ s1=>wpAny (model X.prog X.w) A (setFlight (.ref e) none) Q E s1) E { s' with heap:=h1 }:=by
    intro h1 head hadNext hsz hk1 hl1
    have heT : ∀ T,tb = some T → e ≠ T:=fun T z=>by
      subst z
      exact fun q=>htb.f2 q.symm
    have he1 : h1.get? e = some oe:=hk1 e oe heT he
    refine entry_new (s:={ s' with heap:=h1 }) hfr hl1 hf he1 hd hsz fun h2 T oT ts k1 k2 hT0 hTe he2 hT2 hTc hTd hTs=>?_
    have hd2:=Obj.data_mapFields hd (·.setIfInBounds 1 (Value.ref T))
    unfold setFlight
    refine wpAny_bind (wpAny_field he2 hd2 (x:=.ref T) (by simp [hsz]) ?_)
    rw [if_pos (show (Value.ref T != Value.none) = true from by simp)]
    refine wpAny_setField hT2 hTd hTs ?_
    have s3:=Heap.SameBut.update h2 T (Obj.mapFields (·.setIfInBounds 3 ((none : Option Addr).elim Value.none fun f=>rawInt f)))
    have hd3:=Obj.data_mapFields hTd (·.setIfInBounds 3 ((none : Option Addr).elim Value.none fun f=>rawInt f))
    have hT3:=Heap.get?_update_self (Obj.mapFields (·.setIfInBounds 3 ((none : Option Addr).elim Value.none fun f=>rawInt f))) hT2 (Obj.isFreed_of_fields hd3)
    have heT3:=(s3.2 e (Ne.symm hTe)).trans he2
    generalize h2.update T (Obj.mapFields (·.setIfInBounds 3 ((none : Option Addr).elim Value.none fun f=>rawInt f))) = h3 at s3 hT3 heT3 ⊢
    have hTn : ∀ b o,s'.heap.get? b = some o → (∀ T',tb = some T' → b ≠ T') → b ≠ T:=fun b o eb hb z=>by
      have:=hk1 b o hb eb
      rw [z,hT0] at this; cases this
    have frT : ∀ b ∈ frsOf (env :: φ),∀ T',tb = some T' → b ≠ T':=fun b hb T' z q=>by
      subst z
      obtain ⟨_,_,_,oT',ts',f2,f3,f4,_⟩:=htb
      refine e2a1 ((a.rep.frs b hb).2.2.not_stable (q ▸ f2)) fun es ep d=>?_
      rw [f4] at d; cases d
    have step : ExStep (env :: φ) e tb s'.heap h3:=⟨fun b o hb hbe hbT eb=>(s3.2 b (hTn b o eb hbT)).trans (k1 b o hb hbe (hk1 b o hbT eb)),fun b hb o eb=>by
      refine e1a1 (k2 b hb o (hk1 b o (frT b hb) eb)) fun sl e2=>?_
      exact ⟨sl,(s3.2 b (hTn b o eb (frT b hb))).trans e2⟩⟩
    refine e0a2 (Fl0.step step) fun a3 st3=>?_
    have hT0' : s0.heap.get? T = none:=by
      cases q : s0.heap.get? T with
      | none=>rfl
      | some o =>
        refine e1a1 (a.alive T o q) fun o' e'=>?_
        have : ∀ T',tb = some T' → T ≠ T':=fun T' z y=>by
          subst z
          rw [y,htb.f1] at q; cases q
        have:=hk1 T o' this e'
        rw [hT0] at this; cases this
    refine h { s' with heap:=h3 } T ⟨a3,hbase,hfresh,_,_,t,heT3,?_,hd2,?_,ht.mono st3 (List.prefix_refl _) (List.prefix_refl _),?_,hT0',hTe,_,_,hT3,?_,hd3,?_⟩ st3 fun m hn=>?_
    · rw [Obj.cls_mapFields]; exact hc
    · rw [Array.getElem?_setIfInBounds_ne (by decide)]; exact h0
    · simp [hsz]
    · rw [Obj.cls_mapFields]; exact hTc
    · simp [hTs]
    · refine e3a3 hn fun o es ep eo d r=>?_
      refine e1a1 (step.slots L0 hLm o eo) fun sl e2=>?_
      exact ⟨_,es,ep,e2,d,r⟩
  unfold noteFrame
  simp only [hf]
  cases tb with
  | none =>
    have h1 : vs[1]? = some .none:=htb
    refine wpAny_bind (wpAny_field he hd h1 ?_)
    rw [if_neg (by decide)]
    exact fin s'.heap _ _ (Array.getElem?_eq_some_iff.mp h1).1 (fun _ _ _ e=>e) hl
  | some T =>
    obtain ⟨h1,f1,f2,oT,ts,f3,f4,f5,f6⟩:=htb
    refine wpAny_bind (wpAny_field he hd h1 ?_)
    rw [if_pos (show (Value.ref T != Value.none) = true from by simp)]
    refine wpAny_bind (wpAny_field f3 f5 f6 ?_)
    rw [if_neg (show ¬ ((Value.none == rawInt L0) = true) from by simp [rawInt])]
    refine wpAny_bind (wpAny_setField f3 f5 (Array.getElem?_eq_some_iff.mp f6).1 ?_)
    have other : ∀ b,b ≠ T → (s'.heap.update T (Obj.mapFields (·.setIfInBounds 3 Value.none))).get? b = s'.heap.get? b:=fun b hb=>Heap.get?_update_other _ _ (Ne.symm hb)
    have noRecord : ∀ b o,s'.heap.get? b = some o → (∀ vs,o.data ≠ .fields vs) → b ≠ T:=fun b o hb hnf q=>by
      rw [q,f3] at hb; injection hb with hb; subst hb; exact hnf ts f5
    exact fin _ _ _ (Array.getElem?_eq_some_iff.mp h1).1 (fun b o hb eb=>(other b (hb T rfl)).trans eb) (hl.of_keeps fun b o hb hnf=>⟨o,(other b (noRecord b o hb hnf)).trans hb,rfl⟩)
theorem Flies.leave {φ : List Env} {A : Around} {env : Env} {L0 : Addr} {μ ν μ' : List Addr} {s0 s' : Shared} {H : List L} {C : List (Option V)} {free : Addr → Prop} {e : Addr} {msg : Str} {tb : Option Addr} {Q : Unit → Shared → Prop} {E : Value → Shared → Prop}
    (Fl : Flies X (env :: φ) μ ν s0 H C μ' s' free e msg tb) (hfr : A.frames = some (env :: φ)) (hk : ∀ e ∈ env :: φ,e.scope.kind ≠ .module ∧ ∃ L,e.frame = some L) (hf : env.frame = some L0)
    (h : ∀ s'' T,Flies X (env :: φ) μ ν s0 H C μ' s'' free e msg (some T) → Q () s'') : wpAny (model X.prog X.w) A (leaving env (.ref e)) Q E s':=by
  unfold leaving
  exact wpAny_bind (Fl.noted hfr hk hf fun s'' T F _ _=>h s'' T F)
end
end Mine
namespace Mine
section
variable {X : Cx} {n : Nat} {nm : Nm}
noncomputable abbrev Em:=S → Option (Str × List L)
noncomputable def RaisedBy (X : Cx) (φ : List Env) (μ ν : List Addr) (s : Shared) (H' : List L) (C : List (Option V)) (free : Addr → Prop) (msg : Str) : Value → Shared → Prop:=fun e s'=>∃ ea μ' tb,e = .ref ea ∧ Flies X φ μ ν s H' C μ' s' free ea msg tb
noncomputable def RXE (X : Cx) (φ : List Env) (n : Nat) (nm : Nm) (e : PySem.Expr) (m : Em) : Prop :=
  ∀ (A : Around) (env : Env) (σ : S) (s : Shared) (μ ν : List Addr) (msg : Str) (H' : List L),Room φ n A → FrOk X φ nm env σ.loc σ.cel μ ν s.heap → Rep X φ μ ν σ.H σ.C s → m σ = some (msg,H') →
    wpAny (model X.prog X.w) A (eval e env) (fun _ _=>False) (RaisedBy X φ μ ν s H' σ.C NoFree msg) s
noncomputable def RSE (X : Cx) (φ : List Env) (n : Nat) (nm : Nm) (st : Stmt) (m : Em) : Prop :=
  ∀ (A : Around) (env : Env) (σ : S) (s : Shared) (μ ν : List Addr) (msg : Str) (H' : List L),Room φ n A → FrOk X φ nm env σ.loc σ.cel μ ν s.heap → Rep X φ μ ν σ.H σ.C s → m σ = some (msg,H') →
    wpAny (model X.prog X.w) A (exec st env) (fun _ _=>False) (RaisedBy X φ μ ν s H' σ.C NoFree msg) s
noncomputable def RSsE (X : Cx) (φ : List Env) (n : Nat) (nm : Nm) (st : List Stmt) (m : Em) : Prop :=
  ∀ (A : Around) (env : Env) (σ : S) (s : Shared) (μ ν : List Addr) (msg : Str) (H' : List L),Room φ n A → FrOk X φ nm env σ.loc σ.cel μ ν s.heap → Rep X φ μ ν σ.H σ.C s → m σ = some (msg,H') →
    wpAny (model X.prog X.w) A (execs st env) (fun _ _=>False) (RaisedBy X φ μ ν s H' σ.C NoFree msg) s
noncomputable abbrev FCallE:=List V → Option V → List (Option V) → List L → Option (Str × List L)
noncomputable def RetE (X : Cx) (φ : List Env) (μ ν : List Addr) (s : Shared) (H' : List L) (C : List (Option V)) (msg : Str) : Result → Shared → Prop:=fun r s'=>∃ ea μ' T,r = .error (.ref ea) ∧ Flies X φ μ ν s H' C μ' s' NoFree ea msg (some T)
noncomputable def CallE (X : Cx) (φ : List Env) (n : Nat) (a : Addr) (f : FCallE) : Prop :=
  ∀ (A : Around) (s : Shared) (μ ν : List Addr) (H : List L) (C : List (Option V)) (xs : List Value) (kws : List (Str × Value)) (vs : List V) (kv : Option V) (msg : Str) (H' : List L),Room φ n A → Rep X φ μ ν H C s → VRs X s.heap μ ν xs vs → KwR X s.heap μ ν kws kv → f vs kv C H = some (msg,H') →
    codeAny (model X.prog X.w) A (.call (.ref a) ⟨xs,kws⟩) (RetE X φ μ ν s H' C msg) s
theorem Flies.after {φ : List Env} {μ ν μ1 μ' : List Addr} {s s1 s' : Shared} {H0 H1 H : List L} {C0 C C1 : List (Option V)} {free : Addr → Prop} {e : Addr} {msg : Str} {tb : Option Addr} (R : Rep X φ μ ν H0 C0 s) (a : Aft X φ μ ν s H1 C1 μ1 s1 free) (Fl : Flies X φ μ1 ν s1 H C μ' s' free e msg tb) : Flies X φ μ ν s H C μ' s' free e msg tb:=by
  obtain ⟨a2,hb,hf,oe,vs,t,he,hc,hd,h0,ht,htb⟩:=Fl
  have low : ∀ b,s1.heap.get? b = none → s.heap.get? b = none:=fun b hb=>by
    cases q : s.heap.get? b with
    | none=>rfl
    | some o=>obtain ⟨o',e'⟩:=a.alive b o q; rw [hb] at e'; cases e'
  refine ⟨a.trans a2,R.keep,low _ hf,oe,vs,t,he,hc,hd,h0,ht,?_⟩
  cases tb with
  | none=>exact htb
  | some T=>exact ⟨htb.h1,low _ htb.f1,htb.f2,htb.ex⟩
theorem RaisedBy.after {φ : List Env} {μ ν μ1 : List Addr} {s s1 : Shared} {H0 H1 H : List L} {C0 C C1 : List (Option V)} {free : Addr → Prop} {msg : Str} (R : Rep X φ μ ν H0 C0 s) (a : Aft X φ μ ν s H1 C1 μ1 s1 free) {e : Value} {s' : Shared} (Fl : RaisedBy X φ μ1 ν s1 H C free msg e s') : RaisedBy X φ μ ν s H C free msg e s' :=
  let ⟨ea,μ',tb,h1,h2⟩:=Fl; ⟨ea,μ',tb,h1,h2.after R a⟩
noncomputable def eIf (t : Bm) (a b : Em) : Em:=fun σ=>match t σ with
  | some (true,H)=>a { σ with H:=H }
  | some (false,H)=>b { σ with H:=H }
  | none=>none
noncomputable def eNo : Em:=fun _=>none
theorem RSsE_nil : RSsE X φ n nm [] eNo:=fun A env σ s μ ν msg H' hA F R em=>by cases em
theorem RSsE_head {st : Stmt} {rest : List Stmt} {m : Em} (r : RSE X φ n nm st m) : RSsE X φ n nm (st :: rest) m:=fun A env σ s μ ν msg H' hA F R em=>by
  refine wpAny_execs_cons ?_
  exact wpAny_mono (r A env σ s μ ν msg H' hA F R em) (fun _ _ h=>h.elim) fun _ _ h=>h
theorem RSE_if {t : PySem.Expr} {body orelse : List Stmt} {pos : Pos} {m : Bm} {a b : Em} (rt : RB X φ n nm t m) (ra : RSsE X φ n nm body a) (rb : RSsE X φ n nm orelse b) : RSE X φ n nm (.If t body orelse pos) (eIf m a b):=fun A env σ s μ ν msg H' hA F R em=>by
  revert em; refine m_tf (fun H1 e1 em=>?_) (fun H1 e1 em=>?_)
  · refine wpAny_If (rt.use hA F R e1 fun s1 μ1 a1 F1=>?_)
    simp only [if_true]
    exact wpAny_mono (ra A env { σ with H:=H1 } s1 μ1 ν msg H' hA F1 a1.rep em) (fun _ _ h=>h) fun _ _ h=>h.after R a1
  · refine wpAny_If (rt.use hA F R e1 fun s1 μ1 a1 F1=>?_)
    simp only [Bool.false_eq_true,if_false]
    exact wpAny_mono (rb A env { σ with H:=H1 } s1 μ1 ν msg H' hA F1 a1.rep em) (fun _ _ h=>h) fun _ _ h=>h.after R a1
noncomputable def eRaise (msg : Str) : Em:=fun σ=>some (msg,σ.H)
theorem RSE_raise (O : XOk X) (N : NmOk nm) {x : Str} {i : Nat} {np cpos cp pos : Pos} {k : Nat} {msg : Str} (hx : x = "ValueError") (hi : nm.glb[i]? = some x) (hg : X.mg x = none) : RSE X φ n nm (.Raise (some (.Call (.Name x np) [.Constant (.str msg) k cp] [] cpos)) none pos) (eRaise msg):=fun A env σ s μ ν msg' H' hA F R em=>by
  refine ret_e em ?_
  subst hx
  refine wpAny_Raise_call PySem.F.excCall_ValueError PySem.F.excRaise_ValueError hA.handled rfl (name_builtin (b:=.type "ValueError") O N hi hg PyProof.Rows.Boot.«ValueError» F R ⟨rfl,?_⟩)
  refine Calls.evalArgs_plain ((RXs_cons RX_str RXs_nil).use hA F R rfl fun xs s1 μ1 a1 F1 r1=>?_)
  refine r1.e1 fun x q1=>?_
  refine ⟨rfl,by rw [sizeLine_val]; show 1 ≤ 16777216; lia,fun h' e hm=>?_⟩
  refine e1a3 hm.there fun t ht htn htt=>?_
  have a2 : Aft X φ μ1 ν s1 σ.H σ.C μ1 { s1 with heap:=h' } NoFree:=.grow (tk:=s1.toks) a1.rep hm.keeps
  have st : Stab s1.heap h':=fun b o eb _=>hm.keeps b o eb
  have F3 : Flies X φ μ1 ν s1 σ.H σ.C μ1 { s1 with heap:=h' } NoFree e msg none:=⟨a2,a1.rep.keep,hm.new,_,_,t,ht,rfl,rfl,rfl,.tup htt (.cons (q1.mono st (List.prefix_refl _) (List.prefix_refl _)) .nil),rfl⟩
  exact ⟨e,μ1,none,rfl,F3.after R a1⟩
theorem RSE_expr {e : PySem.Expr} {pos : Pos} {m : Em} (N : NmOk nm) (r : RXE X φ n nm e m) (hs : ∀ env,swapsWith e none pos.line env = pure false:=by intro _; rfl) : RSE X φ n nm (.Expr e pos) m:=fun A env σ s μ ν msg H' hA F R em=>by
  refine wpAny_Expr_any (wpAny_mono (r A env σ s μ ν msg H' hA F R em) (fun _ _ h=>h.elim) fun _ _ h=>h) ?_ (hs env)
  unfold interactive
  rw [F.scope,N.kind]
  rfl
theorem RSE_assign {x : Str} {p pos : Pos} {e : PySem.Expr} {m : Em} (r : RXE X φ n nm e m) (hs : ∀ env,swapsWith e (some (.Name x p)) pos.line env = pure false:=by intro _; rfl) :
    RSE X φ n nm (.Assign [.Name x p] e pos) m:=fun A env σ s μ ν msg H' hA F R em =>
  wpAny_Assign_Name (wpAny_mono (r A env σ s μ ν msg H' hA F R em) (fun _ _ h=>h.elim) fun _ _ h=>h) (hs env)
structure CallVE (X : Cx) (φ : List Env) (n : Nat) (v : V) (f : FCallE) : Prop where
  code : ∀ (A : Around) (s : Shared) (μ ν : List Addr) (H : List L) (C : List (Option V)) (x : Value) (xs : List Value) (kws : List (Str × Value)) (vs : List V) (kv : Option V) (msg : Str) (H' : List L),Room φ n A → Rep X φ μ ν H C s → VR X s.heap μ ν x v → VRs X s.heap μ ν xs vs → KwR X s.heap μ ν kws kv → f vs kv C H = some (msg,H') →
    codeAny (model X.prog X.w) A (.call x ⟨xs,kws⟩) (RetE X φ μ ν s H' C msg) s
  obj : ∀ (s : Shared) (μ ν : List Addr) (H : List L) (C : List (Option V)) (x : Value),Rep X φ μ ν H C s → VR X s.heap μ ν x v → ∃ a o fd,x = .ref a ∧ s.heap.get? a = some o ∧ o.data = .func fd
theorem CallVE.of_fn {k : Nat} {a : Addr} {d : Df} {f : FCallE} (hk : X.fn k = some a) (T : FnAt X a d) (c : CallE X φ n a f) : CallVE X φ n (.fn k) f where
  code:=fun A s μ ν H C x xs kws vs kv r H' hA R rx rxs rk e=>by
    refine rx.fn_e fun b hb=>?_
    rw [hk] at hb; cases hb
    exact c A s μ ν H C xs kws vs kv r H' hA R rxs rk e
  obj:=fun s μ ν H C x R rx=>by
    refine rx.fn_e fun b hb=>?_
    rw [hk] at hb; cases hb
    refine e2a3 T.obj fun o fd ho hd _=>?_
    exact ⟨_,o,fd,rfl,R.keep _ _ ho,hd⟩
theorem CallVE.call {v : V} {f : FCallE} (c : CallVE X φ n v f) {A : Around} {s : Shared} {μ ν : List Addr} {H : List L} {C : List (Option V)} {x : Value} {xs : List Value} {kws : List (Str × Value)} {vs : List V} {kv : Option V} {msg : Str} {H' : List L} {Q : Value → Shared → Prop}
    (hA : Room φ n A) (R : Rep X φ μ ν H C s) (rx : VR X s.heap μ ν x v) (rxs : VRs X s.heap μ ν xs vs) (rk : KwR X s.heap μ ν kws kv) (e : f vs kv C H = some (msg,H')) :
    wpAny (model X.prog X.w) A (PySem.call x xs kws) Q (RaisedBy X φ μ ν s H' C NoFree msg) s :=
  wpAny_call (codeAny_mono (c.code A s μ ν H C x xs kws vs kv msg H' hA R rx rxs rk e) fun r' s' ⟨ea,μ',T,hr,q⟩=>by subst hr; exact ⟨ea,μ',some T,rfl,q⟩)
noncomputable def eCall (fm : Xm) (disp : V → Option FCallE) (args : Xms) : Em:=fun σ=>match fm σ with
  | some (fv,H0)=>(match disp fv with
    | some f=>(match args { σ with H:=H0 } with
      | some (vs,H1)=>f vs none σ.C H1
      | none=>none)
    | none=>none)
  | none=>none
noncomputable def eCallK (fm : Xm) (disp : V → Option FCallE) (args : Xms) (km : Xm) : Em:=fun σ=>match fm σ with
  | some (fv,H0)=>(match disp fv with
    | some f=>(match args { σ with H:=H0 } with
      | some (vs,H1)=>(match km { σ with H:=H1 } with
        | some (kv,H2)=>f vs (some kv) σ.C H2
        | none=>none)
      | none=>none)
    | none=>none)
  | none=>none
set_option tactic.hygienic true in
theorem RXE_call {x : Str} {np pos : Pos} {e : PySem.Expr} {rest : List PySem.Expr} {fm : Xm} {disp : V → Option FCallE} {args : Xms} (rf : RX X φ n nm (.Name x np) fm) (hd : ∀ v f,disp v = some f → CallVE X φ n v f) (ra : RXs X φ n nm (e :: rest) args)
    (he : ∀ env,starEach (e :: rest) env = (false,eval e env) :: starEach rest env:=by intro _; rfl) (hplain : ∀ env,(backTo pos (starEach rest env)).any (·.1) = false:=by intro _; rfl) :
    RXE X φ n nm (.Call (.Name x np) (e :: rest) [] pos) (eCall fm disp args):=fun A env σ s μ ν msg H' hA F R em=>by
  revert em; refine m_VH fun fv H0 e0 em=>?_
  split at em
  · rename_i f ef
    revert em; refine m_VsH fun vs H1 e1 em=>?_
    refine wpAny_Call_ofName (rf.use hA F R e0 fun x' s1 μ1 a1 F1 r1=>?_)
    have cv:=hd fv f ef
    obtain ⟨a,o,fd,rfl,ho,hdd⟩:=cv.obj s1 μ1 ν H0 σ.C x' a1.rep r1
    show wpAny _ A (callWith pos (.ref a) [] (backTo pos (starEach (e :: rest) env)) []) _ _ s1
    refine callWith_of (P:=fun h=>∃ o fd,h.get? a = some o ∧ o.data = .func fd) (by rw [he env]; show ((false || (backTo pos (starEach rest env)).any (·.1)) || false) = false; rw [hplain env]; rfl)
      (fun h q=>e2a2 q fun o fd e1 e2=>⟨.frame,.inl rfl,looks_keeper e1 e2⟩) ?_
    have harg:=ra.use (σ:={ σ with H:=H0 }) (pos:=pos) hA F1 a1.rep e1 (Q:=fun vs' s'=>(∃ o fd,s'.heap.get? a = some o ∧ o.data = .func fd) ∧ wpAny (model X.prog X.w) A (PySem.call (.ref a) ([] ++ vs') []) (fun _ _=>False) (RaisedBy X φ μ ν s H' σ.C NoFree msg) s') (E:=RaisedBy X φ μ ν s H' σ.C NoFree msg)
      fun xs s2 μ2 a2 F2 r2=>⟨?_,wpAny_mono (cv.call (kv:=none) (Q:=fun _ _=>False) hA a2.rep (r1.aft a1.rep a2) r2 rfl em) (fun _ _ h=>h) fun _ _ h=>h.after R (a1.trans a2)⟩
    · rw [he env] at harg ⊢
      exact Calls.evalArgs_plain harg
    · exact ⟨o,fd,(a2.keeps a o (fun q=>q.elim (fun q=>a1.rep.not_stable q.mut ho (.inr (.inr ⟨fd,hdd⟩))) False.elim) ho).nd (fun _ _ d=>by rw [hdd] at d; cases d),hdd⟩
  · cases em
set_option tactic.hygienic true in
theorem RXE_callK {x : Str} {np pos kp : Pos} {e ke : PySem.Expr} {rest : List PySem.Expr} {fm km : Xm} {disp : V → Option FCallE} {args : Xms} (rf : RX X φ n nm (.Name x np) fm) (hd : ∀ v f,disp v = some f → CallVE X φ n v f) (ra : RXs X φ n nm (e :: rest) args) (rk : RX X φ n nm ke km)
    (he : ∀ env,starEach (e :: rest) env = (false,eval e env) :: starEach rest env:=by intro _; rfl) (hplain : ∀ env,(backTo pos (starEach rest env)).any (·.1) = false:=by intro _; rfl) :
    RXE X φ n nm (.Call (.Name x np) (e :: rest) [⟨some "key",ke,kp⟩] pos) (eCallK fm disp args km):=fun A env σ s μ ν msg H' hA F R em=>by
  revert em; refine m_VH fun fv H0 e0 em=>?_
  split at em
  · rename_i f ef
    revert em; refine m_VsH fun vs H1 e1 em=>?_
    revert em; refine m_VH fun kv H2 e2 em=>?_
    refine wpAny_Call_ofName (rf.use hA F R e0 fun x' s1 μ1 a1 F1 r1=>?_)
    have cv:=hd fv f ef
    obtain ⟨a,o,fd,rfl,ho,hdd⟩:=cv.obj s1 μ1 ν H0 σ.C x' a1.rep r1
    refine callWith_of (P:=fun h=>∃ o fd,h.get? a = some o ∧ o.data = .func fd) (by rw [he env]; show ((false || (backTo pos (starEach rest env)).any (·.1)) || false) = false; rw [hplain env]; rfl)
      (fun h q=>e2a2 q fun o fd e1 e2=>⟨.frame,.inl rfl,looks_keeper e1 e2⟩) ?_
    refine evalArgs_kw2 rfl (ra.use (σ:={ σ with H:=H0 }) (pos:=pos) hA F1 a1.rep e1 fun xs s2 μ2 a2 F2 r2=>?_) (he env)
    show wpAny _ A (evalAll [do let v ← eval ke env; standAt pos; pure v]) _ _ s2
    refine wpAny_evalAll_cons (wpAny_bind (rk.use (σ:={ σ with H:=H1 }) hA F2 a2.rep e2 fun k' s3 μ3 a3 F3 r3=>wpAny_bind (wpAny_standAt (wpAny_pure (wpAny_evalAll_nil ?_)))))
    have a23:=a2.trans a3
    refine ⟨⟨o,fd,(a23.keeps a o (fun q=>q.elim (fun q=>a1.rep.not_stable q.mut ho (.inr (.inr ⟨fd,hdd⟩))) False.elim) ho).nd (fun _ _ d=>by rw [hdd] at d; cases d),hdd⟩,?_⟩
    exact wpAny_mono (cv.call (kws:=[(("key" : Str),k')]) (kv:=some kv) (Q:=fun _ _=>False) hA a3.rep (r1.aft a1.rep a23) (r2.aft a2.rep a3) ⟨k',rfl,r3⟩ em) (fun _ _ h=>h.elim) fun _ _ h=>h.after R (a1.trans a23)
  · cases em
noncomputable def fnSemE (d : Df) (full : Full) (m : Em) : FCallE:=fun vs kv C H=>match full vs kv with
  | some fv=>(match m (entry d fv C H) with
    | some (msg,H2)=>some (msg,H2.take H.length)
    | none=>none)
  | none=>none
set_option tactic.hygienic true in
theorem FnOkE (O : XOk X) {a : Addr} {d : Df} {full : Full} {m : Em} (D : DfOk d) (T : FnAt X a d) (B : BindOk X a d full) (hb : ∀ env,RSsE X (env :: φ) n d.nm d.body m) : CallE X φ (n + 1) a (fnSemE d full m):=fun A s μ ν H C xs kws vs kv msg H' hA R rxs rk em=>by
  unfold fnSemE at em
  revert em; refine m_Vs fun fv efull em=>?_
  split at em
  · rename_i msg' H2 e2
    cases em
    refine FnEnter O D T B hA R rxs rk efull fun env s1 bs hW keep1 hfrm hA1 F1 R1=>?_
    refine wpAny_mono (hb env (A.deeper env) env (entry d fv C H) s1 μ (ν ++ bs) msg H2 hA1 F1 R1 e2) (fun _ _ h=>h.elim) fun x s2 hx=>?_
    obtain ⟨ea,μ2,tb,rfl,Fl⟩:=hx
    refine Fl.leave hA1.frames hA1.kinds hfrm fun s3 T F3=>?_
    obtain ⟨a3,hbase,hfr,oe,vs',t,he,hc,hd,h0,ht,htb⟩:=F3
    refine e0a2 (Aft.leave (κ:=[]) (ls:=[]) R hW keep1 (a3.weaken fun _ q=>q.elim) List.nodup_nil (fun _ h=>nomatch h) rfl) fun a4 hn=>?_
    have low : ∀ b,s1.heap.get? b = none → s.heap.get? b = none:=fun b hb=>by
      cases q : s.heap.get? b with
      | none=>rfl
      | some o=>rw [keep1 b o q] at hb; cases hb
    refine ⟨ea,_,T,rfl,⟨by simpa using a4,R.keep,low _ hfr,oe,vs',t,he,hc,hd,h0,?_,htb.h1,low _ htb.f1,htb.f2,htb.ex⟩⟩
    cases ht
    rename_i its m' e' r'
    exact .tup e' (VRs.flat r' rfl)
  · cases em
end
end Mine
namespace Mine
section
variable {X : Cx} {n : Nat} {nm : Nm}
theorem Flies.flight0 {φ : List Env} {A : Around} {μ ν μ' : List Addr} {s0 s' : Shared} {H : List L} {C : List (Option V)} {free : Addr → Prop} {e T : Addr} {msg : Str} {Q : Unit → Shared → Prop} {E : Value → Shared → Prop}
    (Fl : Flies X φ μ ν s0 H C μ' s' free e msg (some T)) (h : ∀ s'',Flies X φ μ ν s0 H C μ' s'' free e msg (some T) → Q () s'') : wpAny (model X.prog X.w) A (setFlight (.ref e) none) Q E s':=by
  have Fl0:=Fl
  obtain ⟨a,hbase,hfresh,oe,vs,t,he,hc,hd,h0,ht,h1,hT0,hTe,oT,ts,f3,f4,f5,f6⟩:=Fl
  have hsz3 : 3 < ts.size:=(Array.getElem?_eq_some_iff.mp f6).1
  unfold setFlight
  refine wpAny_bind (wpAny_field he hd h1 ?_)
  rw [if_pos (show (Value.ref T != Value.none) = true from by simp)]
  refine wpAny_setField f3 f5 hsz3 ?_
  have s3:=Heap.SameBut.update s'.heap T (Obj.mapFields (·.setIfInBounds 3 ((none : Option Addr).elim Value.none fun f=>rawInt f)))
  have hd3:=Obj.data_mapFields f5 (·.setIfInBounds 3 ((none : Option Addr).elim Value.none fun f=>rawInt f))
  have hT3:=Heap.get?_update_self (Obj.mapFields (·.setIfInBounds 3 ((none : Option Addr).elim Value.none fun f=>rawInt f))) f3 (Obj.isFreed_of_fields hd3)
  generalize s'.heap.update T (Obj.mapFields (·.setIfInBounds 3 ((none : Option Addr).elim Value.none fun f=>rawInt f))) = h3 at s3 hT3 ⊢
  have nT : ∀ b ∈ frsOf φ,b ≠ T:=fun b hb z=>by
    refine e2a1 ((a.rep.frs b hb).2.2.not_stable (z ▸ f3)) fun es ep d=>?_
    rw [f5] at d; cases d
  have step : ExStep φ e (some T) s'.heap h3:=⟨fun b o hb hbe hbT eb=>(s3.2 b (hbT T rfl)).trans eb,fun b hb o eb=>⟨o.slots,(s3.2 b (nT b hb)).trans eb⟩⟩
  refine e0a2 (Fl0.step step) fun a3 st3=>?_
  refine h { s' with heap:=h3 } ⟨a3,hbase,hfresh,_,_,t,(s3.2 e (Ne.symm hTe)).trans he,hc,hd,h0,ht.mono st3 (List.prefix_refl _) (List.prefix_refl _),h1,hT0,hTe,_,_,hT3,?_,hd3,?_⟩
  · rw [Obj.cls_mapFields]; exact f4
  · simp [hsz3]
theorem store_other (N : NmOk nm) {φ : List Env} {A : Around} {env : Env} {loc : List (Option V)} {cel : List Nat} {s : Shared} {μ ν : List Addr} {H : List L} {C : List (Option V)} {x : Str} {v' : Value} {Q : Unit → Shared → Prop} {E : Value → Shared → Prop}
    (F : FrOk X φ nm env loc cel μ ν s.heap) (R : Rep X φ μ ν H C s) (hx : x ∉ nm.loc) (hl : nm.scope.names.lookup x = some .local)
    (h : ∀ s' m',Aft X φ μ ν s H C μ s' (LocF env) → FrOk X φ nm env loc cel μ ν s'.heap → s'.heap.Ns env.locals m' → m' x = some v' → (∀ b,b ≠ env.locals → s'.heap.get? b = s.heap.get? b) → Q () s') : wpAny (model X.prog X.w) A (storeName env x v') Q E s:=by
  refine e1a2 F.ns fun m hn hm=>?_
  have hn0:=hn
  refine e3a3 hn fun oL es ep hL hLd _=>?_
  refine wpAny_storeName_local ((F.kindOf x).trans hl) hn0 (fun h' hn' hs'=>?_) (F.notModule N)
  have hext:=hs'.extBut
  have R' : Rep X φ μ ν H C { s with heap:=h',toks:=s.toks + 1 }:=R.upd hext hL (not_stable_dict hLd) F.own.1 F.own.2 (.inr (.inl (let ⟨o,es,ep,e,d,_⟩:=hn'; ⟨o,es,ep,e,d⟩)))
  have st : Stab s.heap h':=fun b o e sb=>hext b o (fun z=>by subst z; rw [hL] at e; cases e; exact not_stable_dict hLd sb) e
  obtain ⟨oL',es',ep',hL',r'⟩:=id hn'
  refine h _ _ ⟨List.prefix_refl _,fun _ q=>.inl q,R',fun b o q e=>.inl (hext b o (fun z=>q (.inr z)) e),fun b o e=>?_⟩ ?_ hn' (by simp) fun b hb=>hs'.2 b hb
  · by_cases z : b = env.locals
    · subst z; exact ⟨_,hL'⟩
    · exact ⟨o,hext b o z e⟩
  · exact
    { top:=F.top,scope:=F.scope,glob:=F.glob,bui:=F.bui,qual:=F.qual,own:=F.own,cell:=F.cell,code:=F.code,ownc:=F.ownc
      ns:=⟨_,hn',fun j y w e1 e2=>by
        refine e1a2 (hm j y w e1 e2) fun w' e q=>?_
        have hne : y ≠ x:=fun z=>hx (z ▸ List.mem_of_getElem? e1)
        exact ⟨w',by simp only [hne,if_false]; exact e,q.mono st (List.prefix_refl _) (List.prefix_refl _)⟩⟩ }
theorem name_goes (N : NmOk nm) {φ : List Env} {A : Around} {env : Env} {loc : List (Option V)} {cel : List Nat} {s : Shared} {μ ν : List Addr} {H : List L} {C : List (Option V)} {x : Str} {pos : Pos} {Q : Unit → Shared → Prop} {E : Value → Shared → Prop}
    (F : FrOk X φ nm env loc cel μ ν s.heap) (R : Rep X φ μ ν H C s) (hx : x ∉ nm.loc) (hl : nm.scope.names.lookup x = some .local)
    (h : ∀ s',Aft X φ μ ν s H C μ s' (LocF env) → FrOk X φ nm env loc cel μ ν s'.heap → Q () s') : wpAny (model X.prog X.w) A (do bindName env x .none; unbindBehindTheSuite env x pos) Q E s:=by
  have hk : env.kindOf x = some .local:=(F.kindOf x).trans hl
  have hp:=F.notModule N
  refine wpAny_bind (wpAny_bindName (store_other (E:=E) N F R hx hl fun s1 m1 a1 F1 hn1 hm1 _=>?_))
  unfold unbindBehindTheSuite
  refine wpAny_onRaise ?_
  unfold unbindName
  refine wpAny_bind (wpAny_point (wpAny_bind ?_))
  unfold deleteName
  simp only [hk,hp]
  rw [if_neg (by decide)]
  refine e1a2 F1.ns fun m hnm hm=>?_
  have hnm0:=hnm
  refine e3a3 hnm fun oL es ep hL hLd _=>?_
  refine wpAny_bind (wpAny_nsDel_keeps hnm0 fun h' v hn' hs'=>?_)
  have hsome : (m x).isSome = true:=by
    have : m x = m1 x:=by
      refine e3a4 hn1 fun o es1 ep1 e1 d1 _ r1=>?_
      refine e3a4 hnm0 fun o2 es2 ep2 e2 d2 _ r2=>?_
      rw [e1] at e2; cases e2
      rw [d1] at d2; cases d2
      rw [← r1 x,← r2 x]
    rw [this,hm1]; rfl
  rw [hsome]
  simp only [if_true,Bool.not_true,Bool.false_eq_true,if_false]
  have hext:=hs'.extBut
  have R1:=a1.rep
  have R' : Rep X φ μ ν H C { s1 with heap:=h' }:=R1.upd (tk:=s1.toks) hext hL (not_stable_dict hLd) F1.own.1 F1.own.2 (.inr (.inl (let ⟨o,es,ep,e,d,_⟩:=hn'; ⟨o,es,ep,e,d⟩)))
  have st : Stab s1.heap h':=fun b o e sb=>hext b o (fun z=>by subst z; rw [hL] at e; cases e; exact not_stable_dict hLd sb) e
  obtain ⟨oL',es',ep',hL',r'⟩:=id hn'
  have a2 : Aft X φ μ ν s1 H C μ { s1 with heap:=h' } (LocF env):=⟨List.prefix_refl _,fun _ q=>.inl q,R',fun b o q e=>.inl (hext b o (fun z=>q (.inr z)) e),fun b o e=>by
    by_cases z : b = env.locals
    · subst z; exact ⟨_,hL'⟩
    · exact ⟨o,hext b o z e⟩⟩
  refine wpAny_pure (wpAny_point (h _ (a1.trans a2) ?_))
  exact
    { top:=F1.top,scope:=F1.scope,glob:=F1.glob,bui:=F1.bui,qual:=F1.qual,own:=F1.own,cell:=F1.cell,code:=F1.code,ownc:=F1.ownc
      ns:=⟨_,hn',fun j y w e1 e2=>by
        refine e1a2 (hm j y w e1 e2) fun w' e q=>?_
        have hne : y ≠ x:=fun z=>hx (z ▸ List.mem_of_getElem? e1)
        exact ⟨w',by simp only [hne,if_false]; exact e,q.mono st (List.prefix_refl _) (List.prefix_refl _)⟩⟩ }
noncomputable def RH (X : Cx) (φ : List Env) (n : Nat) (nm : Nm) (x : Str) (suite : List Stmt) (msg : Str) (g : Sm) : Prop :=
  ∀ (A : Around) (env : Env) (σ : S) (s : Shared) (μ ν : List Addr) (ea t : Addr) (m : Str → Option Value) (f : Fl) (σ' : S),A.units + 64 < cLine → A.frames = some φ → FrOk X φ nm env σ.loc σ.cel μ ν s.heap → Rep X φ μ ν σ.H σ.C s →
    s.heap.ExcAt ea "ValueError" (.ref t) → VR X s.heap μ ν (.ref t) (.tup [.str msg]) → s.heap.Ns env.locals m → m x = some (.ref ea) → g σ = some (f,σ') →
    wpAny (model X.prog X.w) A (execs suite env) (fun f' s'=>∃ μ',Aft X φ μ ν s σ'.H σ.C μ' s' NoFree ∧ FlR X s'.heap μ' ν f' f ∧ σ'.loc = σ.loc ∧ σ'.cel = σ.cel ∧ σ'.C = σ.C) (fun _ _=>False) s
noncomputable def sTry (m : Em) (g : Str → Sm) : Sm:=fun σ=>match m σ with
  | some (msg,H)=>g msg { σ with H:=H }
  | none=>none
theorem note_env {e0 env : Env} (h : e0.frame = env.frame) (e : Value) : noteFrame e env = noteFrame e e0:=by
  unfold noteFrame PySem.frameOf
  rw [h]
set_option tactic.hygienic true in
theorem RS_try (O : XOk X) (N : NmOk nm) {φ : List Env} {x : Str} {i : Nat} {body suite : List Stmt} {b₀ : Stmt} {tp hpos pos : Pos} {m : Em} {g : Str → Sm} (hx : x ∉ nm.loc) (hl : nm.scope.names.lookup x = some .local) (hi : nm.glb[i]? = some "ValueError") (hg : X.mg "ValueError" = none)
    (rb : RSsE X φ n nm body m) (rh : ∀ msg,RH X φ n nm x (b₀ :: suite) msg (g msg)) : RS X φ n nm (.Try body [.ExceptHandler (some (.Name "ValueError" tp)) (some x) (b₀ :: suite) hpos] [] [] pos) (sTry m g):=fun A env σ s μ ν f σ' hA F R em=>by
  unfold sTry at em
  split at em
  · rename_i msg H1 e1
    refine wpAny_Try_except (wpAny_mono (rb A env σ s μ ν msg H1 hA F R e1) (fun _ _ h=>h.elim) fun e s1 hr=>?_)
    refine e3a2 hr fun ea μ1 tb hr3 Fl=>?_; subst hr3
    refine e2a2 F.top fun e0 φ0 hr2 hfe=>?_; subst hr2
    obtain ⟨_,L0,hL0⟩:=hA.kinds e0 List.mem_cons_self
    rw [note_env hfe]
    refine Fl.noted hA.frames hA.kinds hL0 fun s2 T Fl2 _ _=>?_
    refine wpAny_handleBy_builtin_as (X:="ValueError") (T:="ValueError") (b:=true) PySem.F.isExc_ValueError (by first | (rw [isSubtype_type]; kernel_rfl) | decide) PySem.F.self_ValueError ?_
    have F2:=F.aft R Fl2.aft
    refine name_builtin (b:=.type "ValueError") O N hi hg PyProof.Rows.Boot.«ValueError» F2 Fl2.aft.rep ⟨rfl,?_,?_⟩
    · obtain ⟨oe,vs,t,he,hc,_⟩:=Fl2.exc
      exact ⟨oe,he,hc⟩
    simp only [if_true]
    refine Fl2.flight0 fun s3 Fl3=>?_
    have F3:=F.aft R Fl3.aft
    obtain ⟨oe,vs,t,he,hc,hd,h0,ht,_⟩:=id Fl3.exc
    have hea : ea ≠ env.locals:=fun z=>by
      obtain ⟨m0,⟨oL,es,ep,hL,hLd,_⟩,_⟩:=F3.ns
      rw [← z,he] at hL; cases hL
      rw [hd] at hLd; cases hLd
    refine store_other N F3 Fl3.aft.rep hx hl fun s4 m4 a4 F4 hn4 hm4 hk4=>?_
    have st4 : Stab s3.heap s4.heap:=F3.stabL Fl3.aft.rep a4.keeps
    refine wpAny_mono (rh msg (A.mark (some (.ref ea))) env { σ with H:=H1 } s4 μ1 ν ea t m4 f σ' hA.u64 hA.frames F4 a4.rep ⟨oe,vs,(hk4 ea hea).trans he,hc,hd,h0⟩ (ht.mono st4 (List.prefix_refl _) (List.prefix_refl _)) hn4 hm4 em) (fun f5 s5 h5=>?_) fun _ _ h=>h.elim
    refine e1a5 h5 fun μ5 a5 q5 hl5 hc5 hC5=>?_
    have F5:=F4.aft a4.rep a5
    refine name_goes (E:=fun _ _=>False) N F5 a5.rep hx hl fun s6 a6 F6=>?_
    have st6 : Stab s5.heap s6.heap:=F5.stabL a5.rep a6.keeps
    refine ⟨μ5,?_,?_,?_⟩
    · have a34 : Aft X (e0 :: φ0) μ ν s H1 σ.C μ1 s4 (FrW nm env):=(Fl3.aft.weaken fun _ q=>q.elim).trans (a4.weaken fun _ q=>.inl q)
      rw [hC5]
      exact (a34.trans (a5.weaken fun _ q=>q.elim)).trans (a6.weaken fun _ q=>.inl q)
    · rw [hl5,hc5]; exact F6
    · cases f5 <;> cases f <;> first | exact q5 | exact q5.mono st6 (List.prefix_refl _) (List.prefix_refl _) | exact q5.elim
  · cases em
end
end Mine
namespace Mine
section
variable {X : Cx} {n : Nat} {nm : Nm}
noncomputable abbrev Acc:=S → Option V
noncomputable def RX0 (X : Cx) (φ : List Env) (nm : Nm) (e : PySem.Expr) (g : Acc) : Prop :=
  ∀ (A : Around) (env : Env) (σ : S) (s : Shared) (μ ν : List Addr) (v : V) (Q E : Value → Shared → Prop),FrOk X φ nm env σ.loc σ.cel μ ν s.heap → Rep X φ μ ν σ.H σ.C s → g σ = some v →
    (∀ v',VR X s.heap μ ν v' v → Q v' s) → wpAny (model X.prog X.w) A (eval e env) Q E s
noncomputable def eqAcc (a b : Acc) : S → Option Bool:=fun σ=>match a σ,b σ with
  | some x,some y=>(match datOf σ.H 8 x,datOf σ.H 8 y with
    | some d,some e=>if SeqAt.shaped d && SeqAt.shaped e then some (PyData.eqv d e) else none
    | _,_=>none)
  | _,_=>none
set_option tactic.hygienic true in
theorem cmp0 {φ : List Env} {A : Around} {env : Env} {σ : S} {s : Shared} {μ ν : List Addr} {l r : PySem.Expr} {op : CmpOp} {a b : Acc} {q res : Bool} {Q : Value → Shared → Prop} {E : Value → Shared → Prop} (hu : A.units + 64 < cLine) (F : FrOk X φ nm env σ.loc σ.cel μ ν s.heap) (R : Rep X φ μ ν σ.H σ.C s)
    (ra : RX0 X φ nm l a) (rb : RX0 X φ nm r b) (eq : eqAcc a b σ = some q) (hop : (op = .Eq ∧ res = q) ∨ (op = .NotEq ∧ res = !q))
    (h : Q (.bool res) s) : wpAny (model X.prog X.w) A (eval l env) (fun x1 s1=>wpAny (model X.prog X.w) A (eval r env) (fun x2 s2=>wpAny (model X.prog X.w) A (compareOp op x1 x2) Q E s2) E s1) E s:=by
  unfold eqAcc at eq
  split at eq
  · rename_i x y ea eb
    split at eq
    · rename_i d e hd he
      revert eq; refine if_e fun hs eq=>?_
      cases eq
      simp only [Bool.and_eq_true] at hs
      refine (ra A env σ s μ ν x _ _ F R ea fun x' r1=>rb A env σ s μ ν y _ _ F R eb fun y' r2=>?_)
      refine e1a1 (reads_of R 8 x x' d r1 hd) fun as q1=>?_
      refine e1a1 (reads_of R 8 y y' e r2 he) fun bs q2=>?_
      rcases hop with ⟨rfl,rfl⟩ | ⟨rfl,rfl⟩
      · exact SeqAt.compareEq_shaped q1 q2 hs.1 hs.2 hu h
      · exact SeqAt.compareNe_shaped q1 q2 hs.1 hs.2 hu h
    · cases eq
  · cases eq
theorem VR.err {h : Heap} {μ ν : List Addr} {t : Addr} {msg : Str} (r : VR X h μ ν (.ref t) (.tup [.str msg])) : ∃ tk m',h.get? t = some { cls:=.type "tuple",data:=.seq (List.toArray [Value.str msg tk]) m' }:=by
  generalize hx : Value.ref t = x at r
  revert hx
  exact r.tup_e fun a its n e rs hx=>by
    cases hx
    revert e
    exact rs.e1 (P:=fun its=>h.get? t = some { cls:=.type "tuple",data:=.seq (List.toArray its) n } → _) fun x rx e=>by
      revert e
      exact rx.str_e (P:=fun x=>h.get? t = some { cls:=.type "tuple",data:=.seq (List.toArray [x]) n } → _) fun tk e=>⟨tk,n,e⟩
theorem cmp_error (O : XOk X) (N : NmOk nm) {φ : List Env} {A : Around} {env : Env} {σ : S} {s : Shared} {μ ν : List Addr} {x : Str} {i k : Nat} {np xp cp kp : Pos} {msg : Str} {op : CmpOp} {res : Bool} {ea t : Addr} {m : Str → Option Value} {Q : Value → Shared → Prop} {E : Value → Shared → Prop}
    (hu : A.units + 64 < cLine) (F : FrOk X φ nm env σ.loc σ.cel μ ν s.heap) (R : Rep X φ μ ν σ.H σ.C s) (hl : nm.scope.names.lookup x = some .local) (hdb : (x == ("__debug__" : Str)) = false) (hi : nm.glb[i]? = some "str") (hg : X.mg "str" = none)
    (hx : s.heap.ExcAt ea "ValueError" (.ref t)) (ht : VR X s.heap μ ν (.ref t) (.tup [.str msg])) (hn : s.heap.Ns env.locals m) (hm : m x = some (.ref ea)) (hok : SeqAt.shaped (.str msg) = true) (hop : (op = .Eq ∧ res = true) ∨ (op = .NotEq ∧ res = false))
    (h : ∀ tk,Q (.bool res) { s with toks:=tk }) : wpAny (model X.prog X.w) A (eval (.Call (.Name "str" np) [.Name x xp] [] cp) env) (fun x1 s1=>wpAny (model X.prog X.w) A (eval (.Constant (.str msg) k kp) env) (fun x2 s2=>wpAny (model X.prog X.w) A (compareOp op x1 x2) Q E s2) E s1) E s:=by
  refine wpAny_Call_ofName (name_builtin (b:=.type "str") O N hi hg PyProof.Rows.Boot.str F R ?_)
  refine callWith_excType rfl (Calls.evalArgs_plain (wpAny_items_cons (wpAny_Name (wpAny_loadName_local (by rw [F.scope]; exact N.kind) ((F.kindOf x).trans hl) hn hm (wpAny_items_nil ?_)) hdb) rfl))
  refine e2a1 ht.err fun tk m' e'=>?_
  show wpAny _ A (call (.type "str") [.ref ea]) _ _ s
  refine P.str_of_exc_one PySem.F.excStr_ValueError (by lia) hx (tk:=tk) ⟨_,m',e',rfl,rfl⟩ ?_
  refine Calls.Constant_str ?_
  have hself : PyData.eqv (.str msg) (.str msg) = true:=by simp [PyData.eqv]
  rcases hop with ⟨rfl,rfl⟩ | ⟨rfl,rfl⟩
  · refine SeqAt.compareEq_shaped (.str msg _) (.str msg _) hok hok hu ?_
    rw [hself]; exact h _
  · refine SeqAt.compareNe_shaped (.str msg _) (.str msg _) hok hok hu ?_
    rw [hself]; exact h _
noncomputable def gIfOr (lit : Str) (a b : Acc) : Str → Sm:=fun msg σ=>if msg = lit then (match eqAcc a b σ with
  | some true=>some (.next,σ)
  | some false=>some (.ret (.bool false),σ)
  | none=>none) else none
set_option tactic.hygienic true in
theorem RH_ifOr (O : XOk X) (N : NmOk nm) {φ : List Env} {x : Str} {i k k' : Nat} {np xp cp kp p1 p2 bp rp fp ip : Pos} {lit : Str} {l r : PySem.Expr} {a b : Acc} (hl : nm.scope.names.lookup x = some .local) (hdb : (x == ("__debug__" : Str)) = false) (hi : nm.glb[i]? = some "str") (hg : X.mg "str" = none) (hok : SeqAt.shaped (.str lit) = true)
    (ra : RX0 X φ nm l a) (rb : RX0 X φ nm r b) (hm1 : behindInMarks .NotEq (.Constant (.str lit) k kp) = false:=by with_unfolding_all rfl) (hm2 : behindInMarks .NotEq r = false:=by with_unfolding_all rfl) (msg : Str) :
    RH X φ n nm x [.If (.BoolOp .Or [.Compare (.Call (.Name "str" np) [.Name x xp] [] cp) [.NotEq] [.Constant (.str lit) k kp] p1,.Compare l [.NotEq] [r] p2] bp) [.Return (some (.Constant (.bool false) k' fp)) rp] [] ip] msg (gIfOr lit a b msg):=fun A env σ s μ ν ea t m f σ' hu hfr F R hx ht hn hm em=>by
  revert em; refine if_e fun hmsg em=>?_
  subst hmsg
  have key : ∀ q,eqAcc a b σ = some q → ∀ (Q : Bool → Shared → Prop) (E : Value → Shared → Prop),(∀ tk,Q (!q) { s with toks:=tk }) → wpAny (model X.prog X.w) A (isTrue (.BoolOp .Or [.Compare (.Call (.Name "str" np) [.Name x xp] [] cp) [.NotEq] [.Constant (.str msg) k kp] p1,.Compare l [.NotEq] [r] p2] bp) env (eval (.BoolOp .Or [.Compare (.Call (.Name "str" np) [.Name x xp] [] cp) [.NotEq] [.Constant (.str msg) k kp] p1,.Compare l [.NotEq] [r] p2] bp) env)) Q E s:=by
    intro q eq Q E hQ
    refine wpAny_isTrue_BoolOp (wpAny_allTrue_Or_cons ?_)
    refine wpAny_isTrue_Compare1 (cmp_error O N hu F R hl hdb hi hg hx ht hn hm hok (.inr ⟨rfl,rfl⟩) fun tk=>wpAny_truthy_bool ?_) hm1
    have a1 : Aft X φ μ ν s σ.H σ.C μ { s with toks:=tk } NoFree:=.tok R tk
    have F1:=F.aft R a1
    simp only [Bool.false_eq_true,if_false]
    refine wpAny_allTrue_Or_cons (wpAny_isTrue_Compare1 (cmp0 (σ:=σ) (res:=!q) hu F1 a1.rep ra rb eq (.inr ⟨rfl,rfl⟩) (wpAny_truthy_bool ?_)) hm2)
    cases q with
    | true=>exact wpAny_allTrue_Or_nil (hQ tk)
    | false=>exact hQ tk
  split at em
  · rename_i eq
    refine ret_e em ?_
    refine wpAny_execs_cons (wpAny_If (key true eq _ _ fun tk=>?_))
    have a1 : Aft X φ μ ν s σ.H σ.C μ { s with toks:=tk } NoFree:=.tok R tk
    exact wpAny_execs_nil (wpAny_execs_nil ⟨μ,a1,trivial,rfl,rfl,rfl⟩)
  · rename_i eq
    refine ret_e em ?_
    refine wpAny_execs_cons (wpAny_If (key false eq _ _ fun tk=>?_))
    have a1 : Aft X φ μ ν s σ.H σ.C μ { s with toks:=tk } NoFree:=.tok R tk
    exact wpAny_execs_cons (wpAny_Return_some (Constant_bool ⟨μ,a1,.bool false,rfl,rfl,rfl⟩))
  · cases em
end
end Mine
namespace Mine
noncomputable def noE : PySem.Expr:=.Constant .none 0 ⟨0,0,0,0⟩
noncomputable def fnParts (p : Program) (i : Nat) : Arguments × List Stmt × Scope:=match p.main.body[i]? with
  | some (.FunctionDef _ a b _ _ _ s _ _ _)=>(a,b,s)
  | _=>default
noncomputable def fnBody (p : Program) (i : Nat) : List Stmt:=(fnParts p i).2.1
noncomputable def fnArgs (p : Program) (i : Nat) : Arguments:=(fnParts p i).1
noncomputable def fnScope (p : Program) (i : Nat) : Scope:=(fnParts p i).2.2
noncomputable def xNth (i : Nat) (l : List PySem.Expr) : PySem.Expr:=l[i]?.getD noE
noncomputable def xSt (i : Nat) (l : List Stmt) : Stmt:=l[i]?.getD (.Pass ⟨0,0,0,0⟩)
noncomputable def sParts : Stmt → PySem.Expr × List Stmt × List Stmt
  | .Assign _ v _=>(v,[],[])
  | .Expr v _=>(v,[],[])
  | .Return v _=>(v.getD noE,[],[])
  | .AugAssign _ _ v _=>(v,[],[])
  | .If t b e _=>(t,b,e)
  | .While t b _ _=>(t,b,[])
  | .For _ i b _ _=>(i,b,[])
  | .Try b _ _ _ _=>(noE,b,[])
  | _=>(noE,[],[])
noncomputable def sValue (s : Stmt) : PySem.Expr:=(sParts s).1
noncomputable def sTest (s : Stmt) : PySem.Expr:=(sParts s).1
noncomputable def sBody (s : Stmt) : List Stmt:=(sParts s).2.1
noncomputable def sElse (s : Stmt) : List Stmt:=(sParts s).2.2
noncomputable def eParts : PySem.Expr → List PySem.Expr × List Keyword × Scope × Arguments
  | .BinOp l _ r _=>([l,r],[],default,default)
  | .BoolOp _ vs _=>(vs,[],default,default)
  | .Compare l _ rs _=>(l :: rs,[],default,default)
  | .Tuple es _ _=>(es,[],default,default)
  | .List es _=>(es,[],default,default)
  | .Call _ as ks _=>(as,ks,default,default)
  | .Lambda a b s _=>([b],[],s,a)
  | .ListComp e _ s _=>([e],[],s,default)
  | _=>([],[],default,default)
noncomputable def bLeft (e : PySem.Expr) : PySem.Expr:=xNth 0 (eParts e).1
noncomputable def bRight (e : PySem.Expr) : PySem.Expr:=xNth 1 (eParts e).1
noncomputable def cLeft (e : PySem.Expr) : PySem.Expr:=xNth 0 (eParts e).1
noncomputable def cRight (e : PySem.Expr) : PySem.Expr:=xNth 1 (eParts e).1
noncomputable def tElts (e : PySem.Expr) : List PySem.Expr:=(eParts e).1
noncomputable def kArgs (e : PySem.Expr) : List PySem.Expr:=(eParts e).1
noncomputable def kKw (i : Nat) (e : PySem.Expr) : PySem.Expr:=xNth i ((eParts e).2.1.map fun (k : Keyword)=>k.value)
noncomputable def lamArgs (e : PySem.Expr) : Arguments:=(eParts e).2.2.2
noncomputable def lamBody (e : PySem.Expr) : PySem.Expr:=xNth 0 (eParts e).1
noncomputable def lamScope (e : PySem.Expr) : Scope:=(eParts e).2.2.1
noncomputable def lcScope (e : PySem.Expr) : Scope:=(eParts e).2.2.1
noncomputable def lcElt (e : PySem.Expr) : PySem.Expr:=xNth 0 (eParts e).1
noncomputable def gen (i : Nat) : PySem.Expr → Option Comprehension
  | .ListComp _ gs _ _=>gs[i]?
  | _=>none
section
variable {X : Cx} {φ : List Env} {n : Nat} {nm : Nm}
noncomputable def sNo : Sm:=fun _=>none
theorem RS_no {st : Stmt} : RS X φ n nm st sNo:=fun A env σ s μ ν f σ' hA F R em=>by cases em
noncomputable def dFn (k : Nat) (f : FCall) : V → Option FCall:=fun v=>match v with
  | .fn j=>if j = k then some f else none
  | _=>none
theorem dFn_ok {k : Nat} {a : Addr} {d : Df} {f : FCall} (hk : X.fn k = some a) (T : FnAt X a d) (c : CallOk X φ n a f) : ∀ v f',dFn k f v = some f' → CallV X φ n v f':=fun v f' e=>by
  unfold dFn at e
  split at e
  · revert e; refine if_e fun h e=>?_
    subst h; refine re1_e e ?_; exact .of_fn hk T c
  · cases e
noncomputable def dFnE (k : Nat) (f : FCallE) : V → Option FCallE:=fun v=>match v with
  | .fn j=>if j = k then some f else none
  | _=>none
theorem dFnE_ok {k : Nat} {a : Addr} {d : Df} {f : FCallE} (hk : X.fn k = some a) (T : FnAt X a d) (c : CallE X φ n a f) : ∀ v f',dFnE k f v = some f' → CallVE X φ n v f':=fun v f' e=>by
  unfold dFnE at e
  split at e
  · revert e; refine if_e fun h e=>?_
    subst h; refine re1_e e ?_; exact .of_fn hk T c
  · cases e
noncomputable def bisFull : Full:=fun vs kv=>match vs with
  | [a,x]=>some [a,x,.int 0,.none,kv.getD .none]
  | [a,x,lo]=>some [a,x,lo,.none,kv.getD .none]
  | [a,x,lo,hi]=>some [a,x,lo,hi,kv.getD .none]
  | _=>none
theorem BindOk.plain {a : Addr} {d : Df} {full : Full} (hf : ∀ vs kv fv,full vs kv = some fv → kv = none ∧ fv = vs ∧ vs.length = d.pars.length)
    (hB : ∀ fd o,X.h₀.get? a = some o → o.data = .func fd → ∀ (s : Shared) (xs : List Value),(∀ b o,X.h₀.get? b = some o → s.heap.get? b = some o) → xs.length = d.pars.length → BindsTo s fd ⟨xs,[]⟩ (d.pars.zip xs)) : BindOk X a d full:=fun fd o ho hd φ s μ ν H C xs kws vs kv fv R rxs rk ef=>by
  obtain ⟨rfl,rfl,hl⟩:=hf vs kv fv ef
  have hk : kws = []:=rk
  subst hk
  have hxl : xs.length = d.pars.length:=rxs.length.trans hl
  exact ⟨xs,rxs,hxl,hB fd o ho hd s xs R.keep hxl⟩
noncomputable def fullN (n : Nat) : Full:=fun vs kv=>match kv with | none=>if vs.length = n then some vs else none | some _=>none
theorem fullN_inv {n : Nat} {vs fv : List V} {kv : Option V} (e : fullN n vs kv = some fv) : kv = none ∧ fv = vs ∧ vs.length = n:=by
  unfold fullN at e
  split at e
  · revert e; refine if_e fun _ e=>?_
    refine re1_e e ?_; exact ⟨rfl,rfl,by assumption⟩
  · cases e
theorem BindOk.plainN {a : Addr} {d : Df} {full : Full} {n : Nat} (hd : d.pars.length = n) (hf : full = fullN n)
    (hB : ∀ fd o,X.h₀.get? a = some o → o.data = .func fd → ∀ (s : Shared) (xs : List Value),(∀ b o,X.h₀.get? b = some o → s.heap.get? b = some o) → xs.length = n → BindsTo s fd ⟨xs,[]⟩ (d.pars.zip xs)) : BindOk X a d full:=by
  subst hd hf
  exact BindOk.plain (fun vs kv fv e=>fullN_inv e) hB
@[elab_as_elim] theorem len_e0 {α : Type} {P : List α → Prop} {xs : List α} (h : xs.length = 0) (k : P []) : P xs:=by
  cases xs with
  | nil=>exact k
  | cons x xs=>cases h
@[elab_as_elim] theorem len_eS {α : Type} {P : List α → Prop} {xs : List α} {n : Nat} (h : xs.length = n + 1) (k : ∀ x ys,ys.length = n → P (x :: ys)) : P xs:=by
  cases xs with
  | nil=>cases h
  | cons x xs=>exact k x xs (by simpa using h)
theorem BindOk.bis {a : Addr} {d : Df} (hp : d.pars = (["a","x","lo","hi","key"] : List Str))
    (hB : ∀ fd o,X.h₀.get? a = some o → o.data = .func fd → ∀ (s : Shared),(∀ b o,X.h₀.get? b = some o → s.heap.get? b = some o) → ∃ t0,
      (∀ x y,BindsTo s fd ⟨[x,y],[]⟩ [("a",x),("x",y),("lo",.int 0 t0),("hi",.none),("key",.none)]) ∧
      (∀ x y k,BindsTo s fd ⟨[x,y],[("key",k)]⟩ [("a",x),("x",y),("lo",.int 0 t0),("hi",.none),("key",k)]) ∧
      (∀ x y z,BindsTo s fd ⟨[x,y,z],[]⟩ [("a",x),("x",y),("lo",z),("hi",.none),("key",.none)]) ∧
      (∀ x y z k,BindsTo s fd ⟨[x,y,z],[("key",k)]⟩ [("a",x),("x",y),("lo",z),("hi",.none),("key",k)]) ∧
      (∀ x y z u,BindsTo s fd ⟨[x,y,z,u],[]⟩ [("a",x),("x",y),("lo",z),("hi",u),("key",.none)]) ∧
      (∀ x y z u k,BindsTo s fd ⟨[x,y,z,u],[("key",k)]⟩ [("a",x),("x",y),("lo",z),("hi",u),("key",k)])) : BindOk X a d bisFull:=fun fd o ho hd φ s μ ν H C xs kws vs kv fv R rxs rk ef=>by
  refine e1a6 (hB fd o ho hd s R.keep) fun t0 b1 b2 b3 b4 b5 b6=>?_
  rw [hp]
  have kw : ∀ {kws : List (Str × Value)} {kv : Option V},KwR X s.heap μ ν kws kv → (kv = none ∧ kws = []) ∨ ∃ v k,kv = some v ∧ kws = [(("key" : Str),k)] ∧ VR X s.heap μ ν k v:=fun {kws kv} rk=>by
    cases kv with
    | none=>exact .inl ⟨rfl,rk⟩
    | some v=>obtain ⟨k,e,r⟩:=rk; exact .inr ⟨v,k,rfl,e,r⟩
  unfold bisFull at ef
  split at ef
  · cases ef
    refine rxs.e2 fun x y r1 r2=>?_
    rcases kw rk with ⟨rfl,rfl⟩ | ⟨v,k,rfl,rfl,rv⟩
    · exact ⟨[_,_,_,_,_],.cons r1 (.cons r2 (.cons (.int 0 t0) (.cons .none (.cons .none .nil)))),rfl,b1 _ _⟩
    · exact ⟨[_,_,_,_,_],.cons r1 (.cons r2 (.cons (.int 0 t0) (.cons .none (.cons rv .nil)))),rfl,b2 _ _ _⟩
  · cases ef
    refine rxs.e3 fun x y z r1 r2 r3=>?_
    rcases kw rk with ⟨rfl,rfl⟩ | ⟨v,k,rfl,rfl,rv⟩
    · exact ⟨[_,_,_,_,_],.cons r1 (.cons r2 (.cons r3 (.cons .none (.cons .none .nil)))),rfl,b3 _ _ _⟩
    · exact ⟨[_,_,_,_,_],.cons r1 (.cons r2 (.cons r3 (.cons .none (.cons rv .nil)))),rfl,b4 _ _ _ _⟩
  · cases ef
    refine rxs.e4 fun x y z q r1 r2 r3 r4=>?_
    rcases kw rk with ⟨rfl,rfl⟩ | ⟨v,k,rfl,rfl,rv⟩
    · exact ⟨[_,_,_,_,_],.cons r1 (.cons r2 (.cons r3 (.cons r4 (.cons .none .nil)))),rfl,b5 _ _ _ _⟩
    · exact ⟨[_,_,_,_,_],.cons r1 (.cons r2 (.cons r3 (.cons r4 (.cons rv .nil)))),rfl,b6 _ _ _ _ _⟩
  · cases ef
theorem hidden_get : ∀ (l : List Addr) {h : Heap} {P : Addr},P ∈ l → (hideAll h l).get? P = none:=by
  intro l
  induction l with
  | nil=>intro h P hP; cases hP
  | cons a r ih =>
    intro h P hP
    by_cases hr : P ∈ r
    · exact ih hr
    · have : P = a:=by
        rcases List.mem_cons.mp hP with e | e
        · exact e
        · exact absurd e hr
      subst this
      cases q : (hideAll h (P :: r)).get? P with
      | none=>rfl
      | some o =>
        have h2:=of_hideAll (h:=h.hide P) r q
        rw [Heap.hide_self] at h2; cases h2
theorem vrs_of_ints {h : Heap} {μ ν : List Addr} : ∀ {its : List Value} {xs : List Int},IntsAre its xs → VRs X h μ ν its (xs.map V.int):=fun q=>by
  induction q with
  | nil=>exact .nil
  | cons n t _ ih=>exact .cons (.int n t) ih
theorem join_end {a : Addr} {f : FCall} {H' : List L} {cw : ClaimW} {cl : Str → Option Addr} {mean : ExcName → Option Value} {args : List WData} {s : Shared} {x : Value} {vs : List V} {tabs : List (Addr × Addr)} (hs : X.s₀ = s) (hh : X.h₀ = ghostOf s.heap tabs) (ht : X.tabs.map (fun q=>(q.1,q.2.1)) = tabs) (hT : TabsAt tabs s.heap) (hg : s.gens = #[]) (hn : n ≤ 600)
    (c : CallOk X [] n a f) (rx : VR X s.heap [] [] x (.frz xs)) (ef : f [.frz xs] none [] [] = some (.bool true,H')) (hr : ∀ a x,cw.raises a x = false) (hp : cw.post args (.bool true) args = true) (hu : True)
    (hnt : X.ptabs.Nodup) :
    wpAny (model X.prog X.w) callerA (call (.ref a) [x]) (fun v s'=>GoodWG cw cl mean args s (.ok (.ret v)) s') (fun e s'=>GoodWG cw cl mean args s (.error e) s') s:=by
  have R : Rep X [] [] [] [] [] s :=
    { frs:=fun L h=>nomatch h
      same:=⟨s.heap,s.toks,by rw [hs]⟩
      keep:=fun b o e=>of_hideAll _ (hh ▸ e)
      lenH:=rfl
      lenC:=rfl
      nodup:=List.nodup_nil
      fresh:=fun a h=>by rcases h with h | h <;> cases h
      lists:=fun i a l e=>by cases e
      cells:=fun i a v e=>by cases e
      tabs:=fun q hq=>⟨#[],(hT (q.1,q.2.1) (by rw [← ht]; exact List.mem_map_of_mem hq)).2,by simp [TriplesOk],fun pos cv e=>by simp [codeAmong] at e⟩ }
  refine wpAny_call (codeAny_mono (R:=GoodWG cw cl mean args s) (kn_post hT hr (codeAny_mono (c callerA s [] [] [] [] [x] [] [.frz xs] none (.bool true) H' ⟨rfl,?_,?_,rfl,fun e h=>nomatch h⟩ R (.cons rx .nil) rfl ef) fun r s' hr'=>?_)) fun r s' h=>?_)
  · show 301 + n ≤ 990; lia
  · show 4 + 16 * n ≤ 9800; lia
  · obtain ⟨v',rfl,μ',a',r'⟩:=hr'
    refine r'.bool_e ?_
    refine e2a1 a'.rep.same fun h2 tk2 hsame=>?_
    refine ⟨⟨.inl ⟨.bool true,.bool true,[],rfl,fun cls=>hr _ _,?_,hp,fun _=>⟨List.nodup_nil,fun a h=>nomatch h⟩⟩,fun b o e=>a'.rep.keep b o (hh ▸ e),?_,?_⟩,?_⟩
    · exact .bool true
    · rw [hsame,hs]
    · rw [hsame,hs]; exact hg
    · have : ∀ q ∈ X.tabs,GrownAt q.2.1 s'.heap:=fun q hq=>let ⟨ps,e,_⟩:=a'.rep.tabs q hq; ⟨ps,e⟩
      have key : ∀ l : List (Addr × Addr × Str),(∀ q ∈ l,GrownAt q.2.1 s'.heap) → GrownAll (l.map fun q=>(q.1,q.2.1)) s'.heap:=fun l=>by
        induction l with
        | nil=>intro _; trivial
        | cons q l ih=>intro h; exact ⟨h q List.mem_cons_self,ih fun p hp=>h p (List.mem_cons_of_mem _ hp)⟩
      rw [← ht]; exact key _ this
  · cases r with
    | ok f=>cases f <;> first | exact h | (obtain ⟨⟨_,_,_,e,_⟩ | ⟨_,_,_,e,_⟩,_⟩:=h <;> cases e)
    | error e=>exact h
end
end Mine
namespace Mine
section
variable {X : Cx} {n : Nat} {nm nmc : Nm}
noncomputable abbrev Itm:=List L → Nat → Option (Option V)
noncomputable def compGoI (item : Itm) (put : Put) (t : Bm) (c : Cm) : Nat → Nat → Cm
  | 0,_=>fun _ _=>none
  | g + 1,k=>fun vs σ=>match item σ.H k with
    | some none=>some (vs,σ)
    | some (some v)=>(match put v σ with
      | some σ1=>(match t σ1 with
        | some (true,H)=>(match c vs { σ1 with H:=H } with
          | some (vs2,σ2)=>compGoI item put t c g (k + 1) vs2 σ2
          | none=>none)
        | some (false,H)=>compGoI item put t c g (k + 1) vs { σ1 with H:=H }
        | none=>none)
      | none=>none)
    | none=>none
theorem compGoI_iter {item : Itm} {put : Put} {t : Bm} {c : Cm} {fuel k : Nat} {vs : List V} {σ : S} {r : List V × S} (e : compGoI item put t c fuel k vs σ = some r) : ∃ r0,item σ.H k = some r0:=by
  cases fuel with
  | zero=>cases e
  | succ g =>
    unfold compGoI at e
    split at e
    · exact ⟨_,‹_›⟩
    · exact ⟨_,‹_›⟩
    · cases e
noncomputable def Turn (O : List Addr) (h h' : Heap) : Prop:=∀ b o,b ∉ O → h.get? b = some o → h'.get? b = some o
structure ItI (X : Cx) (φ : List Env) (target : PySem.Expr) (it : Addr) (O : List Addr) (item0 : Itm) (At : List Addr → List Addr → Heap → Nat → Prop) (Mid : List Addr → List Addr → Heap → Nat → Value → Prop) : Prop where
  live : ∀ {μ ν h k},At μ ν h k → ∀ b ∈ O,∃ o,h.get? b = some o ∧ ¬ Stable o ∧ ∀ es ep,o.data ≠ .dict es ep
  mlive : ∀ {μ ν h k x},Mid μ ν h k x → ∀ b ∈ O,∃ o,h.get? b = some o ∧ ¬ Stable o ∧ ∀ es ep,o.data ≠ .dict es ep
  mono : ∀ {μ μ' ν h h' k},At μ ν h k → Stab h h' → μ <+: μ' → (∀ b ∈ O,∀ o,h.get? b = some o → h'.get? b = some o) → At μ' ν h' k
  more : ∀ {μ ν bs h k},At μ ν h k → At μ (ν ++ bs) h k
  item : ∀ {A : Around} {s : Shared} {μ ν : List Addr} {H : List L} {C : List (Option V)} {k : Nat} {v : V} {Q : Option Value → Shared → Prop} {E : Value → Shared → Prop},A.handled = none → Rep X φ μ ν H C s → At μ ν s.heap k → (∀ b ∈ O,¬ Mut X μ ν b) → (∀ b ∈ O,X.h₀.get? b = none) → item0 H k = some (some v) →
    (∀ x s',Rep X φ μ ν H C s' → Turn O s.heap s'.heap → Mid μ ν s'.heap k x → VR X s'.heap μ ν x v → Q (some x) s') → wpAny (model X.prog X.w) A (pyNext (.ref it)) Q E s
  go : ∀ {A : Around} {s : Shared} {μ ν : List Addr} {H : List L} {C : List (Option V)} {k : Nat} {x : Value} {Q : Unit → Shared → Prop} {E : Value → Shared → Prop},A.handled = none → Rep X φ μ ν H C s → Mid μ ν s.heap k x → (∀ b ∈ O,¬ Mut X μ ν b) → (∀ b ∈ O,X.h₀.get? b = none) →
    (∀ s',Rep X φ μ ν H C s' → Turn O s.heap s'.heap → At μ ν s'.heap (k + 1) → Q () s') → wpAny (model X.prog X.w) A (letOwnedTupleGo target (.ref it) x) Q E s
  done : ∀ {A : Around} {s : Shared} {μ ν : List Addr} {H : List L} {C : List (Option V)} {k : Nat} {Q : Option Value → Shared → Prop} {E : Value → Shared → Prop},A.handled = none → Rep X φ μ ν H C s → At μ ν s.heap k → (∀ b ∈ O,¬ Mut X μ ν b) → (∀ b ∈ O,X.h₀.get? b = none) → item0 H k = some none →
    (∀ s',Rep X φ μ ν H C s' → Turn O s.heap s'.heap → Q none s') → wpAny (model X.prog X.w) A (pyNext (.ref it)) Q E s
  self : ∀ {A : Around} {s : Shared} {μ ν : List Addr} {k : Nat} {Q : Value → Shared → Prop} {E : Value → Shared → Prop},At μ ν s.heap k → Q (.ref it) s → wpAny (model X.prog X.w) A (pyIter (.ref it)) Q E s
theorem Heap.ExtBut.turn {it : Addr} {h h' : Heap} (k : Heap.ExtBut it h h') : Turn [it] h h':=fun b o hb e=>k b o (fun z=>hb (by simp [z])) e
theorem ItAt.more {h : Heap} {μ ν bs : List Addr} {it : Addr} {k : Nat} {src : V} (x : ItAt X h μ ν it k src) : ItAt X h μ (ν ++ bs) it k src:=by
  cases src with
  | ref i=>exact x
  | tup vs=>obtain ⟨a,its,m,e,r,q⟩:=x; exact ⟨a,its,m,e,r.mono (Stab.refl _) (List.prefix_refl _) (List.prefix_append _ _),q⟩
  | rng a b c=>exact x
  | _=>exact x.elim
theorem ItI.plain {target : PySem.Expr} {it : Addr} {src : V} : ItI X φ target it [it] (itemAt src) (fun μ ν h k=>ItAt X h μ ν it k src) (fun μ ν h k _=>ItAt X h μ ν it (k + 1) src) where
  live:=fun I b hb=>by
    rw [List.mem_singleton] at hb; subst hb
    refine e1a2 I.notStable fun o e ns=>?_
    exact ⟨o,e,ns,I.fields e⟩
  mlive:=fun I b hb=>by
    rw [List.mem_singleton] at hb; subst hb
    refine e1a2 I.notStable fun o e ns=>?_
    exact ⟨o,e,ns,I.fields e⟩
  mono:=fun I st hp hk=>I.mono st hp (hk it (by simp))
  more:=fun I=>I.more
  item:=fun _ R I hm hb hi h=>next_item R I (hm it (by simp)) (hb it (by simp)) hi fun x s' R' k I' r=>h x s' R' (Heap.ExtBut.turn k.extBut) I' r
  go:=fun _ R I _ _ h=>letOwned_it I (h _ R (fun _ _ _ e=>e) I)
  done:=fun hA R I hm hb hi h=>next_end hA R I (hm it (by simp)) (hb it (by simp)) hi fun s' R' k=>h s' R' (Heap.ExtBut.turn k)
  self:=fun I h=>iter_self I h
noncomputable def LocO (own : List Str) (env : Env) (b : Addr) : Prop:=b = env.locals ∨ ∃ x ∈ own,env.cells.lookup x = some b
noncomputable def CompO (own : List Str) (env : Env) (D : Addr) (O : List Addr) (b : Addr) : Prop:=LocO own env b ∨ b = D ∨ b ∈ O
noncomputable def RTO (X : Cx) (φ : List Env) (nm : Nm) (own : List Str) (e : PySem.Expr) (put : Put) : Prop :=
  ∀ (A : Around) (env : Env) (σ σ' : S) (s : Shared) (μ ν : List Addr) (v' : Value) (v : V),A.handled = none → FrOk X φ nm env σ.loc σ.cel μ ν s.heap → Rep X φ μ ν σ.H σ.C s → VR X s.heap μ ν v' v → put v σ = some σ' →
    wpAny (model X.prog X.w) A (assign e env v') (fun _ s'=>Aft X φ μ ν s σ'.H σ'.C μ s' (LocO own env) ∧ FrOk X φ nm env σ'.loc σ.cel μ ν s'.heap ∧ σ'.H = σ.H ∧ σ'.cel = σ.cel) (fun _ _=>False) s
theorem RTL.toO {e : PySem.Expr} {put : Put} {own : List Str} (r : RTL X φ nm e put) : RTO X φ nm own e put:=fun A env σ σ' s μ ν v' v hA F R rv ep =>
  wpAny_mono (r A env σ σ' s μ ν v' v hA F R rv ep) (fun _ s' ⟨a,F',hH,hC,hc⟩=>⟨by rw [hH,hC]; exact a.weaken fun _ q=>.inl q,F',hH,hc⟩) fun _ _ h=>h
theorem LocO.frw {own : List Str} {env : Env} (ho : ∀ x ∈ own,nm.scope.names.lookup x = some .cell) {b : Addr} (q : LocO own env b) : FrW nm env b:=q.imp id fun ⟨x,hx,e⟩=>⟨x,ho x hx,e⟩
theorem FrOk.stabO {own : List Str} {env : Env} (ho : ∀ x ∈ own,nm.scope.names.lookup x = some .cell) {loc : List (Option V)} {cel : List Nat} {μ ν : List Addr} {H : List L} {C : List (Option V)} {s : Shared} {h' : Heap} (F : FrOk X φ nm env loc cel μ ν s.heap) (R : Rep X φ μ ν H C s)
    (k : Keeps (fun b=>Chg X μ b ∨ LocO own env b) s.heap h') : Stab s.heap h':=F.stabW R (k.weaken fun b q=>q.imp id (LocO.frw ho))
theorem Turn.stab {O : List Addr} {h h' : Heap} (t : Turn O h h') (l : ∀ b ∈ O,∃ o,h.get? b = some o ∧ ¬ Stable o ∧ ∀ es ep,o.data ≠ .dict es ep) : Stab h h':=fun b o e sb=>t b o (fun hb=>by
  refine e1a3 (l b hb) fun o' e' ns _=>?_
  rw [e] at e'; cases e'; exact ns sb) e
inductive CL (X : Cx) (φ : List Env) (nm : Nm) (env : Env) (σ : S) (ν μB : List Addr) (sB : Shared) (own : List Str) (D : Addr) (O : List Addr) (At : List Addr → List Addr → Heap → Nat → Prop) (σ3 : S) (vs3 : List V) (k : Nat) (μ3 : List Addr) (s3 : Shared) : Prop
  | mk (a : Aft X φ μB ν sB σ3.H σ3.C μ3 s3 (CompO own env D O)) (F : FrOk X φ nm env σ3.loc σ.cel μ3 ν s3.heap) (P : PrivL X s3.heap μ3 ν D vs3) (hm : ¬ Mut X μ3 ν D) (I : At μ3 ν s3.heap k) (hmi : ∀ b ∈ O,¬ Mut X μ3 ν b) (hcel : σ3.cel = σ.cel)
inductive CLI (X : Cx) (φ : List Env) (nm : Nm) (env : Env) (σ : S) (ν μB : List Addr) (sB : Shared) (own : List Str) (D : Addr) (O : List Addr) (At : List Addr → List Addr → Heap → Nat → Prop) (item : Itm) (put : Put) (t : Bm) (c : Cm) (vs' : List V) (σ' : S) (g : Nat) (s3 : Shared) : Prop
  | mk (k : Nat) (μ3 : List Addr) (σ3 : S) (vs3 : List V) (q : CL X φ nm env σ ν μB sB own D O At σ3 vs3 k μ3 s3) (e : compGoI item put t c g k vs3 σ3 = some (vs',σ'))
set_option tactic.hygienic true in
theorem comp_loopG {elt : PySem.Expr} {gens : List Comprehension} {scope : Scope} {pos : Pos} {d : Nat} {target iter : PySem.Expr} {ifs : List PySem.Expr} {put : Put} {t : Bm} {c : Cm} {own : List Str} (hg : gens[d]? = some ⟨target,iter,ifs,0⟩) (hz : ∀ g ∈ gens,g.is_async = 0)
    (ho : ∀ x ∈ own,nm.scope.names.lookup x = some .cell)
    (rt : RTO X φ nm own target put) (ri : RIf X φ n nm ifs t) (rc : RCm X φ n nm elt gens scope pos d c)
    {A : Around} {env : Env} {σ σ' : S} {s : Shared} {μ ν : List Addr} {D it : Addr} {O : List Addr} {vs vs' : List V} {fuel k : Nat} {item : Itm} {At : List Addr → List Addr → Heap → Nat → Prop} {Mid : List Addr → List Addr → Heap → Nat → Value → Prop} {RR : Result → Shared → Prop} (hA : Room φ n A) (F : FrOk X φ nm env σ.loc σ.cel μ ν s.heap) (R : Rep X φ μ ν σ.H σ.C s)
    (P : PrivL X s.heap μ ν D vs) (hm : ¬ Mut X μ ν D) (hb : X.h₀.get? D = none) (hne : D ≠ env.locals) (II : ItI X φ target it O item At Mid) (I : At μ ν s.heap k) (hmi : ∀ b ∈ O,¬ Mut X μ ν b) (hbi : ∀ b ∈ O,X.h₀.get? b = none) (hiL : env.locals ∉ O) (hiD : D ∉ O)
    {μB : List Addr} {sB : Shared} (aB : Aft X φ μB ν sB σ.H σ.C μ s (CompO own env D O)) (hBi : ∀ b ∈ O,sB.heap.get? b = none)
    (em : compGoI item put t c fuel k vs σ = some (vs',σ'))
    (hR : ∀ s' μ',Aft X φ μB ν sB σ'.H σ'.C μ' s' (CompO own env D O) → FrOk X φ nm env σ'.loc σ.cel μ' ν s'.heap → PrivL X s'.heap μ' ν D vs' → ¬ Mut X μ' ν D → σ'.cel = σ.cel → RR (.ok .next) s') :
    codeAny (model X.prog X.w) A (.compLoop (.ListComp elt gens scope pos) d (.ref it) (.ref D) env) RR s:=by
  refine codeAny_loop rfl (CLI X φ nm env σ ν μB sB own D O At item put t c vs' σ') (fun g s3 hI=>?_) fuel ⟨k,μ,σ,vs,⟨aB,F,P,hm,I,hmi,rfl⟩,em⟩
  obtain ⟨k3,μ3,σ3,vs3,⟨a3,F3,P3,hm3,I3,hmi3,hcel3⟩,e3⟩:=hI
  show wpAny _ A ((compTurn (.ListComp elt gens scope pos) d (.ref it) (.ref D) env).onRaise (fun x=>do noteFrame x env; theTreesLotGoes x)) _ _ s3
  refine wpAny_noted ?_
  rw [compTurn_at hg hz]
  refine wpAny_bind (wpAny_standAt (wpAny_bind ?_))
  have l3:=II.live I3
  have turned : ∀ {s3 s4 : Shared} {μ3 : List Addr} {σ3 : S},Aft X φ μB ν sB σ3.H σ3.C μ3 s3 (CompO own env D O) → Rep X φ μ3 ν σ3.H σ3.C s4 → Turn O s3.heap s4.heap → Aft X φ μB ν sB σ3.H σ3.C μ3 s4 (CompO own env D O):=fun a3 R4 x4 =>
    ⟨a3.pre,a3.new,R4,fun b o q eo=>(a3.keeps b o q eo).step fun o' e'=>x4 b o' (fun z=>q (.inr (.inr (.inr z)))) e',fun b o eo=>by
      refine e1a1 (a3.alive b o eo) fun o' eo'=>?_
      exact ⟨o',x4 b o' (fun z=>by rw [hBi b z] at eo; cases eo) eo'⟩⟩
  cases g with
  | zero=>cases e3
  | succ g =>
    unfold compGoI at e3
    split at e3
    · rename_i hend
      cases e3
      refine II.done hA.handled a3.rep I3 hmi3 hbi hend fun s4 R4 x4=>wpAny_pure ?_
      have st4:=x4.stab l3
      exact hR s4 μ3 (turned a3 R4 x4) (F3.mono st4 (List.prefix_refl _) (List.prefix_refl _) (fun o eo=>x4 _ o hiL eo) F3.own.1) (P3.mono st4 (List.prefix_refl _) fun o eo=>x4 _ o hiD eo) hm3 hcel3
    · rename_i v hitem
      revert e3; refine m_S fun σ4 e4 e3=>?_
      refine II.item hA.handled a3.rep I3 hmi3 hbi hitem fun x4 s4 R4 x4b M4 r4=>?_
      have st4:=x4b.stab l3
      refine wpAny_bind (II.go hA.handled R4 M4 hmi3 hbi fun s4' R4' x4c I4=>?_)
      have st4' : Stab s4.heap s4'.heap:=x4c.stab (II.mlive M4)
      have a4:=turned (turned a3 R4 x4b) R4' x4c
      have F4 : FrOk X φ nm env σ3.loc σ3.cel μ3 ν s4'.heap:=by
        rw [hcel3]
        exact (F3.mono st4 (List.prefix_refl _) (List.prefix_refl _) (fun o eo=>x4b _ o hiL eo) F3.own.1).mono st4' (List.prefix_refl _) (List.prefix_refl _) (fun o eo=>x4c _ o hiL eo) F3.own.1
      have P4:=(P3.mono st4 (List.prefix_refl _) fun o eo=>x4b _ o hiD eo).mono st4' (List.prefix_refl _) fun o eo=>x4c _ o hiD eo
      have r4':=r4.mono st4' (List.prefix_refl _) (List.prefix_refl _)
      refine wpAny_bind (wpAny_mono (rt A env σ3 σ4 s4' μ3 ν x4 v hA.handled F4 R4' r4' e4) (fun _ s5 h5=>?_) fun _ _ h=>h.elim)
      refine e0a4 h5 fun a5 F5 hH5 hcel5=>?_
      have st5 : Stab s4'.heap s5.heap:=F4.stabO ho R4' a5.keeps
      have nL : ∀ {b : Addr},¬ Mut X μ3 ν b → b ≠ env.locals → ¬ (Chg X μ3 b ∨ LocO own env b):=fun hb' hl q=>q.elim (fun q=>hb' q.mut) fun q=>(F4.frw (LocO.frw ho q)).elim hl fun q=>hb' (.inr (.inl q))
      have P5:=P4.mono st5 (List.prefix_refl _) fun o eo=>(a5.keeps _ o (nL hm3 hne) eo).nd (P4.nd eo)
      have I5 : At μ3 ν s5.heap (k3 + 1):=II.mono I4 st5 (List.prefix_refl _) fun b hb' o eo=>(a5.keeps _ o (nL (hmi3 b hb') fun z=>hiL (z ▸ hb')) eo).nd (by
        refine e1a3 (II.live I4 b hb') fun o' e' _ f=>?_
        rw [e'] at eo; cases eo; exact f)
      have a5' : Aft X φ μB ν sB σ4.H σ4.C μ3 s5 (CompO own env D O):=a4.trans (a5.weaken fun b q=>.inl q)
      have F5' : FrOk X φ nm env σ4.loc σ4.cel μ3 ν s5.heap:=by rw [hcel5]; exact F5
      have R5 : Rep X φ μ3 ν σ4.H σ4.C s5:=a5.rep
      have l5:=II.live I5
      have hcel4 : σ4.cel = σ.cel:=hcel5.trans hcel3
      have tests : ∀ (b : Bool) (H6 : List L),t σ4 = some (b,H6) → ∀ (Q : Bool → Shared → Prop) (E : Value → Shared → Prop),(∀ s6 μ6,CL X φ nm env σ ν μB sB own D O At { σ4 with H:=H6 } vs3 (k3 + 1) μ6 s6 → Q b s6) →
          wpAny (model X.prog X.w) A (compOk ifs env) Q E s5:=fun b H6 e6 Q E hQ=>by
        refine wpAny_mono (ri A env σ4 s5 μ3 ν b H6 hA F5' R5 e6) (fun b' s6 qq=>qq.e fun eb μ6 a6=>?_) fun _ _ h=>h.elim
        subst eb
        have nD : ∀ {b : Addr},¬ Mut X μ3 ν b → ¬ (Chg X μ3 b ∨ NoFree b):=fun hb' q=>q.elim (fun q=>hb' q.mut) False.elim
        obtain ⟨itsD5,mD5,eD5,_⟩:=id P5
        exact hQ s6 μ6 ⟨a5'.trans (a6.weaken fun b q=>q.elim),hcel4 ▸ F5'.aft R5 a6,(P5.mono (a6.stab R5) a6.pre fun o eo=>(a6.keeps _ o (nD hm3) eo).nd (P5.nd eo)),a6.mut eD5 hm3,(II.mono I5 (a6.stab R5) a6.pre fun b hb' o eo=>(a6.keeps _ o (nD (hmi3 b hb')) eo).nd (by
          refine e1a3 (l5 b hb') fun o' e' _ f=>?_
          rw [e'] at eo; cases eo; exact f)),fun b hb'=>by
            refine e1a2 (l5 b hb') fun o' e' _=>?_
            exact a6.mut e' (hmi3 b hb'),hcel4⟩
      revert e3; refine m_tf (fun H6 e6 e3=>?_) (fun H6 e6 e3=>?_)
      · revert e3; refine m_FS fun vs7 σ7 e7 e3=>?_
        refine wpAny_bind (tests true H6 e6 _ _ fun s6 μ6 q6=>?_)
        obtain ⟨a6,F6',P6,hm6,I6,hmi6,_⟩:=q6
        have F6 : FrOk X φ nm env σ4.loc σ4.cel μ6 ν s6.heap:=hcel4 ▸ F6'
        simp only [if_true]
        refine wpAny_bind (wpAny_mono (rc A env { σ4 with H:=H6 } σ7 s6 μ6 ν D vs3 vs7 hA F6 a6.rep P6 hm6 hb hne e7) (fun _ s7 h7=>?_) fun _ _ h=>h.elim)
        obtain ⟨μ7,a7,F7,P7,hC7,hcel7⟩:=h7
        have st7 : Stab s6.heap s7.heap:=comp_stab (σ:={ σ4 with H:=H6 }) (C:=σ4.C) (H':=σ7.H) (μ':=μ7) F6 a6.rep P6 a7.keeps
        have l6:=II.live I6
        obtain ⟨itsD6,mD6,eD6,_⟩:=id P6
        have hC7' : σ7.C = σ4.C:=hC7
        refine wpAny_pure ⟨rfl,g,Nat.lt_succ_self g,k3 + 1,μ7,σ7,vs7,⟨?_,?_,P7,a7.mut eD6 hm6,II.mono I6 st7 a7.pre fun b hb' o eo=>(a7.keeps _ o (fun q=>q.elim (fun q=>hmi6 b hb' q.mut) fun q=>q.elim (fun z=>hiL (z ▸ hb')) fun z=>hiD (z ▸ hb')) eo).nd (by
          refine e1a3 (l6 b hb') fun o' e' _ f=>?_
          rw [e'] at eo; cases eo; exact f),fun b hb'=>by
          refine e1a2 (l6 b hb') fun o' e' _=>?_
          exact a7.mut e' (hmi6 b hb'),hcel7.trans hcel4⟩,e3⟩
        · rw [hC7']
          exact a6.trans (a7.weaken fun b q=>q.elim (fun q=>.inl (.inl q)) fun q=>.inr (.inl q))
        · have F7' : FrOk X φ nm env σ7.loc σ4.cel μ7 ν s7.heap:=F7
          rw [hcel4] at F7'; exact F7'
      · refine wpAny_bind (tests false H6 e6 _ _ fun s6 μ6 q6=>?_)
        simp only [Bool.false_eq_true,if_false]
        exact wpAny_pure ⟨rfl,g,Nat.lt_succ_self g,k3 + 1,μ6,{ σ4 with H:=H6 },vs3,q6,e3⟩
    · cases e3
end
end Mine
namespace Mine
section
variable {X : Cx} {n : Nat} {nm nmc : Nm}
noncomputable abbrev Im:=S → Option (Itm × List L)
noncomputable def iPlain (m : Xm) : Im:=fun σ=>match m σ with
  | some (v,H)=>some (itemAt v,H)
  | none=>none
noncomputable def RIt (X : Cx) (φ : List Env) (n : Nat) (nm : Nm) (target e : PySem.Expr) (m : Im) : Prop :=
  ∀ (A : Around) (env : Env) (σ : S) (s : Shared) (μ ν : List Addr) (item : Itm) (H1 : List L) (Q E : Value → Shared → Prop),Room φ n A → FrOk X φ nm env σ.loc σ.cel μ ν s.heap → Rep X φ μ ν σ.H σ.C s → m σ = some (item,H1) → (∃ r0,item H1 0 = some r0) →
    (∀ it O At Mid s' μ',Aft X φ μ ν s H1 σ.C μ' s' NoFree → ItI X φ target it O item At Mid → At μ' ν s'.heap 0 → (∀ b ∈ O,s.heap.get? b = none) → (∀ b ∈ O,¬ Mut X μ' ν b) → Q (.ref it) s') →
    wpAny (model X.prog X.w) A (eval e env) (fun x s1=>wpAny (model X.prog X.w) A (pyIter x) Q E s1) E s
theorem RIt_plain {target e : PySem.Expr} {m : Xm} (rm : RX X φ n nm e m) : RIt X φ n nm target e (iPlain m):=fun A env σ s μ ν item H1 Q E hA F R em hi k=>by
  unfold iPlain at em
  revert em; refine m_VH fun v H e1 em=>?_
  cases em
  refine e1a1 hi fun r0 hi0=>?_
  refine rm.use hA F R e1 fun x' s1 μ1 a1 F1 r1=>?_
  refine iter_src a1.rep r1 hi0 fun it s2 a2 hnone I2=>?_
  exact k it [it] _ _ s2 μ1 (a1.trans a2) ItI.plain I2 (fun b hb=>by
    rw [List.mem_singleton] at hb; subst hb
    exact a1.gone hnone) fun b hb=>by
    rw [List.mem_singleton] at hb; subst hb
    exact a1.rep.not_mut hnone
structure CompAtC (nm nmc : Nm) (scope : Scope) (x : Str) (is : List Nat) : Prop where
  scp : nmc.scope = relabelS scope nm.scope
  qual : nmc.qual = nm.qual
  tab : nmc.tab = nm.tab
  cel : nmc.cel = x :: freeRev scope.names []
  slots : is.map (fun i=>nm.cel[i]?) = (freeRev scope.names []).map some
  cells : ∀ k acc,cellsFrom k scope.names acc = (x,k) :: acc
  push : ∀ h,pushCells h scope.names = h.push { cls:=.type "cell",data:=.cell none }
  kind : scope.kind = .function
  names : ∀ x ∈ scope.names,x.2 = .local → scope.names.lookup x.1 = some .local
  ownk : nmc.scope.names.lookup x = some .cell
theorem comp_frameC {scope : Scope} {x : Str} {is : List Nat} (K : CompAtC nm nmc scope x is) (N : NmOk nmc) {env : Env} {σ : S} {μ ν : List Addr} {s : Shared} {nl : Nat} (F : FrOk X φ nm env σ.loc σ.cel μ ν s.heap) {CA b : Addr} {h' : Heap} {m : Str → Option Value} (hn : h'.Ns CA m) (hm : ¬ Mut X μ (ν ++ [b]) CA) (hb : X.h₀.get? CA = none) (hlen : ∀ i ∈ is,i < σ.cel.length) :
    FrOk X φ nmc (compEnvC scope ((x,b) :: closAcc env.cells scope.names []) CA env) (List.replicate nl none) (ν.length :: is.map fun i=>σ.cel.getD i 0) μ (ν ++ [b]) h':=by
  refine e0a3 (clos_facts F rfl K.slots hlen) fun _ h2 h3=>?_
  have hnd : (((x,b) :: closAcc env.cells scope.names []).map (·.1)).Nodup:=by rw [List.map_cons,h2,← K.cel]; exact N.ncel
  have hcl : ∀ (j : Nat) (y : Str) (c : Nat),(freeRev scope.names [])[j]? = some y → (is.map fun i=>σ.cel.getD i 0)[j]? = some c → ∃ a,ν[c]? = some a ∧ (closAcc env.cells scope.names [])[j]? = some (y,a):=fun j y c e1 e2=>by
    have h4 : ((is.map fun i=>σ.cel.getD i 0).map (fun c=>ν[c]?))[j]? = some (ν[c]?):=by rw [List.getElem?_map,e2]; rfl
    rw [h3,List.getElem?_map] at h4
    cases hcl : (closAcc env.cells scope.names [])[j]? with
    | none=>rw [hcl] at h4; cases h4
    | some z =>
      rw [hcl] at h4
      have h5 : some z.2 = ν[c]?:=by simpa using h4
      have h6 : ((closAcc env.cells scope.names []).map (·.1))[j]? = some y:=by rw [h2]; exact e1
      rw [List.getElem?_map,hcl] at h6
      have h7 : z.1 = y:=by simpa using h6
      exact ⟨z.2,h5.symm,by rw [← h7]⟩
  exact
  { top:=F.top
    scope:=by rw [K.scp]; exact relabel_eq F.scope
    glob:=F.glob
    bui:=F.bui
    qual:=by rw [K.qual]; exact F.qual
    ns:=⟨m,hn,fun i x v _ e=>by
      rw [List.getElem?_replicate] at e
      split at e <;> cases e⟩
    own:=⟨hm,hb⟩
    cell:=fun i y c e1 e2=>by
      rw [K.cel] at e1
      cases i with
      | zero =>
        rw [List.getElem?_cons_zero] at e1 e2
        refine re1_e e1 ?_; cases e2
        refine ⟨b,by simp,?_⟩
        show List.lookup _ (_ :: _) = _
        rw [List.lookup_cons]; simp
      | succ j =>
        rw [List.getElem?_cons_succ] at e1 e2
        refine e1a2 (hcl j y c e1 e2) fun a q1 q2=>?_
        refine ⟨a,by rw [List.getElem?_append_left (List.getElem?_eq_some_iff.mp q1).1]; exact q1,?_⟩
        exact lookup_zip_idx hnd (i:=j + 1) (by rw [List.getElem?_map,List.getElem?_cons_succ,q2]; rfl) (by rw [List.getElem?_map,List.getElem?_cons_succ,q2]; rfl)
    code:=fun q e=>F.code q (by rw [← K.tab]; exact e)
    ownc:=fun y a _ e=>by
      have hmem : (y,a) ∈ (x,b) :: closAcc env.cells scope.names []:=mem_of_look e
      rcases List.mem_cons.mp hmem with z | hmem
      · cases z; simp
      · refine e1a1 (List.mem_iff_getElem?.mp hmem) fun j hj=>?_
        have h4 : ((closAcc env.cells scope.names []).map (fun x=>some x.2))[j]? = some (some a):=by rw [List.getElem?_map,hj]; rfl
        rw [← h3,List.getElem?_map] at h4
        cases hc : (is.map fun i=>σ.cel.getD i 0)[j]? with
        | none=>rw [hc] at h4; cases h4
        | some c =>
          rw [hc] at h4
          have h5 : ν[c]? = some a:=by simpa using h4
          exact List.mem_append_left _ (List.mem_of_getElem? h5) }
theorem Rep.dropCells {μ ν bs : List Addr} {H : List L} {C C2 : List (Option V)} {s : Shared} (R : Rep X φ μ (ν ++ bs) H C2 s) (hC : ν.length = C.length) (hc : ∀ (i : Nat) (a : Addr) (v : Option V),ν[i]? = some a → C[i]? = some v → CellR X s.heap μ ν a v) : Rep X φ μ ν H C s where
  frs:=fun L hL=>let ⟨f1,f2,f3⟩:=R.frs L hL; ⟨f1,fun q=>f2 (q.imp id fun q=>q.imp (fun q=>List.mem_append_left _ q) id),f3⟩
  same:=R.same
  keep:=R.keep
  lenH:=R.lenH
  lenC:=hC
  nodup:=by
    have nd:=R.nodup
    rw [← List.append_assoc] at nd
    exact (List.nodup_append.mp nd).1
  fresh:=fun a ha=>R.fresh a (ha.imp id fun q=>List.mem_append_left _ q)
  lists:=R.lists
  cells:=hc
  tabs:=R.tabs
theorem comp_core {elt : PySem.Expr} {target iter : PySem.Expr} {ifs : List PySem.Expr} {rest : List Comprehension} {scope : Scope} {pos : Pos} {fuel : Nat} {put : Put} {t : Bm} {c : Cm} {own : List Str} (hz : ∀ g ∈ (⟨target,iter,ifs,0⟩ :: rest : List Comprehension),g.is_async = 0)
    (ho : ∀ x ∈ own,nmc.scope.names.lookup x = some .cell) (rt : RTO X φ nmc own target put) (ri : RIf X φ n nmc ifs t) (rc : RCm X φ n nmc elt (⟨target,iter,ifs,0⟩ :: rest) scope pos 0 c)
    {A : Around} {env' : Env} {s s3 : Shared} {μ μ1 ν bs : List Addr} {H : List L} {C : List (Option V)} {σ0 τ : S} {vs : List V} {E : Value → Shared → Prop} {use : Option (Value → Sem Unit)} {Q : Value → Shared → Prop} {D it : Addr} {O : List Addr} {item : Itm} {At : List Addr → List Addr → Heap → Nat → Prop} {Mid : List Addr → List Addr → Heap → Nat → Value → Prop}
    (hA : Room φ n A) (R : Rep X φ μ ν H C s) (F4 : FrOk X φ nmc env' σ0.loc σ0.cel μ1 (ν ++ bs) s3.heap) (a3 : Aft X φ μ (ν ++ bs) s σ0.H σ0.C μ1 s3 NoFree)
    (hD : s3.heap.get? D = some { cls:=.type "list",data:=.seq ([] : List Value).toArray }) (hD0 : s.heap.get? D = none) (hDm : ¬ Mut X μ1 (ν ++ bs) D) (hCA : s.heap.get? env'.locals = none) (hDC : D ≠ env'.locals)
    (hown : ∀ b,LocO own env' b → s.heap.get? b = none) (II : ItI X φ target it O item At Mid) (I : At μ1 (ν ++ bs) s3.heap 0) (hO : ∀ b ∈ O,s.heap.get? b = none) (hOm : ∀ b ∈ O,¬ Mut X μ1 (ν ++ bs) b) (hOL : env'.locals ∉ O) (hOD : D ∉ O)
    (e2 : compGoI item put t c fuel 0 [] σ0 = some (vs,τ)) (hc : stills vs = true ∧ vs.length ≤ 1048576)
    (hq : ∀ s' μ' mC,Aft X φ μ ν s (τ.H ++ [mkL vs]) C μ' s' NoFree → VR X s'.heap μ' ν (.ref D) (.ref τ.H.length) → s'.heap.Ns env'.locals mC → ¬ Mut X μ' ν env'.locals → X.h₀.get? env'.locals = none → compPost (model X.prog X.w) A E use Q (.ref D) env'.locals (.ok .next) s') :
    codeAny (model X.prog X.w) A (.compStart (.ListComp elt (⟨target,iter,ifs,0⟩ :: rest) scope pos) 0 (.ref it) (.ref D) env') (compPost (model X.prog X.w) A E use Q (.ref D) env'.locals) s3:=by
  have L:=comp_loopG (fuel:=fuel) (k:=0) (scope:=scope) (pos:=pos) (d:=0) (vs:=[]) (σ:=σ0) (RR:=compPost (model X.prog X.w) A E use Q (.ref D) env'.locals) rfl hz ho rt ri rc hA F4 a3.rep ⟨[],0,hD,.nil⟩ hDm (R.base_none hD0) hDC II I hOm (fun b hb=>R.base_none (hO b hb)) hOL hOD
    (a3.weaken fun _ q=>q.elim) hO e2 (fun s' μ' a5 F5 P5 hm5 _=>by
      have a6k : Keeps (fun b=>Chg X μ b ∨ NoFree b) s.heap s'.heap:=fun b o q e=>a5.keeps b o (fun z=>z.elim (fun z=>q (.inl z)) fun z=>by
        rcases z with z | z | z
        · rw [hown b z] at e; cases e
        · rw [z,hD0] at e; cases e
        · rw [hO b z] at e; cases e) e
      have hpre : μ <+: μ':=a5.pre
      have hold : ∀ b o,s.heap.get? b = some o → ¬ Chg X μ b → Kept s'.heap b o:=fun b o e hc=>a6k b o (fun q=>q.elim hc False.elim) e
      have R6 : Rep X φ μ' ν τ.H C s':=a5.rep.dropCells R.lenC fun i b w' e1 e2=>by
        have hbm : b ∈ ν:=List.mem_of_getElem? e1
        refine (R.cells i b w' e1 e2).mono (fun c o e sb=>(hold c o e fun q=>R.not_stable q.mut e sb).nd sb.nd) hpre (List.prefix_refl _) fun o e=>(hold b o e fun q=>?_).nd (fun es ep d=>by
          refine e1a1 (R.cell_at hbm) fun cv hcv=>?_
          have:=IsCell_data hcv e
          rw [d] at this; cases this)
        have nd:=List.nodup_append.mp R.nodup
        rcases q with q | q
        · exact nd.2.2 b q b hbm rfl
        · exact (R.fresh b (.inr hbm)).2 q
      have a6 : Aft X φ μ ν s τ.H C μ' s' NoFree:=⟨a5.pre,a5.new,R6,a6k,a5.alive⟩
      have hsub : ∀ b,Mut X μ' ν b → Mut X μ' (ν ++ bs) b:=fun b q=>q.imp id fun q=>q.imp (fun q=>List.mem_append_left _ q) id
      have P6 : PrivL X s'.heap μ' ν D vs:=by
        refine e2a2 P5 fun its mD eD rD=>?_
        exact ⟨its,mD,eD,rD.still hc.1⟩
      have R7:=R6.adopt P6 (fun q=>hm5 (hsub _ q)) (R.base_none hD0) hc.2 hc.1 (mkL_vs vs)
      have a8 : Aft X φ μ ν s (τ.H ++ [mkL vs]) C (μ' ++ [D]) s' NoFree:=⟨List.IsPrefix.trans a6.pre (prefix_snoc _ _),fun a ha=>by
        rcases List.mem_append.mp ha with ha | ha
        · exact a6.new a ha
        · simp at ha; subst ha; exact .inr hD0,R7,a6.keeps,a6.alive⟩
      refine e1a2 F5.ns fun mC hnC _=>?_
      refine hq s' _ mC a8 (.ref (pre_take_self R6.lenH _)) hnC (fun z=>?_) F5.own.2
      rcases z with z | z | z
      · rcases List.mem_append.mp z with z | z
        · exact F5.own.1 (.inl z)
        · exact hDC (List.mem_singleton.mp z).symm
      · exact F5.own.1 (.inr (.inl (List.mem_append_left _ z)))
      · exact F5.own.1 (.inr (.inr z)))
  exact compStart_at rfl L (II.self I L)
end
end Mine
namespace Mine
section
variable {X : Cx} {n : Nat} {nm nmc : Nm}
noncomputable def compEnd : Option (List V × S) → Option (V × List L)
  | some (vs,τ)=>if stills vs && decide (vs.length ≤ 1048576) then some (.ref τ.H.length,τ.H ++ [mkL vs]) else none
  | none=>none
noncomputable def mCompI (fuel nl : Nat) (is : List Nat) (put : Put) (m : Im) (t : Bm) (c : Cm) : Xm:=fun σ=>match m σ with
  | some (item,H)=>if is.all (fun i=>i < σ.cel.length) then compEnd (compGoI item put t c fuel 0 [] { loc:=List.replicate nl none,cel:=is.map fun i=>σ.cel.getD i 0,C:=σ.C,H:=H }) else none
  | none=>none
noncomputable def mCompC (fuel nl : Nat) (is : List Nat) (put : Put) (m : Im) (t : Bm) (c : Cm) : Xm:=fun σ=>match m σ with
  | some (item,H)=>if is.all (fun i=>i < σ.cel.length) then compEnd (compGoI item put t c fuel 0 [] { loc:=List.replicate nl none,cel:=σ.C.length :: is.map fun i=>σ.cel.getD i 0,C:=σ.C ++ [none],H:=H }) else none
  | none=>none
set_option tactic.hygienic true in
theorem compEnd_inv {r : Option (List V × S)} {v : V} {H' : List L} (e : compEnd r = some (v,H')) : ∃ vs τ,r = some (vs,τ) ∧ (stills vs = true ∧ vs.length ≤ 1048576) ∧ v = .ref τ.H.length ∧ H' = τ.H ++ [mkL vs]:=by
  unfold compEnd at e
  split at e
  · rename_i vs τ
    revert e; refine if_e fun hc e=>?_
    refine ret_e e ?_
    simp only [Bool.and_eq_true,decide_eq_true_eq] at hc
    exact ⟨vs,τ,rfl,hc,rfl,rfl⟩
  · cases e
noncomputable def CompPost (X : Cx) (φ : List Env) (μ ν : List Addr) (s : Shared) (C : List (Option V)) (v : V) (H' : List L) (A : Around) (E : Value → Shared → Prop) (use : Option (Value → Sem Unit)) (Q : Value → Shared → Prop) : Prop :=
  ∀ s' μ' D CA mC,Aft X φ μ ν s H' C μ' s' NoFree → VR X s'.heap μ' ν (.ref D) v → s'.heap.Ns CA mC → ¬ Mut X μ' ν CA → X.h₀.get? CA = none → s.heap.get? CA = none → compPost (model X.prog X.w) A E use Q (.ref D) CA (.ok .next) s'
set_option tactic.hygienic true in
theorem comp_runI {elt : PySem.Expr} {target iter : PySem.Expr} {ifs : List PySem.Expr} {rest : List Comprehension} {scope : Scope} {pos : Pos} {is : List Nat} {fuel nl : Nat} {put : Put} {m : Im} {t : Bm} {c : Cm} (hz : ∀ g ∈ (⟨target,iter,ifs,0⟩ :: rest : List Comprehension),g.is_async = 0)
    (K : CompAt nm nmc scope is) (N : NmOk nmc) (rm : RIt X φ n nm target iter m) (rt : RTL X φ nmc target put) (ri : RIf X φ n nmc ifs t) (rc : RCm X φ n nmc elt (⟨target,iter,ifs,0⟩ :: rest) scope pos 0 c)
    {A : Around} {env : Env} {σ : S} {s : Shared} {μ ν : List Addr} {v : V} {H' : List L} {E : Value → Shared → Prop} (hA : Room φ n A) (F : FrOk X φ nm env σ.loc σ.cel μ ν s.heap) (R : Rep X φ μ ν σ.H σ.C s) (em : mCompI fuel nl is put m t c σ = some (v,H')) {use : Option (Value → Sem Unit)} {Q : Value → Shared → Prop}
    (hq : CompPost X φ μ ν s σ.C v H' A E use Q) (hs : ∀ env x,foldedSetIterable iter env x = pure x) :
    wpAny (model X.prog X.w) A (comprehension (.ListComp elt (⟨target,iter,ifs,0⟩ :: rest) scope pos) scope env (firstIterPos (⟨target,iter,ifs,0⟩ :: rest) pos) (newList []) false (eval iter env) use) Q E s:=by
  unfold mCompI at em
  split at em
  · rename_i item H1 e1
    revert em; refine if_e fun hall em=>?_
    refine e2a4 (compEnd_inv em) fun vs τ e2 hc hr4 hr5=>?_; subst hr4; subst hr5
    have hlen : ∀ i ∈ is,i < σ.cel.length:=fun i hi=>by
      have:=List.all_eq_true.mp hall i hi
      simpa using this
    obtain ⟨hcf,_,_⟩:=clos_facts F K.cel K.slots hlen
    refine wpAny_comprehension_free rfl (hs env) (closureFor_eq hcf) K.kind K.names ?_
    refine rm A env σ s μ ν item H1 _ _ hA F R e1 (compGoI_iter e2) fun it O At Mid s2 μ1 a2 II I2 hO hOm=>?_
    have F2:=F.aft R a2
    refine wpAny_newObj_type (wpAny_newFunctionEnv K.ncell (by intro y hy; simp at hy) (fun h₁ hns₁ hsb₁=>?_) K.kind)
    dsimp only at hns₁ hsb₁ ⊢
    generalize hH2 : s2.heap.push { cls:=.type "list",dict:=none,data:=.seq ([] : List Value).toArray } = H2 at hns₁ hsb₁ ⊢
    have hCA : H2.objs.size = s2.heap.objs.size + 1:=by rw [← hH2,Heap.size_push]
    have hDC : s2.heap.objs.size ≠ H2.objs.size:=by lia
    have hCle : s2.heap.objs.size ≤ H2.objs.size:=by lia
    have old : ∀ b o,s2.heap.get? b = some o → h₁.get? b = some o:=fun b o e=>hsb₁.extBut b o (Nat.ne_of_lt (Nat.lt_of_lt_of_le (Heap.lt_size e) hCle)) (Heap.get?_push_of_some _ (hH2 ▸ Heap.get?_push_of_some _ e))
    have hD1 : h₁.get? s2.heap.objs.size = some { cls:=.type "list",data:=.seq ([] : List Value).toArray }:=hsb₁.extBut _ _ hDC (Heap.get?_push_of_some _ (hH2 ▸ Heap.get?_push_size _ rfl))
    have noneD : s2.heap.get? s2.heap.objs.size = none:=none_at_size _
    have noneC : s2.heap.get? H2.objs.size = none:=Heap.get?_none_of_le (by lia)
    have a3 : Aft X φ μ1 ν s2 H1 σ.C μ1 { s2 with heap:=h₁,toks:=s2.toks + 0 } NoFree:=.grow a2.rep old
    have R2:=a2.rep
    have F4:=comp_frame (nl:=nl) K N F2 hns₁ (R2.not_mut noneC) (R2.base_none noneC) hlen
    have st2 : Stab s2.heap h₁:=fun b o e _=>old b o e
    have lO:=II.live I2
    refine comp_core (own:=[]) (bs:=[]) (H:=σ.H) (C:=σ.C) (σ0:={ loc:=List.replicate nl none,cel:=is.map fun i=>σ.cel.getD i 0,C:=σ.C,H:=H1 }) (D:=s2.heap.objs.size) (env':=compEnvC scope (closAcc env.cells scope.names []) H2.objs.size env) hz (fun _ h=>nomatch h) rt.toO ri rc hA R (by rw [List.append_nil]; exact F4) (by rw [List.append_nil]; exact a2.trans a3) hD1 (a2.gone noneD) (by rw [List.append_nil]; exact R2.not_mut noneD) (a2.gone noneC) hDC
      (fun b q=>q.elim (fun z=>by rw [z]; exact a2.gone noneC) fun ⟨x,hx,_⟩=>nomatch hx) II (by rw [List.append_nil]; exact II.mono I2 st2 (List.prefix_refl _) fun b _ o e=>old b o e) hO (fun b hb=>?_) (fun hb=>?_) (fun hb=>?_) e2 hc fun s' μ' mC a r hn hm hb=>hq s' _ _ _ mC a r hn hm hb (a2.gone noneC)
    · rw [List.append_nil]; exact hOm b hb
    · refine e1a2 (lO _ hb) fun o e _=>?_
      rw [show (compEnvC scope (closAcc env.cells scope.names []) H2.objs.size env).locals = H2.objs.size from rfl,noneC] at e; cases e
    · refine e1a2 (lO _ hb) fun o e _=>?_
      rw [noneD] at e; cases e
  · cases em
theorem newEnv_cell {M : Model} {A : Around} {s : Shared} {scope : Scope} {x : Str} {cl : List (Str × Addr)} {env : Env} {Q : Env → Shared → Prop} {E : Value → Shared → Prop} (hc : ∀ k acc,cellsFrom k scope.names acc = (x,k) :: acc) (hp : ∀ h,pushCells h scope.names = h.push { cls:=.type "cell",data:=.cell none })
    (h : Q (newEnv scope s.heap.objs.size env.globals ((x,s.heap.objs.size + 1) :: cl) env.qual none .none (some env) builtinsNs) { s with heap:=(s.heap.push { cls:=.type "dict",data:=.dict #[] }).push { cls:=.type "cell",data:=.cell none } }) :
    wpAny M A (newFunctionEnv scope env.globals cl [] env.qual none .none (some env)) Q E s:=by
  simp only [newFunctionEnv,Option.isSome_some,if_true]
  refine wpAny_bind (wpAny_alloc ?_)
  refine wpAny_bind (wpAny_layCells _ (fun name kind cells=>by cases hkc : kind == NameKind.cell <;> simp) _ _ _ _ ?_)
  rw [hc,hp]
  rw [show ({ s with heap:=s.heap.push { cls:=.type "dict",data:=.dict #[] } } : Shared).heap.objs.size = s.heap.objs.size + 1 from Heap.size_push ..]
  simp only [List.forIn_nil]
  exact wpAny_bind (wpAny_pure (wpAny_pure h))
theorem It_cells {target : PySem.Expr} {it : Addr} {O : List Addr} {item : Itm} {At : List Addr → List Addr → Heap → Nat → Prop} {Mid : List Addr → List Addr → Heap → Nat → Value → Prop} (II : ItI X φ target it O item At Mid) {μ ν bs : List Addr} {h h' : Heap} (I : At μ ν h 0) (st : Stab h h') (old : ∀ b o,h.get? b = some o → h'.get? b = some o) : At μ (ν ++ bs) h' 0 :=
  II.more (II.mono I st (List.prefix_refl _) fun b _ o e=>old b o e)
set_option tactic.hygienic true in
theorem comp_runC {elt : PySem.Expr} {target iter : PySem.Expr} {ifs : List PySem.Expr} {rest : List Comprehension} {scope : Scope} {pos : Pos} {x : Str} {is : List Nat} {fuel nl : Nat} {put : Put} {m : Im} {t : Bm} {c : Cm} (hz : ∀ g ∈ (⟨target,iter,ifs,0⟩ :: rest : List Comprehension),g.is_async = 0)
    (K : CompAtC nm nmc scope x is) (N : NmOk nmc) (rm : RIt X φ n nm target iter m) (rt : RTO X φ nmc [x] target put) (ri : RIf X φ n nmc ifs t) (rc : RCm X φ n nmc elt (⟨target,iter,ifs,0⟩ :: rest) scope pos 0 c)
    {A : Around} {env : Env} {σ : S} {s : Shared} {μ ν : List Addr} {v : V} {H' : List L} {E : Value → Shared → Prop} (hA : Room φ n A) (F : FrOk X φ nm env σ.loc σ.cel μ ν s.heap) (R : Rep X φ μ ν σ.H σ.C s) (em : mCompC fuel nl is put m t c σ = some (v,H')) {use : Option (Value → Sem Unit)} {Q : Value → Shared → Prop}
    (hq : CompPost X φ μ ν s σ.C v H' A E use Q) (hs : ∀ env x,foldedSetIterable iter env x = pure x) :
    wpAny (model X.prog X.w) A (comprehension (.ListComp elt (⟨target,iter,ifs,0⟩ :: rest) scope pos) scope env (firstIterPos (⟨target,iter,ifs,0⟩ :: rest) pos) (newList []) false (eval iter env) use) Q E s:=by
  unfold mCompC at em
  split at em
  · rename_i item H1 e1
    revert em; refine if_e fun hall em=>?_
    refine e2a4 (compEnd_inv em) fun vs τ e2 hc hr4 hr5=>?_; subst hr4; subst hr5
    have hlen : ∀ i ∈ is,i < σ.cel.length:=fun i hi=>by
      have:=List.all_eq_true.mp hall i hi
      simpa using this
    obtain ⟨hcf,_,_⟩:=clos_facts F rfl K.slots hlen
    refine wpAny_comprehension_free rfl (hs env) (closureFor_eq hcf) K.kind K.names ?_
    refine rm A env σ s μ ν item H1 _ _ hA F R e1 (compGoI_iter e2) fun it O At Mid s2 μ1 a2 II I2 hO hOm=>?_
    have F2:=F.aft R a2
    refine wpAny_newObj_type (newEnv_cell K.cells K.push ?_)
    dsimp only
    generalize hH2 : s2.heap.push { cls:=.type "list",dict:=none,data:=.seq ([] : List Value).toArray } = H2
    have hCA : H2.objs.size = s2.heap.objs.size + 1:=by rw [← hH2,Heap.size_push]
    generalize hh₁ : (H2.push { cls:=.type "dict",data:=.dict #[] }).push { cls:=.type "cell",data:=.cell none } = h₁
    have hz2 : (H2.push { cls:=.type "dict",data:=.dict #[] }).objs.size = H2.objs.size + 1:=Heap.size_push ..
    have hDC : s2.heap.objs.size ≠ H2.objs.size:=by lia
    have hDB : s2.heap.objs.size ≠ H2.objs.size + 1:=by lia
    have old : ∀ b o,s2.heap.get? b = some o → h₁.get? b = some o:=fun b o e=>by
      rw [← hh₁]; exact Heap.get?_push_of_some _ (Heap.get?_push_of_some _ (hH2 ▸ Heap.get?_push_of_some _ e))
    have hD1 : h₁.get? s2.heap.objs.size = some { cls:=.type "list",data:=.seq ([] : List Value).toArray }:=by
      rw [← hh₁]; exact Heap.get?_push_of_some _ (Heap.get?_push_of_some _ (hH2 ▸ Heap.get?_push_size _ rfl))
    have hns₁ : h₁.Ns H2.objs.size (fun _=>none):=by
      rw [← hh₁]; exact (Heap.Ns.new H2 (.type "dict")).keeps fun b o e=>Heap.get?_push_of_some _ e
    have hcell : h₁.IsCell (H2.objs.size + 1) none:=by
      rw [← hh₁,← hz2]; exact ⟨_,Heap.get?_push_size _ rfl,rfl⟩
    have noneD : s2.heap.get? s2.heap.objs.size = none:=none_at_size _
    have noneC : s2.heap.get? H2.objs.size = none:=Heap.get?_none_of_le (by lia)
    have noneB : s2.heap.get? (H2.objs.size + 1) = none:=Heap.get?_none_of_le (by lia)
    have a3 : Aft X φ μ1 ν s2 H1 σ.C μ1 { s2 with heap:=h₁,toks:=s2.toks } NoFree:=.grow a2.rep old
    have R2:=a2.rep
    have R3 : Rep X φ μ1 (ν ++ [H2.objs.size + 1]) H1 (σ.C ++ [none]) { s2 with heap:=h₁,toks:=s2.toks }:=a3.rep.addCells rfl (fun b hb=>by
      rw [List.mem_singleton] at hb; subst hb
      exact ⟨R2.not_mut noneB,R2.base_none noneB⟩) (by simp) fun i a w e1 e2=>by
        match i,e1,e2 with
        | 0,e1,e2=>refine re1_e e1 ?_; cases e2; exact ⟨_,hcell⟩
    have hnb : ∀ b,¬ Mut X μ1 ν b → b ≠ H2.objs.size + 1 → ¬ Mut X μ1 (ν ++ [H2.objs.size + 1]) b:=fun b h1 h2 q=>by
      rcases q with q | q | q
      · exact h1 (.inl q)
      · rcases List.mem_append.mp q with q | q
        · exact h1 (.inr (.inl q))
        · exact h2 (List.mem_singleton.mp q)
      · exact h1 (.inr (.inr q))
    have st2 : Stab s2.heap h₁:=fun b o e _=>old b o e
    have F2' : FrOk X φ nm env σ.loc σ.cel μ1 ν s2.heap:=F2
    have F5:=comp_frameC (nl:=nl) (b:=H2.objs.size + 1) K N F2' hns₁ (hnb _ (R2.not_mut noneC) (Nat.ne_of_lt (Nat.lt_succ_self _))) (R2.base_none noneC) hlen
    have lO:=II.live I2
    have a23:=a2.trans a3
    refine comp_core (own:=[x]) (bs:=[H2.objs.size + 1]) (H:=σ.H) (C:=σ.C) (σ0:={ loc:=List.replicate nl none,cel:=σ.C.length :: is.map fun i=>σ.cel.getD i 0,C:=σ.C ++ [none],H:=H1 }) (D:=s2.heap.objs.size) (env':=compEnvC scope ((x,H2.objs.size + 1) :: closAcc env.cells scope.names []) H2.objs.size env) hz (fun y h=>by
        rw [List.mem_singleton] at h; rw [h]; exact K.ownk) rt ri rc hA R (by rw [← R.lenC]; exact F5) ⟨a23.pre,a23.new,R3,a23.keeps,a23.alive⟩ hD1 (a2.gone noneD) (hnb _ (R2.not_mut noneD) hDB) (a2.gone noneC) hDC
      (fun b q=>q.elim (fun z=>by rw [z]; exact a2.gone noneC) fun ⟨y,hy,e⟩=>by
        rw [List.mem_singleton] at hy; subst hy
        have e' : List.lookup y ((y,H2.objs.size + 1) :: closAcc env.cells scope.names []) = some b:=e
        rw [List.lookup_cons] at e'
        simp at e'
        rw [← e']; exact a2.gone noneB) II (It_cells II I2 st2 old) hO (fun b hb=>?_) (fun hb=>?_) (fun hb=>?_) e2 hc fun s' μ' mC a r hn hm hb=>hq s' _ _ _ mC a r hn hm hb (a2.gone noneC)
    · refine hnb b (hOm b hb) fun z=>?_
      refine e1a2 (lO _ hb) fun o e _=>?_
      rw [z,noneB] at e; cases e
    · refine e1a2 (lO _ hb) fun o e _=>?_
      rw [show (compEnvC scope ((x,H2.objs.size + 1) :: closAcc env.cells scope.names []) H2.objs.size env).locals = H2.objs.size from rfl,noneC] at e; cases e
    · refine e1a2 (lO _ hb) fun o e _=>?_
      rw [noneD] at e; cases e
  · cases em
end
end Mine
namespace Mine
section
variable {X : Cx} {n : Nat} {nm nmc : Nm}
theorem comp_post_none {A : Around} {s : Shared} {μ ν : List Addr} {H : List L} {C : List (Option V)} {v : V} {H' : List L} (R : Rep X φ μ ν H C s) : CompPost X φ μ ν s C v H' A (fun _ _=>False) none (QX X φ μ ν s H' C v):=fun s' μ' D CA mC a r hn hm hb h0=>by
  refine ⟨mC,hn,fun h' hs'=>⟨μ',?_,?_⟩⟩
  · refine e0a2 (a.rep.dropNs hn hm hb hs' (R.notFr h0)) fun R' st=>?_
    exact ⟨a.pre,a.new,R',fun b o q (e : s.heap.get? b = some o)=>(a.keeps b o q e).step fun o' e'=>hs'.extBut b o' (fun z=>by rw [z,h0] at e; cases e) e',fun b o (e : s.heap.get? b = some o)=>by
      refine e1a1 (a.alive b o e) fun o' e'=>?_
      exact ⟨o',hs'.extBut b o' (fun z=>by rw [z,h0] at e; cases e) e'⟩⟩
  · exact r.mono (a.rep.dropNs hn hm hb hs' (R.notFr h0)).2 (List.prefix_refl _) (List.prefix_refl _)
theorem RX_compI {elt : PySem.Expr} {target iter : PySem.Expr} {ifs : List PySem.Expr} {rest : List Comprehension} {scope : Scope} {pos : Pos} {is : List Nat} {fuel nl : Nat} {put : Put} {m : Im} {t : Bm} {c : Cm} (hz : ∀ g ∈ (⟨target,iter,ifs,0⟩ :: rest : List Comprehension),g.is_async = 0)
    (K : CompAt nm nmc scope is) (N : NmOk nmc) (rm : RIt X φ n nm target iter m) (rt : RTL X φ nmc target put) (ri : RIf X φ n nmc ifs t) (rc : RCm X φ n nmc elt (⟨target,iter,ifs,0⟩ :: rest) scope pos 0 c) (hs : ∀ env x,foldedSetIterable iter env x = pure x:=by intro _ _; rfl) :
    RX X φ n nm (.ListComp elt (⟨target,iter,ifs,0⟩ :: rest) scope pos) (mCompI fuel nl is put m t c):=fun A env σ s μ ν v H' hA F R em=>by
  rw [eval_ListComp]
  exact comp_runI hz K N rm rt ri rc hA F R em (comp_post_none R) hs
theorem RX_compC {elt : PySem.Expr} {target iter : PySem.Expr} {ifs : List PySem.Expr} {rest : List Comprehension} {scope : Scope} {pos : Pos} {x : Str} {is : List Nat} {fuel nl : Nat} {put : Put} {m : Im} {t : Bm} {c : Cm} (hz : ∀ g ∈ (⟨target,iter,ifs,0⟩ :: rest : List Comprehension),g.is_async = 0)
    (K : CompAtC nm nmc scope x is) (N : NmOk nmc) (rm : RIt X φ n nm target iter m) (rt : RTO X φ nmc [x] target put) (ri : RIf X φ n nmc ifs t) (rc : RCm X φ n nmc elt (⟨target,iter,ifs,0⟩ :: rest) scope pos 0 c) (hs : ∀ env x,foldedSetIterable iter env x = pure x:=by intro _ _; rfl) :
    RX X φ n nm (.ListComp elt (⟨target,iter,ifs,0⟩ :: rest) scope pos) (mCompC fuel nl is put m t c):=fun A env σ s μ ν v H' hA F R em=>by
  rw [eval_ListComp]
  exact comp_runC hz K N rm rt ri rc hA F R em (comp_post_none R) hs
theorem assign_comp_post (N : NmOk nm) {x : Str} {p : Pos} {i : Nat} (hi : nm.loc[i]? = some x) {A : Around} {env : Env} {σ : S} {s : Shared} {μ ν : List Addr} {v : V} {H1 : List L} (F : FrOk X φ nm env σ.loc σ.cel μ ν s.heap) (R : Rep X φ μ ν σ.H σ.C s) :
    CompPost X φ μ ν s σ.C v H1 A (fun _ _=>False) (some (assign (.Name x p) env)) (fun _ s'=>QS X φ nm env μ ν s { σ with H:=H1,loc:=σ.loc.set i (some v) } .next .next s'):=fun s' μ' D CA mC a r hn hm hb h0=>by
  have F':=F.aft R a
  refine wpAny_assign_Name (store_locL N F' a.rep hi r fun s2 a2 F2=>?_)
  have hCL : CA ≠ env.locals:=fun z=>by
    refine e1a2 F.ns fun m0 hn0 _=>?_
    refine e1a1 (Ns_alive hn0) fun o eo=>?_
    rw [z,eo] at h0; cases h0
  have nC : ¬ (Chg X μ' CA ∨ LocF env CA):=fun q=>q.elim (fun q=>hm q.mut) hCL
  have hn2 : s2.heap.Ns CA mC:=Kept.ns hn fun o e=>a2.keeps _ o nC e
  refine ⟨mC,hn2,fun h' hs'=>⟨μ',?_,?_,trivial⟩⟩
  · refine e0a2 (a2.rep.dropNs hn2 hm hb hs' (R.notFr h0)) fun R' st=>?_
    have a3:=a.toFr (nm:=nm) (env:=env) |>.trans (a2.weaken fun _ q=>.inl q)
    exact ⟨a3.pre,a3.new,R',fun b o q (e : s.heap.get? b = some o)=>(a3.keeps b o q e).step fun o' e'=>hs'.extBut b o' (fun z=>by rw [z,h0] at e; cases e) e',fun b o e=>by
      refine e1a1 (a3.alive b o e) fun o' e'=>?_
      exact ⟨o',hs'.extBut b o' (fun z=>by rw [z,h0] at e; cases e) e'⟩⟩
  · exact F2.mono (a2.rep.dropNs hn2 hm hb hs' (R.notFr h0)).2 (List.prefix_refl _) (List.prefix_refl _) (fun o e=>hs'.extBut _ o (fun z=>hCL z.symm) e) F2.own.1
theorem RS_assign_compI (N : NmOk nm) {x : Str} {p spos : Pos} {i : Nat} (hi : nm.loc[i]? = some x) {elt : PySem.Expr} {target iter : PySem.Expr} {ifs : List PySem.Expr} {rest : List Comprehension} {scope : Scope} {pos : Pos} {is : List Nat} {fuel nl : Nat} {put : Put} {m : Im} {t : Bm} {c : Cm} (hz : ∀ g ∈ (⟨target,iter,ifs,0⟩ :: rest : List Comprehension),g.is_async = 0)
    (K : CompAt nm nmc scope is) (Nc : NmOk nmc) (rm : RIt X φ n nm target iter m) (rt : RTL X φ nmc target put) (ri : RIf X φ n nmc ifs t) (rc : RCm X φ n nmc elt (⟨target,iter,ifs,0⟩ :: rest) scope pos 0 c)
    (hsw : ∀ env : Env,env.scope = nm.scope → swapsWith (.ListComp elt (⟨target,iter,ifs,0⟩ :: rest) scope pos) (some (.Name x p)) spos.line env = pure true) (hs : ∀ env x,foldedSetIterable iter env x = pure x:=by intro _ _; rfl) :
    RS X φ n nm (.Assign [.Name x p] (.ListComp elt (⟨target,iter,ifs,0⟩ :: rest) scope pos) spos) (sAssign (.loc i) (mCompI fuel nl is put m t c)):=fun A env σ s μ ν f σ' hA F R em=>by
  revert em; refine m_VH fun v H1 e1 em=>?_
  refine ret_e em ?_
  rw [exec_Assign_Name_used _ _ _ _ (hsw env F.scope)]
  refine wpAny_bind (wpAny_standAt (wpAny_bind ?_))
  show wpAny _ A (do let _ ← comprehension (.ListComp elt (⟨target,iter,ifs,0⟩ :: rest) scope pos) scope env (firstIterPos (⟨target,iter,ifs,0⟩ :: rest) pos) (newList []) false (eval iter env) (some (assign (.Name x p) env))) _ _ s
  refine wpAny_bind (wpAny_mono (comp_runI hz K Nc rm rt ri rc hA F R e1 (assign_comp_post (p:=p) N hi F R) hs) (fun _ s' h=>wpAny_pure (wpAny_pure h)) fun _ _ h=>h)
noncomputable def putO (i : Nat) : Put:=fun v σ=>match σ.cel[i]? with
  | some c=>if c < σ.C.length then some { σ with C:=σ.C.set c (some v) } else none
  | none=>none
theorem RTO_cell (N : NmOk nm) {x : Str} {p : Pos} {i : Nat} (hi : nm.cel[i]? = some x) (hk : nm.scope.names.lookup x = some .cell) : RTO X φ nm [x] (.Name x p) (putO i):=fun A env σ σ' s μ ν v' v hA F R r e=>by
  revert e; refine m_N fun c hc e=>?_
  revert e; refine if_e fun hlt e=>?_
  refine re1_e e ?_
  refine wpAny_assign_Name ?_
  refine e1a2 (F.cell i x c hi hc) fun a ha hl=>?_
  refine e1a1 (R.cell_at (List.mem_of_getElem? ha)) fun v0 hv0=>?_
  refine wpAny_storeName_cell (by rw [F.scope]; exact N.kind) ((F.kindOf x).trans hk) hl hv0 fun h' hc' hs'=>?_
  have hext:=hs'.extBut
  have R' : Rep X φ μ ν σ.H (σ.C.set c (some v)) { s with heap:=h' }:=R.setCell ha hext hc' r
  have hm : Mut X μ ν a:=.inr (.inl (List.mem_of_getElem? ha))
  have st : Stab s.heap h':=fun b o e sb=>hext b o (fun z=>by subst z; exact R.not_stable hm e sb) e
  obtain ⟨oc,hoc,_⟩:=id hc'
  refine ⟨⟨List.prefix_refl _,fun _ q=>.inl q,R',fun b o q e=>.inl (hext b o (fun z=>q (.inr (.inr ⟨x,by simp,z ▸ hl⟩))) e),fun b o e=>?_⟩,?_,rfl,rfl⟩
  · by_cases z : b = a
    · subst z; exact ⟨_,hoc⟩
    · exact ⟨o,hext b o z e⟩
  · exact F.mono st (List.prefix_refl _) (List.prefix_refl _) (fun o e=>hext _ o (fun z=>F.own.1 (z ▸ hm)) e) F.own.1
end
end Mine
namespace Mine
section
variable {X : Cx} {n : Nat} {nm nmc : Nm}
noncomputable def cForI (fuel : Nat) (put : Put) (m : Im) (t : Bm) (c : Cm) : Cm:=fun vs σ=>match m σ with
  | some (item,H)=>compGoI item put t c fuel 0 vs { σ with H:=H }
  | none=>none
set_option tactic.hygienic true in
theorem RCm_forI {elt : PySem.Expr} {gens : List Comprehension} {scope : Scope} {pos : Pos} {d fuel : Nat} {target iter : PySem.Expr} {ifs : List PySem.Expr} {put : Put} {m : Im} {t : Bm} {c : Cm} (hg : gens[d + 1]? = some ⟨target,iter,ifs,0⟩) (hz : ∀ g ∈ gens,g.is_async = 0)
    (hput : ∀ v σ σ',put v σ = some σ' → σ'.C = σ.C) (hcm : ∀ vs σ vs' σ',c vs σ = some (vs',σ') → σ'.C = σ.C)
    (rm : RIt X φ n nm target iter m) (rt : RTL X φ nm target put) (ri : RIf X φ n nm ifs t) (rc : RCm X φ n nm elt gens scope pos (d + 1) c) (hs : ∀ env x,foldedSetIterable iter env x = pure x:=by intro _ _; rfl) :
    RCm X φ n nm elt gens scope pos d (cForI fuel put m t c):=fun A env σ σ' s μ ν D vs vs' hA F R P hm hb hne em=>by
  unfold cForI at em
  split at em
  · rename_i item H1 e1
    have hCC : σ'.C = σ.C:=by
      have key : ∀ (fuel k : Nat) (vs : List V) (τ : S),compGoI item put t c fuel k vs τ = some (vs',σ') → σ'.C = τ.C:=by
        intro fuel
        induction fuel with
        | zero=>intro k vs τ e; cases e
        | succ g ih =>
          intro k vs τ e
          unfold compGoI at e
          split at e
          · cases e; rfl
          · revert e; refine m_S fun τ1 e1 e=>?_
            split at e
            · split at e
              · rename_i e3
                have h1 : τ1.C = τ.C:=hput _ _ _ e1
                exact (ih _ _ _ e).trans (Eq.trans (hcm _ _ _ _ e3) h1)
              · cases e
            · have h1 : τ1.C = τ.C:=hput _ _ _ e1
              exact Eq.trans (ih _ _ _ e) h1
            · cases e
          · cases e
      have q:=key fuel 0 vs { σ with H:=H1 } em
      exact q
    unfold bodyAt
    rw [hg]
    simp only [bne_self_eq_false,Bool.false_eq_true,if_false]
    refine wpAny_bind (wpAny_mono (rm A env σ s μ ν item H1 (fun itv s'=>wpAny (model X.prog X.w) A (runOwn (.compStart (.ListComp elt gens scope pos) (d + 1) itv (.ref D) env) env) (fun _ s'=>wpAny (model X.prog X.w) A (pure () : Sem Unit) (QC X φ nm env μ ν s σ σ' D vs') (fun _ _=>False) s') (fun _ _=>False) s') (fun _ _=>False) hA F R e1 (compGoI_iter em) fun it O At Mid s2 μ1 a2 II I2 hO hOm=>?_)
      (fun x' s1 h1=>wpAny_bind (wpAny_standAt (wpAny_bind (wpAny_of_eq (hs env x') (wpAny_bind (wpAny_holding (wpAny_mono h1 (fun itv s' h=>wpAny_bind h) fun _ _ h=>h))))))) fun _ _ h=>h)
    have F2:=F.aft R a2
    have nD : ¬ (Chg X μ D ∨ NoFree D):=fun q=>q.elim (fun q=>hm q.mut) False.elim
    obtain ⟨its0,m0,eD0,_⟩:=id P
    have P2:=P.mono (a2.stab R) a2.pre fun o e=>(a2.keeps _ o nD e).nd (P.nd e)
    have hm2:=a2.mut eD0 hm
    have hiL : env.locals ∉ O:=fun z=>by
      refine e1a2 F.ns fun m0 hn _=>?_
      refine e1a1 (Ns_alive hn) fun o eo=>?_
      rw [hO _ z] at eo; cases eo
    have hiD : D ∉ O:=fun z=>by rw [hO _ z] at eD0; cases eD0
    refine wpAny_runOwn ?_
    show codeAny _ A _ _ _
    have L:=comp_loopG (own:=[]) (fuel:=fuel) (k:=0) (σ:={ σ with H:=H1 }) (RR:=fun r s'=>match r with
        | .ok f=>wpAny (model X.prog X.w) A (pure () : Sem Unit) (QC X φ nm env μ ν s σ σ' D vs') (fun _ _=>False) s'
        | .error e=>cameBackBy (model X.prog X.w) A env (fun _ _=>False) e s') (pos:=pos) (scope:=scope) hg hz (fun _ h=>nomatch h) rt.toO ri rc hA F2 a2.rep P2 hm2 hb hne II I2 hOm (fun b hb=>R.base_none (hO b hb)) hiL hiD (a2.weaken fun _ q=>q.elim) hO em
      (fun s' μ' a3 F3 P3 _ h2=>wpAny_pure ⟨μ',by
        have a3' : Aft X φ μ ν s σ'.H σ.C μ' s' (CompO [] env D O):=by rw [← hCC]; exact a3
        exact ⟨a3'.pre,a3'.new,a3'.rep,fun b o q e=>a3'.keeps b o (fun z=>z.elim (fun z=>q (.inl z)) fun z=>by
          rcases z with (z | ⟨y,hy,_⟩) | z | z
          · exact q (.inr (.inl z))
          · cases hy
          · exact q (.inr (.inr z))
          · rw [hO b z] at e; cases e) e,a3'.alive⟩,F3,P3,hCC,h2⟩)
    exact compStart_at hg L (II.self I2 L)
  · cases em
theorem putL_C {i : Nat} : ∀ v σ σ',putL i v σ = some σ' → σ'.C = σ.C:=fun v σ σ' e=>by refine re1_e e ?_; rfl
theorem cElt_C {m : Xm} : ∀ vs σ vs' σ',cElt m vs σ = some (vs',σ') → σ'.C = σ.C:=fun vs σ vs' σ' e=>by
  revert e; refine m_VH fun _ _ _ e=>?_
  revert e; refine if_e fun _ e=>?_
  refine ret_e e ?_; rfl
end
end Mine
namespace Mine
section
variable {prog : Program} {w : World} {A : Around} {E : Value → Shared → Prop} {s : Shared}
end
section
variable {X : Cx} {n : Nat} {nm nmc : Nm}
end
end Mine
namespace Mine
theorem perm_sorted_eq : ∀ {xs ys : List Int},xs.Perm ys → xs.Pairwise (· ≤ ·) → ys.Pairwise (· ≤ ·) → xs = ys
  | [],ys,h,_,_=>by rw [List.nil_perm.mp h]
  | x :: xs,[],h,_,_=>by have:=h.length_eq; simp at this
  | x :: xs,y :: ys,h,h1,h2=>by
    rw [List.pairwise_cons] at h1 h2
    have hxy : x = y:=by
      have a : x ∈ y :: ys:=h.mem_iff.mp (by simp)
      have b : y ∈ x :: xs:=h.mem_iff.mpr (by simp)
      rcases List.mem_cons.mp a with e | a
      · exact e
      · rcases List.mem_cons.mp b with e | b
        · exact e.symm
        · have:=h1.1 y b
          have:=h2.1 x a
          lia
    subst hxy
    rw [perm_sorted_eq (List.perm_cons x |>.mp h) h1.2 h2.2]
noncomputable def sortI (xs : List Int) : List Int:=xs.mergeSort (fun a b=>decide (a ≤ b))
theorem sortI_perm (xs : List Int) : (sortI xs).Perm xs:=List.mergeSort_perm _ _
theorem sortI_sorted (xs : List Int) : (sortI xs).Pairwise (· ≤ ·):=by
  have:=List.pairwise_mergeSort (le:=fun a b : Int=>decide (a ≤ b)) (by intro a b c; simp; lia) (by intro a b; simp; lia) xs
  exact this.imp fun h=>by simpa using h
theorem vrs_intsAre {X : Cx} {h : Heap} {μ ν : List Addr} {its : List Value} {xs : List Int} (r : IntsAre its xs) : VRs X h μ ν its (xs.map V.int):=by
  induction r with
  | nil=>exact .nil
  | cons n t _ ih=>exact .cons (.int n t) ih
section
variable {X : Cx} {n : Nat} {nm : Nm}
noncomputable def fSorted : FN:=fun vs H=>match vs with
  | [.ref i]=>(match H[i]? with
    | some (.ints xs)=>if xs.length < 64 then some (.ref H.length,H ++ [.ints (sortI xs)]) else none
    | _=>none)
  | _=>none
theorem OpN_sorted : OpN X φ n (fun xs=>call (.builtin "sorted") xs) fSorted:=fun A s μ ν H C xs vs H' r hA R rx em=>by
  unfold fSorted at em
  split at em
  · revert em; refine m_LL fun ns hl em=>?_
    revert em; refine if_e fun h64 em=>?_
    refine ret_e em ?_
    refine rx.e1 fun x r1=>r1.ref_e fun a ha=>?_
    refine e2a3 (R.lists _ a _ ha hl) fun its m e hz rv=>?_
    have hlen : its.length = ns.length:=by rw [rv.length]; exact List.length_map ..
    refine sorted_ints (vs:=its) ⟨_,e,rfl,m,rfl⟩ (intsAre_of rv) (by lia) fun out ns' q1 q2 q3=>?_
    have hns : ns' = sortI ns:=perm_sorted_eq (q2.trans (sortI_perm ns).symm) q3 (sortI_sorted ns)
    refine e1a1 (sortedAll_at s.heap its out) fun e2 he2=>?_
    refine fresh_list (tk:=s.toks) (l:=.ints (sortI ns)) (its:=out.toList) R (fun b o eb=>sortedAll_old eb) (Heap.get?_none_of_le (by lia)) he2 (by rw [← hns]; exact vrs_intsAre q1) ?_ (stills_ints _)
    simp only [L.vs,List.length_map]
    rw [(sortI_perm ns).length_eq]; lia
  · cases em
noncomputable def fCat : F2:=fun v w H=>match v,w with
  | .ref i,.ref j=>(match H[i]?,H[j]? with
    | some l,some l2=>if stills (l.cat l2).vs && decide (l.vs.length + l2.vs.length ≤ 1048576) then some (.ref H.length,H ++ [l.cat l2]) else none
    | _,_=>none)
  | _,_=>none
set_option tactic.hygienic true in
theorem Op2_cat : Op2 X φ n (binaryOp .Add) fCat:=fun A s μ ν H C x y v u H' r hA R rx ry em=>by
  unfold fCat at em
  split at em
  · split at em
    · rename_i l l2 hl hl2
      revert em; refine if_e fun hc em=>?_
      refine ret_e em ?_
      simp only [Bool.and_eq_true,decide_eq_true_eq] at hc
      refine rx.ref_e fun a ha=>ry.ref_e fun b hb=>?_
      refine e2a3 (R.lists _ a l ha hl) fun its m e hz rv=>?_
      refine e2a3 (R.lists _ b l2 hb hl2) fun its2 m2 e2 hz2 rv2=>?_
      have n1:=rv.length
      have n2:=rv2.length
      refine concat_meets ⟨_,e,rfl⟩ ⟨_,e2,rfl⟩ noFill_list_add seq_list_add PySem.F.slot_list_add PySem.F.entry_list_add (PySem.F.args_list_add_2 _ _) (list_addW a b its.toArray its2.toArray m m2 none none #[] #[] (by simp only [List.size_toArray,sizeLine_val]; lia)) ⟨e,e2,?_⟩
      refine fresh_list (tk:=s.toks) (m:=0) (l:=l.cat l2) (its:=its ++ its2) R (fun b o eb=>Heap.get?_push_of_some _ eb) (none_at_size _) (by simpa using Heap.get?_push_size s.heap (o:={ cls:=.type "list",data:=.seq (its.toArray ++ its2.toArray) }) rfl) ?_ ?_ hc.1
      · rw [L.cat_vs]
        exact ((rv.mono (fun b o e _=>Heap.get?_push_of_some _ e) (List.take_prefix _ _) (List.nil_prefix)).append (rv2.mono (fun b o e _=>Heap.get?_push_of_some _ e) (List.take_prefix _ _) (List.nil_prefix)))
      · rw [L.cat_vs,List.length_append]; exact hc.2
    · cases em
  · cases em
noncomputable def L.rep (l : L) (k : Nat) : L:=match l with
  | .ints xs=>.ints (List.replicate k xs).flatten
  | .vals vs=>.vals (List.replicate k vs).flatten
theorem L.rep_vs (l : L) (k : Nat) : (l.rep k).vs = (List.replicate k l.vs).flatten:=by
  rcases l with xs | vs
  · show (List.replicate k xs).flatten.map V.int = _
    rw [List.map_flatten,List.map_replicate]; rfl
  · rfl
theorem VRs.reps {h : Heap} {μ ν : List Addr} {xs : List Value} {vs : List V} (r : VRs X h μ ν xs vs) : ∀ k,VRs X h μ ν (List.replicate k xs).flatten (List.replicate k vs).flatten
  | 0=>.nil
  | k + 1=>by rw [List.replicate_succ,List.replicate_succ,List.flatten_cons,List.flatten_cons]; exact r.append (VRs.reps r k)
theorem foldl_joined {α : Type} : ∀ (l : List (Array α)) (acc : Array α),(l.foldl (fun x1 x2=>x1 ++ x2) acc).toList = acc.toList ++ (l.map Array.toList).flatten
  | [],acc=>by simp
  | a :: l,acc=>by rw [List.foldl_cons,foldl_joined l]; simp
noncomputable def fRep : F2:=fun v w H=>match v,w with
  | .ref i,.int k=>(match H[i]? with
    | some l=>if stills (l.rep k.toNat).vs && decide (0 ≤ k) && decide (k ≤ 1000) && decide (l.vs.length * k.toNat ≤ 1048576) then some (.ref H.length,H ++ [l.rep k.toNat]) else none
    | none=>none)
  | _,_=>none
set_option tactic.hygienic true in
theorem Op2_rep : Op2 X φ n (binaryOp .Mult) fRep:=fun A s μ ν H C x y v u H' r hA R rx ry em=>by
  unfold fRep at em
  split at em
  · rename_i i k
    revert em; refine m_L fun l hl em=>?_
    revert em; refine if_e fun hc em=>?_
    refine ret_e em ?_
    simp only [Bool.and_eq_true,decide_eq_true_eq] at hc
    obtain ⟨⟨⟨h1,h2⟩,h3⟩,h4⟩:=hc
    refine rx.ref_e fun a ha=>ry.int_e fun t=>?_
    refine e2a3 (R.lists _ a l ha hl) fun its m e hz rv=>?_
    have n1:=rv.length
    have hsz : its.toArray.size * k.toNat ≤ 1048576:=by rw [List.size_toArray,n1]; exact h4
    refine wpAny_binaryOp_repeat_ref (T:="list") (U:="int") (by decide) ⟨_,e,rfl⟩ (fun s'=>typeIs_int s' k t) noFill_list_mul PySem.F.fills_int_mul PySem.F.slot_int_rmul repeat_list PySem.F.slot_int_index.lookup
      (call_meets PySem.F.slot_int_rmul (typeIs_int s k t) PySem.F.entry_int_rmul (PySem.F.args_int_rmul_2 _ _) (int___rmul___int_list k t a its.toArray m)
        ⟨e,rfl,⟨_,e,rfl⟩,call_meets PySem.F.slot_list_mul ⟨_,e,rfl⟩ PySem.F.entry_list_mul (PySem.F.args_list_mul_2 _ _)
          (AutoListH.list___mul___list_int_3 a its.toArray m k t (by simp [Builtin.List.listFitsIndex]; lia) (by lia) (by simp only [Builtin.List.listTooLong,sizeLine_val,decide_eq_true_eq]; lia))
          ⟨e,?_⟩⟩)
    generalize hL : (List.foldl (fun x1 x2=>x1 ++ x2) #[] (List.replicate (if its.toArray.isEmpty = true then 0 else k.toNat) its.toArray) : Array Value) = big
    have hbig : big.toList = (List.replicate k.toNat its).flatten:=by
      rw [← hL,foldl_joined,List.map_replicate]
      cases its with
      | nil =>
        simp
      | cons y ys =>
        simp
    refine fresh_list (tk:=s.toks) (m:=0) (l:=l.rep k.toNat) (its:=big.toList) R (fun b o eb=>Heap.get?_push_of_some _ eb) (none_at_size _) (by simpa using Heap.get?_push_size s.heap (o:={ cls:=.type "list",data:=.seq big }) rfl) ?_ ?_ h1
    · rw [L.rep_vs,hbig]
      exact (rv.reps _).mono (fun b o e _=>Heap.get?_push_of_some _ e) (List.take_prefix _ _) (List.nil_prefix)
    · rw [L.rep_vs,List.length_flatten,List.map_replicate,List.sum_replicate_nat]
      rw [Nat.mul_comm]; exact h4
  · cases em
end
end Mine
namespace Mine
section
variable {prog : Program} {w : World} {A : Around} {E : Value → Shared → Prop} {s : Shared}
theorem draw_list {it l : Addr} {items : Array Value} (hne : l ≠ it) : ∀ (n i : Nat) (s : Shared) (Q : List Value → Shared → Prop),s.heap.IsListIter it l i → s.heap.IsList l items → i + n ≤ items.size →
    (∀ h',h'.IsListIter it l (i + n) → Heap.SameBut it s.heap h' → Q ((items.toList.drop i).take n) { s with heap:=h' }) → wpAny (model prog w) A (draw (.ref it) n) Q E s
  | 0,i,s,Q,hit,hl,hn,hQ=>by
    unfold draw
    exact wpAny_pure (by simpa using hQ s.heap hit (Heap.SameBut.refl ..))
  | n + 1,i,s,Q,hit,hl,hn,hQ=>by
    have hlt : i < items.size:=by lia
    unfold draw
    refine wpAny_bind (wpAny_pyNext_list_item hit hl (x:=items[i]) (by simp [hlt]) fun h₁ hit₁ hs₁=>?_)
    refine wpAny_bind (wpAny_holding (draw_list hne n (i + 1) _ _ hit₁ (hl.extBut hs₁.extBut hne) (by lia) fun h₂ hit₂ hs₂=>wpAny_pure ?_))
    have hd : items.toList.drop i = items[i] :: items.toList.drop (i + 1):=by simp [List.drop_eq_getElem_cons,hlt]
    have:=hQ h₂ (by rw [show i + (n + 1) = i + 1 + n by lia]; exact hit₂) (hs₁.trans hs₂)
    rw [hd,List.take_succ_cons] at this
    exact this
theorem unpackItems_list {t : Addr} {items : Array Value} {Q : List Value → Shared → Prop} (hh : A.handled = none) (ht : s.heap.IsList t items)
    (hQ : ∀ h',Heap.ExtBut s.heap.objs.size s.heap h' → Q items.toList { s with heap:=h' }) : wpAny (model prog w) A (unpackItems (.ref t) items.size none) Q E s:=by
  have hlt : t ≠ s.heap.objs.size:=by obtain ⟨o,ho,_⟩:=ht; exact Nat.ne_of_lt (Heap.lt_size ho)
  unfold unpackItems
  refine wpAny_bind ?_
  · unfold notIterableAtAll
    refine wpAny_bind (wpAny_specialOf ht.typeIs PySem.F.slot_list_iter.lookup ?_)
    refine wpAny_pure ?_
    simp only [Bool.false_eq_true,if_false]
    refine wpAny_bind (wpAny_holding (wpAny_pyIter_list ht ?_))
    refine wpAny_bind (wpAny_holding (draw_list hlt items.size 0 _ _ ⟨_,Heap.get?_push_size _ rfl,rfl,rfl⟩ (ht.push _) (by lia) fun h₁ hit₁ hs₁=>?_))
    have hall : List.take items.size (List.drop 0 items.toList) = items.toList:=by
      rw [List.drop_zero]; exact List.take_of_length_le (by simp)
    rw [hall]
    rw [if_neg (by simp)]
    have ht₁ : h₁.IsList t items:=(ht.push _).extBut hs₁.extBut hlt
    refine wpAny_bind (wpAny_holding (wpAny_pyNext_list_end hh hit₁ ht₁ (by simp) fun h₂ he₂=>?_))
    simp only [Option.isSome_none,Bool.false_eq_true,if_false]
    refine wpAny_pure (hQ h₂ fun b o hb e=>he₂ b o hb (hs₁.extBut b o hb (Heap.get?_push_of_some _ e)))
theorem assign_Tuple_list {env : Env} {elts : List PySem.Expr} {x1 : Nat} {pos : Pos} {t : Addr} {items : Array Value} {Q : Unit → Shared → Prop} (hh : A.handled = none) (ht : s.heap.IsList t items)
    (hn : (assignEach elts env).length = items.size) (hstar : (assignEach elts env).findIdx? (·.1) = none)
    (h : ∀ h',Heap.ExtBut s.heap.objs.size s.heap h' → wpAny (model prog w) A (assignInOrder ((assignEach elts env).map (·.2)) items.toList) Q E { s with heap:=h' }) :
    wpAny (model prog w) A (assign (.Tuple elts x1 pos) env (.ref t)) Q E s:=by
  rw [arm_assign_Tuple]
  refine wpAny_bind (wpAny_standAt ?_)
  unfold unpack
  rw [hn,hstar]
  exact wpAny_bind (wpAny_holding (unpackItems_list hh ht h))
end
section
variable {X : Cx} {n : Nat} {nm : Nm}
noncomputable def putList (ts : List Tgt) : Put:=fun v σ=>match v with
  | .ref i=>(match σ.H[i]? with
    | some l=>putAll ts l.vs σ
    | none=>none)
  | _=>none
set_option tactic.hygienic true in
theorem RT_list (N : NmOk nm) {xs : List (Str × Pos)} {k : Nat} {pos : Pos} {ts : List Tgt} (T : Tgts nm (xs.map (·.1)) ts) : RT X φ nm (.Tuple (xs.map fun x=>.Name x.1 x.2) k pos) (putList ts):=fun A env σ σ' s μ ν v' v hA F R r e=>by
  unfold putList at e
  split at e
  · rename_i i
    revert e; refine m_L fun l hl0 e=>?_
    refine r.ref_e fun a ha=>?_
    refine e2a3 (R.lists _ a l ha hl0) fun its m eo hz rv=>?_
    have hl : ts.length = xs.length:=by
      have:=T.length
      simpa using this
    have hlen : its.length = ts.length:=by rw [rv.length,putAll_len e]
    refine assign_Tuple_list (items:=its.toArray) hA ⟨_,eo,rfl,m,rfl⟩ ?_ ?_ fun h' hs=>?_
    · rw [assignEach_names]; simp [hlen,hl]
    · rw [assignEach_names]; exact findIdx_none_map (fun x=>assign (.Name x.1 x.2) env) xs
    · rw [assignEach_names,List.map_map]
      have hk:=ext_size hs
      have st : Stab s.heap h':=fun b o e _=>hk b o e
      have a1 : Aft X φ μ ν s σ.H σ.C μ { s with heap:=h' } (FrW nm env):=.grow R hk
      have F1 : FrOk X φ nm env σ.loc σ.cel μ ν h':=F.mono st (List.prefix_refl _) (List.prefix_refl _) (fun o e=>hk _ o e) F.own.1
      exact wpAny_mono (stores_pos N (A:=A) T F1 a1.rep (rv.mono st (List.take_prefix _ _) (List.nil_prefix)) e) (fun _ s2 q=>q.elim fun a2 F2=>⟨a1.trans a2,F2⟩) fun _ _ h=>h
  · cases e
end
end Mine
namespace Mine
section
variable {prog : Program} {w : World} {A : Around} {E : Value → Shared → Prop} {s : Shared}
end
section
variable {X : Cx} {n : Nat} {nm : Nm}
end
end Mine
namespace Mine
noncomputable def Lk (key : Nat → Int) (i j : Nat) : Prop:=key i < key j ∨ (key i = key j ∧ i < j)
section
variable {N : Nat} {key : Nat → Int} {p : Array Nat} {m q : Nat}
end
end Mine
namespace Mine
section
variable {prog : Program} {w : World} {A : Around} {E : Value → Shared → Prop} {s : Shared}
end
end Mine
namespace Mine
theorem intsAre_at {vs : List Value} {ns : List Int} (h : IntsAre vs ns) : ∀ {i : Nat},i < ns.length → ∃ t,vs.getD i Value.none = .int (ns.getD i 0) t:=by
  induction h with
  | nil=>intro i hi; cases hi
  | cons n t _ ih =>
    intro i hi
    cases i with
    | zero=>exact ⟨t,rfl⟩
    | succ i=>exact ih (i:=i) (by simpa using hi)
section
variable {X : Cx}
end
section
variable {prog : Program} {w : World} {A : Around} {E : Value → Shared → Prop} {s : Shared}
end
section
variable {X : Cx} {n : Nat} {nm : Nm}
end
end Mine
namespace Mine
section
variable {X : Cx} {φ : List Env} {n : Nat} {nm nmc : Nm}
noncomputable def dOrE (a b : V → Option FCallE) : V → Option FCallE:=fun v=>match a v with
  | some f=>some f
  | none=>b v
theorem dOrE_ok {a b : V → Option FCallE} (ha : ∀ v f,a v = some f → CallVE X φ n v f) (hb : ∀ v f,b v = some f → CallVE X φ n v f) : ∀ v f,dOrE a b v = some f → CallVE X φ n v f:=fun v f e=>by
  unfold dOrE at e
  split at e
  · cases e; exact ha v _ ‹_›
  · exact hb v f e
theorem RS_assignC (N : NmOk nm) {x : Str} {p pos : Pos} {e : PySem.Expr} {m : Xm} {t : Tgt} (r : RX X φ n nm e m) (ht : t.At nm x) (hs : ∀ env : Env,env.scope = nm.scope → swapsWith e (some (.Name x p)) pos.line env = pure false:=by rintro ⟨⟩ rfl; rfl) :
    RS X φ n nm (.Assign [.Name x p] e pos) (sAssign t m):=fun A env σ s μ ν f σ' hA F R em=>by
  revert em; refine m_VH fun v H1 e1 em=>?_
  revert em; refine m_S fun σ1 e2 em=>?_
  refine ret_e em ?_
  refine wpAny_Assign_Name (r.use hA F R e1 fun x' s1 μ1 a1 F1 r1=>?_) (hs env F.scope)
  exact store_tgt (σ:={ σ with H:=H1 }) N F1 a1.rep ht e2 r1 fun s2 a2 F2=>⟨μ1,a1.toFr.trans a2,F2,trivial⟩
end
end Mine
namespace Mine
section
variable {X : Cx} {φ : List Env} {n : Nat} {nm : Nm}
noncomputable def rngL (a b c : Int) : List Int:=(List.range (Builtin.Range.rangeSize a b c).toNat).map fun (k : Nat)=>a + k * c
noncomputable def fListA : FN:=fun vs H=>match vs with
  | [.ref i]=>fListL [.ref i] H
  | [.rng a b c]=>if Builtin.Range.small a b c && decide (0 ≤ Builtin.Range.rangeSize a b c) && decide (Builtin.Range.rangeSize a b c ≤ 1000) then some (.ref H.length,H ++ [.ints (rngL a b c)]) else none
  | _=>none
theorem vrs_ints_of {h : Heap} {μ ν : List Addr} {its : List Value} {ns : List Int} (hl : its.length = ns.length) (hi : ∀ (j : Nat) v,its[j]? = some v → ∃ t,v = .int (ns.getD j 0) t) : VRs X h μ ν its (ns.map V.int):=by
  induction its generalizing ns with
  | nil=>cases ns with
    | nil=>exact .nil
    | cons _ _=>simp at hl
  | cons v vs ih=>cases ns with
    | nil=>simp at hl
    | cons m ns =>
      refine e1a1 (hi 0 v rfl) fun t ht=>?_
      refine .cons ?_ (ih (by simpa using hl) fun j w hw=>?_)
      · rw [ht]; exact .int _ _
      · refine e1a1 (hi (j+1) w (by simpa using hw)) fun t ht=>?_
        exact ⟨t,by simpa using ht⟩
set_option tactic.hygienic true in
theorem OpN_listA : OpN X φ n (fun xs=>call (.type "list") xs) fListA:=fun A s μ ν H C xs vs H' r hA R rx em=>by
  unfold fListA at em
  split at em
  · exact OpN_list A s μ ν H C xs _ H' r hA R rx em
  · rename_i a b c
    revert em; refine if_e fun hc em=>?_
    refine ret_e em ?_
    simp only [Bool.and_eq_true,decide_eq_true_eq] at hc
    obtain ⟨⟨h1,h2⟩,h3⟩:=hc
    refine rx.e1 fun x r1=>r1.rng_e fun rr t u v er=>?_
    have hn : Builtin.Range.rangeSize a b c = ((Builtin.Range.rangeSize a b c).toNat : Int):=by lia
    generalize hk' : (Builtin.Range.rangeSize a b c).toNat = k at hn
    refine call_list_range (n:=k) hA.handled er h1 hn (by lia) fun h' tk acc' c' hk he hi=>?_
    refine fresh_list (tk:=tk) (l:=.ints (rngL a b c)) (its:=acc'.toList) R hk (none_at_size _) (by simpa using he) ?_ ?_ (stills_ints _)
    · refine vrs_ints_of ?_ fun j v hv=>?_
      · rw [Array.length_toList,hi.1,rngL,List.length_map,List.length_range,hk']
      · refine e1a1 (hi.2 j v (by simpa using hv)) fun t ht=>?_
        have hj : j < k:=by rw [← hi.1]; exact (Array.getElem?_eq_some_iff.mp (by simpa using hv)).1
        exact ⟨t,by rw [ht,rngL,List.getD_eq_getElem?_getD,List.getElem?_map,List.getElem?_range (by lia)]; simp⟩
    · simp [L.vs,rngL]; lia
  · cases em
end
end Mine
namespace Mine
section
variable {prog : Program} {w : World} {A : Around} {E : Value → Shared → Prop} {s : Shared}
theorem wpAny_alive {M : Model} {a : Addr} {Q : Option Obj → Shared → Prop} (h : Q (s.heap.get? a) s) : wpAny M A (loadIfAlive a) Q E s:=fun _ _ _=>h
noncomputable abbrev ZipAt (h : Heap) (z TI TO : Addr) (f0 : Value) (fl : Bool) : Prop:=h.get? z = some { cls:=.type "zip",dict:=none,data:=.fields #[f0,.bool fl,.bool false,.ref TI,.ref TO],slots:=#[] }
theorem zip_next_more {z TI TO i1 i2 l1 l2 T0 : Addr} {fl : Bool} {k1 k2 : Nat} {xs ys : Array Value} {x y : Value} {o0 : Obj} {Q : Value → Shared → Prop} (D : ZipApart z TI TO i1 i2 l1 l2)
    (hz : ZipAt s.heap z TI TO (rawInt T0) fl) (h0 : s.heap.get? T0 = some o0) (hTI : IsPair s.heap TI (.ref i1) (.ref i2))
    (h1 : s.heap.IsListIter i1 l1 k1) (h2 : s.heap.IsListIter i2 l2 k2) (hl1 : s.heap.IsList l1 xs) (hl2 : s.heap.IsList l2 ys) (hx : xs[k1]? = some x) (hy : ys[k2]? = some y)
    (hQ : ∀ h',ZipAt h' z TI TO (rawInt T0) true → h'.IsListIter i1 l1 (k1 + 1) → h'.IsListIter i2 l2 (k2 + 1) → IsPair h' s.heap.objs.size x y →
      (∀ c o,c ≠ z → c ≠ i1 → c ≠ i2 → s.heap.get? c = some o → h'.get? c = some o) → Q (.ref s.heap.objs.size) { s with heap:=h' }) :
    wpAny (model prog w) A (Builtin.«zip.__next__» ⟨[.ref z],[]⟩) (fun fin s'=>∃ v,fin = .done (.ret v) ∧ Q v s') E s:=by
  show wpAny _ _ (field (.ref z) 2 >>= _) _ _ _
  refine wpAny_bind (wpAny_field hz rfl (x:=.bool false) rfl ?_)
  show wpAny _ _ (field (.ref z) 3 >>= _) _ _ _
  refine wpAny_bind (wpAny_field hz rfl (x:=.ref TI) rfl ?_)
  refine wpAny_bind (wpAny_seqItems hTI rfl ?_)
  show wpAny _ _ (Builtin.SmallTypes.ownedTupleIsFree (.ref z) >>= _) _ _ _
  refine wpAny_bind ?_
  unfold Builtin.SmallTypes.ownedTupleIsFree
  refine wpAny_bind (wpAny_field hz rfl (x:=rawInt T0) rfl ?_)
  refine wpAny_bind (wpAny_alive ?_)
  rw [show ((T0 : Int).toNat) = T0 from rfl,h0]
  simp only [Option.isNone_some,Bool.false_eq_true,if_false]
  refine wpAny_bind (wpAny_field hz rfl (x:=.bool fl) rfl ?_)
  refine wpAny_mono (Q:=fun b s'=>b = false ∧ ∃ h₁,s' = { s with heap:=h₁ } ∧ ZipAt h₁ z TI TO (rawInt T0) true ∧ Heap.SameBut z s.heap h₁) ?_ ?_ fun _ _ h=>h
  · cases fl with
    | true=>exact wpAny_pure ⟨rfl,s.heap,rfl,hz,Heap.SameBut.refl ..⟩
    | false=>exact wpAny_bind (wpAny_setField_rec hz (by simp) fun h₁ hz₁ hs₁=>wpAny_pure ⟨rfl,h₁,rfl,hz₁,hs₁⟩)
  rintro _ _ ⟨rfl,h₁,rfl,hz₁,hs₁⟩
  simp only [Bool.false_eq_true,if_false]
  refine wpAny_bind ?_
  simp only [List.forIn_toArray,List.forIn_cons,List.forIn_nil]
  refine wpAny_bind (wpAny_bind (wpAny_holding ?_))
  show wpAny _ _ (Builtin.SmallTypes.nextOf (.ref i1) >>= _) _ _ _
  refine wpAny_bind (wpAny_nextOf_list_item (h1.extBut hs₁.extBut D.i1z) (hl1.extBut hs₁.extBut D.l1z) hx fun h₂ h1₂ hs₂=>wpAny_pure ?_)
  refine wpAny_pure ?_
  refine wpAny_bind (wpAny_bind (wpAny_holding ?_))
  show wpAny _ _ (Builtin.SmallTypes.nextOf (.ref i2) >>= _) _ _ _
  refine wpAny_bind (wpAny_nextOf_list_item ((h2.extBut hs₁.extBut D.i2z).extBut hs₂.extBut D.i12.symm) ((hl2.extBut hs₁.extBut D.l2z).extBut hs₂.extBut D.l2i1) hy fun h₃ h2₃ hs₃=>wpAny_pure ?_)
  refine wpAny_pure (wpAny_pure ?_)
  refine wpAny_bind (wpAny_newTuple ?_ (by show (2 : Nat) ≤ _; rw [sizeLine_val]; decide))
  have hsz : h₃.objs.size = s.heap.objs.size:=by rw [hs₃.1,hs₂.1,hs₁.1]
  have hz₃ : ZipAt h₃ z TI TO (rawInt T0) true:=hs₃.extBut _ _ D.i2z.symm (hs₂.extBut _ _ D.i1z.symm hz₁)
  have h1₃:=h1₂.extBut hs₃.extBut D.i12
  refine wpAny_pure ⟨_,rfl,?_⟩
  show Q (.ref h₃.objs.size) _
  rw [hsz]
  refine hQ _ (Heap.get?_push_of_some _ hz₃) (h1₃.at fun o e=>Heap.get?_push_of_some _ e) (h2₃.at fun o e=>Heap.get?_push_of_some _ e) (by rw [← hsz]; exact Heap.get?_push_size _ rfl) fun c o c1 c2 c3 e=>?_
  exact Heap.get?_push_of_some _ (hs₃.extBut _ _ c3 (hs₂.extBut _ _ c2 (hs₁.extBut _ _ c1 e)))
theorem zip_end_more {z TI TO i1 i2 l1 l2 T0 : Addr} {fl : Bool} {k1 : Nat} {xs : Array Value} {o0 : Obj} {Q : PySem.Fin → Shared → Prop} (hh : A.handled = none) (D : ZipApart z TI TO i1 i2 l1 l2)
    (hz : ZipAt s.heap z TI TO (rawInt T0) fl) (h0 : s.heap.get? T0 = some o0) (hTI : IsPair s.heap TI (.ref i1) (.ref i2)) (h1 : s.heap.IsListIter i1 l1 k1) (hl1 : s.heap.IsList l1 xs) (hx : xs[k1]? = none)
    (hE : ∀ h' e,(∀ c o,c ≠ z → c ≠ i1 → s.heap.get? c = some o → h'.get? c = some o) → (∃ o,h'.get? e = some o ∧ o.cls = .type "StopIteration") → E (.ref e) { s with heap:=h' }) :
    wpAny (model prog w) A (Builtin.«zip.__next__» ⟨[.ref z],[]⟩) Q E s:=by
  show wpAny _ _ (field (.ref z) 2 >>= _) _ _ _
  refine wpAny_bind (wpAny_field hz rfl (x:=.bool false) rfl ?_)
  show wpAny _ _ (field (.ref z) 3 >>= _) _ _ _
  refine wpAny_bind (wpAny_field hz rfl (x:=.ref TI) rfl ?_)
  refine wpAny_bind (wpAny_seqItems hTI rfl ?_)
  show wpAny _ _ (Builtin.SmallTypes.ownedTupleIsFree (.ref z) >>= _) _ _ _
  refine wpAny_bind ?_
  unfold Builtin.SmallTypes.ownedTupleIsFree
  refine wpAny_bind (wpAny_field hz rfl (x:=rawInt T0) rfl ?_)
  refine wpAny_bind (wpAny_alive ?_)
  rw [show ((T0 : Int).toNat) = T0 from rfl,h0]
  simp only [Option.isNone_some,Bool.false_eq_true,if_false]
  refine wpAny_bind (wpAny_field hz rfl (x:=.bool fl) rfl ?_)
  refine wpAny_mono (Q:=fun b s'=>b = false ∧ ∃ h₁,s' = { s with heap:=h₁ } ∧ Heap.SameBut z s.heap h₁) ?_ ?_ fun _ _ h=>h
  · cases fl with
    | true=>exact wpAny_pure ⟨rfl,s.heap,rfl,Heap.SameBut.refl ..⟩
    | false=>exact wpAny_bind (wpAny_setField_rec hz (by simp) fun h₁ hz₁ hs₁=>wpAny_pure ⟨rfl,h₁,rfl,hs₁⟩)
  rintro _ _ ⟨rfl,h₁,rfl,hs₁⟩
  simp only [Bool.false_eq_true,if_false]
  refine wpAny_bind ?_
  simp only [List.forIn_toArray,List.forIn_cons,List.forIn_nil]
  refine wpAny_bind (wpAny_bind (wpAny_holding ?_))
  show wpAny _ _ (Builtin.SmallTypes.nextOf (.ref i1) >>= _) _ _ _
  exact wpAny_bind (wpAny_nextOf_list_end hh (h1.extBut hs₁.extBut D.i1z) (hl1.extBut hs₁.extBut D.l1z) hx fun h₂ e hs₂ he=>hE h₂ e (fun c o c1 c2 x=>hs₂ _ _ c2 (hs₁.extBut _ _ c1 x)) he)
structure ZSt (h : Heap) (z TI TO i1 i2 l1 l2 : Addr) (k : Nat) : Prop where
  zip : ∃ f0 fl,ZipAt h z TI TO f0 fl ∧ (f0 = .none ∧ fl = false ∨ ∃ (T0 : Addr) (a b : Value),f0 = rawInt T0 ∧ IsPair h T0 a b ∧ T0 ∉ [z,TO,i1,i2])
  ti : IsPair h TI (.ref i1) (.ref i2)
  to : ∃ a b,IsPair h TO a b
  i1 : h.IsListIter i1 l1 k
  i2 : h.IsListIter i2 l2 k
theorem ZSt.mono {h h' : Heap} {z TI TO i1 i2 l1 l2 : Addr} {k : Nat} (x : ZSt h z TI TO i1 i2 l1 l2 k) (f : ∀ b o,h.get? b = some o → (∀ its n,o ≠ { cls:=.type "list",data:=.seq its n }) → h'.get? b = some o) : ZSt h' z TI TO i1 i2 l1 l2 k where
  zip:=by
    obtain ⟨f0,fl,a,b⟩:=x.zip
    refine ⟨f0,fl,f _ _ a (fun _ _ e=>absurd (show Value.type "zip" = .type "list" from congrArg Obj.cls e) (by decide)),b.imp id fun ⟨T0,a,b,c,d,e⟩=>⟨T0,a,b,c,f _ _ d (fun _ _ e=>?_),e⟩⟩
    exact absurd (show Value.type "tuple" = .type "list" from congrArg Obj.cls e) (by decide)
  ti:=f _ _ x.ti fun _ _ e=>absurd (show Value.type "tuple" = .type "list" from congrArg Obj.cls e) (by decide)
  to:=let ⟨a,b,e⟩:=x.to; ⟨a,b,f _ _ e fun _ _ e=>absurd (show Value.type "tuple" = .type "list" from congrArg Obj.cls e) (by decide)⟩
  i1:=let ⟨o,e,c,d⟩:=x.i1; ⟨o,f _ _ e (fun _ _ z=>by subst z; cases d),c,d⟩
  i2:=let ⟨o,e,c,d⟩:=x.i2; ⟨o,f _ _ e (fun _ _ z=>by subst z; cases d),c,d⟩
theorem zip_draw {z TI TO i1 i2 l1 l2 : Addr} {k : Nat} {xs ys : Array Value} {x y : Value} {Q : Option Value → Shared → Prop} (D : ZipApart z TI TO i1 i2 l1 l2) (S : ZSt s.heap z TI TO i1 i2 l1 l2 k) (hl1 : s.heap.IsList l1 xs) (hl2 : s.heap.IsList l2 ys) (hx : xs[k]? = some x) (hy : ys[k]? = some y)
    (hQ : ∀ h',ZSt h' z TI TO i1 i2 l1 l2 (k + 1) → IsPair h' s.heap.objs.size x y → s.heap.objs.size ∉ [z,TO,i1,i2] → (∀ c o,c ∉ [z,TO,i1,i2] → s.heap.get? c = some o → h'.get? c = some o) → Q (some (.ref s.heap.objs.size)) { s with heap:=h' }) :
    wpAny (model prog w) A (pyNext (.ref z)) Q E s:=by
  obtain ⟨f0,fl,hz,hf⟩:=S.zip
  obtain ⟨a,b,hTO⟩:=S.to
  have lt : ∀ {c o},s.heap.get? c = some o → s.heap.objs.size ≠ c:=fun e=>Nat.ne_of_gt (Heap.lt_size e)
  have hn : s.heap.objs.size ∉ [z,TO,i1,i2]:=by
    obtain ⟨o1,e1,_⟩:=S.i1
    obtain ⟨o2,e2,_⟩:=S.i2
    simp [lt hz,lt hTO,lt e1,lt e2]
  rcases hf with ⟨rfl,rfl⟩ | ⟨T0,a0,b0,rfl,h0,hn0⟩
  · refine wpAny_pyNext_zip_item D hz S.ti hTO S.i1 S.i2 hl1 hl2 hx hy fun h' a1 a2 a3 a4 a5 a6 hk=>?_
    exact hQ h' ⟨⟨_,false,a1,.inr ⟨_,x,y,rfl,a5,hn⟩⟩,hk _ _ D.TIz D.TITO D.TIi1 D.TIi2 S.ti,⟨_,_,a2⟩,a3,a4⟩ a5 hn fun c o hc e=>hk c o (fun z=>hc (by simp [z])) (fun z=>hc (by simp [z])) (fun z=>hc (by simp [z])) (fun z=>hc (by simp [z])) e
  · have hT : s.TypeIs (.ref z) "zip":=⟨_,hz,rfl⟩
    simp only [List.mem_cons,List.not_mem_nil,or_false,not_or] at hn0
    unfold pyNext
    refine wpAny_bind (wpAny_attempt (wpAny_callSpecial?_slot (name:=Str.ofString "__next__") hT F.slot_zip_next (wpAny_call_entry F.slot_zip_next hT F.entry_zip_next
      (zip_next_more D hz h0 S.ti S.i1 S.i2 hl1 hl2 hx hy fun h' a1 a3 a4 a5 hk=>wpAny_pure ?_) (F.args_zip_next_1 _))))
    exact hQ h' ⟨⟨_,true,a1,.inr ⟨T0,a0,b0,rfl,hk _ _ hn0.1 hn0.2.2.1 hn0.2.2.2 h0,by simp [hn0]⟩⟩,hk _ _ D.TIz D.TIi1 D.TIi2 S.ti,⟨_,_,hk _ _ D.TOz D.TOi1 D.TOi2 hTO⟩,a3,a4⟩ a5 hn fun c o hc e=>hk c o (fun z=>hc (by simp [z])) (fun z=>hc (by simp [z])) (fun z=>hc (by simp [z])) e
theorem zip_over {z TI TO i1 i2 l1 l2 : Addr} {k : Nat} {xs ys : Array Value} {Q : Option Value → Shared → Prop} (hh : A.handled = none) (D : ZipApart z TI TO i1 i2 l1 l2) (S : ZSt s.heap z TI TO i1 i2 l1 l2 k) (hl1 : s.heap.IsList l1 xs) (hl2 : s.heap.IsList l2 ys) (hx : xs[k]? = none)
    (hQ : ∀ h',(∀ c o,c ∉ [z,TO,i1,i2] → s.heap.get? c = some o → h'.get? c = some o) → Q none { s with heap:=h' }) :
    wpAny (model prog w) A (pyNext (.ref z)) Q E s:=by
  obtain ⟨f0,fl,hz,hf⟩:=S.zip
  obtain ⟨a,b,hTO⟩:=S.to
  rcases hf with ⟨rfl,rfl⟩ | ⟨T0,a0,b0,rfl,h0,hn0⟩
  · exact wpAny_pyNext_zip_end hh D hz S.ti hTO S.i1 S.i2 hl1 hl2 (.inl hx) fun h' hk=>hQ h' fun c o hc e=>hk c o (fun z=>hc (by simp [z])) (fun z=>hc (by simp [z])) (fun z=>hc (by simp [z])) (fun z=>hc (by simp [z])) e
  · have hT : s.TypeIs (.ref z) "zip":=⟨_,hz,rfl⟩
    unfold pyNext
    refine wpAny_bind (wpAny_attempt (wpAny_callSpecial?_slot (name:=Str.ofString "__next__") hT F.slot_zip_next
      (wpAny_call_entry F.slot_zip_next hT F.entry_zip_next (zip_end_more hh D hz h0 S.ti S.i1 hl1 hx fun h' e hk he=>?_) (F.args_zip_next_1 _))))
    obtain ⟨o,ho,hc⟩:=he
    refine wpAny_bind (wpAny_isInstance (T:="StopIteration") (b:=true) ⟨o,ho,hc⟩ isSubtype_stop ?_)
    exact wpAny_pure (hQ _ fun c o hc e=>hk c o (fun z=>hc (by simp [z])) (fun z=>hc (by simp [z])) e)
end
end Mine
namespace Mine
noncomputable def PrAt (h : Heap) (O : List Addr) : List Value → List (Int × Int) → Prop
  | [],[]=>True
  | v :: vs,p :: ps=>(∃ (T : Addr) (t u : Tok),v = .ref T ∧ T ∉ O ∧ IsPair h T (.int p.1 t) (.int p.2 u)) ∧ PrAt h O vs ps
  | _,_=>False
theorem PrAt.mono {h h' : Heap} {O : List Addr} (k : ∀ c o,c ∉ O → h.get? c = some o → h'.get? c = some o) : ∀ {vs : List Value} {ps : List (Int × Int)},PrAt h O vs ps → PrAt h' O vs ps
  | [],[],_=>trivial
  | v :: vs,p :: ps,⟨⟨T,t,u,e,n,q⟩,r⟩=>⟨⟨T,t,u,e,n,k _ _ n q⟩,PrAt.mono k r⟩
theorem PrAt.snoc {h : Heap} {O : List Addr} {T : Addr} {x y : Int} {t u : Tok} (hn : T ∉ O) (hT : IsPair h T (.int x t) (.int y u)) : ∀ {vs : List Value} {ps : List (Int × Int)},PrAt h O vs ps → PrAt h O (vs ++ [.ref T]) (ps ++ [(x,y)])
  | [],[],_=>⟨⟨T,t,u,rfl,hn,hT⟩,trivial⟩
  | v :: vs,p :: ps,⟨a,r⟩=>⟨a,PrAt.snoc hn hT r⟩
theorem PrAt.length {h : Heap} {O : List Addr} : ∀ {vs : List Value} {ps : List (Int × Int)},PrAt h O vs ps → vs.length = ps.length
  | [],[],_=>rfl
  | v :: vs,p :: ps,⟨_,r⟩=>by simp [PrAt.length r]
noncomputable def pairV (p : Int × Int) : V:=.tup [.int p.1,.int p.2]
theorem PrAt.vrs {X : Cx} {h : Heap} {O μ ν : List Addr} : ∀ {vs : List Value} {ps : List (Int × Int)},PrAt h O vs ps → VRs X h μ ν vs (ps.map pairV)
  | [],[],_=>.nil
  | v :: vs,p :: ps,⟨⟨T,t,u,e,n,q⟩,r⟩=>by
    subst e
    exact .cons (.tup (its:=[.int p.1 t,.int p.2 u]) q (.cons (.int _ _) (.cons (.int _ _) .nil))) (PrAt.vrs r)
theorem zip_take_succ {ns ms : List Int} {k : Nat} {x y : Int} (hx : ns[k]? = some x) (hy : ms[k]? = some y) : (ns.zip ms).take (k + 1) = (ns.zip ms).take k ++ [(x,y)]:=by
  rw [List.take_add_one,show (ns.zip ms)[k]? = some (x,y) from List.getElem?_zip_eq_some.mpr ⟨hx,hy⟩]; rfl
section
variable {prog : Program} {w : World} {A : Around} {E : Value → Shared → Prop}
theorem zip_loop {z TI TO i1 i2 l1 l2 S : Addr} {xs ys : List Value} {ns ms : List Int} {R : Result → Shared → Prop} {res : Value} (hh : A.handled = none) (D : ZipApart z TI TO i1 i2 l1 l2) (hi : IntsAre xs ns) (hj : IntsAre ys ms) (hlen : ns.length = ms.length) (hz : ns.length ≤ 1000)
    (hS : S ∉ [l1,l2]) : ∀ (j k : Nat) (s : Shared) (its : List Value) (c : Nat),ns.length - k = j → k ≤ ns.length → ZSt s.heap z TI TO i1 i2 l1 l2 k → s.heap.IsList l1 xs.toArray → s.heap.IsList l2 ys.toArray → S ∉ [z,TO,i1,i2] → s.heap.get? S = some (seqObj "list" its.toArray c) →
      PrAt s.heap [S,z,TO,i1,i2] its ((ns.zip ms).take k) →
      (∀ h' its' c',(∀ b o,b ∉ [S,z,TO,i1,i2] → s.heap.get? b = some o → h'.get? b = some o) → h'.get? S = some (seqObj "list" (List.toArray its') c') → PrAt h' [S,z,TO,i1,i2] its' (ns.zip ms) → R (.ok (.ret res)) { s with heap:=h' }) →
      codeAny (model prog w) A (.builtin "list.extend.loop" ⟨[.ref S,.ref z,res],[]⟩) R s:=by
  intro j
  induction j with
  | zero =>
    intro k s its c hk hk2 st L1 L2 hSn hSo hp hR
    have hke : k = ns.length:=by lia
    refine codeAny_builtin F.entry_extend_loop ?_
    rw [Around.under_plainId F.plain_extend_loop _]
    show wpAny _ A.in1 (pyNext (.ref z) >>= _) _ _ s
    refine wpAny_bind (zip_over (A:=A.in1) hh D st L1 L2 (by simp [hke,hi.length]) fun h' kk=>wpAny_pure (hR h' its c (fun b o hb e=>kk b o (fun q=>hb (List.mem_cons_of_mem _ q)) e) (kk _ _ hSn hSo) ?_))
    have : (ns.zip ms).take k = ns.zip ms:=by rw [List.take_of_length_le]; rw [List.length_zip,hke]; exact Nat.min_le_left _ _
    rw [this] at hp
    exact hp.mono fun b o hb e=>kk b o (fun q=>hb (List.mem_cons_of_mem _ q)) e
  | succ j ih =>
    intro k s its c hk hk2 st L1 L2 hSn hSo hp hR
    have hlt : k < ns.length:=by lia
    refine codeAny_builtin F.entry_extend_loop ?_
    rw [Around.under_plainId F.plain_extend_loop _]
    show wpAny _ A.in1 (pyNext (.ref z) >>= _) _ _ s
    obtain ⟨t,ht⟩:=intsAre_at hi hlt
    obtain ⟨u,hu⟩:=intsAre_at hj (hlen ▸ hlt)
    have hx : xs.toArray[k]? = some (.int (ns.getD k 0) t):=by
      have : k < xs.length:=by rw [hi.length]; exact hlt
      rw [← ht]; simp [List.getD_eq_getElem?_getD,this]
    have hy : ys.toArray[k]? = some (.int (ms.getD k 0) u):=by
      have : k < ys.length:=by rw [hj.length]; lia
      rw [← hu]; simp [List.getD_eq_getElem?_getD,this]
    have l1n : ∀ {b},b ∈ [l1,l2] → b ∉ [z,TO,i1,i2]:=fun hb=>by
      rcases List.mem_cons.mp hb with rfl | hb
      · simp [D.l1z,D.l1TO,D.l1i1,D.l1i2]
      · rw [List.mem_singleton.mp hb]; simp [D.l2z,D.l2TO,D.l2i1,D.l2i2]
    refine wpAny_bind (zip_draw (A:=A.in1) D st L1 L2 hx hy fun h' st' hT hTn kk=>?_)
    have hSo':=kk _ _ hSn hSo
    have hplen : its.length ≤ 1000:=by rw [hp.length]; simp; lia
    show wpAny _ A.in1 (updateSeq S (·.push (.ref s.heap.objs.size)) >>= _) _ _ _
    obtain ⟨c2,hup⟩ : ∃ c2,(h'.update S (Obj.mapSeq (fun a=>a.push (.ref s.heap.objs.size)))).get? S = some (seqObj "list" (its ++ [Value.ref s.heap.objs.size]).toArray c2):=⟨_,by rw [get?_update_seq hSo' (fun a=>a.push (Value.ref s.heap.objs.size)),List.push_toArray]⟩
    have oth : ∀ b o,b ≠ S → h'.get? b = some o → (h'.update S (Obj.mapSeq (fun a=>a.push (.ref s.heap.objs.size)))).get? b = some o:=fun b o hb e=>(Heap.get?_update_other _ _ (Ne.symm hb)).trans e
    have hST : s.heap.objs.size ≠ S:=fun e=>by rw [e] at hT; rw [hT] at hSo'; exact absurd (show Value.type "tuple" = .type "list" from congrArg Obj.cls (Option.some.inj hSo')) (by decide)
    refine wpAny_bind (wpAny_updateSeq hSo' rfl (wpAny_pure ⟨plainId_quiet F.plain_extend_loop _,ih (k + 1) _ (its ++ [.ref s.heap.objs.size]) c2 (by lia) hlt ?_ ?_ ?_ hSn ?_ ?_ fun h2 its' c' k2 e2 p2=>?_⟩) ?_ ?_)
    · exact st'.mono fun b o e hl=>oth b o (fun q=>by subst q; rw [e] at hSo'; exact hl _ _ (Option.some.inj hSo')) e
    · exact L1.at fun o e=>oth _ _ (fun q=>hS (by simp [q])) (kk _ _ (l1n (by simp)) e)
    · exact L2.at fun o e=>oth _ _ (fun q=>hS (by simp [q])) (kk _ _ (l1n (by simp)) e)
    · exact hup
    · rw [zip_take_succ (x:=ns.getD k 0) (y:=ms.getD k 0) (by simp [List.getD_eq_getElem?_getD,hlt]) (by simp [List.getD_eq_getElem?_getD,hlen ▸ hlt])]
      exact (hp.mono fun b o hb e=>oth b o (fun q=>hb (by simp [q])) (kk b o (fun q=>hb (List.mem_cons_of_mem _ q)) e)).snoc (t:=t) (u:=u) (by simp only [List.mem_cons] at hTn ⊢; exact fun q=>q.elim hST hTn) (oth _ _ hST hT)
    · exact hR h2 its' c' (fun b o hb e=>k2 b o hb (oth b o (fun q=>hb (by simp [q])) (kk b o (fun q=>hb (List.mem_cons_of_mem _ q)) e))) e2 p2
    · rw [List.size_toArray,sizeLine_val]; lia
    · show (its.toArray.push _).size ≤ sizeLine + 1; rw [Array.size_push,List.size_toArray,sizeLine_val]; lia
end
end Mine
namespace Mine
theorem zip_nolen : typeLookup (.type "zip") "__len__" = pure none:=by rw [typeLookup_type,builtinLookup_eq_fast]; kernel_rfl
theorem zip_nohint : typeLookup (.type "zip") "__length_hint__" = pure none:=by rw [typeLookup_type,builtinLookup_eq_fast]; kernel_rfl
structure ZNew (h : Heap) (z TI TO i1 i2 l1 l2 : Addr) (ns ms : List Int) : Prop where
  apart : ZipApart z TI TO i1 i2 l1 l2
  zip : IsZip h z TI TO .none
  st : ZSt h z TI TO i1 i2 l1 l2 0
  ll : ∃ xs ys,h.IsList l1 (List.toArray xs) ∧ h.IsList l2 (List.toArray ys) ∧ IntsAre xs ns ∧ IntsAre ys ms
theorem ZNew.mono {h h' : Heap} {z TI TO i1 i2 l1 l2 : Addr} {ns ms : List Int} (x : ZNew h z TI TO i1 i2 l1 l2 ns ms) (k : ∀ b o,h.get? b = some o → h'.get? b = some o) : ZNew h' z TI TO i1 i2 l1 l2 ns ms :=
  ⟨x.apart,k _ _ x.zip,x.st.mono fun b o e _=>k b o e,let ⟨xs,ys,a,b,c,d⟩:=x.ll; ⟨xs,ys,a.at fun o e=>k _ o e,b.at fun o e=>k _ o e,c,d⟩⟩
section
variable {prog : Program} {w : World} {A : Around} {E : Value → Shared → Prop} {s : Shared} {z TI TO i1 i2 l1 l2 : Addr} {ns ms : List Int}
theorem ext_zip {R : Result → Shared → Prop} {S : Addr} {res : Value} {c : Nat} (hh : A.handled = none) (Z : ZNew s.heap z TI TO i1 i2 l1 l2 ns ms) (hlen : ns.length = ms.length) (hz : ns.length ≤ 1000) (hS : S ∉ [z,TO,i1,i2,l1,l2]) (hSo : s.heap.get? S = some (seqObj "list" #[] c)) {P : PySem.Fin → Shared → Prop} (hP : ∀ s',codeAny (model prog w) A (.builtin "list.extend.loop" ⟨[.ref S,.ref z,res],[]⟩) R s' → P (.again (.builtin "list.extend.loop" ⟨[.ref S,.ref z,res],[]⟩)) s')
    (hR : ∀ h' its' c',(∀ b o,b ∉ [S,z,TO,i1,i2] → s.heap.get? b = some o → h'.get? b = some o) → h'.get? S = some (seqObj "list" (List.toArray its') c') → PrAt h' [S,z,TO,i1,i2] its' (ns.zip ms) → R (.ok (.ret res)) { s with heap:=h' }) :
    wpAny (model prog w) A.in1 (Builtin.List.listExtendWith (.ref S) (.ref z) res) P E s:=by
  simp only [List.mem_cons,List.not_mem_nil,or_false,not_or] at hS
  have hT : s.TypeIs (.ref z) "zip":=⟨_,Z.zip,rfl⟩
  unfold Builtin.List.listExtendWith
  refine wpAny_bind (wpAny_typeOf hT ?_)
  have h1 : Builtin.List.listSameRef (.ref S) (.ref z) = false:=by simp [Builtin.List.listSameRef,hS.1]
  have h2 : (Value.type "zip" == Value.type "list") = false:=by decide
  have h3 : (Value.type "zip" == Value.type "tuple") = false:=by decide
  simp only [h1,h2,h3,Bool.or_false,Bool.false_eq_true,if_false]
  refine wpAny_bind (wpAny_pyIter_zip Z.zip ?_)
  refine wpAny_bind (wpAny_holding ?_)
  unfold Builtin.List.listLengthHint
  refine wpAny_bind (wpAny_specialOf hT zip_nolen ?_)
  show wpAny _ A.in1 (specialOf (Value.ref z) (Str.ofString "__length_hint__") >>= _) _ _ _
  refine wpAny_bind (wpAny_specialOf hT zip_nohint ?_)
  refine wpAny_pure ?_
  show wpAny _ A.in1 (rule "list.extend.makes-room" >>= fun _=>Builtin.List.listTouch (.ref S) >>= fun _=>again (.builtin "list.extend.loop" ⟨[.ref S,.ref z,res],[]⟩)) _ _ _
  refine wpAny_bind (wpAny_rule ?_)
  refine wpAny_bind ?_
  show wpAny _ A.in1 (updateSeq S (·.push .none) >>= fun _=>updateSeq S (·.pop)) _ _ _
  refine wpAny_bind (wpAny_updateSeq hSo rfl ?_)
  have hS₂:=Heap.get?_update_self (Obj.mapSeq (·.push Value.none)) hSo rfl
  refine wpAny_updateSeq hS₂ rfl ?_
  have hS₃:=Heap.get?_update_self (Obj.mapSeq (·.pop)) hS₂ rfl
  obtain ⟨c3,hS₃⟩ : ∃ c3,((s.heap.update S (Obj.mapSeq (·.push Value.none))).update S (Obj.mapSeq (·.pop))).get? S = some (seqObj "list" ([] : List Value).toArray c3):=⟨_,hS₃⟩
  have oth : ∀ b o,b ≠ S → s.heap.get? b = some o → ((s.heap.update S (Obj.mapSeq (·.push Value.none))).update S (Obj.mapSeq (·.pop))).get? b = some o :=
    fun b o hb e=>(Heap.get?_update_other _ _ (Ne.symm hb)).trans ((Heap.get?_update_other _ _ (Ne.symm hb)).trans e)
  obtain ⟨xs,ys,L1,L2,I1,I2⟩:=Z.ll
  refine wpAny_pure (hP _ (zip_loop hh Z.apart I1 I2 hlen hz (by simp [hS]) ns.length 0 _ [] c3 rfl (Nat.zero_le _) ?_ ?_ ?_ (by simp [hS]) hS₃ trivial fun h' its' c' k e p=>?_))
  · exact Z.st.mono fun b o e hl=>oth b o (fun q=>by subst q; rw [e] at hSo; exact hl _ _ (Option.some.inj hSo)) e
  · exact L1.at fun o e=>oth _ _ (fun q=>hS.2.2.2.2.1 q.symm) e
  · exact L2.at fun o e=>oth _ _ (fun q=>hS.2.2.2.2.2 q.symm) e
  · exact hR h' its' c' (fun b o hb e=>k b o hb (oth b o (fun q=>hb (by simp [q])) e)) e p
theorem ZNew.lt (Z : ZNew s.heap z TI TO i1 i2 l1 l2 ns ms) : ∀ b ∈ [z,TO,i1,i2,l1,l2],b < s.heap.objs.size:=fun b hb=>by
  obtain ⟨xs,ys,⟨o1,e1,_⟩,⟨o2,e2,_⟩,_⟩:=Z.ll
  obtain ⟨a,c,e3⟩:=Z.st.to
  obtain ⟨o4,e4,_⟩:=Z.st.i1
  obtain ⟨o5,e5,_⟩:=Z.st.i2
  simp only [List.mem_cons,List.not_mem_nil,or_false] at hb
  rcases hb with rfl | rfl | rfl | rfl | rfl | rfl
  · exact Heap.lt_size Z.zip
  · exact Heap.lt_size e3
  · exact Heap.lt_size e4
  · exact Heap.lt_size e5
  · exact Heap.lt_size e1
  · exact Heap.lt_size e2
theorem ZNew.new (Z : ZNew s.heap z TI TO i1 i2 l1 l2 ns ms) : s.heap.objs.size ∉ [z,TO,i1,i2,l1,l2]:=fun q=>Nat.lt_irrefl _ (Z.lt _ q)
theorem collect_zip {Q : List Value → Shared → Prop} (hh : A.handled = none) (Z : ZNew s.heap z TI TO i1 i2 l1 l2 ns ms) (hlen : ns.length = ms.length) (hz : ns.length ≤ 1000)
    (hQ : ∀ h' its,(∀ b o,b ∉ [z,TO,i1,i2] → s.heap.get? b = some o → h'.get? b = some o) → PrAt h' [s.heap.objs.size,z,TO,i1,i2] its (ns.zip ms) → s.heap.objs.size < h'.objs.size → Q its { s with heap:=h' }) : wpAny (model prog w) A (collect (.ref z)) Q E s:=by
  unfold collect
  refine wpAny_bind (wpAny_runValue (codeAny_builtin F.entry_proto_collect ?_))
  rw [Around.under_plainId F.plain_proto_collect _]
  show wpAny _ A.in1 (newList [] >>= fun l=>again (.builtin "list.__iadd__" ⟨[l,.ref z],[]⟩)) _ _ s
  refine wpAny_bind (wpAny_newObj_type ?_)
  refine wpAny_pure ⟨plainId_quiet F.plain_list_iadd _,codeAny_builtin F.entry_list_iadd ?_⟩
  rw [Around.under_plainId F.plain_list_iadd _]
  have hS₁ : (s.heap.push { cls:=.type "list",data:=.seq ([] : List Value).toArray }).get? s.heap.objs.size = some (seqObj "list" #[] 0):=Heap.get?_push_size _ rfl
  show wpAny _ A.in1 (Builtin.List.listExtendWith (.ref s.heap.objs.size) (.ref z) (.ref s.heap.objs.size)) _ _ _
  refine ext_zip (s:={ s with heap:=s.heap.push { cls:=.type "list",data:=.seq ([] : List Value).toArray } }) hh (Z.mono fun b o e=>Heap.get?_push_of_some _ e) hlen hz Z.new hS₁ (fun _ h=>⟨plainId_quiet F.plain_extend_loop _,h⟩) fun h' its' c' k e p=>?_
  show wpAny _ A (load s.heap.objs.size >>= _) _ _ _
  refine wpAny_bind (wpAny_load e (wpAny_pure (hQ h' its' (fun b o hb eo=>k b o (fun q=>?_) (Heap.get?_push_of_some _ eo)) p (Heap.lt_size e))))
  rcases List.mem_cons.mp q with q | q
  · exact absurd (Heap.lt_size eo) (by rw [q]; exact Nat.lt_irrefl _)
  · exact hb q
theorem list_zip {Q : Value → Shared → Prop} (hh : A.handled = none) (Z : ZNew s.heap z TI TO i1 i2 l1 l2 ns ms) (hlen : ns.length = ms.length) (hz : ns.length ≤ 1000)
    (hQ : ∀ h' its c,(∀ b o,b ∉ [z,TO,i1,i2] → s.heap.get? b = some o → h'.get? b = some o) → h'.get? s.heap.objs.size = some (seqObj "list" (List.toArray its) c) → PrAt h' [s.heap.objs.size,z,TO,i1,i2] its (ns.zip ms) → Q (.ref s.heap.objs.size) { s with heap:=h' }) : wpAny (model prog w) A (call (.type "list") [.ref z]) Q E s:=by
  refine callType_codes (Q₁:=fun obj s₁=>obj = .ref s.heap.objs.size ∧ s₁ = { s with heap:=s.heap.push { cls:=.type "list",data:=.seq #[] } }) F.called_list (F.typeCall_list_1 _) F.entry_list_init
    (code_list_new _ ⟨rfl,rfl⟩) fun obj s₁ h₁=>?_
  obtain ⟨rfl,rfl⟩:=h₁
  have hS : (s.heap.push { cls:=.type "list",data:=.seq #[] }).get? s.heap.objs.size = some { cls:=.type "list",data:=.seq #[] }:=Heap.get?_push_size _ rfl
  refine ⟨⟨_,hS,rfl⟩,F.args_list_init_2 _ _,?_⟩
  show wpAny _ _ (do let old ← Builtin.List.listItems (.ref s.heap.objs.size); Builtin.List.listUpdate (.ref s.heap.objs.size) (fun _=>#[]); letGo old.toList.reverse; Builtin.List.listExtendWith (.ref s.heap.objs.size) (.ref z) .none) _ _ _
  refine wpAny_bind ?_
  unfold Builtin.List.listItems
  refine wpAny_bind (wpAny_seqItems hS rfl (wpAny_pure ?_))
  show wpAny _ _ (updateSeq s.heap.objs.size (fun _=>#[]) >>= fun _=>letGo (#[] : Array Value).toList.reverse >>= fun _=>Builtin.List.listExtendWith (.ref s.heap.objs.size) (.ref z) .none) _ _ _
  refine wpAny_bind (wpAny_updateSeq hS rfl ?_)
  obtain ⟨c2,hS₂⟩ : ∃ c2,((s.heap.push { cls:=.type "list",data:=.seq #[] }).update s.heap.objs.size (Obj.mapSeq (fun _=>(#[] : Array Value)))).get? s.heap.objs.size = some (seqObj "list" #[] c2):=⟨_,Heap.get?_update_self (Obj.mapSeq (fun _=>(#[] : Array Value))) hS rfl⟩
  have oth : ∀ b o,s.heap.get? b = some o → ((s.heap.push { cls:=.type "list",data:=.seq #[] }).update s.heap.objs.size (Obj.mapSeq (fun _=>(#[] : Array Value)))).get? b = some o :=
    fun b o e=>(Heap.get?_update_other _ _ (Nat.ne_of_gt (Heap.lt_size e))).trans (Heap.get?_push_of_some _ e)
  refine wpAny_bind (wpAny_letGo ?_)
  refine ext_zip (A:=A.in1) (s:={ s with heap:=(s.heap.push { cls:=.type "list",data:=.seq #[] }).update s.heap.objs.size (Obj.mapSeq (fun _=>(#[] : Array Value))) }) hh (Z.mono oth) hlen hz Z.new hS₂ (fun _ h=>⟨plainId_quiet F.plain_extend_loop _,h⟩) fun h' its' c' k e p=>?_
  refine ⟨rfl,hQ h' its' c' (fun b o hb eo=>k b o (fun q=>?_) (oth b o eo)) e p⟩
  rcases List.mem_cons.mp q with q | q
  · exact absurd (Heap.lt_size eo) (by rw [q]; exact Nat.lt_irrefl _)
  · exact hb q
end
end Mine
namespace Mine
noncomputable def kasGo {α : Type} (N : Nat) (r : Nat → Nat) : KasT α → Option α
  | .ret a=>some a
  | .ask i j k=>if i < N ∧ j < N then kasGo N r (k (decide (r i < r j))) else none
theorem kasGo_wp {α : Type} {N : Nat} {r : Nat → Nat} {lt : Nat → Nat → Bool} {cmp : Nat → Nat → (Bool → Shared → Prop) → Shared → Prop} {G : α → Shared → Prop} {s : Shared} (hr : ∀ i j,i < N → j < N → decide (r i < r j) = lt i j) (hc : ∀ i j (C : Bool → Shared → Prop),i < N → j < N → C (lt i j) s → cmp i j C s) : ∀ {t : KasT α} {a : α},kasGo N r t = some a → G a s → t.kasWp cmp G s
  | .ret b,a,e,h=>by unfold kasGo at e; cases e; exact h
  | .ask i j k,a,e,h=>by
    unfold kasGo at e
    revert e; refine if_e fun hij e=>?_
    refine hc i j _ hij.1 hij.2 ?_
    rw [hr i j hij.1 hij.2] at e
    exact kasGo_wp hr hc e h
set_option tactic.hygienic true in
theorem kasGo_congr {α : Type} {N : Nat} {r r' : Nat → Nat} (h : ∀ i,i < N → r i = r' i) : ∀ t : KasT α,kasGo N r t = kasGo N r' t
  | .ret b=>rfl
  | .ask i j k=>by
    unfold kasGo
    split
    · rename_i hij; rw [h i hij.1,h j hij.2]; exact kasGo_congr h _
    · rfl
noncomputable def okBy (N : Nat) (r : Nat → Nat) (p : Array Nat) : Bool:=p.toList.isPerm (List.range N) && (List.range N).all fun j=>(List.range j).all fun i=>decide (r (p.toList.getD i 0) ≤ r (p.toList.getD j 0))
noncomputable def tups : Nat → List (List Nat)
  | 0=>[[]]
  | n + 1=>[0,1,2,3].flatMap fun x=>(tups n).map fun l=>x :: l
noncomputable def okAll (N : Nat) : Bool:=(tups N).all fun l=>match kasGo N (fun i=>l.getD i 0) (kas_sort N) with | some p=>okBy N (fun i=>l.getD i 0) p | none=>false
theorem okAll3 : okAll 3 = true:=by decide +kernel
theorem okAll4 : okAll 4 = true:=by decide +kernel
theorem mem_tups : ∀ {l : List Nat},(∀ x ∈ l,x < 4) → l ∈ tups l.length
  | [],_=>by simp [tups]
  | x :: l,h=>by
    simp only [List.length_cons,tups,List.mem_flatMap,List.mem_map]
    refine ⟨x,?_,l,mem_tups fun y hy=>h y (.tail _ hy),rfl⟩
    have:=h x (.head _)
    simp only [List.mem_cons,List.not_mem_nil,or_false]
    lia
set_option tactic.hygienic true in
theorem ok_run {N : Nat} (hN : N = 3 ∨ N = 4) {r : Nat → Nat} (hr : ∀ i,i < N → r i < 4) : ∃ p,kasGo N r (kas_sort N) = some p ∧ okBy N r p = true:=by
  have key : okAll N = true:=by rcases hN with rfl | rfl; exact okAll3; exact okAll4
  have hl : ((List.range N).map r).length = N:=by simp
  have h1:=List.all_eq_true.mp key ((List.range N).map r) (by
    have:=mem_tups (l:=(List.range N).map r) (fun x hx=>by
      obtain ⟨i,hi,rfl⟩:=List.mem_map.mp hx
      exact hr i (List.mem_range.mp hi))
    rw [hl] at this; exact this)
  have hrr : ∀ i,i < N → ((List.range N).map r).getD i 0 = r i:=fun i hi=>by simp [List.getD_eq_getElem?_getD,hi]
  have hg:=kasGo_congr hrr (kas_sort N)
  rw [hg] at h1
  split at h1
  · rename_i p hp
    refine ⟨p,hp,?_⟩
    unfold okBy at h1 ⊢
    simp only [Bool.and_eq_true] at h1 ⊢
    refine ⟨h1.1,?_⟩
    have hperm:=List.isPerm_iff.mp h1.1
    have hpl : p.toList.length = N:=by rw [hperm.length_eq]; simp
    have hin : ∀ i,i < N → p.toList.getD i 0 < N:=fun i hi=>by
      have : p.toList.getD i 0 ∈ p.toList:=by rw [List.getD_eq_getElem?_getD,List.getElem?_eq_getElem (hpl ▸ hi)]; exact List.getElem_mem _
      exact List.mem_range.mp (hperm.mem_iff.mp this)
    rw [List.all_eq_true] at h1 ⊢
    intro j hj
    have h2:=h1.2 j hj
    rw [List.all_eq_true] at h2 ⊢
    intro i hi
    have hj':=List.mem_range.mp hj
    have hi':=List.mem_range.mp hi
    have h3:=of_decide_eq_true (h2 i hi)
    rw [hrr _ (hin i (by lia)),hrr _ (hin j hj')] at h3
    exact decide_eq_true h3
  · cases h1
noncomputable def ltP (p q : Int × Int) : Bool:=decide (p.1 < q.1 ∨ (p.1 = q.1 ∧ p.2 < q.2))
theorem ltP_irr (p : Int × Int) : ltP p p = false:=by simp [ltP]
theorem ltP_trans {p q r : Int × Int} (h : ltP p q = true) (h' : ltP r p = true) : ltP r q = true:=by
  simp only [ltP,decide_eq_true_eq] at *; lia
theorem ltP_trans' {p q r : Int × Int} (h : ltP p q = false) (h' : ltP r q = true) : ltP r p = true:=by
  have h:=of_decide_eq_false h
  have h':=of_decide_eq_true h'
  refine decide_eq_true ?_
  have g : q.1 ≤ p.1:=Int.not_lt.mp fun k=>h (.inl k)
  rcases h' with a | ⟨a,b⟩
  · exact .inl (Int.lt_of_lt_of_le a g)
  · by_cases e : p.1 = q.1
    · have g2 : q.2 ≤ p.2:=Int.not_lt.mp fun k=>h (.inr ⟨e,k⟩)
      exact .inr ⟨a.trans e.symm,Int.lt_of_lt_of_le b g2⟩
    · exact .inl (by lia)
theorem ltP_anti {p q : Int × Int} (h : ltP p q = false) (h' : ltP q p = false) : p = q:=by
  simp only [ltP,decide_eq_false_iff_not] at *
  exact Prod.ext (by lia) (by lia)
theorem countP_lt {α : Type} {f g : α → Bool} : ∀ {l : List α} {a : α},(∀ x,f x = true → g x = true) → a ∈ l → g a = true → f a = false → l.countP f < l.countP g
  | x :: l,a,h,hm,hg,hf=>by
    rw [List.countP_cons,List.countP_cons]
    have hle : l.countP f ≤ l.countP g:=List.countP_mono_left fun x _=>h x
    rcases List.mem_cons.mp hm with rfl | hm
    · rw [hg,hf]; simp; lia
    · have:=countP_lt h hm hg hf
      have h2:=h x
      cases hfx : f x with
      | true=>rw [h2 hfx]; simp; lia
      | false=>simp; lia
noncomputable def rkP (ps : List (Int × Int)) (i : Nat) : Nat:=ps.countP fun q=>ltP q (ps.getD i (0,0))
theorem getD_mem {α : Type} {ps : List α} {i : Nat} {d : α} (h : i < ps.length) : ps.getD i d ∈ ps:=by rw [List.getD_eq_getElem?_getD,List.getElem?_eq_getElem h]; exact List.getElem_mem h
theorem rkP_lt {ps : List (Int × Int)} {i j : Nat} (hi : i < ps.length) (hj : j < ps.length) : decide (rkP ps i < rkP ps j) = ltP (ps.getD i (0,0)) (ps.getD j (0,0)):=by
  cases h : ltP (ps.getD i (0,0)) (ps.getD j (0,0)) with
  | true=>exact decide_eq_true (countP_lt (fun x hx=>ltP_trans h hx) (getD_mem hi) h (ltP_irr _))
  | false=>exact decide_eq_false (Nat.not_lt.mpr (List.countP_mono_left fun x _ hx=>ltP_trans' h hx))
theorem rkP_4 {ps : List (Int × Int)} {i : Nat} (hi : i < ps.length) (h4 : ps.length ≤ 4) : rkP ps i < 4:=by
  have:=countP_lt (f:=fun q=>ltP q (ps.getD i (0,0))) (g:=fun _=>true) (l:=ps) (a:=ps.getD i (0,0)) (fun _ _=>rfl) (getD_mem hi) rfl (ltP_irr _)
  rw [List.countP_true] at this
  unfold rkP; lia
noncomputable def sortP (ps : List (Int × Int)) : List (Int × Int):=match kasGo ps.length (rkP ps) (kas_sort ps.length) with | some p=>p.toList.map fun i=>ps.getD i (0,0) | none=>[]
theorem sortP_run {ps : List (Int × Int)} (hN : ps.length = 3 ∨ ps.length = 4) : ∃ p,kasGo ps.length (rkP ps) (kas_sort ps.length) = some p ∧ sortP ps = p.toList.map (fun i=>ps.getD i (0,0)) ∧ p.toList.Perm (List.range ps.length) ∧ (sortP ps).Perm ps ∧ (sortP ps).Pairwise (fun a b=>ltP b a = false):=by
  obtain ⟨p,hp,hok⟩:=ok_run hN (r:=rkP ps) fun i hi=>rkP_4 hi (by lia)
  have e : sortP ps = p.toList.map (fun i=>ps.getD i (0,0)):=by unfold sortP; rw [hp]
  unfold okBy at hok
  simp only [Bool.and_eq_true] at hok
  have hperm:=List.isPerm_iff.mp hok.1
  have hpl : p.toList.length = ps.length:=by rw [hperm.length_eq]; simp
  refine ⟨p,hp,e,hperm,?_,?_⟩
  · rw [e]
    refine (hperm.map _).trans (.of_eq ?_)
    refine List.ext_getElem (by simp) fun i h1 h2=>?_
    simp [List.getD_eq_getElem?_getD,h2]
  · rw [e,List.pairwise_map,List.pairwise_iff_getElem]
    intro i j hi hj hij
    have h2:=List.all_eq_true.mp (List.all_eq_true.mp hok.2 j (List.mem_range.mpr (hpl ▸ hj))) i (List.mem_range.mpr hij)
    have hin : ∀ k (hk : k < p.toList.length),p.toList[k] < ps.length:=fun k hk=>List.mem_range.mp (hperm.mem_iff.mp (List.getElem_mem hk))
    rw [← rkP_lt (hin j hj) (hin i hi)]
    rw [List.getD_eq_getElem?_getD,List.getD_eq_getElem?_getD,List.getElem?_eq_getElem hi,List.getElem?_eq_getElem hj] at h2
    exact decide_eq_false (Nat.not_lt.mpr (of_decide_eq_true h2))
end Mine
namespace Mine
section
variable {prog : Program} {w : World} {A : Around} {E : Value → Shared → Prop} {s : Shared}
theorem lt_pair {x y : Addr} {p q : Int × Int} {t u t' u' : Tok} {Q : Bool → Shared → Prop} (hx : IsPair s.heap x (.int p.1 t) (.int p.2 u)) (hy : IsPair s.heap y (.int q.1 t') (.int q.2 u')) (h : Q (ltP p q) s) : wpAny (model prog w) A (keyLt' (tuples' true) (.ref x) (.ref y)) Q E s:=by
  refine kat_lt hx rfl hy rfl (kat_cons (wpAny_eqBool_int ?_))
  unfold ltP at h
  cases e : (p.1 == q.1) with
  | true =>
    have e' : p.1 = q.1:=by simpa using e
    refine kat_yes (kat_cons (wpAny_eqBool_int ?_))
    cases f : (p.2 == q.2) with
    | true =>
      have f' : p.2 = q.2:=by simpa using f
      refine kat_yes (kat_nil ?_)
      simpa [e',f'] using h
    | false =>
      refine kat_no (kat_one _ _ (lt_int ?_))
      show Q (decide (p.2 < q.2)) s
      simpa [e'] using h
  | false =>
    have e' : p.1 ≠ q.1:=by simpa using e
    refine kat_no (oneLt_int ?_)
    simpa [e'] using h
theorem PrAt.at {h : Heap} {O : List Addr} : ∀ {vs : List Value} {ps : List (Int × Int)},PrAt h O vs ps → ∀ {i : Nat},i < ps.length → ∃ (T : Addr) (t u : Tok),vs.getD i Value.none = .ref T ∧ T ∉ O ∧ IsPair h T (.int (ps.getD i (0,0)).1 t) (.int (ps.getD i (0,0)).2 u)
  | [],[],_,_,hi=>absurd hi (Nat.not_lt_zero _)
  | v :: vs,p :: ps,⟨a,_⟩,0,_=>a
  | v :: vs,p :: ps,⟨_,r⟩,i + 1,hi=>PrAt.at r (i:=i) (Nat.lt_of_succ_lt_succ hi)
theorem PrAt.pick {h : Heap} {O : List Addr} {vs : List Value} {ps : List (Int × Int)} (r : PrAt h O vs ps) : ∀ {l : List Nat},(∀ i ∈ l,i < ps.length) → PrAt h O (l.map fun i=>vs.getD i Value.none) (l.map fun i=>ps.getD i (0,0))
  | [],_=>trivial
  | i :: l,hl=>⟨r.at (hl i (.head _)),PrAt.pick r fun j hj=>hl j (.tail _ hj)⟩
theorem PrAt.tups {h : Heap} {O : List Addr} : ∀ {vs : List Value} {ps : List (Int × Int)},PrAt h O vs ps → ∃ fs,KatTups h vs fs ∧ fs.length = ps.length ∧ ∀ v ∈ fs,∃ i t,v = Value.int i t
  | [],[],_=>⟨[],.nil,rfl,fun _ h=>nomatch h⟩
  | v :: vs,p :: ps,⟨⟨T,t,u,e,_,q⟩,r⟩=>by
    obtain ⟨fs,a,b,c⟩:=PrAt.tups r
    subst e
    exact ⟨.int p.1 t :: fs,.cons q rfl rfl rfl a,by simp [b],fun v hv=>by
      rcases List.mem_cons.mp hv with rfl | hv
      · exact ⟨_,_,rfl⟩
      · exact c v hv⟩
theorem sort_pairs {a : Addr} {its : List Value} {ps : List (Int × Int)} {n : Nat} {O : List Addr} {P : PySem.Fin → Shared → Prop} (ho : s.heap.get? a = some (seqObj "list" its.toArray n)) (hp : PrAt s.heap O its ps) (hN : ps.length = 3 ∨ ps.length = 4)
    (h : ∀ h' out c,(∀ b o,b ≠ a → s.heap.get? b = some o → h'.get? b = some o) → h'.get? a = some (seqObj "list" (List.toArray out) c) → PrAt h' O out (sortP ps) → P (.done (.ret .none)) { s with heap:=h' }) :
    wpAny (model prog w) A (Builtin.«list.sort» ⟨[.ref a],[]⟩) P E s:=by
  have hl : its.length = ps.length:=hp.length
  have ha : a < s.heap.objs.size:=Heap.lt_size ho
  obtain ⟨e1,ho1⟩ : ∃ e1,(s.heap.update a (Obj.mapSeq fun _=>(#[] : Array Value))).get? a = some (seqObj "list" #[] e1):=⟨_,get?_update_seq ho fun _=>#[]⟩
  have s1:=Heap.SameBut.update s.heap a (Obj.mapSeq fun _=>(#[] : Array Value))
  rw [list_sort_plain]
  refine wpAny_bind (listItems_at ho rfl ?_)
  refine wpAny_bind (listUpdate_at ho rfl ?_ (by rw [List.size_toArray,sizeLine_eq]; lia) (Nat.zero_le _))
  refine wpAny_bind (seqEpoch_at ho1 rfl ?_)
  refine wpAny_bind (wpAny_newTuple ?_ (by show its.length ≤ _; rw [sizeLine_eq]; lia))
  refine wpAny_bind (wpAny_newList ?_ (Nat.zero_le _))
  refine wpAny_holding ?_
  show wpAny (model prog w) A _ P E { s with heap:=((s.heap.update a (Obj.mapSeq fun _=>(#[] : Array Value))).push (seqObj "tuple" its.toArray 0)).push (seqObj "list" #[] 0) }
  generalize hh3 : ((s.heap.update a (Obj.mapSeq fun _=>(#[] : Array Value))).push (seqObj "tuple" its.toArray 0)).push (seqObj "list" #[] 0) = h3
  have k3 : ∀ b o,b ≠ a → s.heap.get? b = some o → h3.get? b = some o:=fun b o hb e=>by rw [← hh3]; exact Heap.get?_push_of_some _ (Heap.get?_push_of_some _ (s1.extBut b o hb e))
  have ho3 : h3.get? a = some (seqObj "list" #[] e1):=by rw [← hh3]; exact Heap.get?_push_of_some _ (Heap.get?_push_of_some _ ho1)
  clear hh3
  have hTa : ∀ {T : Addr} {x y : Value},IsPair s.heap T x y → T ≠ a:=fun hT e=>by
    rw [e] at hT; rw [hT] at ho; exact absurd (show Value.type "tuple" = .type "list" from congrArg Obj.cls (Option.some.inj ho)) (by decide)
  have p3 : ∀ {h : Heap},(∀ b o,b ≠ a → s.heap.get? b = some o → h.get? b = some o) → ∀ {vs : List Value} {qs : List (Int × Int)},PrAt s.heap O vs qs → PrAt h O vs qs:=fun k=>by
    intro vs
    induction vs with
    | nil=>intro qs r; cases qs with
      | nil=>trivial
      | cons=>exact r.elim
    | cons v vs ih=>intro qs r; cases qs with
      | nil=>exact r.elim
      | cons q qs=>obtain ⟨⟨T,t,u,e,m,x⟩,r⟩:=r; exact ⟨⟨T,t,u,e,m,k _ _ (hTa x) x⟩,ih r⟩
  have hp3:=p3 k3 hp
  dsimp only
  have hn2 : ¬ its.toArray.size < 2:=by rw [List.size_toArray]; lia
  rw [if_neg hn2,if_neg hn2]
  obtain ⟨fs,f1,f2,f3⟩:=hp3.tups
  obtain ⟨p,hr,es,hperm,hp1,hp2⟩:=sortP_run hN
  refine wpAny_bind (kat_kind (T:=.type "int") f1 (by lia) (fun v hv=>?_) (by decide) ?_)
  · obtain ⟨i,t,rfl⟩:=f3 v hv
    exact .now
  show wpAny (model prog w) A _ P E _
  refine wpAny_bind (wpAny_mono (kat_run (vs:=its) (ks:=its) (Q:=fun st' s'=>s' = { s with heap:=h3 } ∧ ∃ p' : Array Nat,p' = p ∧ arrOf st' = p'.map (kas_item (its.toArray.zip its.toArray)) ∧ failedOf st' = none) rfl (by lia) (by lia) (G:=fun p' s'=>s' = { s with heap:=h3 } ∧ p' = p) (fun p' st' s' _ q2 q3 q4=>⟨q4.1,p',q4.2,q2,q3⟩) ?_) ?_ fun _ _ e=>e)
  · rw [hl]
    refine kasGo_wp (lt:=fun i j=>ltP (ps.getD i (0,0)) (ps.getD j (0,0))) (fun i j hi hj=>rkP_lt hi hj) (fun i j C hi hj hC=>?_) hr ⟨rfl,rfl⟩
    obtain ⟨T,t,u,e,_,hT⟩:=hp3.at hi
    obtain ⟨T',t',u',e',_,hT'⟩:=hp3.at hj
    unfold kas_ask
    rw [e,e']
    exact lt_pair hT hT' hC
  rintro ⟨⟨⟩,st'⟩ s' ⟨rfl,p',rfl,har,hf⟩
  dsimp only
  refine wpAny_bind (seqEpoch_at ho3 rfl ?_)
  have hsn:=kat_snds (ks:=its) (vs:=its) rfl har
  have hpl : p'.toList.length = ps.length:=by rw [hperm.length_eq]; simp
  refine wpAny_bind (listUpdate_at ho3 rfl ?_ (Nat.zero_le _) (by rw [hsn,List.size_toArray,List.length_map,hpl,sizeLine_eq]; lia))
  rw [hf]
  simp only [bne_self_eq_false,Bool.false_eq_true,if_false]
  have s4:=Heap.SameBut.update h3 a (Obj.mapSeq fun _=>(arrOf st').map (·.2))
  obtain ⟨c4,ho4⟩ : ∃ c4,(h3.update a (Obj.mapSeq fun _=>(arrOf st').map (·.2))).get? a = some (seqObj "list" (List.toArray (p'.toList.map fun i=>its.getD i Value.none)) c4):=⟨_,by rw [← hsn]; exact get?_update_seq ho3 fun _=>(arrOf st').map (·.2)⟩
  have k4 : ∀ b o,b ≠ a → s.heap.get? b = some o → (h3.update a (Obj.mapSeq fun _=>(arrOf st').map (·.2))).get? b = some o:=fun b o hb e=>s4.extBut b o hb (k3 b o hb e)
  refine wpAny_pure (h _ _ c4 k4 ho4 ?_)
  rw [es]
  exact (p3 k4 hp).pick fun i hi=>List.mem_range.mp (hperm.mem_iff.mp hi)
theorem sorted_zip {z TI TO i1 i2 l1 l2 : Addr} {ns ms : List Int} {Q : Value → Shared → Prop} (hh : A.handled = none) (Z : ZNew s.heap z TI TO i1 i2 l1 l2 ns ms) (hlen : ns.length = ms.length) (hN : ns.length = 3 ∨ ns.length = 4)
    (hQ : ∀ h' D its c,(∀ b o,b ∉ [z,TO,i1,i2] → s.heap.get? b = some o → h'.get? b = some o) → s.heap.get? D = none → h'.get? D = some (seqObj "list" (List.toArray its) c) → PrAt h' [s.heap.objs.size,z,TO,i1,i2] its (sortP (ns.zip ms)) → Q (.ref D) { s with heap:=h' }) : wpAny (model prog w) A (call (.builtin "sorted") [.ref z]) Q E s:=by
  refine Calls.call_function_entry kind_sorted plain_sorted entry_sorted (args_sorted1 _) ?_
  unfold Builtin.«sorted»
  refine wpAny_bind (m:=checkCount "sorted" 1 1 _) (wpAny_pure ?_)
  refine wpAny_bind (collect_zip (A:=A.in1) hh Z hlen (by lia) fun h1 its k1 p1 lt1=>?_)
  have hzl : (ns.zip ms).length = ns.length:=by rw [List.length_zip,hlen]; exact Nat.min_self _
  have hil:=p1.length
  refine wpAny_bind (wpAny_newList ?_ (by rw [sizeLine_eq]; lia))
  have hoL : (h1.push (seqObj "list" its.toArray 0)).get? h1.objs.size = some (seqObj "list" its.toArray 0):=Heap.get?_push_size _ rfl
  have hD : s.heap.get? h1.objs.size = none:=Heap.get?_none_of_le (Nat.le_of_lt lt1)
  have k2 : ∀ b o,b ∉ [z,TO,i1,i2] → s.heap.get? b = some o → (h1.push (seqObj "list" its.toArray 0)).get? b = some o:=fun b o hb e=>Heap.get?_push_of_some _ (k1 b o hb e)
  refine wpAny_bind (wpAny_holding (wpAny_call_entry slot_list_sort ⟨_,hoL,rfl⟩ entry_list_sort (sort_pairs (s:={ s with heap:=h1.push (seqObj "list" its.toArray 0) }) (ps:=ns.zip ms) hoL (p1.mono fun b o _ e=>Heap.get?_push_of_some _ e) (by rw [hzl]; exact hN) fun h' out c k4 e4 p4=>⟨_,rfl,?_⟩) (args_list_sort _)))
  refine wpAny_pure ⟨_,rfl,hQ h' _ out c (fun b o hb e=>k4 b o (fun q=>?_) (k2 b o hb e)) hD e4 p4⟩
  rw [q,hD] at e; cases e
end
end Mine
namespace Mine
noncomputable def subs (ns ms : List Int) : List Int:=List.zipWith (· - ·) ns ms
inductive ZsI (z TI TO i1 i2 l1 l2 D L : Addr) (xs ys : List Value) (ns ms : List Int) (s0 : Shared) (j : Nat) (s : Shared) : Prop
  | mk (k : Nat) (its : List Value) (c : Nat) (m : Str → Option Value) (h : Heap) (tk : Nat) (hj : k + j = ns.length) (same : s = { s0 with heap:=h,toks:=tk }) (keep : ∀ b o,b ∉ [L,D,z,TO,i1,i2] → s0.heap.get? b = some o → h.get? b = some o) (st : ZSt h z TI TO i1 i2 l1 l2 k) (hz : IsZip h z TI TO .none)
      (L1 : h.IsList l1 xs.toArray) (L2 : h.IsList l2 ys.toArray) (hD : h.get? D = some (seqObj "list" its.toArray c)) (hi : IntsAre its ((subs ns ms).take k)) (hn : h.Ns L m)
theorem intsAre_snoc {vs : List Value} {ns : List Int} (h : IntsAre vs ns) (i : Int) (t : Tok) : IntsAre (vs ++ [.int i t]) (ns ++ [i]):=by
  induction h with
  | nil=>exact .cons i t .nil
  | cons n u _ ih=>exact .cons n u ih
theorem nin7 {a b c d e f g x : Addr} {P : Prop} (h : x ∉ [a,b,c,d,e,f,g]) (k : x ≠ a → x ≠ b → x ≠ c → x ≠ d → x ≠ e → x ≠ f → x ≠ g → P) : P:=by
  simp only [List.mem_cons,List.not_mem_nil,or_false,not_or] at h
  exact k h.1 h.2.1 h.2.2.1 h.2.2.2.1 h.2.2.2.2.1 h.2.2.2.2.2.1 h.2.2.2.2.2.2
theorem nin6 {a b c d e f x : Addr} {P : Prop} (h : x ∉ [a,b,c,d,e,f]) (k : x ≠ a → x ≠ b → x ≠ c → x ≠ d → x ≠ e → x ≠ f → P) : P:=by
  simp only [List.mem_cons,List.not_mem_nil,or_false,not_or] at h
  exact k h.1 h.2.1 h.2.2.1 h.2.2.2.1 h.2.2.2.2.1 h.2.2.2.2.2
theorem nin4 {a b c d x : Addr} {P : Prop} (h : x ∉ [a,b,c,d]) (k : x ≠ a → x ≠ b → x ≠ c → x ≠ d → P) : P:=by
  simp only [List.mem_cons,List.not_mem_nil,or_false,not_or] at h
  exact k h.1 h.2.1 h.2.2.1 h.2.2.2
theorem no4 {a b c d x : Addr} (h1 : x ≠ a) (h2 : x ≠ b) (h3 : x ≠ c) (h4 : x ≠ d) : x ∉ [a,b,c,d]:=by simp [h1,h2,h3,h4]
section
variable {prog : Program} {w : World} {A : Around}
theorem zsub_loop {z TI TO i1 i2 l1 l2 D : Addr} {xs ys : List Value} {ns ms : List Int} {env : Env} {a b : Str} {p1 p2 pa pb bp tp : Pos} {kk : Nat} {iter : PySem.Expr} {scope : Scope} {pos : Pos} {RR : Result → Shared → Prop} {s0 : Shared} (hh : A.handled = none) (DD : ZipApart z TI TO i1 i2 l1 l2) (hi : IntsAre xs ns) (hj : IntsAre ys ms) (hlen : ns.length = ms.length) (hz : ns.length ≤ 1000)
    (hkind : env.scope.kind = .function) (ka : env.kindOf a = some .local) (kb : env.kindOf b = some .local) (hab : a ≠ b) (da : (a == ("__debug__" : Str)) = false) (db : (b == ("__debug__" : Str)) = false)
    (hD : D ∉ [l1,l2,z,TO,i1,i2,TI]) (hL : env.locals ∉ [D,l1,l2,z,TO,i1,i2,TI])
    (hR : ∀ h' tk its' c' m',(∀ b o,b ∉ [env.locals,D,z,TO,i1,i2] → s0.heap.get? b = some o → h'.get? b = some o) → h'.Ns env.locals m' → h'.get? D = some (seqObj "list" (List.toArray its') c') → IntsAre its' (subs ns ms) → RR (.ok .next) { s0 with heap:=h',toks:=tk })
    {s : Shared} (hI : ZsI z TI TO i1 i2 l1 l2 D env.locals xs ys ns ms s0 ns.length s) :
    codeAny (model prog w) A (.compLoop (.ListComp (.BinOp (.Name a pa) .Sub (.Name b pb) bp) [⟨.Tuple [.Name a p1,.Name b p2] kk tp,iter,[],0⟩] scope pos) 0 (.ref z) (.ref D) env) RR s:=by
  have hzl : (subs ns ms).length = ns.length:=by unfold subs; rw [List.length_zipWith,hlen]; exact Nat.min_self _
  refine nin7 hD fun dl1 dl2 dz dTO di1 di2 dTI=>?_
  refine nin7 (fun q=>hL (List.mem_cons_of_mem _ q)) fun ll1 ll2 lz lTO li1 li2 lTI=>?_
  have lD : env.locals ≠ D:=fun q=>hL (q ▸ List.mem_cons_self)
  clear hD hL
  refine codeAny_loop rfl (ZsI z TI TO i1 i2 l1 l2 D env.locals xs ys ns ms s0) (fun j s3 hI=>?_) ns.length hI
  obtain ⟨k,its,c,m,h,tk,hkj,rfl,keep,st,hz0,L1,L2,hDo,hits,hn⟩:=hI
  show wpAny _ A ((compTurn (.ListComp (.BinOp (.Name a pa) .Sub (.Name b pb) bp) [⟨.Tuple [.Name a p1,.Name b p2] kk tp,iter,[],0⟩] scope pos) 0 (.ref z) (.ref D) env).onRaise (fun x=>do noteFrame x env; theTreesLotGoes x)) _ _ _
  refine wpAny_noted ?_
  rw [compTurn_at rfl (by simp)]
  refine wpAny_bind (wpAny_standAt (wpAny_bind ?_))
  obtain ⟨a0,b0,hTO⟩:=st.to
  cases j with
  | zero =>
    have hke : k = ns.length:=by lia
    refine zip_over hh DD st L1 L2 (by simp [hke,hi.length]) fun h' kk'=>wpAny_pure ?_
    have ht : (subs ns ms).take k = subs ns ms:=by rw [List.take_of_length_le]; rw [hzl,hke]; exact Nat.le_refl _
    rw [ht] at hits
    exact hR h' tk its c m (fun b o hb e=>kk' b o (fun q=>hb (by simp only [List.mem_cons] at q ⊢; exact .inr (.inr q))) (keep b o hb e)) (hn.at' fun o e=>kk' _ o (no4 lz lTO li1 li2) e) (kk' _ _ (no4 dz dTO di1 di2) hDo) hits
  | succ j =>
    have hlt : k < ns.length:=by lia
    obtain ⟨t,ht⟩:=intsAre_at hi hlt
    obtain ⟨u,hu⟩:=intsAre_at hj (hlen ▸ hlt)
    have hx : xs.toArray[k]? = some (.int (ns.getD k 0) t):=by
      have : k < xs.length:=by rw [hi.length]; exact hlt
      rw [← ht]; simp [List.getD_eq_getElem?_getD,this]
    have hy : ys.toArray[k]? = some (.int (ms.getD k 0) u):=by
      have : k < ys.length:=by rw [hj.length]; lia
      rw [← hu]; simp [List.getD_eq_getElem?_getD,this]
    refine wpAny_pyNext_zip_item DD hz0 st.ti hTO st.i1 st.i2 L1 L2 hx hy fun h1 q1 q2 q3 q4 q5 q6 q7=>?_
    refine wpAny_bind (wpAny_letOwnedTupleGo_zip q1 fun h2 r1 r2=>?_)
    have hTz : h.objs.size ≠ z:=Nat.ne_of_gt (Heap.lt_size hz0)
    have hT2:=r2.extBut _ _ hTz q5
    refine wpAny_bind (wpAny_assign_Tuple hh ⟨_,hT2,rfl,_,rfl⟩ (by rfl) (by rfl) fun h3 r3=>?_)
    have e3:=ext_size r3
    have k3 : ∀ c o,c ∉ [z,TO,i1,i2] → h.get? c = some o → h3.get? c = some o:=fun c o hc e=>by
      refine nin4 hc fun c1 c2 c3 c4=>?_
      exact e3 c o (r2.extBut c o c1 (q7 c o c1 c2 c3 c4 e))
    have up3 : ∀ c o,c ≠ z → h1.get? c = some o → h3.get? c = some o:=fun c o hc e=>e3 c o (r2.extBut c o hc e)
    have hn3 : h3.Ns env.locals m:=hn.at' fun o e=>k3 _ o (no4 lz lTO li1 li2) e
    have hD3:=k3 _ _ (no4 dz dTO di1 di2) hDo
    have hmod : (env.scope.kind == .class || (env.scope.kind == .module && env.locals != env.globals)) = false:=by rw [hkind]; rfl
    show wpAny _ A (assignInOrder [assign (.Name a p1) env,assign (.Name b p2) env] [_,_]) _ _ _
    refine assignInOrder_cons (wpAny_assign_Name (wpAny_storeName_local ka hn3 (fun h4 hn4 s4=>?_) hmod))
    refine assignInOrder_cons (wpAny_assign_Name (wpAny_storeName_local kb hn4 (fun h5 hn5 s5=>?_) hmod))
    refine assignInOrder_nil ?_
    refine wpAny_bind (wpAny_tests_nil ?_)
    simp only [if_true]
    unfold bodyAt
    refine wpAny_bind (wpAny_bind ?_)
    refine wpAny_BinOp (wpAny_Name (wpAny_loadName_local hkind ka hn5 (v:=.int (ns.getD k 0) t) (by simp [hab]) ?_) da)
    refine wpAny_Name (wpAny_loadName_local hkind kb hn5 (v:=.int (ms.getD k 0) u) (by simp) ?_) db
    refine sub_int ?_
    have k5 : ∀ c o,c ≠ env.locals → h3.get? c = some o → h5.get? c = some o:=fun c o hc e=>s5.extBut c o hc (s4.extBut c o hc e)
    have hD5:=k5 _ _ (Ne.symm lD) hD3
    have hil : its.length ≤ 1000:=by rw [hits.length,List.length_take]; lia
    refine wpAny_bind (call_meets PySem.F.slot_list_append ⟨_,hD5,rfl⟩ PySem.F.entry_list_append (PySem.F.args_list_append_2 _ _) (PySem.list_append D its.toArray c _ (by rw [List.size_toArray,sizeLine_val]; lia)) ⟨hD5,?_⟩)
    have s6:=(Heap.SameBut.update h5 D (Obj.mapSeq fun xs=>xs.push (Value.int (ns.getD k 0 - ms.getD k 0) (tk + 1 + 1)))).extBut
    obtain ⟨c6,hD6⟩ : ∃ c6,(h5.update D (Obj.mapSeq fun xs=>xs.push (Value.int (ns.getD k 0 - ms.getD k 0) (tk + 1 + 1)))).get? D = some (seqObj "list" (its ++ [Value.int (ns.getD k 0 - ms.getD k 0) (tk + 1 + 1)]).toArray c6):=⟨_,by rw [get?_update_seq hD5 (fun a=>a.push (Value.int (ns.getD k 0 - ms.getD k 0) (tk + 1 + 1))),List.push_toArray]⟩
    have up6 : ∀ c o,c ≠ z → c ≠ env.locals → c ≠ D → h1.get? c = some o → (h5.update D (Obj.mapSeq fun xs=>xs.push (Value.int (ns.getD k 0 - ms.getD k 0) (tk + 1 + 1)))).get? c = some o:=fun c o h1 h2 h3 e=>s6 c o h3 (k5 c o h2 (up3 c o h1 e))
    have hz6 : IsZip (h5.update D (Obj.mapSeq fun xs=>xs.push (Value.int (ns.getD k 0 - ms.getD k 0) (tk + 1 + 1)))) z TI TO .none:=s6 _ _ (fun q=>dz q.symm) (k5 _ _ (fun q=>lz q.symm) (e3 _ _ r1))
    refine wpAny_pure (wpAny_pure ⟨rfl,j,Nat.lt_succ_self j,k + 1,its ++ [.int (ns.getD k 0 - ms.getD k 0) (tk + 1 + 1)],c6,_,_,_,by lia,rfl,?_,?_,hz6,?_,?_,hD6,?_,hn5.at' fun o e=>s6 _ o lD e⟩)
    · intro c o hc e
      refine nin6 hc fun c1 c2 c3 c4 c5 c6=>?_
      exact s6 c o c2 (k5 c o c1 (k3 c o (no4 c3 c4 c5 c6) (keep c o hc e)))
    · exact ⟨⟨_,false,hz6,.inl ⟨rfl,rfl⟩⟩,up6 _ _ DD.TIz (Ne.symm lTI) (Ne.symm dTI) (q7 _ _ DD.TIz DD.TITO DD.TIi1 DD.TIi2 st.ti),⟨_,_,up6 _ _ DD.TOz (Ne.symm lTO) (Ne.symm dTO) q2⟩,q3.at fun o e=>up6 _ o DD.i1z (Ne.symm li1) (Ne.symm di1) e,q4.at fun o e=>up6 _ o DD.i2z (Ne.symm li2) (Ne.symm di2) e⟩
    · exact L1.at fun o e=>s6 _ o (Ne.symm dl1) (k5 _ o (Ne.symm ll1) (k3 _ o (no4 DD.l1z DD.l1TO DD.l1i1 DD.l1i2) e))
    · exact L2.at fun o e=>s6 _ o (Ne.symm dl2) (k5 _ o (Ne.symm ll2) (k3 _ o (no4 DD.l2z DD.l2TO DD.l2i1 DD.l2i2) e))
    · have e1 : (subs ns ms).take (k + 1) = (subs ns ms).take k ++ [ns.getD k 0 - ms.getD k 0]:=by
        rw [List.take_add_one]
        have : (subs ns ms)[k]? = some (ns.getD k 0 - ms.getD k 0):=by
          unfold subs
          rw [List.getElem?_zipWith]
          simp [List.getD_eq_getElem?_getD,hlt,hlen ▸ hlt]
        rw [this]; rfl
      rw [e1]
      exact intsAre_snoc hits _ _
end
end Mine
namespace Mine
section
variable {X : Cx} {φ : List Env} {n : Nat} {nm nmc : Nm}
theorem eval_zip (O : XOk X) (N : NmOk nm) {np pos : Pos} {i : Nat} {e : PySem.Expr} {rest : List PySem.Expr} {args : Xms} (hi : nm.glb[i]? = some ("zip" : Str)) (hg : X.mg "zip" = none) (ra : RXs X φ n nm (e :: rest) args)
    (he : ∀ env,starEach (e :: rest) env = (false,eval e env) :: starEach rest env) (hplain : ∀ env,(backTo pos (starEach rest env)).any (·.1) = false)
    {A : Around} {env : Env} {σ : S} {s : Shared} {μ ν : List Addr} {H1 : List L} {a b : Nat} {ns ms : List Int} {Q E : Value → Shared → Prop} (hA : Room φ n A) (F : FrOk X φ nm env σ.loc σ.cel μ ν s.heap) (R : Rep X φ μ ν σ.H σ.C s) (em : args σ = some ([.ref a,.ref b],H1)) (h1 : H1[a]? = some (.ints ns)) (h2 : H1[b]? = some (.ints ms))
    (k : ∀ s2 μ2 h' z TI TO i1 i2 l1 l2,Aft X φ μ ν s H1 σ.C μ2 s2 NoFree → FrOk X φ nm env σ.loc σ.cel μ2 ν s2.heap → ZNew h' z TI TO i1 i2 l1 l2 ns ms → (∀ b o,s2.heap.get? b = some o → h'.get? b = some o) → (∀ b ∈ [z,TI,TO,i1,i2],s2.heap.get? b = none) → s2.heap.objs.size ≤ h'.objs.size → Q (.ref z) { s2 with heap:=h' }) :
    wpAny (model X.prog X.w) A (eval (.Call (.Name "zip" np) (e :: rest) [] pos) env) Q E s:=by
  refine wpAny_Call_ofName (name_builtin O N hi hg PyProof.Rows.Boot.«zip» F R ?_)
  show wpAny _ A (callWith pos (.type "zip") [] (backTo pos (starEach (e :: rest) env)) []) _ _ s
  refine callWith_excType (by rw [he env]; show (false || (backTo pos (starEach rest env)).any (·.1)) = false; rw [hplain env]; rfl) ?_
  have harg:=ra.use (pos:=pos) hA F R em (Q:=fun vs' s'=>wpAny (model X.prog X.w) A (PySem.call (.type "zip") ([] ++ vs') []) Q E s') (E:=E)
    fun xs s2 μ2 a2 F2 r2=>by
      refine r2.e2 fun x y rx ry=>rx.ref_e fun l1 hl1=>ry.ref_e fun l2 hl2=>?_
      refine e2a3 (a2.rep.lists _ l1 _ hl1 h1) fun its1 m1 eo1 hz1 rv1=>?_
      refine e2a3 (a2.rep.lists _ l2 _ hl2 h2) fun its2 m2 eo2 hz2 rv2=>?_
      show wpAny _ A (PySem.call (.type "zip") [.ref l1,.ref l2] []) _ _ s2
      have lt1:=Heap.lt_size eo1
      have lt2:=Heap.lt_size eo2
      have L1 : s2.heap.IsList l1 its1.toArray:=⟨_,eo1,rfl,m1,rfl⟩
      have L2 : s2.heap.IsList l2 its2.toArray:=⟨_,eo2,rfl,m2,rfl⟩
      refine call_zip_2 L1 L2 fun h' q1 q2 q3 q4 q5 q6 q7=>?_
      refine k s2 μ2 h' _ _ _ _ _ l1 l2 a2 F2 ⟨zipApart_new lt1 lt2,q1,⟨⟨_,false,q1,.inl ⟨rfl,rfl⟩⟩,q2,⟨_,_,q3⟩,q4,q5⟩,⟨its1,its2,L1.at fun o e=>q7 _ o e,L2.at fun o e=>q7 _ o e,intsAre_of rv1,intsAre_of rv2⟩⟩ q7 (fun b hb=>?_) (by lia)
      refine Heap.get?_none_of_le ?_
      simp only [List.mem_cons,List.not_mem_nil,or_false] at hb
      rcases hb with rfl | rfl | rfl | rfl | rfl <;> lia
  rw [he env] at harg ⊢
  exact Calls.evalArgs_plain harg
noncomputable def zipOf (args : Xms) (σ : S) : Option ((List Int × List Int) × List L):=match args σ with
  | some (vs,H)=>(match vs with
    | [.ref a,.ref b]=>(match H[a]?,H[b]? with
      | some (.ints ns),some (.ints ms)=>if ns.length = ms.length ∧ ns.length ≤ 1000 then some ((ns,ms),H) else none
      | _,_=>none)
    | _=>none)
  | none=>none
set_option tactic.hygienic true in
theorem zipOf_inv {args : Xms} {σ : S} {ns ms : List Int} {H : List L} (e : zipOf args σ = some ((ns,ms),H)) : ∃ a b,args σ = some ([.ref a,.ref b],H) ∧ H[a]? = some (.ints ns) ∧ H[b]? = some (.ints ms) ∧ ns.length = ms.length ∧ ns.length ≤ 1000:=by
  unfold zipOf at e
  revert e; refine m_VsH fun vs H1 e1 e=>?_
  split at e
  · rename_i a b
    split at e
    · rename_i ns' ms' h1 h2
      revert e; refine if_e fun hc e=>?_
      cases e
      exact ⟨a,b,e1,h1,h2,hc.1,hc.2⟩
    · cases e
  · cases e
noncomputable def mZipSub (args : Xms) : Xm:=fun σ=>match zipOf args σ with
  | some ((ns,ms),H)=>some (.ref H.length,H ++ [.ints (subs ns ms)])
  | none=>none
theorem zip_e {α : Type} {o : Option ((List Int × List Int) × List L)} {f : List Int → List Int → List L → Option α} {r : α} {P : Prop} (k : ∀ ns ms H,o = some ((ns,ms),H) → f ns ms H = some r → P) : (match (generalizing:=false) o with | some ((ns,ms),H)=>f ns ms H | none=>none) = some r → P:=by
  rcases o with _ | ⟨⟨ns,ms⟩,H⟩
  · intro e; cases e
  · exact k ns ms H rfl
theorem RX_zipSub (O : XOk X) (N : NmOk nm) (Nc : NmOk nmc) {a b : Str} {np zp p1 p2 pa pb bp tp pos : Pos} {kk i : Nat} {scope : Scope} {e : PySem.Expr} {rest : List PySem.Expr} {args : Xms} (K : CompAt nm nmc scope []) (ha : nmc.loc[0]? = some a) (hb : nmc.loc[1]? = some b) (hi : nm.glb[i]? = some ("zip" : Str)) (hg : X.mg "zip" = none) (ra : RXs X φ n nm (e :: rest) args)
    (he : ∀ env,starEach (e :: rest) env = (false,eval e env) :: starEach rest env:=by intro _; rfl) (hplain : ∀ env,(backTo zp (starEach rest env)).any (·.1) = false:=by intro _; rfl)
    (hs : ∀ env x,foldedSetIterable (.Call (.Name "zip" np) (e :: rest) [] zp) env x = pure x:=by intro _ _; rfl) :
    RX X φ n nm (.ListComp (.BinOp (.Name a pa) .Sub (.Name b pb) bp) [⟨.Tuple [.Name a p1,.Name b p2] kk tp,.Call (.Name "zip" np) (e :: rest) [] zp,[],0⟩] scope pos) (mZipSub args):=fun A env σ s μ ν v H' hA F R em=>by
  revert em; refine zip_e fun ns ms H1 e1 em=>?_
  refine ret_e em ?_
  obtain ⟨x,y,e1,h1,h2,hlen,hz⟩:=zipOf_inv e1
  rw [eval_ListComp]
  have hlen0 : ∀ i ∈ ([] : List Nat),i < σ.cel.length:=fun _ h=>nomatch h
  obtain ⟨hcf,_,_⟩:=clos_facts F K.cel K.slots hlen0
  refine wpAny_comprehension_free rfl (hs env) (closureFor_eq hcf) K.kind K.names ?_
  refine eval_zip O N hi hg ra he hplain hA F R e1 h1 h2 fun s2 μ1 hz2 z TI TO i1 i2 l1 l2 a2 F2 Z k2 n2 hle=>wpAny_pyIter_zip Z.zip ?_
  refine wpAny_newObj_type (wpAny_newFunctionEnv K.ncell (by intro y hy; simp at hy) (fun h₁ hns₁ hsb₁=>?_) K.kind)
  dsimp only at hns₁ hsb₁ ⊢
  generalize hH2 : hz2.push { cls:=.type "list",dict:=none,data:=.seq ([] : List Value).toArray } = H2 at hns₁ hsb₁ ⊢
  have hCA : H2.objs.size = hz2.objs.size + 1:=by rw [← hH2,Heap.size_push]
  have hDC : hz2.objs.size ≠ H2.objs.size:=by lia
  have hCle : hz2.objs.size ≤ H2.objs.size:=by lia
  have old : ∀ b o,hz2.get? b = some o → h₁.get? b = some o:=fun b o e=>hsb₁.extBut b o (Nat.ne_of_lt (Nat.lt_of_lt_of_le (Heap.lt_size e) hCle)) (Heap.get?_push_of_some _ (hH2 ▸ Heap.get?_push_of_some _ e))
  have hD1 : h₁.get? hz2.objs.size = some (seqObj "list" ([] : List Value).toArray 0):=hsb₁.extBut _ _ hDC (Heap.get?_push_of_some _ (hH2 ▸ Heap.get?_push_size _ rfl))
  have noneD : s2.heap.get? hz2.objs.size = none:=Heap.get?_none_of_le hle
  have noneC : s2.heap.get? H2.objs.size = none:=Heap.get?_none_of_le (by lia)
  have noneD2 : hz2.get? hz2.objs.size = none:=none_at_size _
  have noneC2 : hz2.get? H2.objs.size = none:=Heap.get?_none_of_le hCle
  have R2:=a2.rep
  have F4:=comp_frame (nl:=2) K Nc F2 hns₁ (R2.not_mut noneC) (R2.base_none noneC) hlen0
  generalize hE : compEnvC scope (closAcc env.cells scope.names []) H2.objs.size env = env' at F4
  have hloc : env'.locals = H2.objs.size:=by rw [← hE]; rfl
  obtain ⟨xs,ys,L1,L2,I1,I2⟩:=Z.ll
  have alz : ∀ b ∈ [z,TO,i1,i2,l1,l2],b < hz2.objs.size:=ZNew.lt (s:={ s2 with heap:=hz2 }) Z
  have altI:=Heap.lt_size Z.st.ti
  have hab : a ≠ b:=fun q=>by
    subst q
    have:=(List.getElem?_inj (List.getElem?_eq_some_iff.mp ha).1 Nc.nloc).mp (ha.trans hb.symm)
    cases this
  have qa:=Nc.loc a (List.mem_of_getElem? ha)
  have qb:=Nc.loc b (List.mem_of_getElem? hb)
  have hin : ∀ {c : Addr},hz2.objs.size ≤ c → c ∉ [l1,l2,z,TO,i1,i2,TI]:=fun {c} hc q=>by
    have q2 : c < hz2.objs.size:=by
      simp only [List.mem_cons,List.not_mem_nil,or_false] at q
      rcases q with q | q | q | q | q | q | q
      all_goals first | exact q ▸ altI | exact alz _ (by simp [q])
    exact absurd q2 (Nat.not_lt.mpr hc)
  have fin : ∀ h' tk its' c' m',(∀ b o,b ∉ [env'.locals,hz2.objs.size,z,TO,i1,i2] → h₁.get? b = some o → h'.get? b = some o) → h'.Ns env'.locals m' → h'.get? hz2.objs.size = some (seqObj "list" (List.toArray its') c') → IntsAre its' (subs ns ms) → compPost (model X.prog X.w) A (fun _ _=>False) none (QX X φ μ ν s (H1 ++ [.ints (subs ns ms)]) σ.C (.ref H1.length)) (.ref hz2.objs.size) H2.objs.size (.ok .next) { s2 with heap:=h',toks:=tk }:=fun h' tk its' c' m' k3 hn' hD' hi'=>by
    have nn : ∀ c ∈ [env'.locals,hz2.objs.size,z,TO,i1,i2],s2.heap.get? c = none:=List.forall_mem_cons.mpr ⟨hloc ▸ noneC,List.forall_mem_cons.mpr ⟨noneD,fun c hc=>n2 c (by simp only [List.mem_cons] at hc ⊢; rcases hc with q | q | q | q | q <;> simp [q])⟩⟩
    have kAll : ∀ b o,s2.heap.get? b = some o → h'.get? b = some o:=fun b o e=>k3 b o (fun q=>by rw [nn b q] at e; cases e) (old b o (k2 b o e))
    have aG : Aft X φ μ1 ν s2 H1 σ.C μ1 { s2 with heap:=h',toks:=tk } NoFree:=.grow R2 kAll
    have P : PrivL X h' μ1 ν hz2.objs.size ((subs ns ms).map V.int):=⟨its',c',hD',vrs_of_ints hi'⟩
    have hzl : (subs ns ms).length ≤ 1000:=by unfold subs; rw [List.length_zipWith]; exact Nat.le_trans (Nat.min_le_left _ _) hz
    have R':=aG.rep.adopt (l:=.ints (subs ns ms)) P (R2.not_mut noneD) (R2.base_none noneD) (by rw [List.length_map]; lia) (stills_ints _) rfl
    have a' : Aft X φ μ1 ν s2 (H1 ++ [.ints (subs ns ms)]) σ.C (μ1 ++ [hz2.objs.size]) { s2 with heap:=h',toks:=tk } NoFree:=⟨prefix_snoc _ _,fun c hc=>(List.mem_append.mp hc).elim .inl fun q=>.inr (by rw [List.mem_singleton.mp q]; exact noneD),R',aG.keeps,aG.alive⟩
    refine comp_post_none R _ _ _ _ m' (a2.trans a') (.ref (pre_take_self R2.lenH _)) (hloc ▸ hn') (fun q=>?_) (R2.base_none noneC) (a2.gone noneC)
    have nm:=R2.not_mut noneC
    rcases q with q | q | q
    · rcases List.mem_append.mp q with q | q
      · exact nm (.inl q)
      · exact hDC (List.mem_singleton.mp q).symm
    · exact nm (.inr (.inl q))
    · exact nm (.inr (.inr q))
  have hI : ∀ tk,ZsI z TI TO i1 i2 l1 l2 hz2.objs.size env'.locals xs ys ns ms { s2 with heap:=h₁ } ns.length { s2 with heap:=h₁,toks:=tk }:=fun tk=>⟨0,[],0,_,h₁,tk,Nat.zero_add _,rfl,fun _ _ _ e=>e,Z.st.mono fun b o e _=>old b o e,old _ _ Z.zip,L1.at fun o e=>old _ o e,L2.at fun o e=>old _ o e,hD1,.nil,hloc ▸ hns₁⟩
  have hL : ∀ tk,codeAny (model X.prog X.w) A (.compLoop (.ListComp (.BinOp (.Name a pa) .Sub (.Name b pb) bp) [⟨.Tuple [.Name a p1,.Name b p2] kk tp,.Call (.Name "zip" np) (e :: rest) [] zp,[],0⟩] scope pos) 0 (.ref z) (.ref hz2.objs.size) env') (compPost (model X.prog X.w) A (fun _ _=>False) none (QX X φ μ ν s (H1 ++ [.ints (subs ns ms)]) σ.C (.ref H1.length)) (.ref hz2.objs.size) H2.objs.size) { s2 with heap:=h₁,toks:=tk }:=fun tk =>
    zsub_loop hA.handled Z.apart I1 I2 hlen hz (by rw [F4.scope]; exact Nc.kind) (F4.kindLoc Nc ha) (F4.kindLoc Nc hb) hab (plainName_debug qa.2) (plainName_debug qb.2) (hin (Nat.le_refl _)) (by
      rw [hloc]
      simp only [List.mem_cons,not_or]
      exact ⟨Ne.symm hDC,by simpa using hin hCle⟩) fin (hI tk)
  have hzip1:=old _ _ Z.zip
  rw [← hE] at hL
  exact compStart_at rfl (hL _) (wpAny_pyIter_zip hzip1 (hL _))
end
end Mine
namespace Mine
section
variable {X : Cx} {φ : List Env} {n : Nat} {nm nmc : Nm}
theorem pairs_end {μ ν μ2 : List Addr} {s s2 : Shared} {H1 : List L} {C : List (Option V)} {h' : Heap} {D : Addr} {its : List Value} {c : Nat} {ps : List (Int × Int)} {O O' : List Addr} (a2 : Aft X φ μ ν s H1 C μ2 s2 NoFree) (hO : ∀ b ∈ O',s2.heap.get? b = none) (k : ∀ b o,b ∉ O' → s2.heap.get? b = some o → h'.get? b = some o) (hD : s2.heap.get? D = none)
    (e : h'.get? D = some (seqObj "list" (List.toArray its) c)) (p : PrAt h' O its ps) (hz : ps.length ≤ 1000) : QX X φ μ ν s (H1 ++ [.vals (ps.map pairV)]) C (.ref H1.length) (.ref D) { s2 with heap:=h' }:=by
  have kk : ∀ b o,s2.heap.get? b = some o → h'.get? b = some o:=fun b o e=>k b o (fun q=>by rw [hO b q] at e; cases e) e
  refine QX.aft a2 _ _ (fresh_list (tk:=s2.toks) (l:=.vals (ps.map pairV)) a2.rep kk hD e p.vrs ?_ ?_)
  · show (ps.map pairV).length ≤ _; rw [List.length_map]; lia
  · show stills (ps.map pairV) = true
    clear p hz
    induction ps with
    | nil=>rfl
    | cons q ps ih=>simp only [List.map_cons,stills,pairV,V.still,Bool.true_and,Bool.and_true]; exact ih
noncomputable def mListZip (args : Xms) : Xm:=fun σ=>match zipOf args σ with
  | some ((ns,ms),H)=>some (.ref H.length,H ++ [.vals ((ns.zip ms).map pairV)])
  | none=>none
noncomputable def mSortZip (args : Xms) : Xm:=fun σ=>match zipOf args σ with
  | some ((ns,ms),H)=>if ns.length = 3 ∨ ns.length = 4 then some (.ref H.length,H ++ [.vals ((sortP (ns.zip ms)).map pairV)]) else none
  | none=>none
theorem RX_listZip (O : XOk X) (N : NmOk nm) {np zp0 zp pos : Pos} {i j : Nat} {e : PySem.Expr} {rest : List PySem.Expr} {args : Xms} (hi : nm.glb[i]? = some ("list" : Str)) (hg : X.mg "list" = none) (hj : nm.glb[j]? = some ("zip" : Str)) (hgz : X.mg "zip" = none) (ra : RXs X φ n nm (e :: rest) args)
    (he : ∀ env,starEach (e :: rest) env = (false,eval e env) :: starEach rest env:=by intro _; rfl) (hplain : ∀ env,(backTo zp (starEach rest env)).any (·.1) = false:=by intro _; rfl) :
    RX X φ n nm (.Call (.Name "list" np) [.Call (.Name "zip" zp0) (e :: rest) [] zp] [] pos) (mListZip args):=fun A env σ s μ ν v H' hA F R em=>by
  revert em; refine zip_e fun ns ms H1 e1 em=>?_
  refine ret_e em ?_
  obtain ⟨x,y,e1,h1,h2,hlen,hz⟩:=zipOf_inv e1
  refine wpAny_Call_ofName (name_builtin O N hi hg PyProof.Rows.Boot.«list» F R ?_)
  show wpAny _ A (callWith pos (.type "list") [] (backTo pos (starEach [.Call (.Name "zip" zp0) (e :: rest) [] zp] env)) []) _ _ s
  refine callWith_excType rfl ?_
  refine Calls.evalArgs_plain (wpAny_items_cons (eval_zip O N hj hgz ra he hplain hA F R e1 h1 h2 fun s2 μ1 hz2 z TI TO i1 i2 l1 l2 a2 F2 Z k2 n2 hle=>wpAny_items_nil ?_) rfl)
  have hsz : (ns.zip ms).length = ns.length:=by rw [List.length_zip,hlen]; exact Nat.min_self _
  exact list_zip (s:={ s2 with heap:=hz2 }) hA.handled Z hlen hz fun h' its c k e p=>pairs_end (s2:=s2) a2 (O':=[z,TO,i1,i2]) (fun b hb=>n2 b (by rcases List.mem_cons.mp hb with h | h; exact List.mem_cons.mpr (.inl h); exact List.mem_cons_of_mem _ (List.mem_cons_of_mem _ h))) (fun b o hb eo=>k b o hb (k2 b o eo)) (Heap.get?_none_of_le hle) e p (by lia)
theorem RX_sortZip (O : XOk X) (N : NmOk nm) {np zp0 zp pos : Pos} {i j : Nat} {e : PySem.Expr} {rest : List PySem.Expr} {args : Xms} (hi : nm.glb[i]? = some ("sorted" : Str)) (hg : X.mg "sorted" = none) (hj : nm.glb[j]? = some ("zip" : Str)) (hgz : X.mg "zip" = none) (ra : RXs X φ n nm (e :: rest) args)
    (he : ∀ env,starEach (e :: rest) env = (false,eval e env) :: starEach rest env:=by intro _; rfl) (hplain : ∀ env,(backTo zp (starEach rest env)).any (·.1) = false:=by intro _; rfl) :
    RX X φ n nm (.Call (.Name "sorted" np) [.Call (.Name "zip" zp0) (e :: rest) [] zp] [] pos) (mSortZip args):=fun A env σ s μ ν v H' hA F R em=>by
  revert em; refine zip_e fun ns ms H1 e1 em=>?_
  revert em; refine if_e fun hN em=>?_
  refine ret_e em ?_
  obtain ⟨x,y,e1,h1,h2,hlen,hz⟩:=zipOf_inv e1
  refine wpAny_Call_ofName (name_builtin O N hi hg PyProof.Rows.Boot.«sorted» F R ?_)
  show wpAny _ A (callWith pos (.builtin "sorted") [] (backTo pos (starEach [.Call (.Name "zip" zp0) (e :: rest) [] zp] env)) []) _ _ s
  refine Calls.callWith_builtin rfl ?_
  refine Calls.evalArgs_plain (wpAny_items_cons (eval_zip O N hj hgz ra he hplain hA F R e1 h1 h2 fun s2 μ1 hz2 z TI TO i1 i2 l1 l2 a2 F2 Z k2 n2 hle=>wpAny_items_nil ?_) rfl)
  have hsz : (ns.zip ms).length = ns.length:=by rw [List.length_zip,hlen]; exact Nat.min_self _
  have hso : (sortP (ns.zip ms)).length = ns.length:=by
    obtain ⟨_,_,_,_,hp,_⟩:=sortP_run (ps:=ns.zip ms) (by rw [hsz]; exact hN)
    rw [hp.length_eq,hsz]
  exact sorted_zip (s:={ s2 with heap:=hz2 }) hA.handled Z hlen hN fun h' D its c k hD e p=>pairs_end (s2:=s2) a2 (O':=[z,TO,i1,i2]) (fun b hb=>n2 b (by rcases List.mem_cons.mp hb with h | h; exact List.mem_cons.mpr (.inl h); exact List.mem_cons_of_mem _ (List.mem_cons_of_mem _ h))) (fun b o hb eo=>k b o hb (k2 b o eo)) (by
    cases q : s2.heap.get? D with
    | none=>rfl
    | some o=>rw [k2 D o q] at hD; cases hD) e p (by lia)
noncomputable def fRange3 : FN:=fun vs H=>match vs with
  | [.int b]=>some (.rng 0 b 1,H)
  | [.int a,.int b]=>some (.rng a b 1,H)
  | [.int a,.int b,.int c]=>if c = 0 ∨ small (b - a) = false ∨ small c = false then none else some (.rng a b c,H)
  | _=>none
set_option tactic.hygienic true in
theorem OpN_range3 : OpN X φ n (fun xs=>call (.type "range") xs) fRange3:=fun A s μ ν H C xs vs H' r hA R rx em=>by
  unfold fRange3 at em
  split at em
  · exact OpN_range A s μ ν H C xs _ H' r hA R rx em
  · exact OpN_range A s μ ν H C xs _ H' r hA R rx em
  · rename_i a b c
    revert em; refine ifn_e fun hc em=>?_
    simp only [not_or,Bool.not_eq_false] at hc
    refine ret_e em ?_
    refine rx.e3 fun x y z r1 r2 r3=>r1.int_e fun t=>r2.int_e fun t2=>r3.int_e fun t3=>?_
    exact call_range_3 hc.1 (Op_grown R (fun _ _ e=>Heap.get?_push_of_some _ e) (.rng (IsRange.new ..))) (.inl (PyProof.noPylong_of_log2 (small_log2 hc.2.2)))
  · cases em
end
end Mine
namespace Mine
noncomputable def lexLt : List Int → List Int → Bool
  | [],[]=>false
  | [],_ :: _=>true
  | _ :: _,[]=>false
  | a :: r,b :: t=>if a = b then lexLt r t else decide (a < b)
open PySem.AutoSeq1 (wpAny_loadPart') in
theorem lt_loop (l b : Addr) (items items2 : Array Value) (n n2 : Nat) {ns ms : List Int} (h1 : IntsAre items.toList ns) (h2 : IntsAre items2.toList ms) (hsz : ns.length = ms.length) (k : Nat) :
    ∀ i : Nat,ns.length - i = k → Meets (Builtin.«list.__eq__.loop» ⟨[.ref l,.ref b,rawInt i,rawInt 0],[]⟩)
      (fun _ R s=>s.heap.get? l = some { cls:=.type "list",dict:=none,data:=.seq items n,slots:=#[] } ∧ s.heap.get? b = some { cls:=.type "list",dict:=none,data:=.seq items2 n2,slots:=#[] } ∧
        R (.ok (.ret (.bool (lexLt (ns.drop i) (ms.drop i))))) s):=by
  have l1 : items.size = ns.length:=by rw [← h1.length,Array.length_toList]
  have l2 : items2.size = ms.length:=by rw [← h2.length,Array.length_toList]
  induction k with
  | zero =>
    intro i hk prog w A R s h
    obtain ⟨hp,g,d,tk,os⟩:=s; obtain ⟨hl,hb,h⟩:=h
    wp_walk using wpAny_loadPart' hl,wpAny_loadPart' hb
    have hi1 : items[((i : Nat) : Int).toNat]? = none:=by simp; omega
    have hi2 : items2[((i : Nat) : Int).toNat]? = none:=by simp; omega
    rw [List.drop_of_length_le (by omega),List.drop_of_length_le (by omega)] at h
    rw [hi1,hi2]
    wp_walk using wpAny_loadPart' hl,wpAny_loadPart' hb
    show R (.ok (.ret (.bool (decide (items.size < items2.size))))) _
    rw [decide_eq_false (by omega)]
    exact h
  | succ k ih =>
    intro i hk prog w A R s h
    obtain ⟨hp,g,d,tk,os⟩:=s; obtain ⟨hl,hb,h⟩:=h
    wp_walk using wpAny_loadPart' hl,wpAny_loadPart' hb
    have hlt : i < items.size:=by omega
    have hlt2 : i < items2.size:=by omega
    obtain ⟨t,ht⟩:=intsAre_at h1 (i:=i) (by omega)
    obtain ⟨u,hu⟩:=intsAre_at h2 (i:=i) (by omega)
    have hi1 : items[((i : Nat) : Int).toNat]? = some (.int (ns.getD i 0) t):=by
      rw [← ht]; simp [List.getD_eq_getElem?_getD,hlt]
    have hi2 : items2[((i : Nat) : Int).toNat]? = some (.int (ms.getD i 0) u):=by
      rw [← hu]; simp [List.getD_eq_getElem?_getD,hlt2]
    have hd : ns.drop i = ns.getD i 0 :: ns.drop (i + 1):=by rw [List.drop_eq_getElem_cons (by omega)]; simp [List.getD_eq_getElem?_getD,l1 ▸ hlt]
    have hd2 : ms.drop i = ms.getD i 0 :: ms.drop (i + 1):=by rw [List.drop_eq_getElem_cons (by omega)]; simp [List.getD_eq_getElem?_getD,l2 ▸ hlt2]
    have hc : ((i : Int) + 1) = ((i + 1 : Nat) : Int):=by push_cast; rfl
    rw [hd,hd2,lexLt] at h
    rw [hi1,hi2]
    refine wpAny_bind (wpAny_eqBool_int ?_)
    by_cases hb' : ns.getD i 0 = ms.getD i 0
    · rw [if_pos hb'] at h
      have e : (ns.getD i 0 == ms.getD i 0) = true:=beq_iff_eq.mpr hb'
      rw [e]
      wp_walk
      rw [hc]
      exact ⟨plainId_quiet MeetsSeq3.plain_eq_loop _,codeAny_builtin MeetsSeq3.entry_eq_loop (by
        rw [Around.under_plainId MeetsSeq3.plain_eq_loop _]
        exact ih (i + 1) (by omega) prog w A R _ ⟨hl,hb,h⟩)⟩
    · rw [if_neg hb'] at h
      have e : (ns.getD i 0 == ms.getD i 0) = false:=beq_eq_false_iff_ne.mpr hb'
      rw [e]
      wp_walk using wpAny_loadPart' hl,wpAny_loadPart' hb
      rw [hi1,hi2]
      refine wpAny_bind (lt_int ?_)
      exact wpAny_pure h
open PySem.AutoSeq1 (wpAny_loadPart') in
theorem list_lt_meets (l b : Addr) (items items2 : Array Value) (n n2 : Nat) {ns ms : List Int} (h1 : IntsAre items.toList ns) (h2 : IntsAre items2.toList ms) (hsz : ns.length = ms.length) :
    Meets (Builtin.«list.__lt__» ⟨[.ref l,.ref b],[]⟩)
      (fun _ R s=>s.heap.get? l = some { cls:=.type "list",dict:=none,data:=.seq items n,slots:=#[] } ∧ s.heap.get? b = some { cls:=.type "list",dict:=none,data:=.seq items2 n2,slots:=#[] } ∧
        R (.ok (.ret (.bool (lexLt ns ms)))) s):=by
  intro prog w A R s h
  obtain ⟨hp,g,d,tk,os⟩:=s; obtain ⟨hl,hb,h⟩:=h
  have f3:=AutoSeq1.sub_list_list
  wp_walk using wpAny_loadPart' hl,wpAny_loadPart' hb
  exact ⟨plainId_quiet MeetsSeq3.plain_eq_loop _,codeAny_builtin MeetsSeq3.entry_eq_loop (by
    rw [Around.under_plainId MeetsSeq3.plain_eq_loop _]
    exact lt_loop l b items items2 n n2 h1 h2 hsz _ 0 rfl prog w A R _ ⟨hl,hb,h⟩)⟩
section
variable {X : Cx} {φ : List Env} {n : Nat} {nm nmc : Nm}
noncomputable def fLtL : F2:=fun v w H=>match v,w with
  | .ref i,.ref j=>(match H[i]?,H[j]? with
    | some (.ints xs),some (.ints ys)=>if xs.length = ys.length then some (.bool (lexLt xs ys),H) else none
    | _,_=>none)
  | _,_=>none
set_option tactic.hygienic true in
theorem Op2_ltL : Op2 X φ n (compareOp .Lt) fLtL:=fun A s μ ν H C x y v u H' r hA R rx ry em=>by
  unfold fLtL at em
  split at em
  · split at em
    · rename_i ns ms hl hl2
      revert em; refine if_e fun hc em=>?_
      refine ret_e em ?_
      refine rx.ref_e fun a ha=>ry.ref_e fun b hb=>?_
      refine e2a3 (R.lists _ a _ ha hl) fun its m e hz rv=>?_
      refine e2a3 (R.lists _ b _ hb hl2) fun its2 m2 e2 hz2 rv2=>?_
      show wpAny _ A (richCompare .Lt (.ref a) (.ref b)) _ _ s
      exact wpAny_richCompare_same_room (op:=.Lt) (T:="list") ⟨_,e,rfl⟩ ⟨_,e2,rfl⟩ PySem.F.slot_list_lt
        (call_meets PySem.F.slot_list_lt ⟨_,e,rfl⟩ PySem.F.entry_list_lt (PySem.F.args_list_lt_2 _ _) (list_lt_meets a b its.toArray its2.toArray m m2 (intsAre_of rv) (intsAre_of rv2) hc) ⟨e,e2,by simp,μ,.refl R,.bool _⟩) hA.c
    · cases em
  · cases em
end
end Mine
namespace Mine
/-! a set's table,while it is small and plain -/
structure Tab (t : SetTable) (n : Nat) (led : Bool) : Prop where
  mask : t.mask = 7
  plain : t.plain = true
  led : t.led = led
  dum : t.dummies = #[]
  size : t.place.size = n
  rise : t.place.toList.Pairwise (· < ·)
theorem Tab.fits {t : SetTable} {n : Nat} {led : Bool} (T : Tab t n led) (h : n ≤ 7) : t.fits n = true:=by
  simp [SetTable.fits,SetTable.fill,T.size,T.dum,T.mask,h]
theorem rise_at {xs : Array Nat} (h : xs.toList.Pairwise (· < ·)) {i k : Nat} (hik : i < k) (hk : k < xs.size) : xs.getD i 0 < xs.getD k 0:=by
  have:=List.pairwise_iff_getElem.mp h i k (by simp; lia) (by simpa using hk) hik
  simpa [Array.getD_eq_getD_getElem?,hk,Nat.lt_trans hik hk] using this
theorem below_go {xs : Array Nat} (h : xs.toList.Pairwise (· < ·)) {j : Nat} : ∀ (fuel lo hi : Nat),lo ≤ hi → hi ≤ xs.size → hi - lo ≤ fuel → (∀ i,i < lo → xs.getD i 0 < j) → (∀ i,hi ≤ i → i < xs.size → j ≤ xs.getD i 0) →
    ∃ p,SetTable.below.go xs j fuel lo hi = p ∧ p ≤ xs.size ∧ (∀ i,i < p → xs.getD i 0 < j) ∧ (∀ i,p ≤ i → i < xs.size → j ≤ xs.getD i 0)
  | 0,lo,hi,h1,h2,h3,h4,h5=>by
    have : lo = hi:=by lia
    subst this
    exact ⟨lo,rfl,h2,h4,h5⟩
  | fuel + 1,lo,hi,h1,h2,h3,h4,h5=>by
    unfold SetTable.below.go
    by_cases hlt : lo < hi
    · rw [if_pos hlt]
      have hm : lo ≤ (lo + hi) / 2 ∧ (lo + hi) / 2 < hi:=by lia
      generalize (lo + hi) / 2 = m at hm
      have hgm : xs.getD m j = xs.getD m 0:=by simp [Array.getD_eq_getD_getElem?,show m < xs.size by lia]
      dsimp only
      by_cases hc : xs.getD m j < j
      · rw [if_pos hc]
        refine below_go h fuel (m + 1) hi (by lia) h2 (by lia) (fun i hi'=>?_) h5
        rcases Nat.lt_or_ge i m with q | q
        · exact Nat.lt_trans (rise_at h q (by lia)) (hgm ▸ hc)
        · have : i = m:=by lia
          subst this; exact hgm ▸ hc
      · rw [if_neg hc]
        refine below_go h fuel lo m hm.1 (by lia) (by lia) h4 fun i hi' hi2=>?_
        rcases Nat.lt_or_ge m i with q | q
        · exact Nat.le_of_lt (Nat.lt_of_le_of_lt (hgm ▸ Nat.not_lt.mp hc) (rise_at h q hi2))
        · have : i = m:=by lia
          subst this; exact hgm ▸ Nat.not_lt.mp hc
    · rw [if_neg hlt]
      have : lo = hi:=by lia
      subst this
      exact ⟨lo,rfl,h2,h4,h5⟩
theorem below_spec {xs : Array Nat} (h : xs.toList.Pairwise (· < ·)) (j : Nat) : SetTable.below xs j ≤ xs.size ∧ (∀ i,i < SetTable.below xs j → xs.getD i 0 < j) ∧ (∀ i,SetTable.below xs j ≤ i → i < xs.size → j ≤ xs.getD i 0):=by
  obtain ⟨p,e,r⟩:=below_go h (j:=j) xs.size 0 xs.size (Nat.zero_le _) (Nat.le_refl _) (Nat.le_refl _) (fun i hi=>absurd hi (Nat.not_lt_zero _)) (fun i h1 h2=>by lia)
  have : SetTable.below xs j = p:=e
  rw [this]; exact r
set_option tactic.hygienic true in
theorem slot_empty {t : SetTable} {n : Nat} {led : Bool} (T : Tab t n led) {j : Nat} : t.slot j = .empty ∨ ((∃ i,t.slot j = .live i) ∧ j ∈ t.place.toList):=by
  unfold SetTable.slot
  dsimp only
  split
  · rename_i h
    refine .inr ⟨⟨_,rfl⟩,?_⟩
    have:=beq_iff_eq.mp h
    rw [← Array.getElem?_toList] at this
    exact List.mem_of_getElem? this
  · left
    have : SetTable.has t.dummies j = false:=by rw [T.dum]; rfl
    rw [this]; rfl
theorem adv_more {t : SetTable} (hm : t.mask = 7) {p : SetTable.Probe} (h0 : p.more = 0) : (t.advance p).more = 0 ∧ (t.advance p).i = (t.advance p).j ∧ (t.advance p).i = (p.i * 5 + 1 + p.perturb / 32) % 8 ∧ (t.advance p).perturb = p.perturb / 32 ∧ (t.advance p).dummy = p.dummy:=by
  unfold SetTable.advance
  rw [h0,hm]
  simp only [Nat.lt_irrefl,if_false]
  refine ⟨?_,by first | rfl | trivial,by first | rfl | trivial,by first | rfl | trivial,by first | rfl | trivial⟩
  show SetTable.runEnd 7 ((p.i * 5 + 1 + p.perturb / 32) % 8) - (p.i * 5 + 1 + p.perturb / 32) % 8 = 0
  unfold SetTable.runEnd
  rw [if_neg (by omega)]
  lia
theorem go_some {t : SetTable} {n : Nat} {led : Bool} (T : Tab t n led) {f : Nat → Int} {h : Int} (hf : ∀ i,(f i == h) = false) : ∀ {fuel : Nat} {p : SetTable.Probe} {r : SetTable.Met},p.dummy = none → p.more = 0 → SetTable.probe.go t f h fuel p = some r → ∃ j,r = .empty j none ∧ t.slot j = .empty
  | 0,_,_,_,_,e=>by cases e
  | fuel + 1,p,r,hd,h0,e=>by
    unfold SetTable.probe.go at e
    rcases slot_empty T (j:=p.j) with q | ⟨⟨i,q⟩,_⟩
    · rw [q] at e; cases e; exact ⟨p.j,by rw [hd],q⟩
    · rw [q] at e
      simp only [hf,Bool.false_eq_true,if_false] at e
      have a:=adv_more T.mask h0
      exact go_some T hf (a.2.2.2.2.trans hd) a.1 e
theorem go_step {t : SetTable} {n : Nat} {led : Bool} (T : Tab t n led) {f : Nat → Int} {h : Int} (hf : ∀ i,(f i == h) = false) {fuel : Nat} {p : SetTable.Probe} (e : SetTable.probe.go t f h (fuel + 1) p = none) : p.j ∈ t.place.toList ∧ SetTable.probe.go t f h fuel (t.advance p) = none:=by
  unfold SetTable.probe.go at e
  rcases slot_empty T (j:=p.j) with q | ⟨⟨i,q⟩,hm⟩
  · rw [q] at e; cases e
  · rw [q] at e
    simp only [hf,Bool.false_eq_true,if_false] at e
    exact ⟨hm,e⟩
theorem three_of {l : List Nat} (h : l.length ≤ 3) : ∃ a b c,∀ x,x ∈ l → x = a ∨ x = b ∨ x = c:=by
  match l,h with
  | [],_=>exact ⟨0,0,0,fun _ h=>nomatch h⟩
  | [a],_=>exact ⟨a,a,a,fun x hx=>by simp at hx; exact .inl hx⟩
  | [a,b],_=>exact ⟨a,b,b,fun x hx=>by simp at hx; lia⟩
  | [a,b,c],_=>exact ⟨a,b,c,fun x hx=>by simpa using hx⟩
theorem three_two {x y z p q : Nat} (h1 : x ≠ y) (h2 : x ≠ z) (h3 : y ≠ z) (q1 : x = p ∨ x = q) (q2 : y = p ∨ y = q) (q3 : z = p ∨ z = q) : False:=by
  rcases q1 with r | r <;> rcases q2 with s | s <;> rcases q3 with t | t
  all_goals first | exact h1 (r.trans s.symm) | exact h2 (r.trans t.symm) | exact h3 (s.trans t.symm)
theorem off1 {w x a b c : Nat} (h : w ≠ x) (r : w = a) (q : x = a ∨ x = b ∨ x = c) : x = b ∨ x = c:=q.elim (fun e=>absurd (r.trans e.symm) h) id
theorem off2 {w x a b c : Nat} (h : w ≠ x) (r : w = b) (q : x = a ∨ x = b ∨ x = c) : x = a ∨ x = c:=q.elim .inl fun q=>q.elim (fun e=>absurd (r.trans e.symm) h) .inr
theorem off3 {w x a b c : Nat} (h : w ≠ x) (r : w = c) (q : x = a ∨ x = b ∨ x = c) : x = a ∨ x = b:=q.elim .inl fun q=>q.elim .inr fun e=>absurd (r.trans e.symm) h
theorem four_three {w x y z a b c : Nat} (h1 : w ≠ x) (h2 : w ≠ y) (h3 : w ≠ z) (h4 : x ≠ y) (h5 : x ≠ z) (h6 : y ≠ z) (q0 : w = a ∨ w = b ∨ w = c) (q1 : x = a ∨ x = b ∨ x = c) (q2 : y = a ∨ y = b ∨ y = c) (q3 : z = a ∨ z = b ∨ z = c) : False :=
  q0.elim (fun r=>three_two h4 h5 h6 (off1 h1 r q1) (off1 h2 r q2) (off1 h3 r q3)) fun q=>q.elim (fun r=>three_two h4 h5 h6 (off2 h1 r q1) (off2 h2 r q2) (off2 h3 r q3)) fun r=>three_two h4 h5 h6 (off3 h1 r q1) (off3 h2 r q2) (off3 h3 r q3)
theorem run_differs : ∀ x : Nat,x < 8 → x ≠ (x * 5 + 1 + 0 / 32) % 8 ∧ x ≠ ((x * 5 + 1 + 0 / 32) % 8 * 5 + 1 + 0 / 32 / 32) % 8 ∧ x ≠ (((x * 5 + 1 + 0 / 32) % 8 * 5 + 1 + 0 / 32 / 32) % 8 * 5 + 1 + 0 / 32 / 32 / 32) % 8 ∧ (x * 5 + 1 + 0 / 32) % 8 ≠ ((x * 5 + 1 + 0 / 32) % 8 * 5 + 1 + 0 / 32 / 32) % 8 ∧
    (x * 5 + 1 + 0 / 32) % 8 ≠ (((x * 5 + 1 + 0 / 32) % 8 * 5 + 1 + 0 / 32 / 32) % 8 * 5 + 1 + 0 / 32 / 32 / 32) % 8 ∧ ((x * 5 + 1 + 0 / 32) % 8 * 5 + 1 + 0 / 32 / 32) % 8 ≠ (((x * 5 + 1 + 0 / 32) % 8 * 5 + 1 + 0 / 32 / 32) % 8 * 5 + 1 + 0 / 32 / 32 / 32) % 8:=by decide +kernel
theorem go_ends {t : SetTable} {n : Nat} {led : Bool} (T : Tab t n led) (hn : n ≤ 3) {f : Nat → Int} {h : Int} (hf : ∀ i,(f i == h) = false) : ∀ (m fuel : Nat) (p : SetTable.Probe),p.more = 0 → p.i = p.j → p.i < 8 → p.perturb < 32 ^ m → m + 4 ≤ fuel → SetTable.probe.go t f h fuel p ≠ none
  | 0,fuel,p,h0,hij,h8,hp,hfu,e=>by
    have hp0 : p.perturb = 0:=by lia
    obtain ⟨g,rfl⟩ : ∃ g,fuel = g + 4:=⟨fuel - 4,by lia⟩
    obtain ⟨m0,e1⟩:=go_step T hf e
    obtain ⟨a1,a2,a3,a4,_⟩:=adv_more T.mask h0
    obtain ⟨m1,e2⟩:=go_step T hf e1
    obtain ⟨b1,b2,b3,b4,_⟩:=adv_more T.mask a1
    obtain ⟨m2,e3⟩:=go_step T hf e2
    obtain ⟨c1,c2,c3,c4,_⟩:=adv_more T.mask b1
    obtain ⟨m3,e4⟩:=go_step T hf e3
    obtain ⟨a,b,c,hl⟩:=three_of (l:=t.place.toList) (by rw [Array.length_toList,T.size]; exact hn)
    have q0:=hl _ m0
    have q1:=hl _ m1
    have q2:=hl _ m2
    have q3:=hl _ m3
    rw [← c2,c3,b3,b4,a3,a4,hp0] at q3
    rw [← b2,b3,a3,a4,hp0] at q2
    rw [← a2,a3,hp0] at q1
    rw [← hij] at q0
    clear hl m0 m1 m2 m3 e1 e2 e3 e4 e a1 a2 a3 a4 b1 b2 b3 b4 c1 c2 c3 c4
    generalize p.i = x at *
    obtain ⟨d1,d2,d3,d4,d5,d6⟩:=run_differs x h8
    exact four_three d1 d2 d3 d4 d5 d6 q0 q1 q2 q3
  | m + 1,fuel,p,h0,hij,h8,hp,hfu,e=>by
    obtain ⟨g,rfl⟩ : ∃ g,fuel = g + 1:=⟨fuel - 1,by lia⟩
    obtain ⟨_,e1⟩:=go_step T hf e
    obtain ⟨a1,a2,a3,a4,_⟩:=adv_more T.mask h0
    refine go_ends T hn hf m g (t.advance p) a1 a2 (by rw [a3]; lia) ?_ (by lia) e1
    rw [a4,Nat.div_lt_iff_lt_mul (by decide)]
    rw [Nat.pow_succ] at hp
    exact hp
theorem free_slot {t : SetTable} {n : Nat} {led : Bool} (T : Tab t n led) (hn : n ≤ 3) (h : Int) : ∃ j,t.freeSlot h = some (j,false) ∧ t.slot j = .empty:=by
  have hf : ∀ i : Nat,((fun _ : Nat=>h + 1) i == h) = false:=fun i=>beq_eq_false_iff_ne.mpr (by show h + 1 ≠ h; lia)
  have hb : SetTable.bits h < 32 ^ 13:=by
    unfold SetTable.bits
    have h1 : h % (2 ^ 64 : Int) < 2 ^ 64:=Int.emod_lt_of_pos _ (by decide)
    have h2 : 0 ≤ h % (2 ^ 64 : Int):=Int.emod_nonneg _ (by decide)
    have e1 : (2 : Int) ^ 64 = 18446744073709551616:=by decide
    have e2 : (32 : Nat) ^ 13 = 36893488147419103232:=by decide
    rw [e1] at *; rw [e2]; lia
  have key:=go_ends T hn hf 13 (10 * SetTable.turns t.mask) (t.probeStart h) (by
    unfold SetTable.probeStart SetTable.runEnd; rw [T.mask]; dsimp only; rw [if_neg (by omega)]; lia) rfl (by
    unfold SetTable.probeStart; rw [T.mask]; show SetTable.bits h % 8 < 8; lia) hb (by rw [T.mask]; decide)
  unfold SetTable.freeSlot SetTable.probe
  cases e : SetTable.probe.go t (fun _=>h + 1) h (10 * SetTable.turns t.mask) (t.probeStart h) with
  | none=>exact absurd e key
  | some r =>
    obtain ⟨j,rfl,hs⟩:=go_some T hf rfl (by unfold SetTable.probeStart SetTable.runEnd; rw [T.mask]; dsimp only; rw [if_neg (by omega)]; lia) e
    exact ⟨j,rfl,hs⟩
end Mine
namespace Mine
noncomputable def ElH : List (Int × Value) → List Int → Prop
  | [],[]=>True
  | e :: es,z :: zs=>(∃ t,e = (hashInt z,Value.int z t)) ∧ ElH es zs
  | _,_=>False
theorem ElH.length : ∀ {es : List (Int × Value)} {zs : List Int},ElH es zs → es.length = zs.length
  | [],[],_=>rfl
  | e :: es,z :: zs,⟨_,r⟩=>by simp [ElH.length r]
theorem ElH.append : ∀ {es : List (Int × Value)} {zs : List Int} {fs : List (Int × Value)} {ys : List Int},ElH es zs → ElH fs ys → ElH (es ++ fs) (zs ++ ys)
  | [],[],_,_,_,r=>r
  | e :: es,z :: zs,_,_,⟨a,b⟩,r=>⟨a,ElH.append b r⟩
theorem ElH.take : ∀ {es : List (Int × Value)} {zs : List Int} (n : Nat),ElH es zs → ElH (es.take n) (zs.take n)
  | [],[],n,_=>by simp [ElH]
  | e :: es,z :: zs,0,_=>trivial
  | e :: es,z :: zs,n + 1,⟨a,b⟩=>⟨a,ElH.take n b⟩
theorem ElH.drop : ∀ {es : List (Int × Value)} {zs : List Int} (n : Nat),ElH es zs → ElH (es.drop n) (zs.drop n)
  | [],[],n,_=>by simp [ElH]
  | e :: es,z :: zs,0,r=>r
  | e :: es,z :: zs,n + 1,⟨_,b⟩=>ElH.drop n b
theorem ElH.elems {prog : Program} {w : World} : ∀ {es : List (Int × Value)} {zs : List Int},ElH es zs → ElemsOf (intKind prog w) es
  | [],[],_=>fun _ h=>nomatch h
  | e :: es,z :: zs,⟨⟨t,h⟩,b⟩=>fun x hx=>by
    rcases List.mem_cons.mp hx with rfl | hx
    · rw [h]; exact ⟨⟨z,intKind_is _ _ _ _,rfl⟩,rfl⟩
    · exact ElH.elems b x hx
theorem ElH.find {prog : Program} {w : World} {k : Int} : ∀ {es : List (Int × Value)} {zs : List Int},ElH es zs → ((es.findIdx? fun e=>(intKind prog w).is k e.2) = none ↔ k ∉ zs)
  | [],[],_=>by simp
  | e :: es,z :: zs,⟨⟨t,h⟩,b⟩=>by
    have ih:=ElH.find (prog:=prog) (w:=w) (k:=k) b
    have hz : (intKind prog w).is k e.2 = decide (k = z):=by rw [h]; exact KeyKind.is_eq_decide (intKind_is _ _ _ _) k
    rw [List.findIdx?_cons,hz]
    by_cases hk : k = z
    · subst hk; simp
    · simp only [decide_eq_false hk,Bool.false_eq_true,if_false,Option.map_eq_none_iff,List.mem_cons,not_or]
      exact ih.trans ⟨fun q=>⟨hk,q⟩,fun q=>q.2⟩
noncomputable def SetI (h : Heap) (a : Addr) (led : Bool) (zs : List Int) : Prop :=
  ∃ es ep t,h.get? a = some { cls:=.type "set",dict:=none,data:=.set es ep t,slots:=#[] } ∧ Tab t es.size led ∧ ElH es.toList zs
theorem SetI.keep {h h' : Heap} {a : Addr} {led : Bool} {zs : List Int} (x : SetI h a led zs) (k : ∀ o,h.get? a = some o → h'.get? a = some o) : SetI h' a led zs:=let ⟨es,ep,t,e,r⟩:=x; ⟨es,ep,t,k _ e,r⟩
section
variable {prog : Program} {w : World} {A : Around} {E : Value → Shared → Prop} {s : Shared}
theorem set_add {a : Addr} {led : Bool} {zs : List Int} (S : SetI s.heap a led zs) (hn : zs.length ≤ 3) (k : Int) (t : Tok) {Q : Bool → Shared → Prop}
    (h : ∀ h' zs',Heap.SameBut a s.heap h' → SetI h' a led zs' → (k ∈ zs → zs' = zs) → (k ∉ zs → zs'.Perm (k :: zs)) → ∀ b,Q b { s with heap:=h' }) :
    wpAny (model prog w) A (setAddHashed a (.int k t) (hashInt k)) Q E s:=by
  obtain ⟨es,ep,tb,ho,T,hel⟩:=S
  have hsz : es.size = zs.length:=by rw [← Array.length_toList]; exact hel.length
  have hf:=T.fits (by lia)
  have hel':=hel.elems (prog:=prog) (w:=w)
  unfold setAddHashed setAddHashedIn
  refine wpAny_holding (wpAny_bind (wpAny_setState_of ho rfl hf ?_))
  dsimp only
  rw [byScan_of rfl (by rw [hsz]; unfold scanBound; lia) hel']
  simp only [↓reduceIte]
  unfold setAddByScan
  refine wpAny_bind ?_
  refine wpAny_bind (wpAny_rule ?_)
  refine wpAny_bind (wpAny_setScan_of (knd:=intKind prog w) (intKind_is _ _ k t) ho rfl hf hel' ?_)
  cases hr : List.findIdx? (fun e=>(intKind prog w).is k e.2) es.toList with
  | some j =>
    dsimp only
    refine wpAny_pure (wpAny_pure ?_)
    have hm : k ∈ zs:=by
      rcases Decidable.em (k ∈ zs) with q | q
      · exact q
      · rw [(hel.find (prog:=prog) (w:=w)).mpr q] at hr; cases hr
    exact h s.heap zs (Heap.SameBut.refl a s.heap) ⟨es,ep,tb,ho,T,hel⟩ (fun _=>rfl) (fun q=>absurd hm q) _
  | none =>
    dsimp only
    have hm : k ∉ zs:=(hel.find (prog:=prog) (w:=w)).mp hr
    obtain ⟨j,hj,hsl⟩:=free_slot T (by lia) (hashInt k)
    obtain ⟨b1,b2,b3⟩:=below_spec T.rise j
    have hjn : j ∉ tb.place.toList:=fun q=>by
      obtain ⟨i,hi,e⟩:=List.mem_iff_getElem.mp q
      rw [Array.length_toList] at hi
      have e' : tb.place.getD i 0 = j:=by simpa [Array.getD_eq_getD_getElem?,hi] using e
      have h1 : SetTable.below tb.place j ≤ i:=Nat.not_lt.mp fun q=>by have:=b2 i q; lia
      have h2 : ¬ SetTable.below tb.place j < i:=fun q=>by
        have:=rise_at T.rise q hi
        have:=b3 _ (Nat.le_refl _) (Nat.lt_trans q hi)
        lia
      have h3 : SetTable.below tb.place j = i:=by lia
      unfold SetTable.slot at hsl
      dsimp only at hsl
      rw [h3,Array.getElem?_eq_getElem hi] at hsl
      have : tb.place[i] = j:=by simpa using e
      rw [this] at hsl
      simp at hsl
    generalize hp : SetTable.below tb.place j = p at b1 b2 b3
    let t1 : SetTable:={ tb with place:=SetTable.insertAt tb.place p j }
    have hput : tb.put j = (t1,p):=by
      unfold SetTable.put
      have hd : SetTable.has tb.dummies j = false:=by rw [T.dum]; rfl
      rw [hd,hp]; rfl
    have hins : (SetTable.insertAt es p (hashInt k,Value.int k t)).size = es.size + 1:=by
      rw [← Array.length_toList,SetTable.toList_insertAt]
      simp only [List.length_append,List.length_cons,List.length_take,List.length_drop,Array.length_toList]
      lia
    have T1 : Tab t1 (es.size + 1) led:={
      mask:=T.mask,plain:=T.plain,led:=T.led,dum:=T.dum
      size:=by
        show (SetTable.insertAt tb.place p j).size = _
        rw [← Array.length_toList,SetTable.toList_insertAt]
        simp only [List.length_append,List.length_cons,List.length_take,List.length_drop,Array.length_toList,T.size]
        have:=T.size
        lia
      rise:=by
        show (SetTable.insertAt tb.place p j).toList.Pairwise _
        rw [SetTable.toList_insertAt,List.pairwise_append,List.pairwise_cons]
        have hlt : ∀ x ∈ tb.place.toList.take p,x < j:=fun x hx=>by
          obtain ⟨i,hi,e⟩:=List.mem_iff_getElem.mp hx
          rw [List.length_take,Array.length_toList] at hi
          have:=b2 i (by lia)
          rw [List.getElem_take] at e
          rw [← e]
          simpa [Array.getD_eq_getD_getElem?,show i < tb.place.size by lia] using this
        have hgt : ∀ x ∈ tb.place.toList.drop p,j < x:=fun x hx=>by
          obtain ⟨i,hi,e⟩:=List.mem_iff_getElem.mp hx
          rw [List.length_drop,Array.length_toList] at hi
          have hq:=b3 (p + i) (by lia) (by lia)
          rw [List.getElem_drop] at e
          have hx2 : j ≤ x:=by
            rw [← e]
            simpa [Array.getD_eq_getD_getElem?,show p + i < tb.place.size by lia] using hq
          rcases Nat.lt_or_eq_of_le hx2 with q | q
          · exact q
          · exact absurd (List.mem_of_mem_drop hx) (by rw [← q]; exact hjn)
        exact ⟨T.rise.sublist (List.take_sublist _ _),⟨hgt,T.rise.sublist (List.drop_sublist _ _)⟩,fun x hx y hy=>by
          rcases List.mem_cons.mp hy with rfl | hy
          · exact hlt x hx
          · exact Nat.lt_trans (hlt x hx) (hgt y hy)⟩ }
    have hlay : layNew tb es (hashInt k) (.int k t) = (SetTable.insertAt es p (hashInt k,.int k t),t1,false,false):=by
      unfold layNew
      rw [hj]
      dsimp only
      rw [hput]
      dsimp only
      have hf1 : t1.fits (SetTable.insertAt es p (hashInt k,Value.int k t)).size = true:=by rw [hins]; exact T1.fits (by lia)
      unfold SetTable.orStandIn
      rw [hf1]; rfl
    rw [hlay]
    dsimp only
    refine wpAny_bind (wpAny_pure ?_)
    rw [T.plain]
    simp only [↓reduceIte]
    rw [hashByValue_scannable 8 rfl]
    refine wpAny_bind (wpAny_pure ?_)
    simp only [plainKind,↓reduceIte]
    refine wpAny_bind (wpAny_storeSet_of ho rfl ?_ (by rw [hins,sizeLine_eq]; lia))
    have htf : t1.tooFull = false:=by
      unfold SetTable.tooFull SetTable.fill
      rw [T1.size,T1.dum,T1.mask]
      simp only [Array.size_empty,decide_eq_false_iff_not]
      show ¬ (_ ≥ _)
      simp; lia
    rw [htf]
    simp only [Bool.not_false,Bool.and_false,Bool.false_eq_true,if_false]
    refine wpAny_pure (wpAny_pure ?_)
    have hg:=Heap.get?_update_self (Obj.putSet (SetTable.insertAt es p (hashInt k,Value.int k t)) t1) ho rfl
    have hE : ElH (SetTable.insertAt es p (hashInt k,Value.int k t)).toList (zs.take p ++ k :: zs.drop p):=by
      rw [SetTable.toList_insertAt]
      exact (hel.take p).append ⟨⟨t,rfl⟩,hel.drop p⟩
    refine h _ (zs.take p ++ k :: zs.drop p) (Heap.SameBut.update s.heap a _) ⟨_,_,_,hg,by rw [hins]; exact T1,hE⟩ (fun q=>absurd q hm) (fun _=>?_) _
    exact List.perm_middle.trans (.of_eq (by rw [List.take_append_drop]))
end
end Mine
namespace Mine
noncomputable def uniq : List Int → List Int
  | []=>[]
  | x :: xs=>if x ∈ xs then uniq xs else x :: uniq xs
noncomputable def Cov (zs ns : List Int) : Prop:=zs.Nodup ∧ ∀ z,z ∈ zs ↔ z ∈ ns
theorem cov_len : ∀ {zs ns : List Int},zs.Nodup → (∀ z ∈ zs,z ∈ ns) → zs.length ≤ ns.length
  | [],_,_,_=>Nat.zero_le _
  | z :: zs,ns,h,k=>by
    have hz:=k z (.head _)
    have h2:=List.nodup_cons.mp h
    have:=cov_len (ns:=ns.erase z) h2.2 fun y hy=>(List.mem_erase_of_ne (fun e=>h2.1 (by rw [← e]; exact hy))).mpr (k y (.tail _ hy))
    rw [List.length_erase_of_mem hz] at this
    have:=List.length_pos_of_mem hz
    simp only [List.length_cons]; lia
section
variable {prog : Program} {w : World} {A : Around} {E : Value → Shared → Prop} {s : Shared}
theorem Cov.step {zs zs' ns : List Int} {k : Int} (c : Cov zs ns) (h1 : k ∈ zs → zs' = zs) (h2 : k ∉ zs → zs'.Perm (k :: zs)) : Cov zs' (ns ++ [k]):=by
  by_cases hk : k ∈ zs
  · rw [h1 hk]
    refine ⟨c.1,fun z=>?_⟩
    rw [List.mem_append,List.mem_singleton,← c.2 z]
    exact ⟨.inl,fun q=>q.elim id fun e=>by rw [e]; exact hk⟩
  · have p:=h2 hk
    refine ⟨p.nodup_iff.mpr (List.nodup_cons.mpr ⟨hk,c.1⟩),fun z=>?_⟩
    rw [p.mem_iff,List.mem_cons,List.mem_append,List.mem_singleton,← c.2 z]
    exact or_comm
theorem upd_loop {l it a : Addr} {led : Bool} {xs : List Value} {ns : List Int} {R : Result → Shared → Prop} (hh : A.handled = none) (hi : IntsAre xs ns) (h4 : ns.length ≤ 4) (hal : a ≠ l) (hai : a ≠ it) (hli : l ≠ it) :
    ∀ (j k : Nat) (s : Shared) (zs : List Int),ns.length - k = j → k ≤ ns.length → s.heap.IsListIter it l k → s.heap.IsList l xs.toArray → SetI s.heap a led zs → Cov zs (ns.take k) →
      (∀ h' tk zs',(∀ b o,b ≠ a → b ≠ it → s.heap.get? b = some o → h'.get? b = some o) → SetI h' a led zs' → Cov zs' ns → R (.ok (.ret .none)) { s with heap:=h',toks:=tk }) →
      codeAny (model prog w) A (.builtin "set.update.loop" ⟨[.ref a,.ref it],[]⟩) R s:=by
  intro j
  induction j with
  | zero =>
    intro k s zs hk hk2 I L S c hR
    have hke : k = ns.length:=by lia
    refine codeAny_builtin F.entry_set_update_loop ?_
    rw [Around.under_plainId F.plain_set_update_loop _]
    show wpAny _ A.in1 (pyNext (.ref it) >>= _) _ _ s
    refine wpAny_bind (wpAny_pyNext_list_end (A:=A.in1) hh I L (by simp [hke,hi.length]) fun h' hx=>wpAny_pure (hR h' s.toks zs (fun b o h1 h2 e=>hx b o h2 e) (S.keep fun o e=>hx _ o hai e) ?_))
    rw [hke,List.take_length] at c
    exact c
  | succ j ih =>
    intro k s zs hk hk2 I L S c hR
    have hlt : k < ns.length:=by lia
    obtain ⟨t,ht⟩:=intsAre_at hi hlt
    have hx : xs.toArray[k]? = some (.int (ns.getD k 0) t):=by
      have : k < xs.length:=by rw [hi.length]; exact hlt
      rw [← ht]; simp [List.getD_eq_getElem?_getD,this]
    refine codeAny_builtin F.entry_set_update_loop ?_
    rw [Around.under_plainId F.plain_set_update_loop _]
    show wpAny _ A.in1 (pyNext (.ref it) >>= _) _ _ s
    refine wpAny_bind (wpAny_pyNext_list_item I L hx fun h1 I1 s1=>?_)
    show wpAny _ A.in1 (holding [Value.int (ns.getD k 0) t] (setAdd a (.int (ns.getD k 0) t)) >>= _) _ _ _
    refine wpAny_bind (wpAny_holding ?_)
    unfold setAdd
    refine wpAny_holding ?_
    refine wpAny_bind ((intKind prog w).pyHash (k:=ns.getD k 0) (intKind_is _ _ _ _) ?_)
    have hlen : zs.length ≤ k:=by
      have:=cov_len c.1 fun z hz=>(c.2 z).mp hz
      rw [List.length_take] at this; lia
    refine set_add (s:={ s with heap:=h1,toks:=s.toks + 1 }) (S.keep fun o e=>s1.extBut _ o hai e) (by lia) (ns.getD k 0) t fun h2 zs' s2 S2 q1 q2 b=>?_
    have kk : ∀ b o,b ≠ a → b ≠ it → s.heap.get? b = some o → h2.get? b = some o:=fun b o h1 h2 e=>s2.extBut b o h1 (s1.extBut b o h2 e)
    refine wpAny_pure ⟨plainId_quiet F.plain_set_update_loop _,ih (k + 1) _ zs' (by lia) hlt (I1.extBut s2.extBut (Ne.symm hai)) ((L.extBut s1.extBut hli).extBut s2.extBut (Ne.symm hal)) S2 ?_ fun h' tk zs'' k3 S3 c3=>?_⟩
    · rw [List.take_add_one,show ns[k]? = some (ns.getD k 0) by simp [List.getD_eq_getElem?_getD,hlt]]
      exact c.step q1 q2
    · exact hR h' tk zs'' (fun b o h1 h2 e=>k3 b o h1 h2 (kk b o h1 h2 e)) S3 c3
theorem code_set_new {a : Value} {Q₁ : Value → Shared → Prop}
    (h : Q₁ (.ref s.heap.objs.size) { s with heap:=s.heap.push { cls:=.type "set",dict:=none,data:=.set #[] 0 (.fresh 0 0 (!w.params.followText "set-order")) } }) :
    codeAny (model prog w) A (.call (.builtin "set.__new__") ⟨[.type "set",a],[]⟩) (wants Q₁ E) s:=by
  refine codeAny_of_tree ?_
  show wpAny _ A.in1 (do checkBuiltinCall "set.__new__" ⟨[.type "set",a],[]⟩; again (.builtin "set.__new__" ⟨[.type "set",a],[]⟩)) _ _ s
  refine wpAny_bind (wpAny_of_eq (F.newCall_set_1 a) (wpAny_pure ⟨plainId_quiet F.plain_set_new _,codeAny_builtin F.entry_set_new ?_⟩))
  rw [Around.under_plainId F.plain_set_new _]
  unfold Builtin.«set.__new__» Builtin.Frozenset.newClass
  have hsub:=sub_set_self
  obtain ⟨hp,g,d,tk,os⟩:=s
  dsimp only
  wp_walk
  refine wpAny_askSetting (wpAny_pure ?_)
  dsimp only
  simp only [newObj]
  refine wpAny_bind (wpAny_alloc (wpAny_pure ?_))
  exact wpAny_pure h
theorem fresh_tab (led : Bool) : Tab (.fresh 0 0 led) 0 led:=⟨rfl,rfl,rfl,rfl,rfl,.nil⟩
theorem call_set {l : Addr} {xs : List Value} {ns : List Int} {c : Nat} {Q : Value → Shared → Prop}
    (hh : A.handled = none) (hl : s.heap.get? l = some (seqObj "list" xs.toArray c)) (hi : IntsAre xs ns) (h4 : ns.length ≤ 4)
    (h : ∀ h' tk zs,SetI h' s.heap.objs.size (!w.params.followText "set-order") zs → Cov zs ns → (∀ b o,s.heap.get? b = some o → h'.get? b = some o) → Q (.ref s.heap.objs.size) { s with heap:=h',toks:=tk }) :
    wpAny (model prog w) A (call (.type "set") [.ref l]) Q E s:=by
  obtain ⟨c0,tl,hmro⟩:=F.called_set.mro
  have hmade:=F.called_set.made
  have hsub:=F.called_set.sub
  refine wpAny_call (codeAny_of_tree ?_)
  show wpAny _ _ (callAny (.type "set") _) _ _ _
  refine wpAny_pure ⟨Code.quiet_builtin _ (by decide +kernel),codeAny_builtin F.entry_type_call ?_⟩
  rw [Around.under_plain (weight_type_call_type "set" [.ref l] []) rfl]
  have h1:=F.called_set.notType
  have h2:=F.called_set.canCreate
  have hct:=F.typeCall_set_1 (.ref l)
  repeat (any_goals (first | assumption | wp_step))
  refine codeAny_mono (code_set_new (a:=.ref l) (E:=E) (Q₁:=fun obj s₁=>obj = .ref s.heap.objs.size ∧ s₁ = { s with heap:=s.heap.push { cls:=.type "set",dict:=none,data:=.set #[] 0 (.fresh 0 0 (!w.params.followText "set-order")) } }) ⟨rfl,rfl⟩) fun r s₁ hr=>?_
  cases r with
  | error e=>exact hr
  | ok fl =>
    cases fl with
    | ret obj =>
      obtain ⟨rfl,rfl⟩:=hr
      generalize (!w.params.followText "set-order") = led at *
      have hS : (s.heap.push { cls:=.type "set",dict:=none,data:=.set #[] 0 (.fresh 0 0 led) }).get? s.heap.objs.size = some { cls:=.type "set",dict:=none,data:=.set #[] 0 (.fresh 0 0 led) }:=Heap.get?_push_size _ rfl
      have hT : Shared.TypeIs { s with heap:=s.heap.push { cls:=.type "set",dict:=none,data:=.set #[] 0 (.fresh 0 0 led) } } (.ref s.heap.objs.size) "set":=⟨_,hS,rfl⟩
      have hli:=F.called_set.init.lookup
      have hbi:=F.called_set.init.bind (.ref s.heap.objs.size)
      repeat (any_goals (first | assumption | wp_step))
      refine codeAny_mono (codeAny_call_builtin (R:=wants (fun r s₂=>r = .none ∧ ∃ h' tk zs,s₂ = { s with heap:=h',toks:=tk } ∧ SetI h' s.heap.objs.size led zs ∧ Cov zs ns ∧
          (∀ b o,s.heap.get? b = some o → h'.get? b = some o)) E) F.called_set.init.plain F.entry_set_init (check_set_init_1 hT ?_)) fun r₂ s₂ hr₂=>?_
      · have hol' : (s.heap.push { cls:=.type "set",dict:=none,data:=.set #[] 0 (.fresh 0 0 led) }).get? l = some (seqObj "list" xs.toArray c):=Heap.get?_push_of_some _ hl
        have hsls:=F.sub_list_set
        have hslf:=F.sub_list_frozenset
        have hne : (Value.type "list" == Value.type "dict") = false:=by decide
        have hl1 : (s.heap.push { cls:=.type "set",dict:=none,data:=.set #[] 0 (.fresh 0 0 led) }).IsList l xs.toArray:=⟨_,hol',rfl,c,rfl⟩
        unfold Builtin.«set.__init__» noKeywords Builtin.Frozenset.updateFrom
        generalize hPI : pyIter = PI
        wp_walk
        subst hPI
        refine wpAny_pyIter_list hl1 ?_
        refine wpAny_bind (wpAny_runValue ?_)
        have hlS : l < s.heap.objs.size:=Heap.lt_size hl
        have hz : (s.heap.push { cls:=.type "set",dict:=none,data:=.set #[] 0 (.fresh 0 0 led) }).objs.size = s.heap.objs.size + 1:=Heap.size_push ..
        have hh3 : A.in1.in1.handled = none:=by simp [hh]
        have hai : s.heap.objs.size ≠ (s.heap.push { cls:=.type "set",dict:=none,data:=.set #[] 0 (.fresh 0 0 led) }).objs.size:=by rw [hz]; exact Nat.ne_of_lt (Nat.lt_succ_self _)
        have hli : l ≠ (s.heap.push { cls:=.type "set",dict:=none,data:=.set #[] 0 (.fresh 0 0 led) }).objs.size:=by rw [hz]; exact Nat.ne_of_lt (Nat.lt_succ_of_lt hlS)
        refine upd_loop (led:=led) hh3 hi h4 (Nat.ne_of_gt hlS) hai hli ns.length 0 _ [] rfl (Nat.zero_le _) ?I ?L ?S ⟨.nil,fun z=>by simp⟩ fun h' tk zs k S' c'=>?_
        case I=>exact ⟨_,Heap.get?_push_size _ rfl,rfl,rfl⟩
        case L=>exact hl1.push _
        case S=>exact ⟨#[],0,_,Heap.get?_push_of_some _ hS,fresh_tab led,trivial⟩
        show wpAny _ _ _ _ _ _
        refine wpAny_pure ?_
        show wpAny _ _ (ret Value.none) _ _ _
        refine wpAny_pure ⟨rfl,h',tk,zs,rfl,S',c',fun b o e=>k b o (Nat.ne_of_lt (Heap.lt_size e)) (by rw [hz]; exact Nat.ne_of_lt (Nat.lt_succ_of_lt (Heap.lt_size e))) (Heap.get?_push_of_some _ (Heap.get?_push_of_some _ e))⟩
      · cases r₂ with
        | error e=>exact hr₂
        | ok fl₂ =>
          cases fl₂ with
          | ret r =>
            obtain ⟨rfl,h',tk,zs,rfl,S',c',hk'⟩:=hr₂
            repeat (any_goals (first | assumption | wp_step))
            exact h _ _ zs S' c' hk'
          | _=>exact hr₂.elim
    | _=>exact hr.elim
end
end Mine
namespace Mine
theorem slot_si_next : Slot "set_iterator" "__next__" "set_iterator.__next__" :=
  .of (owner:="set_iterator") (n:="__next__") (by rw [typeLookup_type,builtinLookup_eq_fast]; kernel_rfl) (by decide +kernel) (by decide +kernel) (by decide +kernel)
    (by first | exact .inl (by decide +kernel) | exact .inr (by decide +kernel)) (by rw [isSubtype_type]; kernel_rfl)
theorem entry_si_next : entryFor table "set_iterator.__next__" = some Builtin.«set_iterator.__next__»:=entryFor_of_tree (by kernel_rfl)
theorem args_si_next (a : Value) : argsOk "set_iterator.__next__" ⟨[a],[]⟩:=by unfold argsOk; kernel_rfl
theorem entry_set_iter : entryFor table "set.__iter__" = some Builtin.«frozenset.__iter__»:=entryFor_alias (id':="frozenset.__iter__") (by kernel_rfl) rfl (by decide +kernel) (by kernel_rfl)
theorem pick_go {α : Type} (f : Nat → Nat) : ∀ (fuel k : Nat) (left : List α) (out : Array α),left.length = fuel → (pickOrder.go f fuel k left out).toList.Perm (out.toList ++ left)
  | 0,k,left,out,h=>by rw [List.length_eq_zero_iff.mp h]; unfold pickOrder.go; simp
  | fuel + 1,k,left,out,h=>by
    unfold pickOrder.go
    have hlt : f k % left.length < left.length:=Nat.mod_lt _ (by lia)
    rw [List.getElem?_eq_getElem hlt]
    dsimp only
    refine (pick_go f fuel (k + 1) _ _ (by rw [List.length_eraseIdx_of_lt hlt]; lia)).trans ?_
    rw [Array.toList_push,List.append_assoc]
    refine List.Perm.append_left _ ?_
    rw [List.eraseIdx_eq_take_drop_succ]
    refine (List.perm_middle (a:=left[f k % left.length]) (l₁:=left.take (f k % left.length)) (l₂:=left.drop (f k % left.length + 1))).symm.trans (.of_eq ?_)
    rw [← List.drop_eq_getElem_cons hlt,List.take_append_drop]
theorem pick_perm {α : Type} (f : Nat → Nat) (xs : Array α) : (pickOrder f xs).toList.Perm xs.toList:=by
  have:=pick_go f xs.size 0 xs.toList #[] (by simp)
  exact this
noncomputable def ordOf (w : World) (a : Addr) (ep : Nat) (es : Array (Int × Value)) : Array (Int × Value):=if w.params.followText "set-order" = true then pickOrder (w.params.setOrder a ep) es else es
theorem ord_perm (w : World) (a : Addr) (ep : Nat) (es : Array (Int × Value)) : (ordOf w a ep es).toList.Perm es.toList:=by
  unfold ordOf; split
  · exact pick_perm _ _
  · exact .refl _
noncomputable def slotOf (w : World) (t : SetTable) (k : Nat) : Nat:=if w.params.followText "set-order" = true then 0 else if k = 0 then 0 else t.place.getD (k - 1) 0 + 1
noncomputable abbrev SiAt (h : Heap) (it a : Addr) (n ep slot k : Nat) : Prop:=h.get? it = some { cls:=.type "set_iterator",dict:=none,data:=.fields #[rawInt slot,rawInt k,.ref a,rawInt n,rawInt ep],slots:=#[] }
noncomputable abbrev SetAt (h : Heap) (a : Addr) (es : Array (Int × Value)) (ep : Nat) (t : SetTable) : Prop:=h.get? a = some { cls:=.type "set",dict:=none,data:=.set es ep t,slots:=#[] }
section
variable {prog : Program} {w : World} {A : Around} {E : Value → Shared → Prop} {s : Shared} {a it : Addr} {es : Array (Int × Value)} {ep : Nat} {t : SetTable}
theorem byText_ {Q : Bool → Shared → Prop} (h : Q (w.params.followText "set-order") s) : wpAny (model prog w) A setsByText Q E s:=by
  unfold setsByText
  exact wpAny_bind (wpAny_askSetting (wpAny_pure h))
theorem not_drawn {n : Nat} {led : Bool} (T : Tab t n led) : (!t.plain && decide (es.size > 1)) = false:=by rw [T.plain]; rfl
theorem set_next {k : Nat} {Q : Option (Value × Nat) → Shared → Prop} (ho : SetAt s.heap a es ep t) (T : Tab t es.size (!w.params.followText "set-order")) (h4 : es.size ≤ 7) (hk : k ≤ es.size) (h : Q ((ordOf w a ep es)[k]?.map fun e=>(e.2,slotOf w t (k + 1))) s) :
    wpAny (model prog w) A (setNext a (slotOf w t k) k ep) Q E s:=by
  have hf:=T.fits h4
  unfold setNext
  refine wpAny_bind (wpAny_setState_of ho rfl hf ?_)
  dsimp only
  refine wpAny_bind (byText_ ?_)
  unfold ordOf slotOf at h
  cases hb : w.params.followText "set-order" with
  | true =>
    rw [hb] at h
    simp only [if_true] at h ⊢
    simp only [bne_self_eq_false,Bool.false_eq_true,if_false]
    unfold setWalk
    refine wpAny_bind (wpAny_bind (wpAny_setState_of ho rfl hf ?_))
    dsimp only
    refine wpAny_bind (byText_ ?_)
    rw [hb]
    simp only [if_true]
    refine wpAny_bind (wpAny_askSetting (wpAny_pure ?_))
    unfold slotOf
    rw [hb]
    simp only [if_true]
    exact wpAny_pure h
  | false =>
    rw [hb] at h
    simp only [Bool.false_eq_true,if_false] at h ⊢
    refine wpAny_ite_split (fun q=>absurd (show (!t.plain && decide (es.size > 1)) = true from q) (by rw [not_drawn T]; decide)) (fun _=>?_)
    have hled : t.led = true:=by rw [T.led,hb]; rfl
    refine wpAny_bind (wpAny_of_eq (show _ = pure () from ?_) (wpAny_pure ?_))
    · change (if (!t.led && !es.isEmpty) = true then (unsupported "set:maker-not-led" : Sem Unit) else pure ()) = pure ()
      rw [hled]; rfl
    obtain ⟨b1,b2,b3⟩:=below_spec T.rise (slotOf w t k)
    have hp : SetTable.below t.place (slotOf w t k) = k:=by
      have hs : slotOf w t k = if k = 0 then 0 else t.place.getD (k - 1) 0 + 1:=by unfold slotOf; rw [hb]; rfl
      generalize SetTable.below t.place (slotOf w t k) = p at b1 b2 b3
      rw [hs] at b2 b3
      rw [T.size] at b1
      by_cases hk0 : k = 0
      · subst hk0
        rw [if_pos rfl] at b2
        rcases Nat.eq_zero_or_pos p with q | q
        · exact q
        · exact absurd (b2 0 q) (Nat.not_lt_zero _)
      · rw [if_neg hk0] at b2 b3
        rcases Nat.lt_trichotomy p k with q | q | q
        · have q1:=b3 (k - 1) (by lia) (by rw [T.size]; lia)
          lia
        · exact q
        · have q1:=b2 k q
          have q2:=rise_at T.rise (show k - 1 < k by lia) (by rw [T.size]; lia)
          lia
    rw [hp]
    rw [if_neg (Nat.succ_ne_zero k),Nat.add_sub_cancel] at h
    rcases Nat.lt_or_ge k es.size with hlt | hge
    · have hlt2 : k < t.place.size:=by rw [T.size]; exact hlt
      rw [Array.getElem?_eq_getElem hlt,Array.getElem?_eq_getElem hlt2]
      rw [Array.getElem?_eq_getElem hlt] at h
      simpa [Array.getD_eq_getD_getElem?,hlt2] using h
    · rw [Array.getElem?_eq_none hge] at h ⊢
      exact h
theorem set_draw {k : Nat} {Q : Option Value → Shared → Prop} {x : Int × Value} (ho : SetAt s.heap a es ep t) (T : Tab t es.size (!w.params.followText "set-order")) (h4 : es.size ≤ 7) (hi : SiAt s.heap it a es.size ep (slotOf w t k) k) (hx : (ordOf w a ep es)[k]? = some x)
    (h : ∀ h',SiAt h' it a es.size ep (slotOf w t (k + 1)) (k + 1) → Heap.SameBut it s.heap h' → Q (some x.2) { s with heap:=h' }) : wpAny (model prog w) A (pyNext (.ref it)) Q E s:=by
  have hf:=T.fits h4
  have hk : k ≤ es.size:=by
    have h1:=(Array.getElem?_eq_some_iff.mp hx).1
    have h2:=(ord_perm w a ep es).length_eq
    simp only [Array.length_toList] at h2
    lia
  have hT : s.TypeIs (.ref it) "set_iterator":=⟨_,hi,rfl⟩
  unfold pyNext
  refine wpAny_bind (wpAny_attempt (wpAny_callSpecial?_slot (name:=Str.ofString "__next__") hT slot_si_next (wpAny_call_entry slot_si_next hT entry_si_next ?_ (args_si_next _))))
  show wpAny _ _ (fieldsOf (.ref it) >>= _) _ _ _
  unfold fieldsOf
  refine wpAny_bind (wpAny_bind (wpAny_load hi (wpAny_pure ?_)))
  show wpAny _ _ (setEntries a >>= _) _ _ _
  refine wpAny_bind (wpAny_setEntries_of ho rfl hf ?_)
  dsimp only [rawInt]
  rw [if_neg (by simp)]
  show wpAny _ _ (setNext a (slotOf w t k) k ep >>= _) _ _ _
  refine wpAny_bind (set_next ho T h4 hk ?_)
  rw [hx]
  show wpAny _ _ (setField (.ref it) 0 (rawInt (slotOf w t (k + 1))) >>= _) _ _ _
  refine wpAny_bind (wpAny_setField_rec hi (by simp) fun h1 e1 s1=>?_)
  replace e1 : SiAt h1 it a es.size ep (slotOf w t (k + 1)) k:=e1
  show wpAny _ _ (setField (.ref it) 1 (rawInt ((k : Int) + 1)) >>= _) _ _ _
  refine wpAny_bind (wpAny_setField_rec e1 (by simp) fun h2 e2 s2=>?_)
  replace e2 : SiAt h2 it a es.size ep (slotOf w t (k + 1)) (k + 1):=e2
  exact wpAny_pure ⟨_,rfl,wpAny_pure (h h2 e2 (s1.trans s2))⟩
theorem set_over {k : Nat} {Q : Option Value → Shared → Prop} (hh : A.handled = none) (ho : SetAt s.heap a es ep t) (T : Tab t es.size (!w.params.followText "set-order")) (h4 : es.size ≤ 7) (hi : SiAt s.heap it a es.size ep (slotOf w t k) k) (hx : (ordOf w a ep es)[k]? = none) (hk : k ≤ es.size)
    (h : ∀ h',Heap.ExtBut it s.heap h' → Q none { s with heap:=h' }) : wpAny (model prog w) A (pyNext (.ref it)) Q E s:=by
  have hf:=T.fits h4
  have hT : s.TypeIs (.ref it) "set_iterator":=⟨_,hi,rfl⟩
  unfold pyNext
  refine wpAny_bind (wpAny_attempt (wpAny_callSpecial?_slot (name:=Str.ofString "__next__") hT slot_si_next (wpAny_call_entry slot_si_next hT entry_si_next ?_ (args_si_next _))))
  show wpAny _ _ (fieldsOf (.ref it) >>= _) _ _ _
  unfold fieldsOf
  refine wpAny_bind (wpAny_bind (wpAny_load hi (wpAny_pure ?_)))
  show wpAny _ _ (setEntries a >>= _) _ _ _
  refine wpAny_bind (wpAny_setEntries_of ho rfl hf ?_)
  dsimp only [rawInt]
  rw [if_neg (by simp)]
  show wpAny _ _ (setNext a (slotOf w t k) k ep >>= _) _ _ _
  refine wpAny_bind (set_next ho T h4 hk ?_)
  rw [hx]
  show wpAny _ _ (setField (.ref it) 2 .none >>= _) _ _ _
  refine wpAny_bind (wpAny_setField_rec hi (by simp) fun h1 e1 s1=>?_)
  show wpAny _ _ (newExc (.type "StopIteration") [] >>= _) _ _ _
  refine wpAny_bind ?_
  simp only [newExc,newTuple]
  refine wpAny_bind (wpAny_newObj_type ?_ (by size_fits))
  refine wpAny_bind (m:=firstArgMember _ _) (wpAny_of_eq (a:=Value.none) (by first | rfl | (simp only [firstArgMember]; rfl)) ?_)
  refine wpAny_newObj_type ?_ (by size_fits)
  simp only [raiseNew]
  refine wpAny_bind (wpAny_handled ?_)
  rw [show A.in1.handled = none from hh]
  refine wpAny_bind (wpAny_pure (wpAny_throw ?_))
  refine wpAny_bind (wpAny_isInstance (T:="StopIteration") (b:=true) ⟨_,Heap.get?_push_size _ rfl,rfl⟩ isSubtype_stop ?_)
  exact wpAny_pure (h _ ((s1.extBut.push _).push _))
theorem set_iter {Q : Value → Shared → Prop} (ho : SetAt s.heap a es ep t) (T : Tab t es.size (!w.params.followText "set-order")) (h4 : es.size ≤ 7)
    (h : ∀ h',SiAt h' s.heap.objs.size a es.size ep (slotOf w t 0) 0 → (∀ b o,s.heap.get? b = some o → h'.get? b = some o) → Q (.ref s.heap.objs.size) { s with heap:=h' }) : wpAny (model prog w) A (pyIter (.ref a)) Q E s:=by
  have hf:=T.fits h4
  have hT : s.TypeIs (.ref a) "set":=⟨_,ho,rfl⟩
  refine wpAny_pyIter_slot hT PySem.F.slot_set_iter (wpAny_call_entry PySem.F.slot_set_iter hT entry_set_iter ?_ (PySem.F.args_set_iter_1 _))
  have h0 : slotOf w t 0 = 0:=by unfold slotOf; split <;> rfl
  show wpAny _ _ (Builtin.Frozenset.sizeOf a >>= _) _ _ _
  unfold Builtin.Frozenset.sizeOf
  refine wpAny_bind (wpAny_bind (wpAny_setEntries_of ho rfl hf (wpAny_pure ?_)))
  show wpAny _ _ (setDrawn a >>= _) _ _ _
  unfold setDrawn
  refine wpAny_bind (wpAny_bind (wpAny_setState_of ho rfl hf ?_))
  refine wpAny_bind (byText_ (wpAny_pure ?_))
  rw [if_neg (fun q=>by
    have q2:=(Bool.and_eq_true_iff.mp q).2
    exact absurd (show (!t.plain && decide (es.size > 1)) = true from q2) (by rw [not_drawn T]; decide))]
  refine wpAny_bind (wpAny_pure ?_)
  refine wpAny_bind (wpAny_setEpoch_of ho rfl hf ?_)
  show wpAny _ _ (newObj (.type "set_iterator") (.fields #[rawInt 0,rawInt 0,.ref a,rawInt es.size,rawInt ep]) >>= _) _ _ _
  refine wpAny_bind (wpAny_newObj_type ?_ (by size_fits))
  have e : SiAt (s.heap.push { cls:=.type "set_iterator",dict:=none,data:=.fields #[rawInt 0,rawInt 0,.ref a,rawInt es.size,rawInt ep],slots:=#[] }) s.heap.objs.size a es.size ep (slotOf w t 0) 0:=by rw [h0]; exact Heap.get?_push_size _ rfl
  exact wpAny_pure ⟨_,rfl,"set_iterator",_,⟨_,e,rfl⟩,slot_si_next.lookup,h _ e fun b o eo=>Heap.get?_push_of_some _ eo⟩
end
end Mine
namespace Mine
theorem ElH.ints : ∀ {es : List (Int × Value)} {zs : List Int},ElH es zs → IntsAre (es.map (·.2)) zs
  | [],[],_=>.nil
  | e :: es,z :: zs,⟨⟨t,h⟩,b⟩=>by rw [h]; exact .cons z t (ElH.ints b)
theorem intsAre_perm {vs vs' : List Value} (p : vs'.Perm vs) : ∀ {zs : List Int},IntsAre vs zs → ∃ zs',IntsAre vs' zs' ∧ zs'.Perm zs:=by
  induction p with
  | nil=>intro zs h; exact ⟨zs,h,.refl _⟩
  | cons x _ ih=>intro zs h; cases h with | cons n t r=>obtain ⟨ys,a,b⟩:=ih r; exact ⟨n :: ys,.cons n t a,b.cons n⟩
  | swap x y l=>intro zs h; cases h with | cons n t r=>cases r with | cons m u r=>exact ⟨m :: n :: _,.cons m u (.cons n t r),.swap n m _⟩
  | trans _ _ ih1 ih2=>intro zs h; obtain ⟨ys,a,b⟩:=ih2 h; obtain ⟨xs,c,d⟩:=ih1 a; exact ⟨xs,c,d.trans b⟩
theorem set_nohint : typeLookup (.type "set") "__len__" = pure (some (.builtin "set.__len__")):=by rw [typeLookup_type,builtinLookup_eq_fast]; kernel_rfl
section
variable {prog : Program} {w : World} {A : Around} {E : Value → Shared → Prop} {s : Shared} {a : Addr} {es : Array (Int × Value)} {ep : Nat} {t : SetTable}
theorem seti_loop {S it : Addr} {res : Value} {R : Result → Shared → Prop} (hh : A.handled = none) (T : Tab t es.size (!w.params.followText "set-order")) (h4 : es.size ≤ 7) (hSa : S ≠ a) (hSi : S ≠ it) (hai : a ≠ it) :
    ∀ (j k : Nat) (s : Shared) (c : Nat),es.size - k = j → k ≤ es.size → SetAt s.heap a es ep t → SiAt s.heap it a es.size ep (slotOf w t k) k → s.heap.get? S = some (seqObj "list" (((ordOf w a ep es).toList.take k).map (·.2)).toArray c) →
      (∀ h' c',(∀ b o,b ∉ [S,it] → s.heap.get? b = some o → h'.get? b = some o) → h'.get? S = some (seqObj "list" ((ordOf w a ep es).toList.map (·.2)).toArray c') → R (.ok (.ret res)) { s with heap:=h' }) →
      codeAny (model prog w) A (.builtin "list.extend.loop" ⟨[.ref S,.ref it,res],[]⟩) R s:=by
  have hos : (ordOf w a ep es).size = es.size:=by
    have h2:=(ord_perm w a ep es).length_eq
    simpa using h2
  intro j
  induction j with
  | zero =>
    intro k s c hk hk2 ho hi hSo hR
    have hke : k = es.size:=by lia
    refine codeAny_builtin F.entry_extend_loop ?_
    rw [Around.under_plainId F.plain_extend_loop _]
    show wpAny _ A.in1 (pyNext (.ref it) >>= _) _ _ s
    refine wpAny_bind (set_over (A:=A.in1) hh ho T h4 hi (Array.getElem?_eq_none (by lia)) hk2 fun h' x=>wpAny_pure (hR h' c (fun b o hb e=>x b o (fun q=>hb (by simp [q])) e) ?_))
    rw [List.take_of_length_le (by simp; lia)] at hSo
    exact x _ _ hSi hSo
  | succ j ih =>
    intro k s c hk hk2 ho hi hSo hR
    have hlt : k < (ordOf w a ep es).size:=by lia
    refine codeAny_builtin F.entry_extend_loop ?_
    rw [Around.under_plainId F.plain_extend_loop _]
    show wpAny _ A.in1 (pyNext (.ref it) >>= _) _ _ s
    refine wpAny_bind (set_draw (A:=A.in1) ho T h4 hi (Array.getElem?_eq_getElem hlt) fun h1 hi1 s1=>?_)
    have hSo1:=s1.extBut _ _ hSi hSo
    show wpAny _ A.in1 (updateSeq S (·.push ((ordOf w a ep es)[k]).2) >>= _) _ _ _
    have htk : ((ordOf w a ep es).toList.take (k + 1)).map (·.2) = ((ordOf w a ep es).toList.take k).map (·.2) ++ [((ordOf w a ep es)[k]).2]:=by
      rw [List.take_add_one,List.map_append,Array.getElem?_toList,Array.getElem?_eq_getElem hlt]; rfl
    obtain ⟨c2,hup⟩ : ∃ c2,(h1.update S (Obj.mapSeq (fun x=>x.push ((ordOf w a ep es)[k]).2))).get? S = some (seqObj "list" (((ordOf w a ep es).toList.take (k + 1)).map (·.2)).toArray c2):=⟨_,by rw [get?_update_seq hSo1 (fun x=>x.push ((ordOf w a ep es)[k]).2),List.push_toArray,htk]⟩
    have oth : ∀ b o,b ≠ S → h1.get? b = some o → (h1.update S (Obj.mapSeq (fun x=>x.push ((ordOf w a ep es)[k]).2))).get? b = some o:=fun b o hb e=>(Heap.get?_update_other _ _ (Ne.symm hb)).trans e
    have hl2 : (((ordOf w a ep es).toList.take k).map (·.2)).length ≤ 7:=by rw [List.length_map,List.length_take]; lia
    refine wpAny_bind (wpAny_updateSeq hSo1 rfl (wpAny_pure ⟨plainId_quiet F.plain_extend_loop _,ih (k + 1) _ c2 (by lia) (by lia) (oth _ _ hSa.symm (s1.extBut _ _ hai ho)) (oth _ _ hSi.symm hi1) hup fun h2 c3 k2 e2=>?_⟩) ?_ ?_)
    · exact hR h2 c3 (fun b o hb e=>k2 b o hb (oth b o (fun q=>hb (by simp [q])) (s1.extBut b o (fun q=>hb (by simp [q])) e))) e2
    · rw [List.size_toArray,sizeLine_val]; lia
    · show (Array.push _ _).size ≤ sizeLine + 1; rw [Array.size_push,List.size_toArray,sizeLine_val]; lia
theorem collect_set {Q : List Value → Shared → Prop} (hh : A.handled = none) (ho : SetAt s.heap a es ep t) (T : Tab t es.size (!w.params.followText "set-order")) (h4 : es.size ≤ 7)
    (hQ : ∀ h',(∀ b o,s.heap.get? b = some o → h'.get? b = some o) → Q ((ordOf w a ep es).toList.map (·.2)) { s with heap:=h' }) : wpAny (model prog w) A (collect (.ref a)) Q E s:=by
  have haS : a < s.heap.objs.size:=Heap.lt_size ho
  unfold collect
  refine wpAny_bind (wpAny_runValue (codeAny_builtin F.entry_proto_collect ?_))
  rw [Around.under_plainId F.plain_proto_collect _]
  show wpAny _ A.in1 (newList [] >>= fun l=>again (.builtin "list.__iadd__" ⟨[l,.ref a],[]⟩)) _ _ s
  refine wpAny_bind (wpAny_newObj_type ?_)
  refine wpAny_pure ⟨plainId_quiet F.plain_list_iadd _,codeAny_builtin F.entry_list_iadd ?_⟩
  rw [Around.under_plainId F.plain_list_iadd _]
  have hS₁ : (s.heap.push { cls:=.type "list",data:=.seq ([] : List Value).toArray }).get? s.heap.objs.size = some (seqObj "list" #[] 0):=Heap.get?_push_size _ rfl
  have ho1:=Heap.get?_push_of_some { cls:=.type "list",data:=.seq ([] : List Value).toArray } ho
  have hT1 : Shared.TypeIs { s with heap:=s.heap.push { cls:=.type "list",data:=.seq ([] : List Value).toArray } } (.ref a) "set":=⟨_,ho1,rfl⟩
  show wpAny _ A.in1 (Builtin.List.listExtendWith (.ref s.heap.objs.size) (.ref a) (.ref s.heap.objs.size)) _ _ _
  unfold Builtin.List.listExtendWith
  refine wpAny_bind (wpAny_typeOf hT1 ?_)
  have h1 : Builtin.List.listSameRef (.ref s.heap.objs.size) (.ref a) = false:=by simp [Builtin.List.listSameRef,Nat.ne_of_gt haS]
  have h2 : (Value.type "set" == Value.type "list") = false:=by decide
  have h3 : (Value.type "set" == Value.type "tuple") = false:=by decide
  simp only [h1,h2,h3,Bool.or_false,Bool.false_eq_true,if_false]
  refine wpAny_bind (set_iter ho1 T h4 fun h2 hi2 k2=>?_)
  have hT2 : Shared.TypeIs { s with heap:=h2 } (.ref a) "set":=⟨_,k2 _ _ ho1,rfl⟩
  refine wpAny_bind (wpAny_holding ?_)
  unfold Builtin.List.listLengthHint
  refine wpAny_bind (wpAny_specialOf hT2 set_nohint ?_)
  generalize hid : ("set.__len__" : String) = id0
  (fail_if_success (clear hid id0))
  wp_delta
  rw [show splitId id0 = some ("set","__len__") from by subst hid; decide +kernel]
  subst hid
  refine wpAny_bind (wpAny_isInstance (b:=true) hT2 (by rw [isSubtype_type]; kernel_rfl) ?_)
  refine wpAny_ite_split (fun q=>absurd q (by decide)) (fun _=>?_)
  dsimp only
  refine wpAny_ite_split (fun _=>?_) (fun q=>absurd (by decide +kernel) q)
  refine wpAny_bind (wpAny_typeOf hT2 ?_)
  refine wpAny_pure ?_
  refine wpAny_ite_split (fun _=>?_) (fun q=>absurd (by decide +kernel) q)
  refine wpAny_bind (wpAny_rule ?_)
  refine wpAny_bind ?_
  have hSo:=k2 _ _ hS₁
  show wpAny _ A.in1 (updateSeq s.heap.objs.size (·.push .none) >>= fun _=>updateSeq s.heap.objs.size (·.pop)) _ _ _
  refine wpAny_bind (wpAny_updateSeq hSo rfl ?_)
  have hS₂:=Heap.get?_update_self (Obj.mapSeq (·.push Value.none)) hSo rfl
  refine wpAny_updateSeq hS₂ rfl ?_
  have hS₃:=Heap.get?_update_self (Obj.mapSeq (·.pop)) hS₂ rfl
  obtain ⟨c3,hS₃⟩ : ∃ c3,((h2.update s.heap.objs.size (Obj.mapSeq (·.push Value.none))).update s.heap.objs.size (Obj.mapSeq (·.pop))).get? s.heap.objs.size = some (seqObj "list" ([] : List Value).toArray c3):=⟨_,hS₃⟩
  have oth : ∀ b o,b ≠ s.heap.objs.size → h2.get? b = some o → ((h2.update s.heap.objs.size (Obj.mapSeq (·.push Value.none))).update s.heap.objs.size (Obj.mapSeq (·.pop))).get? b = some o :=
    fun b o hb e=>(Heap.get?_update_other _ _ (Ne.symm hb)).trans ((Heap.get?_update_other _ _ (Ne.symm hb)).trans e)
  have hz : (s.heap.push { cls:=.type "list",data:=.seq ([] : List Value).toArray }).objs.size = s.heap.objs.size + 1:=Heap.size_push ..
  have n1 : s.heap.objs.size ≠ (s.heap.push { cls:=.type "list",data:=.seq ([] : List Value).toArray }).objs.size:=by rw [hz]; exact Nat.ne_of_lt (Nat.lt_succ_self _)
  have n2 : a ≠ (s.heap.push { cls:=.type "list",data:=.seq ([] : List Value).toArray }).objs.size:=by rw [hz]; exact Nat.ne_of_lt (Nat.lt_succ_of_lt haS)
  refine wpAny_pure ⟨plainId_quiet F.plain_extend_loop _,seti_loop hh T h4 (Nat.ne_of_gt haS) n1 n2 es.size 0 _ c3 rfl (Nat.zero_le _) (oth _ _ (Nat.ne_of_lt haS) (k2 _ _ ho1)) (oth _ _ (Ne.symm n1) hi2) hS₃ fun h' c' k e=>?_⟩
  show wpAny _ A (load s.heap.objs.size >>= _) _ _ _
  refine wpAny_bind (wpAny_load e (wpAny_pure (hQ h' fun b o eo=>?_)))
  have hlt:=Heap.lt_size eo
  refine k b o (fun q=>?_) (oth b o (Nat.ne_of_lt hlt) (k2 b o (Heap.get?_push_of_some _ eo)))
  rcases List.mem_cons.mp q with q | q
  · exact Nat.ne_of_lt hlt q
  · have : b = s.heap.objs.size + 1:=(List.mem_singleton.mp q).trans hz
    lia
end
end Mine
namespace Mine
set_option tactic.hygienic true in
theorem uniq_mem {z : Int} : ∀ {xs : List Int},z ∈ uniq xs ↔ z ∈ xs
  | []=>by simp [uniq]
  | x :: xs=>by
    unfold uniq
    split
    · rename_i h
      rw [uniq_mem,List.mem_cons]
      exact ⟨.inr,fun q=>q.elim (fun e=>by rw [e]; exact h) id⟩
    · rw [List.mem_cons,List.mem_cons,uniq_mem]
set_option tactic.hygienic true in
theorem uniq_nodup : ∀ xs : List Int,(uniq xs).Nodup
  | []=>.nil
  | x :: xs=>by
    unfold uniq
    split
    · exact uniq_nodup xs
    · rename_i h
      exact List.nodup_cons.mpr ⟨fun q=>h (uniq_mem.mp q),uniq_nodup xs⟩
theorem uniq_len : ∀ xs : List Int,(uniq xs).length ≤ xs.length
  | []=>Nat.le_refl _
  | x :: xs=>by
    unfold uniq
    have:=uniq_len xs
    split <;> simp <;> lia
theorem nodup_perm : ∀ {xs ys : List Int},xs.Nodup → ys.Nodup → (∀ z,z ∈ xs ↔ z ∈ ys) → xs.Perm ys
  | [],ys,_,_,h=>by
    cases ys with
    | nil=>exact .refl _
    | cons y ys=>exact absurd ((h y).mpr (.head _)) (by simp)
  | x :: xs,ys,h1,h2,h=>by
    have hx:=(h x).mp (.head _)
    have n1:=List.nodup_cons.mp h1
    refine List.Perm.trans (.cons x (nodup_perm n1.2 (h2.erase x) fun z=>?_)) (List.perm_cons_erase hx).symm
    by_cases e : z = x
    · rw [e]
      exact ⟨fun q=>absurd q n1.1,fun q=>absurd q (List.Nodup.not_mem_erase h2)⟩
    · rw [List.mem_erase_of_ne e,← h z,List.mem_cons]
      exact ⟨.inr,fun q=>q.resolve_left e⟩
section
variable {X : Cx} {φ : List Env} {n : Nat} {nm nmc : Nm}
noncomputable def mSortSet (m : Xm) : Xm:=fun σ=>match m σ with
  | some (.ref i,H)=>(match H[i]? with
    | some (.ints xs)=>if xs.length ≤ 4 then some (.ref H.length,H ++ [.ints (sortI (uniq xs))]) else none
    | _=>none)
  | _=>none
set_option tactic.hygienic true in
theorem RX_sortSet (O : XOk X) (N : NmOk nm) {np sp cp pos : Pos} {i j : Nat} {e : PySem.Expr} {m : Xm} (hi : nm.glb[i]? = some ("sorted" : Str)) (hg : X.mg "sorted" = none) (hj : nm.glb[j]? = some ("set" : Str)) (hgs : X.mg "set" = none) (ra : RX X φ n nm e m)
    (he : ∀ env,starEach [e] env = (false,eval e env) :: starEach [] env:=by intro _; rfl) :
    RX X φ n nm (.Call (.Name "sorted" np) [.Call (.Name "set" sp) [e] [] cp] [] pos) (mSortSet m):=fun A env σ s μ ν v H' hA F R em=>by
  unfold mSortSet at em
  split at em
  · rename_i l H1 e1
    revert em; refine m_LL fun xs hxs em=>?_
    revert em; refine if_e fun h4 em=>?_
    refine ret_e em ?_
    refine wpAny_Call_ofName (name_builtin O N hi hg PyProof.Rows.Boot.«sorted» F R ?_)
    show wpAny _ A (callWith pos (.builtin "sorted") [] (backTo pos (starEach [.Call (.Name "set" sp) [e] [] cp] env)) []) _ _ s
    refine Calls.callWith_builtin rfl ?_
    refine Calls.evalArgs_plain (wpAny_items_cons (wpAny_Call_ofName (name_builtin O N hj hgs PyProof.Rows.Boot.«set» F R ?_)) rfl)
    show wpAny _ A (callWith cp (.type "set") [] (backTo cp (starEach [e] env)) []) _ _ s
    refine callWith_excType (by rw [he env]; rfl) ?_
    rw [he env]
    refine Calls.evalArgs_plain ?_
    show wpAny _ A (spliced (backTo cp ((false,eval e env) :: starEach [] env))) _ _ s
    rw [← he env]
    refine wpAny_items_cons (ra.use hA F R e1 fun x s1 μ1 a1 F1 r1=>wpAny_items_nil ?_) (he env)
    refine r1.ref_e fun ad had=>?_
    refine e2a3 (a1.rep.lists _ ad _ had hxs) fun its mm eo hz rv=>?_
    show wpAny _ A (PySem.call (.type "set") [.ref ad] []) _ _ s1
    refine call_set hA.handled eo (intsAre_of rv) h4 fun h1 tk zs S c k1=>wpAny_items_nil ?_
    obtain ⟨es,ep,t,ho,T,hel⟩:=S
    have hzl : zs.length ≤ 4:=Nat.le_trans (cov_len c.1 fun z hz=>(c.2 z).mp hz) h4
    have hsz : es.size = zs.length:=by rw [← Array.length_toList]; exact hel.length
    show wpAny _ A (PySem.call (.builtin "sorted") [.ref s1.heap.objs.size] []) _ _ { s1 with heap:=h1,toks:=tk }
    refine Calls.call_function_entry kind_sorted plain_sorted entry_sorted (args_sorted1 _) ?_
    unfold Builtin.«sorted»
    refine wpAny_bind (m:=checkCount "sorted" 1 1 _) (wpAny_pure ?_)
    refine wpAny_bind (collect_set (A:=A.in1) hA.handled ho T (by lia) fun h2 k2=>?_)
    obtain ⟨ys,hys,hp⟩:=intsAre_perm ((ord_perm X.w s1.heap.objs.size ep es).map (·.2)) hel.ints
    have hol : ((ordOf X.w s1.heap.objs.size ep es).toList.map (·.2)).length ≤ 4:=by rw [hys.length,hp.length_eq]; exact hzl
    refine wpAny_bind (wpAny_newList ?_ (by rw [sizeLine_eq]; lia))
    have hoL : (h2.push (seqObj "list" ((ordOf X.w s1.heap.objs.size ep es).toList.map (·.2)).toArray 0)).get? h2.objs.size = some (seqObj "list" ((ordOf X.w s1.heap.objs.size ep es).toList.map (·.2)).toArray 0):=Heap.get?_push_size _ rfl
    have kk : ∀ b o,s1.heap.get? b = some o → (h2.push (seqObj "list" ((ordOf X.w s1.heap.objs.size ep es).toList.map (·.2)).toArray 0)).get? b = some o:=fun b o eb=>Heap.get?_push_of_some _ (k2 b o (k1 b o eb))
    have hD : s1.heap.get? h2.objs.size = none:=by
      cases q : s1.heap.get? h2.objs.size with
      | none=>rfl
      | some o=>exact absurd (Heap.lt_size (k2 _ o (k1 _ o q))) (Nat.lt_irrefl _)
    refine wpAny_bind (wpAny_holding (wpAny_call_entry slot_list_sort ⟨_,hoL,rfl⟩ entry_list_sort (list_sort_tree hoL hys (by lia) fun out ns' a4 a5 a6=>⟨_,rfl,?_⟩) (args_list_sort _)))
    have hns : ns' = sortI (uniq xs):=perm_sorted_eq ((a5.trans hp).trans ((nodup_perm c.1 (uniq_nodup xs) fun z=>(c.2 z).trans uniq_mem.symm).trans (sortI_perm _).symm)) a6 (sortI_sorted _)
    refine wpAny_pure ⟨_,rfl,?_⟩
    generalize hH : (h2.push (seqObj "list" ((ordOf X.w s1.heap.objs.size ep es).toList.map (·.2)).toArray 0)) = h3 at hoL kk ⊢
    have u1:=Heap.SameBut.update h3 h2.objs.size (Obj.mapSeq fun _=>(#[] : Array Value))
    obtain ⟨c1,g1⟩ : ∃ c1,(h3.update h2.objs.size (Obj.mapSeq fun _=>(#[] : Array Value))).get? h2.objs.size = some (seqObj "list" #[] c1):=⟨_,get?_update_seq hoL fun _=>#[]⟩
    generalize hH4 : ((h3.update h2.objs.size (Obj.mapSeq fun _=>(#[] : Array Value))).push (seqObj "tuple" ((ordOf X.w s1.heap.objs.size ep es).toList.map (·.2)).toArray 0)).push (seqObj "list" #[] 0) = h4'
    have g4 : h4'.get? h2.objs.size = some (seqObj "list" #[] c1):=by rw [← hH4]; exact Heap.get?_push_of_some _ (Heap.get?_push_of_some _ g1)
    have u4:=Heap.SameBut.update h4' h2.objs.size (Obj.mapSeq fun _=>out)
    obtain ⟨c5,g5⟩ : ∃ c5,(h4'.update h2.objs.size (Obj.mapSeq fun _=>out)).get? h2.objs.size = some (seqObj "list" out.toList.toArray c5):=⟨_,get?_update_seq g4 fun _=>out⟩
    have hsh : sortedHeap h3 h2.objs.size ((ordOf X.w s1.heap.objs.size ep es).toList.map (·.2)) out = h4'.update h2.objs.size (Obj.mapSeq fun _=>out):=by rw [← hH4]; rfl
    show QX X φ μ ν s _ σ.C _ _ { s1 with heap:=sortedHeap h3 h2.objs.size ((ordOf X.w s1.heap.objs.size ep es).toList.map (·.2)) out,toks:=tk }
    rw [hsh]
    have k5 : ∀ b o,s1.heap.get? b = some o → (h4'.update h2.objs.size (Obj.mapSeq fun _=>out)).get? b = some o:=fun b o eb=>by
      have hne : b ≠ h2.objs.size:=fun q=>by rw [q,hD] at eb; cases eb
      exact u4.extBut b o hne (by rw [← hH4]; exact Heap.get?_push_of_some _ (Heap.get?_push_of_some _ (u1.extBut b o hne (kk b o eb))))
    refine QX.aft a1 _ _ (fresh_list (l:=.ints (sortI (uniq xs))) a1.rep k5 hD g5 (by rw [← hns]; exact vrs_intsAre a4) ?_ (stills_ints _))
    show ((sortI (uniq xs)).map V.int).length ≤ _
    rw [List.length_map,(sortI_perm _).length_eq]
    have:=uniq_len xs
    lia
  · cases em
end
end Mine
namespace Mine
section
variable {X : Cx} {φ : List Env} {n : Nat} {nm nmc : Nm}
noncomputable def accLoc (i : Nat) : Acc:=fun σ=>match σ.loc[i]? with
  | some (some v)=>some v
  | _=>none
theorem RX0_loc (N : NmOk nm) {φ : List Env} {x : Str} {pos : Pos} {i : Nat} (hi : nm.loc[i]? = some x) : RX0 X φ nm (.Name x pos) (accLoc i):=fun A env σ s μ ν v Q E F R em h=>by
  revert em; refine m_OV fun v0 hv em=>?_
  cases em
  refine e1a2 F.ns fun m hn hm=>?_
  refine e1a2 (hm i x _ hi hv) fun v' e r=>?_
  have q:=N.loc x (List.mem_of_getElem? hi)
  exact wpAny_Name (wpAny_loadName_local (by rw [F.scope]; exact N.kind) ((F.kindOf x).trans q.1) hn e (h _ r)) (plainName_debug q.2)
noncomputable def dOr (a b : V → Option FCall) : V → Option FCall:=fun v=>match a v with
  | some f=>some f
  | none=>b v
theorem dOr_ok {a b : V → Option FCall} (ha : ∀ v f,a v = some f → CallV X φ n v f) (hb : ∀ v f,b v = some f → CallV X φ n v f) : ∀ v f,dOr a b v = some f → CallV X φ n v f:=fun v f e=>by
  unfold dOr at e
  split at e
  · cases e; exact ha v _ ‹_›
  · exact hb v f e
noncomputable def iElse : PySem.Expr → PySem.Expr
  | .IfExp _ _ b _=>b
  | _=>noE
end
end Mine
namespace Mine

noncomputable def nm1_0 : Nm:={ scope:=fnScope PySem.Challenge.pw_wb0001_01 1,loc:=["a","x","lo","hi","key"],cel:=[],glb:=["bisect_right"],qual:="insort_right.<locals>.",tab:=1000 }
theorem N1_0 : NmOk nm1_0:=.of (by decide +kernel)
noncomputable def df1_0 : Df:={ name:="insort_right",params:=fnArgs PySem.Challenge.pw_wb0001_01 1,body:=fnBody PySem.Challenge.pw_wb0001_01 1,scope:=fnScope PySem.Challenge.pw_wb0001_01 1,nm:=nm1_0,pars:=["a","x","lo","hi","key"],li:=[some 0,some 1,some 2,some 3,some 4],ci:=[] }
theorem D1_0 : DfOk df1_0:=.of (by decide +kernel)
noncomputable def full1_0 : Full:=bisFull
noncomputable def nm1_1 : Nm:={ scope:=fnScope PySem.Challenge.pw_wb0001_01 2,loc:=["a","x","lo","hi","key","mid"],cel:=[],glb:=["ValueError","len"],qual:="bisect_right.<locals>.",tab:=1000 }
theorem N1_1 : NmOk nm1_1:=.of (by decide +kernel)
noncomputable def df1_1 : Df:={ name:="bisect_right",params:=fnArgs PySem.Challenge.pw_wb0001_01 2,body:=fnBody PySem.Challenge.pw_wb0001_01 2,scope:=fnScope PySem.Challenge.pw_wb0001_01 2,nm:=nm1_1,pars:=["a","x","lo","hi","key"],li:=[some 0,some 1,some 2,some 3,some 4,none],ci:=[] }
theorem D1_1 : DfOk df1_1:=.of (by decide +kernel)
noncomputable def full1_1 : Full:=bisFull
noncomputable def nm1_2 : Nm:={ scope:=fnScope PySem.Challenge.pw_wb0001_01 3,loc:=["a","x","lo","hi","key"],cel:=[],glb:=["bisect_left"],qual:="insort_left.<locals>.",tab:=1000 }
theorem N1_2 : NmOk nm1_2:=.of (by decide +kernel)
noncomputable def df1_2 : Df:={ name:="insort_left",params:=fnArgs PySem.Challenge.pw_wb0001_01 3,body:=fnBody PySem.Challenge.pw_wb0001_01 3,scope:=fnScope PySem.Challenge.pw_wb0001_01 3,nm:=nm1_2,pars:=["a","x","lo","hi","key"],li:=[some 0,some 1,some 2,some 3,some 4],ci:=[] }
theorem D1_2 : DfOk df1_2:=.of (by decide +kernel)
noncomputable def full1_2 : Full:=bisFull
noncomputable def nm1_3 : Nm:={ scope:=fnScope PySem.Challenge.pw_wb0001_01 4,loc:=["a","x","lo","hi","key","mid"],cel:=[],glb:=["ValueError","len"],qual:="bisect_left.<locals>.",tab:=1000 }
theorem N1_3 : NmOk nm1_3:=.of (by decide +kernel)
noncomputable def df1_3 : Df:={ name:="bisect_left",params:=fnArgs PySem.Challenge.pw_wb0001_01 4,body:=fnBody PySem.Challenge.pw_wb0001_01 4,scope:=fnScope PySem.Challenge.pw_wb0001_01 4,nm:=nm1_3,pars:=["a","x","lo","hi","key"],li:=[some 0,some 1,some 2,some 3,some 4,none],ci:=[] }
theorem D1_3 : DfOk df1_3:=.of (by decide +kernel)
noncomputable def full1_3 : Full:=bisFull
noncomputable def nm1_4 : Nm:={ scope:=fnScope PySem.Challenge.pw_wb0001_01 6,loc:=["claims"],cel:=["estate","count","total"],glb:=["len","sum","_law_joined"],qual:="_law_joined.<locals>.",tab:=1000 }
theorem N1_4 : NmOk nm1_4:=.of (by decide +kernel)
noncomputable def df1_4 : Df:={ name:="_law_joined",params:=fnArgs PySem.Challenge.pw_wb0001_01 6,body:=fnBody PySem.Challenge.pw_wb0001_01 6,scope:=fnScope PySem.Challenge.pw_wb0001_01 6,nm:=nm1_4,pars:=["claims","estate"],li:=[some 0],ci:=[some 1,none,none] }
theorem D1_4 : DfOk df1_4:=.of (by decide +kernel)
noncomputable def full1_4 : Full:=fun vs kv=>match kv with | none=>if vs.length = 2 then some vs else none | some _=>none
noncomputable def nm1_5 : Nm:={ scope:=fnScope PySem.Challenge.pw_wb0001_01 7,loc:=["turn","row","place"],cel:=["claims"],glb:=["range","len","insort_left","insort_right"],qual:="_law_row.<locals>.",tab:=0 }
theorem N1_5 : NmOk nm1_5:=.of (by decide +kernel)
noncomputable def df1_5 : Df:={ name:="_law_row",params:=fnArgs PySem.Challenge.pw_wb0001_01 7,body:=fnBody PySem.Challenge.pw_wb0001_01 7,scope:=fnScope PySem.Challenge.pw_wb0001_01 7,nm:=nm1_5,pars:=["claims","turn"],li:=[some 1,none,none],ci:=[some 0] }
theorem D1_5 : DfOk df1_5:=.of (by decide +kernel)
noncomputable def full1_5 : Full:=fun vs kv=>match kv with | none=>if vs.length = 2 then some vs else none | some _=>none
noncomputable def nm1_6 : Nm:={ scope:=fnScope PySem.Challenge.pw_wb0001_01 8,loc:=[],cel:=["claims"],glb:=[],qual:="_law_taken.<locals>.",tab:=1000 }
theorem N1_6 : NmOk nm1_6:=.of (by decide +kernel)
noncomputable def df1_6 : Df:={ name:="_law_taken",params:=fnArgs PySem.Challenge.pw_wb0001_01 8,body:=fnBody PySem.Challenge.pw_wb0001_01 8,scope:=fnScope PySem.Challenge.pw_wb0001_01 8,nm:=nm1_6,pars:=["claims"],li:=[],ci:=[some 0] }
theorem D1_6 : DfOk df1_6:=.of (by decide +kernel)
noncomputable def full1_6 : Full:=fun vs kv=>match kv with | none=>if vs.length = 1 then some vs else none | some _=>none
noncomputable def nm1_7 : Nm:={ scope:=fnScope PySem.Challenge.pw_wb0001_01 9,loc:=["estate","turn","row","due","last","rank","taken"],cel:=["claims","level","table"],glb:=["_law_row","min","sum","_law_taken","len","bisect_left","bisect_right","zip"],qual:="_law_shared.<locals>.",tab:=1 }
theorem N1_7 : NmOk nm1_7:=.of (by decide +kernel)
noncomputable def df1_7 : Df:={ name:="_law_shared",params:=fnArgs PySem.Challenge.pw_wb0001_01 9,body:=fnBody PySem.Challenge.pw_wb0001_01 9,scope:=fnScope PySem.Challenge.pw_wb0001_01 9,nm:=nm1_7,pars:=["claims","estate","turn"],li:=[some 1,some 2,none,none,none,none,none],ci:=[some 0,none,none] }
theorem D1_7 : DfOk df1_7:=.of (by decide +kernel)
noncomputable def full1_7 : Full:=fun vs kv=>match kv with | none=>if vs.length = 3 then some vs else none | some _=>none
noncomputable def nm1_8 : Nm:={ scope:=fnScope PySem.Challenge.pw_wb0001_01 10,loc:=["cell","among","part","have","cloth","one","two"],cel:=["claims","shares","code"],glb:=["range","len","_law_shared","sum","max"],qual:="_law_again.<locals>.",tab:=1000 }
theorem N1_8 : NmOk nm1_8:=.of (by decide +kernel)
noncomputable def df1_8 : Df:={ name:="_law_again",params:=fnArgs PySem.Challenge.pw_wb0001_01 10,body:=fnBody PySem.Challenge.pw_wb0001_01 10,scope:=fnScope PySem.Challenge.pw_wb0001_01 10,nm:=nm1_8,pars:=["claims","shares","cell"],li:=[some 2,none,none,none,none,none,none],ci:=[some 0,some 1,none] }
theorem D1_8 : DfOk df1_8:=.of (by decide +kernel)
noncomputable def full1_8 : Full:=fun vs kv=>match kv with | none=>if vs.length = 3 then some vs else none | some _=>none
noncomputable def nm1_9 : Nm:={ scope:=fnScope PySem.Challenge.pw_wb0001_01 11,loc:=["estate","lay","row","among","sure"],cel:=["claims","shares","code"],glb:=["range","len","max","sum"],qual:="_law_excesses.<locals>.",tab:=1000 }
theorem N1_9 : NmOk nm1_9:=.of (by decide +kernel)
noncomputable def df1_9 : Df:={ name:="_law_excesses",params:=fnArgs PySem.Challenge.pw_wb0001_01 11,body:=fnBody PySem.Challenge.pw_wb0001_01 11,scope:=fnScope PySem.Challenge.pw_wb0001_01 11,nm:=nm1_9,pars:=["claims","estate","shares","lay"],li:=[some 1,some 3,none,none,none],ci:=[some 0,some 2,none] }
theorem D1_9 : DfOk df1_9:=.of (by decide +kernel)
noncomputable def full1_9 : Full:=fun vs kv=>match kv with | none=>if vs.length = 4 then some vs else none | some _=>none
noncomputable def nm1_10 : Nm:={ scope:=fnScope PySem.Challenge.pw_wb0001_01 12,loc:=["row","search","full","low","high"],cel:=["table","more","one"],glb:=["len","range","min","max"],qual:="_law_found.<locals>.",tab:=2 }
theorem N1_10 : NmOk nm1_10:=.of (by decide +kernel)
noncomputable def df1_10 : Df:={ name:="_law_found",params:=fnArgs PySem.Challenge.pw_wb0001_01 12,body:=fnBody PySem.Challenge.pw_wb0001_01 12,scope:=fnScope PySem.Challenge.pw_wb0001_01 12,nm:=nm1_10,pars:=["row","table","search","more"],li:=[some 0,some 2,none,none,none],ci:=[some 1,some 3,none] }
theorem D1_10 : DfOk df1_10:=.of (by decide +kernel)
noncomputable def full1_10 : Full:=fun vs kv=>match kv with | none=>if vs.length = 4 then some vs else none | some _=>none
noncomputable def nm1_11 : Nm:={ scope:=fnScope PySem.Challenge.pw_wb0001_01 13,loc:=["row","call","kept"],cel:=[],glb:=["bisect_left","bisect_right","insort_left","insort_right","list","ValueError","str"],qual:="_law_refused.<locals>.",tab:=1000 }
theorem N1_11 : NmOk nm1_11:=.of (by decide +kernel)
noncomputable def df1_11 : Df:={ name:="_law_refused",params:=fnArgs PySem.Challenge.pw_wb0001_01 13,body:=fnBody PySem.Challenge.pw_wb0001_01 13,scope:=fnScope PySem.Challenge.pw_wb0001_01 13,nm:=nm1_11,pars:=["row"],li:=[some 0,none,none],ci:=[] }
theorem D1_11 : DfOk df1_11:=.of (by decide +kernel)
noncomputable def full1_11 : Full:=fun vs kv=>match kv with | none=>if vs.length = 1 then some vs else none | some _=>none
noncomputable def nm1_12 : Nm:={ scope:=fnScope PySem.Challenge.pw_wb0001_01 14,loc:=["count","order","table","estate","shares","told","rows","one","two","other","left","right","behind","turn"],cel:=["cells","claims","came"],glb:=["sum","len","sorted","_law_taken","_law_shared","_law_row","zip","list","_law_joined","_law_again","_law_excesses","insort_left","insort_right","range","set","_law_found","bisect_left","bisect_right","_law_refused"],qual:="_law_holds.<locals>.",tab:=1000 }
theorem N1_12 : NmOk nm1_12:=.of (by decide +kernel)
noncomputable def df1_12 : Df:={ name:="_law_holds",params:=fnArgs PySem.Challenge.pw_wb0001_01 14,body:=fnBody PySem.Challenge.pw_wb0001_01 14,scope:=fnScope PySem.Challenge.pw_wb0001_01 14,nm:=nm1_12,pars:=["cells"],li:=[none,none,none,none,none,none,none,none,none,none,none,none,none,none],ci:=[some 0,none,none] }
theorem D1_12 : DfOk df1_12:=.of (by decide +kernel)
noncomputable def full1_12 : Full:=fun vs kv=>match kv with | none=>if vs.length = 1 then some vs else none | some _=>none
noncomputable def nm1_13 : Nm:={ scope:=fnScope PySem.Challenge.pw_wb0001_01 15,loc:=[],cel:=["script","cells"],glb:=["_law_holds","range"],qual:="law.<locals>.",tab:=1000 }
theorem N1_13 : NmOk nm1_13:=.of (by decide +kernel)
noncomputable def df1_13 : Df:={ name:="law",params:=fnArgs PySem.Challenge.pw_wb0001_01 15,body:=fnBody PySem.Challenge.pw_wb0001_01 15,scope:=fnScope PySem.Challenge.pw_wb0001_01 15,nm:=nm1_13,pars:=["script"],li:=[],ci:=[some 0,none] }
theorem D1_13 : DfOk df1_13:=.of (by decide +kernel)
noncomputable def full1_13 : Full:=fun vs kv=>match kv with | none=>if vs.length = 1 then some vs else none | some _=>none
noncomputable def lam1_0 : Lam:={ params:=lamArgs (kKw 0 (sValue (xSt 0 (sBody (xSt 0 (sBody (xSt 1 (fnBody PySem.Challenge.pw_wb0001_01 7)))))))),body:=lamBody (kKw 0 (sValue (xSt 0 (sBody (xSt 0 (sBody (xSt 1 (fnBody PySem.Challenge.pw_wb0001_01 7)))))))),scope:=lamScope (kKw 0 (sValue (xSt 0 (sBody (xSt 0 (sBody (xSt 1 (fnBody PySem.Challenge.pw_wb0001_01 7)))))))),qual:="_law_row.<locals>.<lambda>",names:=["claims"] }
noncomputable def lnm1_0 : Nm:={ scope:=lamScope (kKw 0 (sValue (xSt 0 (sBody (xSt 0 (sBody (xSt 1 (fnBody PySem.Challenge.pw_wb0001_01 7)))))))),loc:=["one"],cel:=["claims"],glb:=[],qual:="_law_row.<locals>.<lambda>.<locals>.",tab:=1000 }
theorem lN1_0 : NmOk lnm1_0:=.of (by decide +kernel)
noncomputable def lm1_0 : Xm:=mBin fItem (mCel 0) (mLoc 0)
noncomputable def lam1_1 : Lam:={ params:=lamArgs (kKw 0 (sValue (xSt 0 (sElse (xSt 0 (sBody (xSt 1 (fnBody PySem.Challenge.pw_wb0001_01 7)))))))),body:=lamBody (kKw 0 (sValue (xSt 0 (sElse (xSt 0 (sBody (xSt 1 (fnBody PySem.Challenge.pw_wb0001_01 7)))))))),scope:=lamScope (kKw 0 (sValue (xSt 0 (sElse (xSt 0 (sBody (xSt 1 (fnBody PySem.Challenge.pw_wb0001_01 7)))))))),qual:="_law_row.<locals>.<lambda>",names:=["claims"] }
noncomputable def lnm1_1 : Nm:={ scope:=lamScope (kKw 0 (sValue (xSt 0 (sElse (xSt 0 (sBody (xSt 1 (fnBody PySem.Challenge.pw_wb0001_01 7)))))))),loc:=["one"],cel:=["claims"],glb:=[],qual:="_law_row.<locals>.<lambda>.<locals>.",tab:=1000 }
theorem lN1_1 : NmOk lnm1_1:=.of (by decide +kernel)
noncomputable def lm1_1 : Xm:=mBin fItem (mCel 0) (mLoc 0)
noncomputable def lam1_2 : Lam:={ params:=lamArgs (kKw 0 (sValue (xSt 0 (sBody (xSt 1 (fnBody PySem.Challenge.pw_wb0001_01 9)))))),body:=lamBody (kKw 0 (sValue (xSt 0 (sBody (xSt 1 (fnBody PySem.Challenge.pw_wb0001_01 9)))))),scope:=lamScope (kKw 0 (sValue (xSt 0 (sBody (xSt 1 (fnBody PySem.Challenge.pw_wb0001_01 9)))))),qual:="_law_shared.<locals>.<lambda>",names:=["table"] }
noncomputable def lnm1_2 : Nm:={ scope:=lamScope (kKw 0 (sValue (xSt 0 (sBody (xSt 1 (fnBody PySem.Challenge.pw_wb0001_01 9)))))),loc:=["one"],cel:=["table"],glb:=[],qual:="_law_shared.<locals>.<lambda>.<locals>.",tab:=1000 }
theorem lN1_2 : NmOk lnm1_2:=.of (by decide +kernel)
noncomputable def lm1_2 : Xm:=mBin fItem (mCel 0) (mLoc 0)
noncomputable def lam1_3 : Lam:={ params:=lamArgs (kKw 0 (sValue (xSt 0 (sElse (xSt 1 (fnBody PySem.Challenge.pw_wb0001_01 9)))))),body:=lamBody (kKw 0 (sValue (xSt 0 (sElse (xSt 1 (fnBody PySem.Challenge.pw_wb0001_01 9)))))),scope:=lamScope (kKw 0 (sValue (xSt 0 (sElse (xSt 1 (fnBody PySem.Challenge.pw_wb0001_01 9)))))),qual:="_law_shared.<locals>.<lambda>",names:=["table"] }
noncomputable def lnm1_3 : Nm:={ scope:=lamScope (kKw 0 (sValue (xSt 0 (sElse (xSt 1 (fnBody PySem.Challenge.pw_wb0001_01 9)))))),loc:=["one"],cel:=["table"],glb:=[],qual:="_law_shared.<locals>.<lambda>.<locals>.",tab:=1000 }
theorem lN1_3 : NmOk lnm1_3:=.of (by decide +kernel)
noncomputable def lm1_3 : Xm:=mBin fItem (mCel 0) (mLoc 0)
noncomputable def lam1_4 : Lam:={ params:=lamArgs (kKw 0 (cLeft (sTest (xSt 0 (sBody (xSt 0 (sBody (xSt 1 (sBody (xSt 0 (fnBody PySem.Challenge.pw_wb0001_01 12))))))))))),body:=lamBody (kKw 0 (cLeft (sTest (xSt 0 (sBody (xSt 0 (sBody (xSt 1 (sBody (xSt 0 (fnBody PySem.Challenge.pw_wb0001_01 12))))))))))),scope:=lamScope (kKw 0 (cLeft (sTest (xSt 0 (sBody (xSt 0 (sBody (xSt 1 (sBody (xSt 0 (fnBody PySem.Challenge.pw_wb0001_01 12))))))))))),qual:="_law_found.<locals>.<lambda>",names:=["table"] }
noncomputable def lnm1_4 : Nm:={ scope:=lamScope (kKw 0 (cLeft (sTest (xSt 0 (sBody (xSt 0 (sBody (xSt 1 (sBody (xSt 0 (fnBody PySem.Challenge.pw_wb0001_01 12))))))))))),loc:=["other"],cel:=["table"],glb:=[],qual:="_law_found.<locals>.<lambda>.<locals>.",tab:=1000 }
theorem lN1_4 : NmOk lnm1_4:=.of (by decide +kernel)
noncomputable def lm1_4 : Xm:=mBin fItem (mCel 0) (mLoc 0)

structure G1 (X : Cx) (a : Nat → Addr) : Prop where
  O : XOk X
  OT : XTab X
  mg_0 : X.mg "insort_right" = some (.ref (a 0))
  fn_0 : X.fn 0 = some (a 0)
  at_0 : FnAt X (a 0) df1_0
  bind_0 : BindOk X (a 0) df1_0 full1_0
  mg_1 : X.mg "bisect_right" = some (.ref (a 1))
  fn_1 : X.fn 1 = some (a 1)
  at_1 : FnAt X (a 1) df1_1
  bind_1 : BindOk X (a 1) df1_1 full1_1
  mg_2 : X.mg "insort_left" = some (.ref (a 2))
  fn_2 : X.fn 2 = some (a 2)
  at_2 : FnAt X (a 2) df1_2
  bind_2 : BindOk X (a 2) df1_2 full1_2
  mg_3 : X.mg "bisect_left" = some (.ref (a 3))
  fn_3 : X.fn 3 = some (a 3)
  at_3 : FnAt X (a 3) df1_3
  bind_3 : BindOk X (a 3) df1_3 full1_3
  mg_4 : X.mg "_law_joined" = some (.ref (a 4))
  fn_4 : X.fn 4 = some (a 4)
  at_4 : FnAt X (a 4) df1_4
  bind_4 : BindOk X (a 4) df1_4 full1_4
  mg_5 : X.mg "_law_row" = some (.ref (a 5))
  fn_5 : X.fn 5 = some (a 5)
  at_5 : FnAt X (a 5) df1_5
  bind_5 : BindOk X (a 5) df1_5 full1_5
  mg_6 : X.mg "_law_taken" = some (.ref (a 6))
  fn_6 : X.fn 6 = some (a 6)
  at_6 : FnAt X (a 6) df1_6
  bind_6 : BindOk X (a 6) df1_6 full1_6
  mg_7 : X.mg "_law_shared" = some (.ref (a 7))
  fn_7 : X.fn 7 = some (a 7)
  at_7 : FnAt X (a 7) df1_7
  bind_7 : BindOk X (a 7) df1_7 full1_7
  mg_8 : X.mg "_law_again" = some (.ref (a 8))
  fn_8 : X.fn 8 = some (a 8)
  at_8 : FnAt X (a 8) df1_8
  bind_8 : BindOk X (a 8) df1_8 full1_8
  mg_9 : X.mg "_law_excesses" = some (.ref (a 9))
  fn_9 : X.fn 9 = some (a 9)
  at_9 : FnAt X (a 9) df1_9
  bind_9 : BindOk X (a 9) df1_9 full1_9
  mg_10 : X.mg "_law_found" = some (.ref (a 10))
  fn_10 : X.fn 10 = some (a 10)
  at_10 : FnAt X (a 10) df1_10
  bind_10 : BindOk X (a 10) df1_10 full1_10
  mg_11 : X.mg "_law_refused" = some (.ref (a 11))
  fn_11 : X.fn 11 = some (a 11)
  at_11 : FnAt X (a 11) df1_11
  bind_11 : BindOk X (a 11) df1_11 full1_11
  mg_12 : X.mg "_law_holds" = some (.ref (a 12))
  fn_12 : X.fn 12 = some (a 12)
  at_12 : FnAt X (a 12) df1_12
  bind_12 : BindOk X (a 12) df1_12 full1_12
  mg_13 : X.mg "law" = some (.ref (a 13))
  fn_13 : X.fn 13 = some (a 13)
  at_13 : FnAt X (a 13) df1_13
  bind_13 : BindOk X (a 13) df1_13 full1_13
  no_ValueError : X.mg "ValueError" = none
  no_len : X.mg "len" = none
  no_list : X.mg "list" = none
  no_max : X.mg "max" = none
  no_min : X.mg "min" = none
  no_range : X.mg "range" = none
  no_set : X.mg "set" = none
  no_sorted : X.mg "sorted" = none
  no_str : X.mg "str" = none
  no_sum : X.mg "sum" = none
  no_zip : X.mg "zip" = none
  lam_0 : X.lams 0 = some lam1_0
  lam_1 : X.lams 1 = some lam1_1
  lam_2 : X.lams 2 = some lam1_2
  lam_3 : X.lams 3 = some lam1_3
  lam_4 : X.lams 4 = some lam1_4
  tabs : X.tabs.length ≤ 1000
  tab_5 : ∃ q,X.tabs[0]? = some q ∧ q.2.2 = ("_law_row.<locals>.<lambda>" : Str)
  tab_7 : ∃ q,X.tabs[1]? = some q ∧ q.2.2 = ("_law_shared.<locals>.<lambda>" : Str)
  tab_10 : ∃ q,X.tabs[2]? = some q ∧ q.2.2 = ("_law_found.<locals>.<lambda>" : Str)

variable {X : Cx} {φ : List Env} {n : Nat} {a : Nat → Addr}
theorem lamOk1_0 (g : G1 X a) : LamOk X n 0 lam1_0 lnm1_0 "one" lm1_0 where
  at_:=g.lam_0
  names:=lN1_0
  loc:=rfl
  cel:=rfl
  scope:=rfl
  qual:=by decide +kernel
  tab:=List.getElem?_eq_none (g.tabs)
  co:=rfl
  gen:=rfl
  nocell:=by decide +kernel
  bind:=fun _ _ _ _ _=>by rfl
  body:=fun φ=>RX_item (RX_cel lN1_0 (i:=0) rfl) (RX_loc lN1_0 (i:=0) rfl)
theorem lamOk1_1 (g : G1 X a) : LamOk X n 1 lam1_1 lnm1_1 "one" lm1_1 where
  at_:=g.lam_1
  names:=lN1_1
  loc:=rfl
  cel:=rfl
  scope:=rfl
  qual:=by decide +kernel
  tab:=List.getElem?_eq_none (g.tabs)
  co:=rfl
  gen:=rfl
  nocell:=by decide +kernel
  bind:=fun _ _ _ _ _=>by rfl
  body:=fun φ=>RX_item (RX_cel lN1_1 (i:=0) rfl) (RX_loc lN1_1 (i:=0) rfl)
theorem lamOk1_2 (g : G1 X a) : LamOk X n 2 lam1_2 lnm1_2 "one" lm1_2 where
  at_:=g.lam_2
  names:=lN1_2
  loc:=rfl
  cel:=rfl
  scope:=rfl
  qual:=by decide +kernel
  tab:=List.getElem?_eq_none (g.tabs)
  co:=rfl
  gen:=rfl
  nocell:=by decide +kernel
  bind:=fun _ _ _ _ _=>by rfl
  body:=fun φ=>RX_item (RX_cel lN1_2 (i:=0) rfl) (RX_loc lN1_2 (i:=0) rfl)
theorem lamOk1_3 (g : G1 X a) : LamOk X n 3 lam1_3 lnm1_3 "one" lm1_3 where
  at_:=g.lam_3
  names:=lN1_3
  loc:=rfl
  cel:=rfl
  scope:=rfl
  qual:=by decide +kernel
  tab:=List.getElem?_eq_none (g.tabs)
  co:=rfl
  gen:=rfl
  nocell:=by decide +kernel
  bind:=fun _ _ _ _ _=>by rfl
  body:=fun φ=>RX_item (RX_cel lN1_3 (i:=0) rfl) (RX_loc lN1_3 (i:=0) rfl)
theorem lamOk1_4 (g : G1 X a) : LamOk X n 4 lam1_4 lnm1_4 "other" lm1_4 where
  at_:=g.lam_4
  names:=lN1_4
  loc:=rfl
  cel:=rfl
  scope:=rfl
  qual:=by decide +kernel
  tab:=List.getElem?_eq_none (g.tabs)
  co:=rfl
  gen:=rfl
  nocell:=by decide +kernel
  bind:=fun _ _ _ _ _=>by rfl
  body:=fun φ=>RX_item (RX_cel lN1_4 (i:=0) rfl) (RX_loc lN1_4 (i:=0) rfl)
noncomputable def dLam1 : V → Option FCall:=fun v=>match v with
  | .clo 0 cs=>some (loSem lm1_0 cs)
  | .clo 1 cs=>some (loSem lm1_1 cs)
  | .clo 2 cs=>some (loSem lm1_2 cs)
  | .clo 3 cs=>some (loSem lm1_3 cs)
  | .clo 4 cs=>some (loSem lm1_4 cs)
  | _=>none
theorem dLam1_ok (g : G1 X a) (hn : 1 ≤ n) : ∀ v f,dLam1 v = some f → CallV X φ n v f:=fun v f e=>by
  obtain ⟨m,rfl⟩ : ∃ m,n = m + 1:=⟨n - 1,by omega⟩
  unfold dLam1 at e
  split at e
  · cases e; exact .of_lam g.O (lamOk1_0 g) _
  · cases e; exact .of_lam g.O (lamOk1_1 g) _
  · cases e; exact .of_lam g.O (lamOk1_2 g) _
  · cases e; exact .of_lam g.O (lamOk1_3 g) _
  · cases e; exact .of_lam g.O (lamOk1_4 g) _
  · cases e

/-! bisect_right -/
noncomputable def m1_1_0 : Sm:=sIf (mTest (mBin fLt (mLoc 2) (mInt 0))) (sSeq sNo sNil) sNil
theorem s1_1_0 (g : G1 X a) (hn : 1 ≤ n) : RS X φ n nm1_1 (xSt 0 (fnBody PySem.Challenge.pw_wb0001_01 2)) m1_1_0 :=
  RS_if (RB_cmp (RX_loc N1_1 (i:=2) rfl) RX_int Op2_lt) (RSs_cons RS_no RSs_nil) RSs_nil
noncomputable def m1_1_1 : Sm:=sIf (mTest (mUn fIsNone (mLoc 3))) (sSeq (sAssign (.loc 3) (mArgs fLen (aCons (mLoc 0) aNil))) sNil) sNil
theorem s1_1_1 (g : G1 X a) (hn : 1 ≤ n) : RS X φ n nm1_1 (xSt 1 (fnBody PySem.Challenge.pw_wb0001_01 2)) m1_1_1 :=
  RS_if (RB_isNone (RX_loc N1_1 (i:=3) rfl)) (RSs_cons (RS_assign N1_1 (t:=.loc 3) (RX_bi g.O N1_1 (i:=1) rfl g.no_len Boot.«len» (RXs_cons (RX_loc N1_1 (i:=0) rfl) RXs_nil) OpN_len) rfl) RSs_nil) RSs_nil
noncomputable def m1_1_2 : Sm:=sIf (mTest (mUn fIsNone (mLoc 4))) (sSeq (sWhile 1000 (mTest (mBin fLt (mLoc 2) (mLoc 3))) (sSeq (sAssign (.loc 5) (mBin fDiv (mBin fAdd (mLoc 2) (mLoc 3)) (mInt 2))) (sSeq (sIf (mTest (mBin fLt (mLoc 1) (mBin fItem (mLoc 0) (mLoc 5)))) (sSeq (sAssign (.loc 3) (mLoc 5)) sNil) (sSeq (sAssign (.loc 2) (mBin fAdd (mLoc 5) (mInt 1))) sNil)) sNil))) sNil) (sSeq (sWhile 1000 (mTest (mBin fLt (mLoc 2) (mLoc 3))) (sSeq (sAssign (.loc 5) (mBin fDiv (mBin fAdd (mLoc 2) (mLoc 3)) (mInt 2))) (sSeq (sIf (mTest (mBin fLt (mLoc 1) (mCall (mLoc 4) dLam1 (aCons (mBin fItem (mLoc 0) (mLoc 5)) aNil)))) (sSeq (sAssign (.loc 3) (mLoc 5)) sNil) (sSeq (sAssign (.loc 2) (mBin fAdd (mLoc 5) (mInt 1))) sNil)) sNil))) sNil)
theorem s1_1_2 (g : G1 X a) (hn : 1 ≤ n) : RS X φ n nm1_1 (xSt 2 (fnBody PySem.Challenge.pw_wb0001_01 2)) m1_1_2 :=
  RS_if (RB_isNone (RX_loc N1_1 (i:=4) rfl)) (RSs_cons (RS_while (fuel:=1000) (RB_cmp (RX_loc N1_1 (i:=2) rfl) (RX_loc N1_1 (i:=3) rfl) Op2_lt) (RSs_cons (RS_assign N1_1 (t:=.loc 5) (RX_bin (RX_bin (RX_loc N1_1 (i:=2) rfl) (RX_loc N1_1 (i:=3) rfl) Op2_add) RX_int Op2_div) rfl) (RSs_cons (RS_if (RB_cmp (RX_loc N1_1 (i:=1) rfl) (RX_item (RX_loc N1_1 (i:=0) rfl) (RX_loc N1_1 (i:=5) rfl)) Op2_lt) (RSs_cons (RS_assign N1_1 (t:=.loc 3) (RX_loc N1_1 (i:=5) rfl) rfl) RSs_nil) (RSs_cons (RS_assign N1_1 (t:=.loc 2) (RX_bin (RX_loc N1_1 (i:=5) rfl) RX_int Op2_add) rfl) RSs_nil)) RSs_nil))) RSs_nil) (RSs_cons (RS_while (fuel:=1000) (RB_cmp (RX_loc N1_1 (i:=2) rfl) (RX_loc N1_1 (i:=3) rfl) Op2_lt) (RSs_cons (RS_assign N1_1 (t:=.loc 5) (RX_bin (RX_bin (RX_loc N1_1 (i:=2) rfl) (RX_loc N1_1 (i:=3) rfl) Op2_add) RX_int Op2_div) rfl) (RSs_cons (RS_if (RB_cmp (RX_loc N1_1 (i:=1) rfl) (RX_call (RX_loc N1_1 (i:=4) rfl) (dLam1_ok g (by omega)) (RXs_cons (RX_item (RX_loc N1_1 (i:=0) rfl) (RX_loc N1_1 (i:=5) rfl)) RXs_nil)) Op2_lt) (RSs_cons (RS_assign N1_1 (t:=.loc 3) (RX_loc N1_1 (i:=5) rfl) rfl) RSs_nil) (RSs_cons (RS_assign N1_1 (t:=.loc 2) (RX_bin (RX_loc N1_1 (i:=5) rfl) RX_int Op2_add) rfl) RSs_nil)) RSs_nil))) RSs_nil)
noncomputable def m1_1_3 : Sm:=sRet (mLoc 2)
theorem s1_1_3 (g : G1 X a) (hn : 1 ≤ n) : RS X φ n nm1_1 (xSt 3 (fnBody PySem.Challenge.pw_wb0001_01 2)) m1_1_3 :=
  RS_ret (RX_loc N1_1 (i:=2) rfl)
noncomputable def body1_1 : Sm:=sSeq m1_1_0 (sSeq m1_1_1 (sSeq m1_1_2 (sSeq m1_1_3 sNil)))
theorem walk1_1 (g : G1 X a) (hn : 1 ≤ n) : RSs X φ n nm1_1 (fnBody PySem.Challenge.pw_wb0001_01 2) body1_1 :=
  RSs_cons (s1_1_0 g hn) (RSs_cons (s1_1_1 g hn) (RSs_cons (s1_1_2 g hn) (RSs_cons (s1_1_3 g hn) RSs_nil)))
noncomputable def sem1_1 : FCall:=fnSem df1_1 full1_1 kap1 body1_1
theorem call1_1 (g : G1 X a) (hn : 2 ≤ n) : CallOk X φ n (a 1) sem1_1:=by
  obtain ⟨m,rfl⟩ : ∃ m,n = m + 1:=⟨n - 1,by omega⟩
  exact FnOk g.O D1_1 g.at_1 g.bind_1 fun env=>walk1_1 g (by omega)
noncomputable def bodyE1_1 : Em:=eIf (mTest (mBin fLt (mLoc 2) (mInt 0))) (eRaise "lo must be non-negative") eNo
theorem walkE1_1 (g : G1 X a) (hn : 1 ≤ n) : RSsE X φ n nm1_1 (fnBody PySem.Challenge.pw_wb0001_01 2) bodyE1_1 :=
  RSsE_head (RSE_if (RB_cmp (RX_loc N1_1 (i:=2) rfl) RX_int Op2_lt) (RSsE_head (RSE_raise g.O N1_1 (i:=0) rfl rfl g.no_ValueError)) RSsE_nil)
noncomputable def semE1_1 : FCallE:=fnSemE df1_1 full1_1 bodyE1_1
theorem callE1_1 (g : G1 X a) (hn : 2 ≤ n) : CallE X φ n (a 1) semE1_1:=by
  obtain ⟨m,rfl⟩ : ∃ m,n = m + 1:=⟨n - 1,by omega⟩
  exact FnOkE g.O D1_1 g.at_1 g.bind_1 fun env=>walkE1_1 g (by omega)

/-! insort_right -/
noncomputable def m1_0_0 : Sm:=sIf (mTest (mUn fIsNone (mLoc 4))) (sSeq (sAssign (.loc 2) (mCall (mFn 1) (dFn 1 sem1_1) (aCons (mLoc 0) (aCons (mLoc 1) (aCons (mLoc 2) (aCons (mLoc 3) aNil)))))) sNil) (sSeq (sAssign (.loc 2) (mCallK (mFn 1) (dFn 1 sem1_1) (aCons (mLoc 0) (aCons (mCall (mLoc 4) dLam1 (aCons (mLoc 1) aNil)) (aCons (mLoc 2) (aCons (mLoc 3) aNil)))) (mLoc 4))) sNil)
theorem s1_0_0 (g : G1 X a) (hn : 2 ≤ n) : RS X φ n nm1_0 (xSt 0 (fnBody PySem.Challenge.pw_wb0001_01 1)) m1_0_0 :=
  RS_if (RB_isNone (RX_loc N1_0 (i:=4) rfl)) (RSs_cons (RS_assign N1_0 (t:=.loc 2) (RX_call (RX_fn g.O N1_0 (i:=0) rfl g.mg_1 g.fn_1) (dFn_ok g.fn_1 g.at_1 (call1_1 g (by omega))) (RXs_cons (RX_loc N1_0 (i:=0) rfl) (RXs_cons (RX_loc N1_0 (i:=1) rfl) (RXs_cons (RX_loc N1_0 (i:=2) rfl) (RXs_cons (RX_loc N1_0 (i:=3) rfl) RXs_nil))))) rfl) RSs_nil) (RSs_cons (RS_assign N1_0 (t:=.loc 2) (RX_callK (RX_fn g.O N1_0 (i:=0) rfl g.mg_1 g.fn_1) (dFn_ok g.fn_1 g.at_1 (call1_1 g (by omega))) (RXs_cons (RX_loc N1_0 (i:=0) rfl) (RXs_cons (RX_call (RX_loc N1_0 (i:=4) rfl) (dLam1_ok g (by omega)) (RXs_cons (RX_loc N1_0 (i:=1) rfl) RXs_nil)) (RXs_cons (RX_loc N1_0 (i:=2) rfl) (RXs_cons (RX_loc N1_0 (i:=3) rfl) RXs_nil)))) (RX_loc N1_0 (i:=4) rfl)) rfl) RSs_nil)
noncomputable def m1_0_1 : Sm:=sExpr (mMeth fInsert (mLoc 0) (aCons (mLoc 2) (aCons (mLoc 1) aNil)))
theorem s1_0_1 (g : G1 X a) (hn : 2 ≤ n) : RS X φ n nm1_0 (xSt 1 (fnBody PySem.Challenge.pw_wb0001_01 1)) m1_0_1 :=
  RS_expr N1_0 (RX_meth LM_insert (RX_loc N1_0 (i:=0) rfl) (RXs_cons (RX_loc N1_0 (i:=2) rfl) (RXs_cons (RX_loc N1_0 (i:=1) rfl) RXs_nil)) OpN_insert)
noncomputable def body1_0 : Sm:=sSeq m1_0_0 (sSeq m1_0_1 sNil)
theorem walk1_0 (g : G1 X a) (hn : 2 ≤ n) : RSs X φ n nm1_0 (fnBody PySem.Challenge.pw_wb0001_01 1) body1_0 :=
  RSs_cons (s1_0_0 g hn) (RSs_cons (s1_0_1 g hn) RSs_nil)
noncomputable def sem1_0 : FCall:=fnSem df1_0 full1_0 kap1 body1_0
theorem call1_0 (g : G1 X a) (hn : 3 ≤ n) : CallOk X φ n (a 0) sem1_0:=by
  obtain ⟨m,rfl⟩ : ∃ m,n = m + 1:=⟨n - 1,by omega⟩
  exact FnOk g.O D1_0 g.at_0 g.bind_0 fun env=>walk1_0 g (by omega)
noncomputable def bodyE1_0 : Em:=eIf (mTest (mUn fIsNone (mLoc 4))) (eCall (mFn 1) (dFnE 1 semE1_1) (aCons (mLoc 0) (aCons (mLoc 1) (aCons (mLoc 2) (aCons (mLoc 3) aNil))))) (eCallK (mFn 1) (dFnE 1 semE1_1) (aCons (mLoc 0) (aCons (mCall (mLoc 4) dLam1 (aCons (mLoc 1) aNil)) (aCons (mLoc 2) (aCons (mLoc 3) aNil)))) (mLoc 4))
theorem walkE1_0 (g : G1 X a) (hn : 2 ≤ n) : RSsE X φ n nm1_0 (fnBody PySem.Challenge.pw_wb0001_01 1) bodyE1_0 :=
  RSsE_head (RSE_if (RB_isNone (RX_loc N1_0 (i:=4) rfl)) (RSsE_head (RSE_assign (RXE_call (RX_fn g.O N1_0 (i:=0) rfl g.mg_1 g.fn_1) (dFnE_ok g.fn_1 g.at_1 (callE1_1 g (by omega))) (RXs_cons (RX_loc N1_0 (i:=0) rfl) (RXs_cons (RX_loc N1_0 (i:=1) rfl) (RXs_cons (RX_loc N1_0 (i:=2) rfl) (RXs_cons (RX_loc N1_0 (i:=3) rfl) RXs_nil))))))) (RSsE_head (RSE_assign (RXE_callK (RX_fn g.O N1_0 (i:=0) rfl g.mg_1 g.fn_1) (dFnE_ok g.fn_1 g.at_1 (callE1_1 g (by omega))) (RXs_cons (RX_loc N1_0 (i:=0) rfl) (RXs_cons (RX_call (RX_loc N1_0 (i:=4) rfl) (dLam1_ok g (by omega)) (RXs_cons (RX_loc N1_0 (i:=1) rfl) RXs_nil)) (RXs_cons (RX_loc N1_0 (i:=2) rfl) (RXs_cons (RX_loc N1_0 (i:=3) rfl) RXs_nil)))) (RX_loc N1_0 (i:=4) rfl)))))
noncomputable def semE1_0 : FCallE:=fnSemE df1_0 full1_0 bodyE1_0
theorem callE1_0 (g : G1 X a) (hn : 3 ≤ n) : CallE X φ n (a 0) semE1_0:=by
  obtain ⟨m,rfl⟩ : ∃ m,n = m + 1:=⟨n - 1,by omega⟩
  exact FnOkE g.O D1_0 g.at_0 g.bind_0 fun env=>walkE1_0 g (by omega)

/-! bisect_left -/
noncomputable def m1_3_0 : Sm:=sIf (mTest (mBin fLt (mLoc 2) (mInt 0))) (sSeq sNo sNil) sNil
theorem s1_3_0 (g : G1 X a) (hn : 1 ≤ n) : RS X φ n nm1_3 (xSt 0 (fnBody PySem.Challenge.pw_wb0001_01 4)) m1_3_0 :=
  RS_if (RB_cmp (RX_loc N1_3 (i:=2) rfl) RX_int Op2_lt) (RSs_cons RS_no RSs_nil) RSs_nil
noncomputable def m1_3_1 : Sm:=sIf (mTest (mUn fIsNone (mLoc 3))) (sSeq (sAssign (.loc 3) (mArgs fLen (aCons (mLoc 0) aNil))) sNil) sNil
theorem s1_3_1 (g : G1 X a) (hn : 1 ≤ n) : RS X φ n nm1_3 (xSt 1 (fnBody PySem.Challenge.pw_wb0001_01 4)) m1_3_1 :=
  RS_if (RB_isNone (RX_loc N1_3 (i:=3) rfl)) (RSs_cons (RS_assign N1_3 (t:=.loc 3) (RX_bi g.O N1_3 (i:=1) rfl g.no_len Boot.«len» (RXs_cons (RX_loc N1_3 (i:=0) rfl) RXs_nil) OpN_len) rfl) RSs_nil) RSs_nil
noncomputable def m1_3_2 : Sm:=sIf (mTest (mUn fIsNone (mLoc 4))) (sSeq (sWhile 1000 (mTest (mBin fLt (mLoc 2) (mLoc 3))) (sSeq (sAssign (.loc 5) (mBin fDiv (mBin fAdd (mLoc 2) (mLoc 3)) (mInt 2))) (sSeq (sIf (mTest (mBin fLt (mBin fItem (mLoc 0) (mLoc 5)) (mLoc 1))) (sSeq (sAssign (.loc 2) (mBin fAdd (mLoc 5) (mInt 1))) sNil) (sSeq (sAssign (.loc 3) (mLoc 5)) sNil)) sNil))) sNil) (sSeq (sWhile 1000 (mTest (mBin fLt (mLoc 2) (mLoc 3))) (sSeq (sAssign (.loc 5) (mBin fDiv (mBin fAdd (mLoc 2) (mLoc 3)) (mInt 2))) (sSeq (sIf (mTest (mBin fLt (mCall (mLoc 4) dLam1 (aCons (mBin fItem (mLoc 0) (mLoc 5)) aNil)) (mLoc 1))) (sSeq (sAssign (.loc 2) (mBin fAdd (mLoc 5) (mInt 1))) sNil) (sSeq (sAssign (.loc 3) (mLoc 5)) sNil)) sNil))) sNil)
theorem s1_3_2 (g : G1 X a) (hn : 1 ≤ n) : RS X φ n nm1_3 (xSt 2 (fnBody PySem.Challenge.pw_wb0001_01 4)) m1_3_2 :=
  RS_if (RB_isNone (RX_loc N1_3 (i:=4) rfl)) (RSs_cons (RS_while (fuel:=1000) (RB_cmp (RX_loc N1_3 (i:=2) rfl) (RX_loc N1_3 (i:=3) rfl) Op2_lt) (RSs_cons (RS_assign N1_3 (t:=.loc 5) (RX_bin (RX_bin (RX_loc N1_3 (i:=2) rfl) (RX_loc N1_3 (i:=3) rfl) Op2_add) RX_int Op2_div) rfl) (RSs_cons (RS_if (RB_cmp (RX_item (RX_loc N1_3 (i:=0) rfl) (RX_loc N1_3 (i:=5) rfl)) (RX_loc N1_3 (i:=1) rfl) Op2_lt) (RSs_cons (RS_assign N1_3 (t:=.loc 2) (RX_bin (RX_loc N1_3 (i:=5) rfl) RX_int Op2_add) rfl) RSs_nil) (RSs_cons (RS_assign N1_3 (t:=.loc 3) (RX_loc N1_3 (i:=5) rfl) rfl) RSs_nil)) RSs_nil))) RSs_nil) (RSs_cons (RS_while (fuel:=1000) (RB_cmp (RX_loc N1_3 (i:=2) rfl) (RX_loc N1_3 (i:=3) rfl) Op2_lt) (RSs_cons (RS_assign N1_3 (t:=.loc 5) (RX_bin (RX_bin (RX_loc N1_3 (i:=2) rfl) (RX_loc N1_3 (i:=3) rfl) Op2_add) RX_int Op2_div) rfl) (RSs_cons (RS_if (RB_cmp (RX_call (RX_loc N1_3 (i:=4) rfl) (dLam1_ok g (by omega)) (RXs_cons (RX_item (RX_loc N1_3 (i:=0) rfl) (RX_loc N1_3 (i:=5) rfl)) RXs_nil)) (RX_loc N1_3 (i:=1) rfl) Op2_lt) (RSs_cons (RS_assign N1_3 (t:=.loc 2) (RX_bin (RX_loc N1_3 (i:=5) rfl) RX_int Op2_add) rfl) RSs_nil) (RSs_cons (RS_assign N1_3 (t:=.loc 3) (RX_loc N1_3 (i:=5) rfl) rfl) RSs_nil)) RSs_nil))) RSs_nil)
noncomputable def m1_3_3 : Sm:=sRet (mLoc 2)
theorem s1_3_3 (g : G1 X a) (hn : 1 ≤ n) : RS X φ n nm1_3 (xSt 3 (fnBody PySem.Challenge.pw_wb0001_01 4)) m1_3_3 :=
  RS_ret (RX_loc N1_3 (i:=2) rfl)
noncomputable def body1_3 : Sm:=sSeq m1_3_0 (sSeq m1_3_1 (sSeq m1_3_2 (sSeq m1_3_3 sNil)))
theorem walk1_3 (g : G1 X a) (hn : 1 ≤ n) : RSs X φ n nm1_3 (fnBody PySem.Challenge.pw_wb0001_01 4) body1_3 :=
  RSs_cons (s1_3_0 g hn) (RSs_cons (s1_3_1 g hn) (RSs_cons (s1_3_2 g hn) (RSs_cons (s1_3_3 g hn) RSs_nil)))
noncomputable def sem1_3 : FCall:=fnSem df1_3 full1_3 kap1 body1_3
theorem call1_3 (g : G1 X a) (hn : 2 ≤ n) : CallOk X φ n (a 3) sem1_3:=by
  obtain ⟨m,rfl⟩ : ∃ m,n = m + 1:=⟨n - 1,by omega⟩
  exact FnOk g.O D1_3 g.at_3 g.bind_3 fun env=>walk1_3 g (by omega)
noncomputable def bodyE1_3 : Em:=eIf (mTest (mBin fLt (mLoc 2) (mInt 0))) (eRaise "lo must be non-negative") eNo
theorem walkE1_3 (g : G1 X a) (hn : 1 ≤ n) : RSsE X φ n nm1_3 (fnBody PySem.Challenge.pw_wb0001_01 4) bodyE1_3 :=
  RSsE_head (RSE_if (RB_cmp (RX_loc N1_3 (i:=2) rfl) RX_int Op2_lt) (RSsE_head (RSE_raise g.O N1_3 (i:=0) rfl rfl g.no_ValueError)) RSsE_nil)
noncomputable def semE1_3 : FCallE:=fnSemE df1_3 full1_3 bodyE1_3
theorem callE1_3 (g : G1 X a) (hn : 2 ≤ n) : CallE X φ n (a 3) semE1_3:=by
  obtain ⟨m,rfl⟩ : ∃ m,n = m + 1:=⟨n - 1,by omega⟩
  exact FnOkE g.O D1_3 g.at_3 g.bind_3 fun env=>walkE1_3 g (by omega)

/-! insort_left -/
noncomputable def m1_2_0 : Sm:=sIf (mTest (mUn fIsNone (mLoc 4))) (sSeq (sAssign (.loc 2) (mCall (mFn 3) (dFn 3 sem1_3) (aCons (mLoc 0) (aCons (mLoc 1) (aCons (mLoc 2) (aCons (mLoc 3) aNil)))))) sNil) (sSeq (sAssign (.loc 2) (mCallK (mFn 3) (dFn 3 sem1_3) (aCons (mLoc 0) (aCons (mCall (mLoc 4) dLam1 (aCons (mLoc 1) aNil)) (aCons (mLoc 2) (aCons (mLoc 3) aNil)))) (mLoc 4))) sNil)
theorem s1_2_0 (g : G1 X a) (hn : 2 ≤ n) : RS X φ n nm1_2 (xSt 0 (fnBody PySem.Challenge.pw_wb0001_01 3)) m1_2_0 :=
  RS_if (RB_isNone (RX_loc N1_2 (i:=4) rfl)) (RSs_cons (RS_assign N1_2 (t:=.loc 2) (RX_call (RX_fn g.O N1_2 (i:=0) rfl g.mg_3 g.fn_3) (dFn_ok g.fn_3 g.at_3 (call1_3 g (by omega))) (RXs_cons (RX_loc N1_2 (i:=0) rfl) (RXs_cons (RX_loc N1_2 (i:=1) rfl) (RXs_cons (RX_loc N1_2 (i:=2) rfl) (RXs_cons (RX_loc N1_2 (i:=3) rfl) RXs_nil))))) rfl) RSs_nil) (RSs_cons (RS_assign N1_2 (t:=.loc 2) (RX_callK (RX_fn g.O N1_2 (i:=0) rfl g.mg_3 g.fn_3) (dFn_ok g.fn_3 g.at_3 (call1_3 g (by omega))) (RXs_cons (RX_loc N1_2 (i:=0) rfl) (RXs_cons (RX_call (RX_loc N1_2 (i:=4) rfl) (dLam1_ok g (by omega)) (RXs_cons (RX_loc N1_2 (i:=1) rfl) RXs_nil)) (RXs_cons (RX_loc N1_2 (i:=2) rfl) (RXs_cons (RX_loc N1_2 (i:=3) rfl) RXs_nil)))) (RX_loc N1_2 (i:=4) rfl)) rfl) RSs_nil)
noncomputable def m1_2_1 : Sm:=sExpr (mMeth fInsert (mLoc 0) (aCons (mLoc 2) (aCons (mLoc 1) aNil)))
theorem s1_2_1 (g : G1 X a) (hn : 2 ≤ n) : RS X φ n nm1_2 (xSt 1 (fnBody PySem.Challenge.pw_wb0001_01 3)) m1_2_1 :=
  RS_expr N1_2 (RX_meth LM_insert (RX_loc N1_2 (i:=0) rfl) (RXs_cons (RX_loc N1_2 (i:=2) rfl) (RXs_cons (RX_loc N1_2 (i:=1) rfl) RXs_nil)) OpN_insert)
noncomputable def body1_2 : Sm:=sSeq m1_2_0 (sSeq m1_2_1 sNil)
theorem walk1_2 (g : G1 X a) (hn : 2 ≤ n) : RSs X φ n nm1_2 (fnBody PySem.Challenge.pw_wb0001_01 3) body1_2 :=
  RSs_cons (s1_2_0 g hn) (RSs_cons (s1_2_1 g hn) RSs_nil)
noncomputable def sem1_2 : FCall:=fnSem df1_2 full1_2 kap1 body1_2
theorem call1_2 (g : G1 X a) (hn : 3 ≤ n) : CallOk X φ n (a 2) sem1_2:=by
  obtain ⟨m,rfl⟩ : ∃ m,n = m + 1:=⟨n - 1,by omega⟩
  exact FnOk g.O D1_2 g.at_2 g.bind_2 fun env=>walk1_2 g (by omega)
noncomputable def bodyE1_2 : Em:=eIf (mTest (mUn fIsNone (mLoc 4))) (eCall (mFn 3) (dFnE 3 semE1_3) (aCons (mLoc 0) (aCons (mLoc 1) (aCons (mLoc 2) (aCons (mLoc 3) aNil))))) (eCallK (mFn 3) (dFnE 3 semE1_3) (aCons (mLoc 0) (aCons (mCall (mLoc 4) dLam1 (aCons (mLoc 1) aNil)) (aCons (mLoc 2) (aCons (mLoc 3) aNil)))) (mLoc 4))
theorem walkE1_2 (g : G1 X a) (hn : 2 ≤ n) : RSsE X φ n nm1_2 (fnBody PySem.Challenge.pw_wb0001_01 3) bodyE1_2 :=
  RSsE_head (RSE_if (RB_isNone (RX_loc N1_2 (i:=4) rfl)) (RSsE_head (RSE_assign (RXE_call (RX_fn g.O N1_2 (i:=0) rfl g.mg_3 g.fn_3) (dFnE_ok g.fn_3 g.at_3 (callE1_3 g (by omega))) (RXs_cons (RX_loc N1_2 (i:=0) rfl) (RXs_cons (RX_loc N1_2 (i:=1) rfl) (RXs_cons (RX_loc N1_2 (i:=2) rfl) (RXs_cons (RX_loc N1_2 (i:=3) rfl) RXs_nil))))))) (RSsE_head (RSE_assign (RXE_callK (RX_fn g.O N1_2 (i:=0) rfl g.mg_3 g.fn_3) (dFnE_ok g.fn_3 g.at_3 (callE1_3 g (by omega))) (RXs_cons (RX_loc N1_2 (i:=0) rfl) (RXs_cons (RX_call (RX_loc N1_2 (i:=4) rfl) (dLam1_ok g (by omega)) (RXs_cons (RX_loc N1_2 (i:=1) rfl) RXs_nil)) (RXs_cons (RX_loc N1_2 (i:=2) rfl) (RXs_cons (RX_loc N1_2 (i:=3) rfl) RXs_nil)))) (RX_loc N1_2 (i:=4) rfl)))))
noncomputable def semE1_2 : FCallE:=fnSemE df1_2 full1_2 bodyE1_2
theorem callE1_2 (g : G1 X a) (hn : 3 ≤ n) : CallE X φ n (a 2) semE1_2:=by
  obtain ⟨m,rfl⟩ : ∃ m,n = m + 1:=⟨n - 1,by omega⟩
  exact FnOkE g.O D1_2 g.at_2 g.bind_2 fun env=>walkE1_2 g (by omega)
noncomputable def dAll1 : V → Option FCall:=dOr (dFn 0 sem1_0) (dOr (dFn 1 sem1_1) (dOr (dFn 2 sem1_2) (dFn 3 sem1_3)))
theorem dAll1_ok (g : G1 X a) (hn : 3 ≤ n) : ∀ v f,dAll1 v = some f → CallV X φ n v f:=(dOr_ok (dFn_ok g.fn_0 g.at_0 (call1_0 g (by omega))) (dOr_ok (dFn_ok g.fn_1 g.at_1 (call1_1 g (by omega))) (dOr_ok (dFn_ok g.fn_2 g.at_2 (call1_2 g (by omega))) (dFn_ok g.fn_3 g.at_3 (call1_3 g (by omega))))))
noncomputable def dAllE1 : V → Option FCallE:=dOrE (dFnE 0 semE1_0) (dOrE (dFnE 1 semE1_1) (dOrE (dFnE 2 semE1_2) (dFnE 3 semE1_3)))
theorem dAllE1_ok (g : G1 X a) (hn : 3 ≤ n) : ∀ v f,dAllE1 v = some f → CallVE X φ n v f:=(dOrE_ok (dFnE_ok g.fn_0 g.at_0 (callE1_0 g (by omega))) (dOrE_ok (dFnE_ok g.fn_1 g.at_1 (callE1_1 g (by omega))) (dOrE_ok (dFnE_ok g.fn_2 g.at_2 (callE1_2 g (by omega))) (dFnE_ok g.fn_3 g.at_3 (callE1_3 g (by omega))))))

/-! _law_joined -/
noncomputable def cnm1_4_0 : Nm:={ scope:=relabelS (lcScope (sValue (xSt 0 (sBody (xSt 2 (fnBody PySem.Challenge.pw_wb0001_01 6)))))) nm1_4.scope,loc:=["claim"],cel:=["total","estate","count"],glb:=[],qual:="_law_joined.<locals>.",tab:=1000 }
theorem cN1_4_0 : NmOk cnm1_4_0:=.of (by decide +kernel)
theorem cAt1_4_0 : CompAt nm1_4 cnm1_4_0 (lcScope (sValue (xSt 0 (sBody (xSt 2 (fnBody PySem.Challenge.pw_wb0001_01 6)))))) [2,0,1]:=⟨rfl,rfl,rfl,rfl,rfl,by decide +kernel,rfl,by decide +kernel⟩
noncomputable def m1_4_0 (r : FCall) : Sm:=sUnpack (putTup [.cel 1,.cel 2]) (mTup (aCons (mArgs fLen (aCons (mLoc 0) aNil)) (aCons (mArgs fSum (aCons (mLoc 0) aNil)) aNil)))
theorem s1_4_0 (g : G1 X a) {r : FCall} (hr : ∀ φ,CallOk X φ n (a 4) r) (hn : 0 ≤ n) : RS X φ n nm1_4 (xSt 0 (fnBody PySem.Challenge.pw_wb0001_01 6)) (m1_4_0 r) :=
  RS_unpack (RX_tup (RXs_cons (RX_bi g.O N1_4 (i:=0) rfl g.no_len Boot.«len» (RXs_cons (RX_loc N1_4 (i:=0) rfl) RXs_nil) OpN_len) (RXs_cons (RX_bi g.O N1_4 (i:=1) rfl g.no_sum Boot.«sum» (RXs_cons (RX_loc N1_4 (i:=0) rfl) RXs_nil) OpN_sum) RXs_nil))) (RT_tup N1_4 (xs:=[(_,_),(_,_)]) (ts:=[.cel 1,.cel 2]) (.cons ⟨rfl,rfl⟩ (.cons ⟨rfl,rfl⟩ .nil)))
noncomputable def m1_4_1 (r : FCall) : Sm:=sIf (mTest (mBin fLe (mBin fMul (mInt 2) (mCel 0)) (mBin fMul (mCel 1) (mBin fItem (mLoc 0) (mInt 0))))) (sSeq (sRet (mBin fRep (mList (aCons (mBin fDiv (mCel 0) (mCel 1)) aNil)) (mCel 1))) sNil) sNil
theorem s1_4_1 (g : G1 X a) {r : FCall} (hr : ∀ φ,CallOk X φ n (a 4) r) (hn : 0 ≤ n) : RS X φ n nm1_4 (xSt 1 (fnBody PySem.Challenge.pw_wb0001_01 6)) (m1_4_1 r) :=
  RS_if (RB_cmp (RX_bin RX_int (RX_cel N1_4 (i:=0) rfl) Op2_mul) (RX_bin (RX_cel N1_4 (i:=1) rfl) (RX_item (RX_loc N1_4 (i:=0) rfl) RX_int) Op2_mul) Op2_le) (RSs_cons (RS_ret (RX_bin (RX_list (RXs_cons (RX_bin (RX_cel N1_4 (i:=0) rfl) (RX_cel N1_4 (i:=1) rfl) Op2_div) RXs_nil)) (RX_cel N1_4 (i:=1) rfl) Op2_rep)) RSs_nil) RSs_nil
noncomputable def m1_4_2 (r : FCall) : Sm:=sIf (mTest (mBin fLe (mBin fMul (mInt 2) (mBin fSub (mCel 2) (mCel 0))) (mBin fMul (mCel 1) (mBin fItem (mLoc 0) (mInt 0))))) (sSeq (sRet (mCompI 1000 1 [2,0,1] (putL 0) (iPlain (mLoc 0)) (mConst true) (cElt (mBin fSub (mLoc 0) (mBin fDiv (mBin fSub (mCel 0) (mCel 1)) (mCel 2)))))) sNil) sNil
theorem s1_4_2 (g : G1 X a) {r : FCall} (hr : ∀ φ,CallOk X φ n (a 4) r) (hn : 0 ≤ n) : RS X φ n nm1_4 (xSt 2 (fnBody PySem.Challenge.pw_wb0001_01 6)) (m1_4_2 r) :=
  RS_if (RB_cmp (RX_bin RX_int (RX_bin (RX_cel N1_4 (i:=2) rfl) (RX_cel N1_4 (i:=0) rfl) Op2_sub) Op2_mul) (RX_bin (RX_cel N1_4 (i:=1) rfl) (RX_item (RX_loc N1_4 (i:=0) rfl) RX_int) Op2_mul) Op2_le) (RSs_cons (RS_ret (RX_compI (by decide) cAt1_4_0 cN1_4_0 (RIt_plain (RX_loc N1_4 (i:=0) rfl)) (RTL_name cN1_4_0 (i:=0) rfl) RIf_nil (RCm_elt (RX_bin (RX_loc cN1_4_0 (i:=0) rfl) (RX_bin (RX_bin (RX_cel cN1_4_0 (i:=0) rfl) (RX_cel cN1_4_0 (i:=1) rfl) Op2_sub) (RX_cel cN1_4_0 (i:=2) rfl) Op2_div) Op2_sub) rfl))) RSs_nil) RSs_nil
noncomputable def m1_4_3 (r : FCall) : Sm:=sRet (mBin fCat (mList (aCons (mBin fDiv (mBin fItem (mLoc 0) (mInt 0)) (mInt 2)) aNil)) (mCall (mFn 4) (dFn 4 r) (aCons (mSlice (mLoc 0) (mInt 1) mNone mNone) (aCons (mBin fSub (mCel 0) (mBin fDiv (mBin fItem (mLoc 0) (mInt 0)) (mInt 2))) aNil))))
theorem s1_4_3 (g : G1 X a) {r : FCall} (hr : ∀ φ,CallOk X φ n (a 4) r) (hn : 0 ≤ n) : RS X φ n nm1_4 (xSt 3 (fnBody PySem.Challenge.pw_wb0001_01 6)) (m1_4_3 r) :=
  RS_ret (RX_bin (RX_list (RXs_cons (RX_bin (RX_item (RX_loc N1_4 (i:=0) rfl) RX_int) RX_int Op2_div) RXs_nil)) (RX_call (RX_fn g.O N1_4 (i:=2) rfl g.mg_4 g.fn_4) (dFn_ok g.fn_4 g.at_4 (hr _)) (RXs_cons (RX_slice (RX_loc N1_4 (i:=0) rfl) RX_int rfl rfl) (RXs_cons (RX_bin (RX_cel N1_4 (i:=0) rfl) (RX_bin (RX_item (RX_loc N1_4 (i:=0) rfl) RX_int) RX_int Op2_div) Op2_sub) RXs_nil))) Op2_cat)
noncomputable def body1_4 (r : FCall) : Sm:=sSeq (m1_4_0 r) (sSeq (m1_4_1 r) (sSeq (m1_4_2 r) (sSeq (m1_4_3 r) sNil)))
theorem walk1_4 (g : G1 X a) {r : FCall} (hr : ∀ φ,CallOk X φ n (a 4) r) (hn : 0 ≤ n) : RSs X φ n nm1_4 (fnBody PySem.Challenge.pw_wb0001_01 6) (body1_4 r) :=
  RSs_cons (s1_4_0 g hr hn) (RSs_cons (s1_4_1 g hr hn) (RSs_cons (s1_4_2 g hr hn) (RSs_cons (s1_4_3 g hr hn) RSs_nil)))
noncomputable def sem1_4 : Nat → FCall
  | 0=>fun _ _ _ _=>none
  | f + 1=>fnSem df1_4 full1_4 kap1 (body1_4 (sem1_4 f))
theorem call1_4 (g : G1 X a) : ∀ (f : Nat) {n : Nat} {φ : List Env},f + 0 ≤ n → CallOk X φ n (a 4) (sem1_4 f)
  | 0,_,_,_=>fun A s μ ν H C xs kws vs kv v H' hA R rxs rk em=>by cases em
  | f + 1,n,φ,hn=>by
    obtain ⟨m,rfl⟩ : ∃ m,n = m + 1:=⟨n - 1,by omega⟩
    exact FnOk g.O D1_4 g.at_4 g.bind_4 fun env=>walk1_4 g (fun φ=>call1_4 g f (by omega)) (by omega)

/-! _law_row -/
theorem lamAt1_0 (g : G1 X a) : LamAt X nm1_5 0 lam1_0 (lamArgs (kKw 0 (sValue (xSt 0 (sBody (xSt 0 (sBody (xSt 1 (fnBody PySem.Challenge.pw_wb0001_01 7))))))))) (lamBody (kKw 0 (sValue (xSt 0 (sBody (xSt 0 (sBody (xSt 1 (fnBody PySem.Challenge.pw_wb0001_01 7))))))))) (lamScope (kKw 0 (sValue (xSt 0 (sBody (xSt 0 (sBody (xSt 1 (fnBody PySem.Challenge.pw_wb0001_01 7))))))))) [0]:=⟨g.lam_0,rfl,rfl,rfl,by decide +kernel,rfl,by decide +kernel,rfl,g.tab_5⟩
theorem lamAt1_1 (g : G1 X a) : LamAt X nm1_5 1 lam1_1 (lamArgs (kKw 0 (sValue (xSt 0 (sElse (xSt 0 (sBody (xSt 1 (fnBody PySem.Challenge.pw_wb0001_01 7))))))))) (lamBody (kKw 0 (sValue (xSt 0 (sElse (xSt 0 (sBody (xSt 1 (fnBody PySem.Challenge.pw_wb0001_01 7))))))))) (lamScope (kKw 0 (sValue (xSt 0 (sElse (xSt 0 (sBody (xSt 1 (fnBody PySem.Challenge.pw_wb0001_01 7))))))))) [0]:=⟨g.lam_1,rfl,rfl,rfl,by decide +kernel,rfl,by decide +kernel,rfl,g.tab_5⟩
noncomputable def m1_5_0 : Sm:=sAssign (.loc 1) (mList aNil)
theorem s1_5_0 (g : G1 X a) (hn : 3 ≤ n) : RS X φ n nm1_5 (xSt 0 (fnBody PySem.Challenge.pw_wb0001_01 7)) m1_5_0 :=
  RS_assign N1_5 (t:=.loc 1) (RX_list RXs_nil) rfl
noncomputable def m1_5_1 : Sm:=sFor 1000 (.loc 2) (mArgs fRange3 (aCons (mArgs fLen (aCons (mCel 0) aNil)) aNil)) (sSeq (sIf (mTest (mBin fEqI (mLoc 0) (mInt 0))) (sSeq (sExpr (mCallK (mFn 2) (dFn 2 sem1_2) (aCons (mLoc 1) (aCons (mLoc 2) aNil)) (mLam 0 [0]))) sNil) (sSeq (sExpr (mCallK (mFn 0) (dFn 0 sem1_0) (aCons (mLoc 1) (aCons (mLoc 2) aNil)) (mLam 1 [0]))) sNil)) sNil)
theorem s1_5_1 (g : G1 X a) (hn : 3 ≤ n) : RS X φ n nm1_5 (xSt 1 (fnBody PySem.Challenge.pw_wb0001_01 7)) m1_5_1 :=
  RS_for N1_5 (fuel:=1000) (t:=.loc 2) (RX_ty g.O N1_5 (i:=0) rfl g.no_range Boot.«range» (RXs_cons (RX_bi g.O N1_5 (i:=1) rfl g.no_len Boot.«len» (RXs_cons (RX_cel N1_5 (i:=0) rfl) RXs_nil) OpN_len) RXs_nil) OpN_range3) rfl (RSs_cons (RS_if (RB_cmp (RX_loc N1_5 (i:=0) rfl) RX_int Op2_eqI) (RSs_cons (RS_expr N1_5 (RX_callK (RX_fn g.O N1_5 (i:=2) rfl g.mg_2 g.fn_2) (dFn_ok g.fn_2 g.at_2 (call1_2 g (by omega))) (RXs_cons (RX_loc N1_5 (i:=1) rfl) (RXs_cons (RX_loc N1_5 (i:=2) rfl) RXs_nil)) (RX_lam g.O g.OT (lamAt1_0 g)))) RSs_nil) (RSs_cons (RS_expr N1_5 (RX_callK (RX_fn g.O N1_5 (i:=3) rfl g.mg_0 g.fn_0) (dFn_ok g.fn_0 g.at_0 (call1_0 g (by omega))) (RXs_cons (RX_loc N1_5 (i:=1) rfl) (RXs_cons (RX_loc N1_5 (i:=2) rfl) RXs_nil)) (RX_lam g.O g.OT (lamAt1_1 g)))) RSs_nil)) RSs_nil)
noncomputable def m1_5_2 : Sm:=sRet (mLoc 1)
theorem s1_5_2 (g : G1 X a) (hn : 3 ≤ n) : RS X φ n nm1_5 (xSt 2 (fnBody PySem.Challenge.pw_wb0001_01 7)) m1_5_2 :=
  RS_ret (RX_loc N1_5 (i:=1) rfl)
noncomputable def body1_5 : Sm:=sSeq m1_5_0 (sSeq m1_5_1 (sSeq m1_5_2 sNil))
theorem walk1_5 (g : G1 X a) (hn : 3 ≤ n) : RSs X φ n nm1_5 (fnBody PySem.Challenge.pw_wb0001_01 7) body1_5 :=
  RSs_cons (s1_5_0 g hn) (RSs_cons (s1_5_1 g hn) (RSs_cons (s1_5_2 g hn) RSs_nil))
noncomputable def sem1_5 : FCall:=fnSem df1_5 full1_5 kap1 body1_5
theorem call1_5 (g : G1 X a) (hn : 4 ≤ n) : CallOk X φ n (a 5) sem1_5:=by
  obtain ⟨m,rfl⟩ : ∃ m,n = m + 1:=⟨n - 1,by omega⟩
  exact FnOk g.O D1_5 g.at_5 g.bind_5 fun env=>walk1_5 g (by omega)

/-! _law_taken -/
noncomputable def cnm1_6_0 : Nm:={ scope:=relabelS (lcScope (sValue (xSt 0 (fnBody PySem.Challenge.pw_wb0001_01 8)))) nm1_6.scope,loc:=[],cel:=["most","claims"],glb:=["sum"],qual:="_law_taken.<locals>.",tab:=1000 }
theorem cN1_6_0 : NmOk cnm1_6_0:=.of (by decide +kernel)
theorem cAt1_6_0 : CompAtC nm1_6 cnm1_6_0 (lcScope (sValue (xSt 0 (fnBody PySem.Challenge.pw_wb0001_01 8)))) "most" [0]:=⟨rfl,rfl,rfl,rfl,rfl,fun _ _=>rfl,fun _=>rfl,rfl,by decide +kernel,by decide +kernel⟩
noncomputable def cnm1_6_1 : Nm:={ scope:=relabelS (lcScope (xNth 0 (kArgs (lcElt (sValue (xSt 0 (fnBody PySem.Challenge.pw_wb0001_01 8))))))) cnm1_6_0.scope,loc:=["claim"],cel:=["most"],glb:=["min"],qual:="_law_taken.<locals>.",tab:=1000 }
theorem cN1_6_1 : NmOk cnm1_6_1:=.of (by decide +kernel)
theorem cAt1_6_1 : CompAt cnm1_6_0 cnm1_6_1 (lcScope (xNth 0 (kArgs (lcElt (sValue (xSt 0 (fnBody PySem.Challenge.pw_wb0001_01 8))))))) [0]:=⟨rfl,rfl,rfl,rfl,rfl,by decide +kernel,rfl,by decide +kernel⟩
noncomputable def m1_6_0 : Sm:=sRet (mCompC 1000 0 [0] (putO 0) (iPlain (mCel 0)) (mConst true) (cElt (mArgs fSum (aCons (mCompI 1000 1 [0] (putL 0) (iPlain (mCel 1)) (mConst true) (cElt (mBin fDiv (mArgs fMin2 (aCons (mLoc 0) (aCons (mCel 0) aNil))) (mInt 2)))) aNil))))
theorem s1_6_0 (g : G1 X a) (hn : 0 ≤ n) : RS X φ n nm1_6 (xSt 0 (fnBody PySem.Challenge.pw_wb0001_01 8)) m1_6_0 :=
  RS_ret (RX_compC (by decide) cAt1_6_0 cN1_6_0 (RIt_plain (RX_cel N1_6 (i:=0) rfl)) (RTO_cell cN1_6_0 (i:=0) rfl (by decide +kernel)) RIf_nil (RCm_elt (RX_bi g.O cN1_6_0 (i:=0) rfl g.no_sum Boot.«sum» (RXs_cons (RX_compI (by decide) cAt1_6_1 cN1_6_1 (RIt_plain (RX_cel cN1_6_0 (i:=1) rfl)) (RTL_name cN1_6_1 (i:=0) rfl) RIf_nil (RCm_elt (RX_bin (RX_bi g.O cN1_6_1 (i:=0) rfl g.no_min Boot.«min» (RXs_cons (RX_loc cN1_6_1 (i:=0) rfl) (RXs_cons (RX_cel cN1_6_1 (i:=0) rfl) RXs_nil)) OpN_min2) RX_int Op2_div) rfl)) RXs_nil) OpN_sum) rfl))
noncomputable def body1_6 : Sm:=sSeq m1_6_0 sNil
theorem walk1_6 (g : G1 X a) (hn : 0 ≤ n) : RSs X φ n nm1_6 (fnBody PySem.Challenge.pw_wb0001_01 8) body1_6 :=
  RSs_cons (s1_6_0 g hn) RSs_nil
noncomputable def sem1_6 : FCall:=fnSem df1_6 full1_6 kap1 body1_6
theorem call1_6 (g : G1 X a) (hn : 1 ≤ n) : CallOk X φ n (a 6) sem1_6:=by
  obtain ⟨m,rfl⟩ : ∃ m,n = m + 1:=⟨n - 1,by omega⟩
  exact FnOk g.O D1_6 g.at_6 g.bind_6 fun env=>walk1_6 g (by omega)

/-! _law_shared -/
noncomputable def cnm1_7_0 : Nm:={ scope:=relabelS (lcScope (xNth 0 (kArgs (bRight (bLeft (sValue (xSt 2 (fnBody PySem.Challenge.pw_wb0001_01 9)))))))) nm1_7.scope,loc:=["place"],cel:=["claims"],glb:=[],qual:="_law_shared.<locals>.",tab:=1 }
theorem cN1_7_0 : NmOk cnm1_7_0:=.of (by decide +kernel)
theorem cAt1_7_0 : CompAt nm1_7 cnm1_7_0 (lcScope (xNth 0 (kArgs (bRight (bLeft (sValue (xSt 2 (fnBody PySem.Challenge.pw_wb0001_01 9)))))))) [0]:=⟨rfl,rfl,rfl,rfl,rfl,by decide +kernel,rfl,by decide +kernel⟩
noncomputable def cnm1_7_1 : Nm:={ scope:=relabelS (lcScope (sValue (xSt 3 (fnBody PySem.Challenge.pw_wb0001_01 9)))) nm1_7.scope,loc:=["claim"],cel:=["level"],glb:=["min"],qual:="_law_shared.<locals>.",tab:=1 }
theorem cN1_7_1 : NmOk cnm1_7_1:=.of (by decide +kernel)
theorem cAt1_7_1 : CompAt nm1_7 cnm1_7_1 (lcScope (sValue (xSt 3 (fnBody PySem.Challenge.pw_wb0001_01 9)))) [1]:=⟨rfl,rfl,rfl,rfl,rfl,by decide +kernel,rfl,by decide +kernel⟩
noncomputable def cnm1_7_2 : Nm:={ scope:=relabelS (lcScope (iElse (sValue (xSt 4 (fnBody PySem.Challenge.pw_wb0001_01 9))))) nm1_7.scope,loc:=["claim","lost"],cel:=[],glb:=[],qual:="_law_shared.<locals>.",tab:=1 }
theorem cN1_7_2 : NmOk cnm1_7_2:=.of (by decide +kernel)
theorem cAt1_7_2 : CompAt nm1_7 cnm1_7_2 (lcScope (iElse (sValue (xSt 4 (fnBody PySem.Challenge.pw_wb0001_01 9))))) []:=⟨rfl,rfl,rfl,rfl,rfl,by decide +kernel,rfl,by decide +kernel⟩
theorem lamAt1_2 (g : G1 X a) : LamAt X nm1_7 2 lam1_2 (lamArgs (kKw 0 (sValue (xSt 0 (sBody (xSt 1 (fnBody PySem.Challenge.pw_wb0001_01 9))))))) (lamBody (kKw 0 (sValue (xSt 0 (sBody (xSt 1 (fnBody PySem.Challenge.pw_wb0001_01 9))))))) (lamScope (kKw 0 (sValue (xSt 0 (sBody (xSt 1 (fnBody PySem.Challenge.pw_wb0001_01 9))))))) [2]:=⟨g.lam_2,rfl,rfl,rfl,by decide +kernel,rfl,by decide +kernel,rfl,g.tab_7⟩
theorem lamAt1_3 (g : G1 X a) : LamAt X nm1_7 3 lam1_3 (lamArgs (kKw 0 (sValue (xSt 0 (sElse (xSt 1 (fnBody PySem.Challenge.pw_wb0001_01 9))))))) (lamBody (kKw 0 (sValue (xSt 0 (sElse (xSt 1 (fnBody PySem.Challenge.pw_wb0001_01 9))))))) (lamScope (kKw 0 (sValue (xSt 0 (sElse (xSt 1 (fnBody PySem.Challenge.pw_wb0001_01 9))))))) [2]:=⟨g.lam_3,rfl,rfl,rfl,by decide +kernel,rfl,by decide +kernel,rfl,g.tab_7⟩
noncomputable def m1_7_0 : Sm:=sUnpack (putTup [.loc 2,.loc 3,.cel 2,.loc 4]) (mTup (aCons (mCall (mFn 5) (dFn 5 sem1_5) (aCons (mCel 0) (aCons (mLoc 1) aNil))) (aCons (mArgs fMin2 (aCons (mLoc 0) (aCons (mBin fSub (mArgs fSum (aCons (mCel 0) aNil)) (mLoc 0)) aNil))) (aCons (mCall (mFn 6) (dFn 6 sem1_6) (aCons (mCel 0) aNil)) (aCons (mBin fSub (mArgs fLen (aCons (mCel 0) aNil)) (mInt 1)) aNil)))))
theorem s1_7_0 (g : G1 X a) (hn : 4 ≤ n) : RS X φ n nm1_7 (xSt 0 (fnBody PySem.Challenge.pw_wb0001_01 9)) m1_7_0 :=
  RS_unpack (RX_tup (RXs_cons (RX_call (RX_fn g.O N1_7 (i:=0) rfl g.mg_5 g.fn_5) (dFn_ok g.fn_5 g.at_5 (call1_5 g (by omega))) (RXs_cons (RX_cel N1_7 (i:=0) rfl) (RXs_cons (RX_loc N1_7 (i:=1) rfl) RXs_nil))) (RXs_cons (RX_bi g.O N1_7 (i:=1) rfl g.no_min Boot.«min» (RXs_cons (RX_loc N1_7 (i:=0) rfl) (RXs_cons (RX_bin (RX_bi g.O N1_7 (i:=2) rfl g.no_sum Boot.«sum» (RXs_cons (RX_cel N1_7 (i:=0) rfl) RXs_nil) OpN_sum) (RX_loc N1_7 (i:=0) rfl) Op2_sub) RXs_nil)) OpN_min2) (RXs_cons (RX_call (RX_fn g.O N1_7 (i:=3) rfl g.mg_6 g.fn_6) (dFn_ok g.fn_6 g.at_6 (call1_6 g (by omega))) (RXs_cons (RX_cel N1_7 (i:=0) rfl) RXs_nil)) (RXs_cons (RX_bin (RX_bi g.O N1_7 (i:=4) rfl g.no_len Boot.«len» (RXs_cons (RX_cel N1_7 (i:=0) rfl) RXs_nil) OpN_len) RX_int Op2_sub) RXs_nil))))) (RT_tup N1_7 (xs:=[(_,_),(_,_),(_,_),(_,_)]) (ts:=[.loc 2,.loc 3,.cel 2,.loc 4]) (.cons rfl (.cons rfl (.cons ⟨rfl,rfl⟩ (.cons rfl .nil)))))
noncomputable def m1_7_1 : Sm:=sIf (mTest (mBin fEqI (mLoc 1) (mInt 0))) (sSeq (sAssign (.loc 5) (mCallK (mFn 3) (dFn 3 sem1_3) (aCons (mLoc 2) (aCons (mLoc 3) (aCons (mInt 0) (aCons (mLoc 4) aNil)))) (mLam 2 [2]))) sNil) (sSeq (sAssign (.loc 5) (mCallK (mFn 1) (dFn 1 sem1_1) (aCons (mLoc 2) (aCons (mLoc 3) (aCons (mInt 0) (aCons (mLoc 4) aNil)))) (mLam 3 [2]))) sNil)
theorem s1_7_1 (g : G1 X a) (hn : 4 ≤ n) : RS X φ n nm1_7 (xSt 1 (fnBody PySem.Challenge.pw_wb0001_01 9)) m1_7_1 :=
  RS_if (RB_cmp (RX_loc N1_7 (i:=1) rfl) RX_int Op2_eqI) (RSs_cons (RS_assign N1_7 (t:=.loc 5) (RX_callK (RX_fn g.O N1_7 (i:=5) rfl g.mg_3 g.fn_3) (dFn_ok g.fn_3 g.at_3 (call1_3 g (by omega))) (RXs_cons (RX_loc N1_7 (i:=2) rfl) (RXs_cons (RX_loc N1_7 (i:=3) rfl) (RXs_cons RX_int (RXs_cons (RX_loc N1_7 (i:=4) rfl) RXs_nil)))) (RX_lam g.O g.OT (lamAt1_2 g))) rfl) RSs_nil) (RSs_cons (RS_assign N1_7 (t:=.loc 5) (RX_callK (RX_fn g.O N1_7 (i:=6) rfl g.mg_1 g.fn_1) (dFn_ok g.fn_1 g.at_1 (call1_1 g (by omega))) (RXs_cons (RX_loc N1_7 (i:=2) rfl) (RXs_cons (RX_loc N1_7 (i:=3) rfl) (RXs_cons RX_int (RXs_cons (RX_loc N1_7 (i:=4) rfl) RXs_nil)))) (RX_lam g.O g.OT (lamAt1_3 g))) rfl) RSs_nil)
noncomputable def m1_7_2 : Sm:=sAssign (.cel 1) (mBin fDiv (mBin fSub (mLoc 3) (mArgs fSum (aCons (mCompI 1000 1 [0] (putL 0) (iPlain (mSlice (mLoc 2) mNone (mLoc 5) mNone)) (mConst true) (cElt (mBin fDiv (mBin fItem (mCel 0) (mLoc 0)) (mInt 2)))) aNil))) (mBin fSub (mArgs fLen (aCons (mLoc 2) aNil)) (mLoc 5)))
theorem s1_7_2 (g : G1 X a) (hn : 4 ≤ n) : RS X φ n nm1_7 (xSt 2 (fnBody PySem.Challenge.pw_wb0001_01 9)) m1_7_2 :=
  RS_assign N1_7 (t:=.cel 1) (RX_bin (RX_bin (RX_loc N1_7 (i:=3) rfl) (RX_bi g.O N1_7 (i:=2) rfl g.no_sum Boot.«sum» (RXs_cons (RX_compI (by decide) cAt1_7_0 cN1_7_0 (RIt_plain (RX_slice (RX_loc N1_7 (i:=2) rfl) rfl (RX_loc N1_7 (i:=5) rfl) rfl)) (RTL_name cN1_7_0 (i:=0) rfl) RIf_nil (RCm_elt (RX_bin (RX_item (RX_cel cN1_7_0 (i:=0) rfl) (RX_loc cN1_7_0 (i:=0) rfl)) RX_int Op2_div) rfl)) RXs_nil) OpN_sum) Op2_sub) (RX_bin (RX_bi g.O N1_7 (i:=4) rfl g.no_len Boot.«len» (RXs_cons (RX_loc N1_7 (i:=2) rfl) RXs_nil) OpN_len) (RX_loc N1_7 (i:=5) rfl) Op2_sub) Op2_div) ⟨rfl,rfl⟩
noncomputable def m1_7_3 : Sm:=sAssign (.loc 6) (mCompI 1000 1 [1] (putL 0) (iPlain (mCel 0)) (mConst true) (cElt (mArgs fMin2 (aCons (mBin fDiv (mLoc 0) (mInt 2)) (aCons (mCel 0) aNil)))))
theorem s1_7_3 (g : G1 X a) (hn : 4 ≤ n) : RS X φ n nm1_7 (xSt 3 (fnBody PySem.Challenge.pw_wb0001_01 9)) m1_7_3 :=
  RS_assign_compI N1_7 (i:=6) rfl (by decide) cAt1_7_1 cN1_7_1 (RIt_plain (RX_cel N1_7 (i:=0) rfl)) (RTL_name cN1_7_1 (i:=0) rfl) RIf_nil (RCm_elt (RX_bi g.O cN1_7_1 (i:=0) rfl g.no_min Boot.«min» (RXs_cons (RX_bin (RX_loc cN1_7_1 (i:=0) rfl) RX_int Op2_div) (RXs_cons (RX_cel cN1_7_1 (i:=0) rfl) RXs_nil)) OpN_min2) rfl) (by rintro ⟨⟩ rfl; rfl)
noncomputable def m1_7_4 : Sm:=sRet (mIf (mTest (mBin fEqI (mLoc 3) (mLoc 0))) (mLoc 6) (mZipSub (aCons (mCel 0) (aCons (mLoc 6) aNil))))
theorem s1_7_4 (g : G1 X a) (hn : 4 ≤ n) : RS X φ n nm1_7 (xSt 4 (fnBody PySem.Challenge.pw_wb0001_01 9)) m1_7_4 :=
  RS_ret (RX_ifexp (RB_cmp (RX_loc N1_7 (i:=3) rfl) (RX_loc N1_7 (i:=0) rfl) Op2_eqI) (RX_loc N1_7 (i:=6) rfl) (RX_zipSub g.O N1_7 cN1_7_2 (i:=7) cAt1_7_2 rfl rfl rfl g.no_zip (RXs_cons (RX_cel N1_7 (i:=0) rfl) (RXs_cons (RX_loc N1_7 (i:=6) rfl) RXs_nil))))
noncomputable def body1_7 : Sm:=sSeq m1_7_0 (sSeq m1_7_1 (sSeq m1_7_2 (sSeq m1_7_3 (sSeq m1_7_4 sNil))))
theorem walk1_7 (g : G1 X a) (hn : 4 ≤ n) : RSs X φ n nm1_7 (fnBody PySem.Challenge.pw_wb0001_01 9) body1_7 :=
  RSs_cons (s1_7_0 g hn) (RSs_cons (s1_7_1 g hn) (RSs_cons (s1_7_2 g hn) (RSs_cons (s1_7_3 g hn) (RSs_cons (s1_7_4 g hn) RSs_nil))))
noncomputable def sem1_7 : FCall:=fnSem df1_7 full1_7 kap1 body1_7
theorem call1_7 (g : G1 X a) (hn : 5 ≤ n) : CallOk X φ n (a 7) sem1_7:=by
  obtain ⟨m,rfl⟩ : ∃ m,n = m + 1:=⟨n - 1,by omega⟩
  exact FnOk g.O D1_7 g.at_7 g.bind_7 fun env=>walk1_7 g (by omega)

/-! _law_again -/
noncomputable def cnm1_8_0 : Nm:={ scope:=relabelS (lcScope (xNth 1 (tElts (sValue (xSt 1 (sBody (xSt 0 (fnBody PySem.Challenge.pw_wb0001_01 10)))))))) nm1_8.scope,loc:=["place"],cel:=["shares"],glb:=[],qual:="_law_again.<locals>.",tab:=1000 }
theorem cN1_8_0 : NmOk cnm1_8_0:=.of (by decide +kernel)
theorem cAt1_8_0 : CompAt nm1_8 cnm1_8_0 (lcScope (xNth 1 (tElts (sValue (xSt 1 (sBody (xSt 0 (fnBody PySem.Challenge.pw_wb0001_01 10)))))))) [1]:=⟨rfl,rfl,rfl,rfl,rfl,by decide +kernel,rfl,by decide +kernel⟩
noncomputable def cnm1_8_1 : Nm:={ scope:=relabelS (lcScope (xNth 0 (tElts (sValue (xSt 1 (sBody (xSt 0 (fnBody PySem.Challenge.pw_wb0001_01 10)))))))) nm1_8.scope,loc:=["place"],cel:=["claims"],glb:=[],qual:="_law_again.<locals>.",tab:=1000 }
theorem cN1_8_1 : NmOk cnm1_8_1:=.of (by decide +kernel)
theorem cAt1_8_1 : CompAt nm1_8 cnm1_8_1 (lcScope (xNth 0 (tElts (sValue (xSt 1 (sBody (xSt 0 (fnBody PySem.Challenge.pw_wb0001_01 10)))))))) [0]:=⟨rfl,rfl,rfl,rfl,rfl,by decide +kernel,rfl,by decide +kernel⟩
noncomputable def cnm1_8_2 : Nm:={ scope:=relabelS (lcScope (sValue (xSt 0 (sBody (xSt 0 (fnBody PySem.Challenge.pw_wb0001_01 10)))))) nm1_8.scope,loc:=["place"],cel:=["code"],glb:=[],qual:="_law_again.<locals>.",tab:=1000 }
theorem cN1_8_2 : NmOk cnm1_8_2:=.of (by decide +kernel)
theorem cAt1_8_2 : CompAt nm1_8 cnm1_8_2 (lcScope (sValue (xSt 0 (sBody (xSt 0 (fnBody PySem.Challenge.pw_wb0001_01 10)))))) [2]:=⟨rfl,rfl,rfl,rfl,rfl,by decide +kernel,rfl,by decide +kernel⟩
noncomputable def m1_8_0 : Sm:=sFor 1000 (.cel 2) (mArgs fRange3 (aCons (mInt 1) (aCons (mBin fPow (mInt 2) (mArgs fLen (aCons (mCel 0) aNil))) aNil))) (sSeq (sAssign (.loc 1) (mCompI 1000 1 [2] (putL 0) (iPlain (mArgs fRange3 (aCons (mArgs fLen (aCons (mCel 0) aNil)) aNil))) (mTest (mBin fEqI (mBin fAnd (mBin fShr (mCel 0) (mLoc 0)) (mInt 1)) (mInt 1))) (cElt (mLoc 0)))) (sSeq (sSwap [.loc 2,.loc 3] (mTup (aCons (mCompI 1000 1 [0] (putL 0) (iPlain (mLoc 1)) (mConst true) (cElt (mBin fItem (mCel 0) (mLoc 0)))) (aCons (mCompI 1000 1 [1] (putL 0) (iPlain (mLoc 1)) (mConst true) (cElt (mBin fItem (mCel 0) (mLoc 0)))) aNil)))) (sSeq (sIf (mTest (mBin fNe (mCall (mFn 7) (dFn 7 sem1_7) (aCons (mLoc 2) (aCons (mArgs fSum (aCons (mLoc 3) aNil)) (aCons (mBin fMod (mCel 2) (mInt 2)) aNil)))) (mLoc 3))) (sSeq (sRet (mBool false)) sNil) sNil) (sSeq (sIf (mTest (mBin fEqI (mArgs fLen (aCons (mLoc 2) aNil)) (mInt 2))) (sSeq (sAssign (.loc 4) (mBin fMul (mInt 24) (mBin fMod (mLoc 0) (mBin fAdd (mBin fDiv (mArgs fSum (aCons (mLoc 2) aNil)) (mInt 24)) (mInt 1))))) (sSeq (sUnpack (putList [.loc 5,.loc 6]) (mCall (mFn 7) (dFn 7 sem1_7) (aCons (mLoc 2) (aCons (mLoc 4) (aCons (mBin fMod (mBin fDiv (mLoc 0) (mInt 2)) (mInt 2)) aNil))))) (sSeq (sIf (mOrB (mTest (mBin fNeI (mBin fAdd (mLoc 5) (mLoc 6)) (mLoc 4))) (mOrB (mTest (mBin fNeI (mBin fSub (mLoc 5) (mLoc 6)) (mBin fSub (mArgs fMax2 (aCons (mInt 0) (aCons (mBin fSub (mLoc 4) (mBin fItem (mLoc 2) (mInt 1))) aNil))) (mArgs fMax2 (aCons (mInt 0) (aCons (mBin fSub (mLoc 4) (mBin fItem (mLoc 2) (mInt 0))) aNil)))))) (mConst false))) (sSeq (sRet (mBool false)) sNil) sNil) sNil))) sNil) sNil))))
theorem s1_8_0 (g : G1 X a) (hn : 5 ≤ n) : RS X φ n nm1_8 (xSt 0 (fnBody PySem.Challenge.pw_wb0001_01 10)) m1_8_0 :=
  RS_for N1_8 (fuel:=1000) (t:=.cel 2) (RX_ty g.O N1_8 (i:=0) rfl g.no_range Boot.«range» (RXs_cons RX_int (RXs_cons (RX_bin RX_int (RX_bi g.O N1_8 (i:=1) rfl g.no_len Boot.«len» (RXs_cons (RX_cel N1_8 (i:=0) rfl) RXs_nil) OpN_len) Op2_pow) RXs_nil)) OpN_range3) ⟨rfl,rfl⟩ (RSs_cons (RS_assign_compI N1_8 (i:=1) rfl (by decide) cAt1_8_2 cN1_8_2 (RIt_plain (RX_ty g.O N1_8 (i:=0) rfl g.no_range Boot.«range» (RXs_cons (RX_bi g.O N1_8 (i:=1) rfl g.no_len Boot.«len» (RXs_cons (RX_cel N1_8 (i:=0) rfl) RXs_nil) OpN_len) RXs_nil) OpN_range3)) (RTL_name cN1_8_2 (i:=0) rfl) (RIf_one (RB_cmp (RX_bin (RX_bin (RX_cel cN1_8_2 (i:=0) rfl) (RX_loc cN1_8_2 (i:=0) rfl) Op2_shr) RX_int Op2_and) RX_int Op2_eqI)) (RCm_elt (RX_loc cN1_8_2 (i:=0) rfl) rfl) (by rintro ⟨⟩ rfl; rfl)) (RSs_cons (RS_swap N1_8 (xs:=["part","have"]) (ts:=[.loc 2,.loc 3]) (RX_tup (RXs_cons (RX_compI (by decide) cAt1_8_1 cN1_8_1 (RIt_plain (RX_loc N1_8 (i:=1) rfl)) (RTL_name cN1_8_1 (i:=0) rfl) RIf_nil (RCm_elt (RX_item (RX_cel cN1_8_1 (i:=0) rfl) (RX_loc cN1_8_1 (i:=0) rfl)) rfl)) (RXs_cons (RX_compI (by decide) cAt1_8_0 cN1_8_0 (RIt_plain (RX_loc N1_8 (i:=1) rfl)) (RTL_name cN1_8_0 (i:=0) rfl) RIf_nil (RCm_elt (RX_item (RX_cel cN1_8_0 (i:=0) rfl) (RX_loc cN1_8_0 (i:=0) rfl)) rfl)) RXs_nil))) (.cons rfl (.cons rfl .nil)) (by rintro ⟨⟩ rfl; rfl)) (RSs_cons (RS_if (RB_cmp (RX_call (RX_fn g.O N1_8 (i:=2) rfl g.mg_7 g.fn_7) (dFn_ok g.fn_7 g.at_7 (call1_7 g (by omega))) (RXs_cons (RX_loc N1_8 (i:=2) rfl) (RXs_cons (RX_bi g.O N1_8 (i:=3) rfl g.no_sum Boot.«sum» (RXs_cons (RX_loc N1_8 (i:=3) rfl) RXs_nil) OpN_sum) (RXs_cons (RX_bin (RX_cel N1_8 (i:=2) rfl) RX_int Op2_mod) RXs_nil)))) (RX_loc N1_8 (i:=3) rfl) Op2_ne) (RSs_cons (RS_ret RX_bool) RSs_nil) RSs_nil) (RSs_cons (RS_if (RB_cmp (RX_bi g.O N1_8 (i:=1) rfl g.no_len Boot.«len» (RXs_cons (RX_loc N1_8 (i:=2) rfl) RXs_nil) OpN_len) RX_int Op2_eqI) (RSs_cons (RS_assign N1_8 (t:=.loc 4) (RX_bin RX_int (RX_bin (RX_loc N1_8 (i:=0) rfl) (RX_bin (RX_bin (RX_bi g.O N1_8 (i:=3) rfl g.no_sum Boot.«sum» (RXs_cons (RX_loc N1_8 (i:=2) rfl) RXs_nil) OpN_sum) RX_int Op2_div) RX_int Op2_add) Op2_mod) Op2_mul) rfl) (RSs_cons (RS_unpack (RX_call (RX_fn g.O N1_8 (i:=2) rfl g.mg_7 g.fn_7) (dFn_ok g.fn_7 g.at_7 (call1_7 g (by omega))) (RXs_cons (RX_loc N1_8 (i:=2) rfl) (RXs_cons (RX_loc N1_8 (i:=4) rfl) (RXs_cons (RX_bin (RX_bin (RX_loc N1_8 (i:=0) rfl) RX_int Op2_div) RX_int Op2_mod) RXs_nil)))) (RT_list N1_8 (xs:=[(_,_),(_,_)]) (ts:=[.loc 5,.loc 6]) (.cons rfl (.cons rfl .nil)))) (RSs_cons (RS_if (RB_bool (RAll_or (RB_cmp (RX_bin (RX_loc N1_8 (i:=5) rfl) (RX_loc N1_8 (i:=6) rfl) Op2_add) (RX_loc N1_8 (i:=4) rfl) Op2_neI) (RAll_or (RB_cmp (RX_bin (RX_loc N1_8 (i:=5) rfl) (RX_loc N1_8 (i:=6) rfl) Op2_sub) (RX_bin (RX_bi g.O N1_8 (i:=4) rfl g.no_max Boot.«max» (RXs_cons RX_int (RXs_cons (RX_bin (RX_loc N1_8 (i:=4) rfl) (RX_item (RX_loc N1_8 (i:=2) rfl) RX_int) Op2_sub) RXs_nil)) OpN_max2) (RX_bi g.O N1_8 (i:=4) rfl g.no_max Boot.«max» (RXs_cons RX_int (RXs_cons (RX_bin (RX_loc N1_8 (i:=4) rfl) (RX_item (RX_loc N1_8 (i:=2) rfl) RX_int) Op2_sub) RXs_nil)) OpN_max2) Op2_sub) Op2_neI) RAll_or_nil))) (RSs_cons (RS_ret RX_bool) RSs_nil) RSs_nil) RSs_nil))) RSs_nil) RSs_nil))))
noncomputable def m1_8_1 : Sm:=sRet (mBool true)
theorem s1_8_1 (g : G1 X a) (hn : 5 ≤ n) : RS X φ n nm1_8 (xSt 1 (fnBody PySem.Challenge.pw_wb0001_01 10)) m1_8_1 :=
  RS_ret RX_bool
noncomputable def body1_8 : Sm:=sSeq m1_8_0 (sSeq m1_8_1 sNil)
theorem walk1_8 (g : G1 X a) (hn : 5 ≤ n) : RSs X φ n nm1_8 (fnBody PySem.Challenge.pw_wb0001_01 10) body1_8 :=
  RSs_cons (s1_8_0 g hn) (RSs_cons (s1_8_1 g hn) RSs_nil)
noncomputable def sem1_8 : FCall:=fnSem df1_8 full1_8 kap1 body1_8
theorem call1_8 (g : G1 X a) (hn : 6 ≤ n) : CallOk X φ n (a 8) sem1_8:=by
  obtain ⟨m,rfl⟩ : ∃ m,n = m + 1:=⟨n - 1,by omega⟩
  exact FnOk g.O D1_8 g.at_8 g.bind_8 fun env=>walk1_8 g (by omega)

/-! _law_excesses -/
noncomputable def cnm1_9_0 : Nm:={ scope:=relabelS (lcScope (xNth 0 (kArgs (bLeft (xNth 1 (kArgs (sValue (xSt 2 (sBody (xSt 1 (fnBody PySem.Challenge.pw_wb0001_01 11))))))))))) nm1_9.scope,loc:=["place"],cel:=["shares"],glb:=[],qual:="_law_excesses.<locals>.",tab:=1000 }
theorem cN1_9_0 : NmOk cnm1_9_0:=.of (by decide +kernel)
theorem cAt1_9_0 : CompAt nm1_9 cnm1_9_0 (lcScope (xNth 0 (kArgs (bLeft (xNth 1 (kArgs (sValue (xSt 2 (sBody (xSt 1 (fnBody PySem.Challenge.pw_wb0001_01 11))))))))))) [1]:=⟨rfl,rfl,rfl,rfl,rfl,by decide +kernel,rfl,by decide +kernel⟩
noncomputable def cnm1_9_1 : Nm:={ scope:=relabelS (lcScope (xNth 0 (kArgs (bRight (xNth 1 (kArgs (sValue (xSt 1 (sBody (xSt 1 (fnBody PySem.Challenge.pw_wb0001_01 11))))))))))) nm1_9.scope,loc:=["place"],cel:=["claims"],glb:=[],qual:="_law_excesses.<locals>.",tab:=1000 }
theorem cN1_9_1 : NmOk cnm1_9_1:=.of (by decide +kernel)
theorem cAt1_9_1 : CompAt nm1_9 cnm1_9_1 (lcScope (xNth 0 (kArgs (bRight (xNth 1 (kArgs (sValue (xSt 1 (sBody (xSt 1 (fnBody PySem.Challenge.pw_wb0001_01 11))))))))))) [0]:=⟨rfl,rfl,rfl,rfl,rfl,by decide +kernel,rfl,by decide +kernel⟩
noncomputable def cnm1_9_2 : Nm:={ scope:=relabelS (lcScope (sValue (xSt 0 (sBody (xSt 1 (fnBody PySem.Challenge.pw_wb0001_01 11)))))) nm1_9.scope,loc:=["place"],cel:=["code"],glb:=[],qual:="_law_excesses.<locals>.",tab:=1000 }
theorem cN1_9_2 : NmOk cnm1_9_2:=.of (by decide +kernel)
theorem cAt1_9_2 : CompAt nm1_9 cnm1_9_2 (lcScope (sValue (xSt 0 (sBody (xSt 1 (fnBody PySem.Challenge.pw_wb0001_01 11)))))) [2]:=⟨rfl,rfl,rfl,rfl,rfl,by decide +kernel,rfl,by decide +kernel⟩
noncomputable def m1_9_0 : Sm:=sAssign (.loc 2) (mList aNil)
theorem s1_9_0 (g : G1 X a) (hn : 3 ≤ n) : RS X φ n nm1_9 (xSt 0 (fnBody PySem.Challenge.pw_wb0001_01 11)) m1_9_0 :=
  RS_assign N1_9 (t:=.loc 2) (RX_list RXs_nil) rfl
noncomputable def m1_9_1 : Sm:=sFor 1000 (.cel 2) (mArgs fRange3 (aCons (mInt 1) (aCons (mBin fSub (mBin fPow (mInt 2) (mArgs fLen (aCons (mCel 0) aNil))) (mInt 1)) aNil))) (sSeq (sAssign (.loc 3) (mCompI 1000 1 [2] (putL 0) (iPlain (mArgs fRange3 (aCons (mArgs fLen (aCons (mCel 0) aNil)) aNil))) (mTest (mBin fEqI (mBin fAnd (mBin fShr (mCel 0) (mLoc 0)) (mInt 1)) (mInt 1))) (cElt (mLoc 0)))) (sSeq (sAssign (.loc 4) (mArgs fMax2 (aCons (mInt 0) (aCons (mBin fAdd (mBin fSub (mLoc 0) (mArgs fSum (aCons (mCel 0) aNil))) (mArgs fSum (aCons (mCompI 1000 1 [0] (putL 0) (iPlain (mLoc 3)) (mConst true) (cElt (mBin fItem (mCel 0) (mLoc 0)))) aNil))) aNil)))) (sSeq (sExpr (mCall (mLoc 1) dAll1 (aCons (mLoc 2) (aCons (mBin fSub (mArgs fSum (aCons (mCompI 1000 1 [1] (putL 0) (iPlain (mLoc 3)) (mConst true) (cElt (mBin fItem (mCel 0) (mLoc 0)))) aNil)) (mLoc 4)) aNil)))) sNil)))
theorem s1_9_1 (g : G1 X a) (hn : 3 ≤ n) : RS X φ n nm1_9 (xSt 1 (fnBody PySem.Challenge.pw_wb0001_01 11)) m1_9_1 :=
  RS_for N1_9 (fuel:=1000) (t:=.cel 2) (RX_ty g.O N1_9 (i:=0) rfl g.no_range Boot.«range» (RXs_cons RX_int (RXs_cons (RX_bin (RX_bin RX_int (RX_bi g.O N1_9 (i:=1) rfl g.no_len Boot.«len» (RXs_cons (RX_cel N1_9 (i:=0) rfl) RXs_nil) OpN_len) Op2_pow) RX_int Op2_sub) RXs_nil)) OpN_range3) ⟨rfl,rfl⟩ (RSs_cons (RS_assign_compI N1_9 (i:=3) rfl (by decide) cAt1_9_2 cN1_9_2 (RIt_plain (RX_ty g.O N1_9 (i:=0) rfl g.no_range Boot.«range» (RXs_cons (RX_bi g.O N1_9 (i:=1) rfl g.no_len Boot.«len» (RXs_cons (RX_cel N1_9 (i:=0) rfl) RXs_nil) OpN_len) RXs_nil) OpN_range3)) (RTL_name cN1_9_2 (i:=0) rfl) (RIf_one (RB_cmp (RX_bin (RX_bin (RX_cel cN1_9_2 (i:=0) rfl) (RX_loc cN1_9_2 (i:=0) rfl) Op2_shr) RX_int Op2_and) RX_int Op2_eqI)) (RCm_elt (RX_loc cN1_9_2 (i:=0) rfl) rfl) (by rintro ⟨⟩ rfl; rfl)) (RSs_cons (RS_assign N1_9 (t:=.loc 4) (RX_bi g.O N1_9 (i:=2) rfl g.no_max Boot.«max» (RXs_cons RX_int (RXs_cons (RX_bin (RX_bin (RX_loc N1_9 (i:=0) rfl) (RX_bi g.O N1_9 (i:=3) rfl g.no_sum Boot.«sum» (RXs_cons (RX_cel N1_9 (i:=0) rfl) RXs_nil) OpN_sum) Op2_sub) (RX_bi g.O N1_9 (i:=3) rfl g.no_sum Boot.«sum» (RXs_cons (RX_compI (by decide) cAt1_9_1 cN1_9_1 (RIt_plain (RX_loc N1_9 (i:=3) rfl)) (RTL_name cN1_9_1 (i:=0) rfl) RIf_nil (RCm_elt (RX_item (RX_cel cN1_9_1 (i:=0) rfl) (RX_loc cN1_9_1 (i:=0) rfl)) rfl)) RXs_nil) OpN_sum) Op2_add) RXs_nil)) OpN_max2) rfl) (RSs_cons (RS_expr N1_9 (RX_call (RX_loc N1_9 (i:=1) rfl) (dAll1_ok g (by omega)) (RXs_cons (RX_loc N1_9 (i:=2) rfl) (RXs_cons (RX_bin (RX_bi g.O N1_9 (i:=3) rfl g.no_sum Boot.«sum» (RXs_cons (RX_compI (by decide) cAt1_9_0 cN1_9_0 (RIt_plain (RX_loc N1_9 (i:=3) rfl)) (RTL_name cN1_9_0 (i:=0) rfl) RIf_nil (RCm_elt (RX_item (RX_cel cN1_9_0 (i:=0) rfl) (RX_loc cN1_9_0 (i:=0) rfl)) rfl)) RXs_nil) OpN_sum) (RX_loc N1_9 (i:=4) rfl) Op2_sub) RXs_nil)))) RSs_nil)))
noncomputable def m1_9_2 : Sm:=sRet (mLoc 2)
theorem s1_9_2 (g : G1 X a) (hn : 3 ≤ n) : RS X φ n nm1_9 (xSt 2 (fnBody PySem.Challenge.pw_wb0001_01 11)) m1_9_2 :=
  RS_ret (RX_loc N1_9 (i:=2) rfl)
noncomputable def body1_9 : Sm:=sSeq m1_9_0 (sSeq m1_9_1 (sSeq m1_9_2 sNil))
theorem walk1_9 (g : G1 X a) (hn : 3 ≤ n) : RSs X φ n nm1_9 (fnBody PySem.Challenge.pw_wb0001_01 11) body1_9 :=
  RSs_cons (s1_9_0 g hn) (RSs_cons (s1_9_1 g hn) (RSs_cons (s1_9_2 g hn) RSs_nil))
noncomputable def sem1_9 : FCall:=fnSem df1_9 full1_9 kap1 body1_9
theorem call1_9 (g : G1 X a) (hn : 4 ≤ n) : CallOk X φ n (a 9) sem1_9:=by
  obtain ⟨m,rfl⟩ : ∃ m,n = m + 1:=⟨n - 1,by omega⟩
  exact FnOk g.O D1_9 g.at_9 g.bind_9 fun env=>walk1_9 g (by omega)

/-! _law_found -/
noncomputable def cnm1_10_0 : Nm:={ scope:=relabelS (lcScope (xNth 0 (kArgs (sValue (xSt 0 (sBody (xSt 0 (fnBody PySem.Challenge.pw_wb0001_01 12)))))))) nm1_10.scope,loc:=["other"],cel:=["table","one","more"],glb:=[],qual:="_law_found.<locals>.",tab:=2 }
theorem cN1_10_0 : NmOk cnm1_10_0:=.of (by decide +kernel)
theorem cAt1_10_0 : CompAt nm1_10 cnm1_10_0 (lcScope (xNth 0 (kArgs (sValue (xSt 0 (sBody (xSt 0 (fnBody PySem.Challenge.pw_wb0001_01 12)))))))) [0,2,1]:=⟨rfl,rfl,rfl,rfl,rfl,by decide +kernel,rfl,by decide +kernel⟩
theorem lamAt1_4 (g : G1 X a) : LamAt X nm1_10 4 lam1_4 (lamArgs (kKw 0 (cLeft (sTest (xSt 0 (sBody (xSt 0 (sBody (xSt 1 (sBody (xSt 0 (fnBody PySem.Challenge.pw_wb0001_01 12)))))))))))) (lamBody (kKw 0 (cLeft (sTest (xSt 0 (sBody (xSt 0 (sBody (xSt 1 (sBody (xSt 0 (fnBody PySem.Challenge.pw_wb0001_01 12)))))))))))) (lamScope (kKw 0 (cLeft (sTest (xSt 0 (sBody (xSt 0 (sBody (xSt 1 (sBody (xSt 0 (fnBody PySem.Challenge.pw_wb0001_01 12)))))))))))) [0]:=⟨g.lam_4,rfl,rfl,rfl,by decide +kernel,rfl,by decide +kernel,rfl,g.tab_10⟩
noncomputable def m1_10_0 : Sm:=sFor 1000 (.cel 2) (mLoc 0) (sSeq (sAssign (.loc 2) (mArgs fLen (aCons (mCompI 1000 1 [0,2,1] (putL 0) (iPlain (mLoc 0)) (mTest (mBin fLt (mBin fItem (mCel 0) (mLoc 0)) (mBin fAdd (mBin fItem (mCel 0) (mCel 1)) (mCel 2)))) (cElt (mLoc 0))) aNil))) (sSeq (sFor 1000 (.loc 3) (mArgs fRange3 (aCons (mBin fAdd (mArgs fLen (aCons (mLoc 0) aNil)) (mInt 1)) aNil)) (sSeq (sFor 1000 (.loc 4) (mArgs fRange3 (aCons (mLoc 3) (aCons (mBin fAdd (mArgs fLen (aCons (mLoc 0) aNil)) (mInt 1)) aNil))) (sSeq (sIf (mTest (mBin fNeI (mCallK (mLoc 1) dAll1 (aCons (mLoc 0) (aCons (mBin fItem (mCel 0) (mCel 2)) (aCons (mLoc 3) (aCons (mLoc 4) aNil)))) (mLam 4 [0])) (mArgs fMin2 (aCons (mLoc 4) (aCons (mArgs fMax2 (aCons (mLoc 3) (aCons (mLoc 2) aNil))) aNil))))) (sSeq (sRet (mBool false)) sNil) sNil) sNil)) sNil)) sNil))
theorem s1_10_0 (g : G1 X a) (hn : 3 ≤ n) : RS X φ n nm1_10 (xSt 0 (fnBody PySem.Challenge.pw_wb0001_01 12)) m1_10_0 :=
  RS_for N1_10 (fuel:=1000) (t:=.cel 2) (RX_loc N1_10 (i:=0) rfl) ⟨rfl,rfl⟩ (RSs_cons (RS_assign N1_10 (t:=.loc 2) (RX_bi g.O N1_10 (i:=0) rfl g.no_len Boot.«len» (RXs_cons (RX_compI (by decide) cAt1_10_0 cN1_10_0 (RIt_plain (RX_loc N1_10 (i:=0) rfl)) (RTL_name cN1_10_0 (i:=0) rfl) (RIf_one (RB_cmp (RX_item (RX_cel cN1_10_0 (i:=0) rfl) (RX_loc cN1_10_0 (i:=0) rfl)) (RX_bin (RX_item (RX_cel cN1_10_0 (i:=0) rfl) (RX_cel cN1_10_0 (i:=1) rfl)) (RX_cel cN1_10_0 (i:=2) rfl) Op2_add) Op2_lt)) (RCm_elt (RX_loc cN1_10_0 (i:=0) rfl) rfl)) RXs_nil) OpN_len) rfl) (RSs_cons (RS_for N1_10 (fuel:=1000) (t:=.loc 3) (RX_ty g.O N1_10 (i:=1) rfl g.no_range Boot.«range» (RXs_cons (RX_bin (RX_bi g.O N1_10 (i:=0) rfl g.no_len Boot.«len» (RXs_cons (RX_loc N1_10 (i:=0) rfl) RXs_nil) OpN_len) RX_int Op2_add) RXs_nil) OpN_range3) rfl (RSs_cons (RS_for N1_10 (fuel:=1000) (t:=.loc 4) (RX_ty g.O N1_10 (i:=1) rfl g.no_range Boot.«range» (RXs_cons (RX_loc N1_10 (i:=3) rfl) (RXs_cons (RX_bin (RX_bi g.O N1_10 (i:=0) rfl g.no_len Boot.«len» (RXs_cons (RX_loc N1_10 (i:=0) rfl) RXs_nil) OpN_len) RX_int Op2_add) RXs_nil)) OpN_range3) rfl (RSs_cons (RS_if (RB_cmp (RX_callK (RX_loc N1_10 (i:=1) rfl) (dAll1_ok g (by omega)) (RXs_cons (RX_loc N1_10 (i:=0) rfl) (RXs_cons (RX_item (RX_cel N1_10 (i:=0) rfl) (RX_cel N1_10 (i:=2) rfl)) (RXs_cons (RX_loc N1_10 (i:=3) rfl) (RXs_cons (RX_loc N1_10 (i:=4) rfl) RXs_nil)))) (RX_lam g.O g.OT (lamAt1_4 g))) (RX_bi g.O N1_10 (i:=2) rfl g.no_min Boot.«min» (RXs_cons (RX_loc N1_10 (i:=4) rfl) (RXs_cons (RX_bi g.O N1_10 (i:=3) rfl g.no_max Boot.«max» (RXs_cons (RX_loc N1_10 (i:=3) rfl) (RXs_cons (RX_loc N1_10 (i:=2) rfl) RXs_nil)) OpN_max2) RXs_nil)) OpN_min2) Op2_neI) (RSs_cons (RS_ret RX_bool) RSs_nil) RSs_nil) RSs_nil)) RSs_nil)) RSs_nil))
noncomputable def m1_10_1 : Sm:=sRet (mBool true)
theorem s1_10_1 (g : G1 X a) (hn : 3 ≤ n) : RS X φ n nm1_10 (xSt 1 (fnBody PySem.Challenge.pw_wb0001_01 12)) m1_10_1 :=
  RS_ret RX_bool
noncomputable def body1_10 : Sm:=sSeq m1_10_0 (sSeq m1_10_1 sNil)
theorem walk1_10 (g : G1 X a) (hn : 3 ≤ n) : RSs X φ n nm1_10 (fnBody PySem.Challenge.pw_wb0001_01 12) body1_10 :=
  RSs_cons (s1_10_0 g hn) (RSs_cons (s1_10_1 g hn) RSs_nil)
noncomputable def sem1_10 : FCall:=fnSem df1_10 full1_10 kap1 body1_10
theorem call1_10 (g : G1 X a) (hn : 4 ≤ n) : CallOk X φ n (a 10) sem1_10:=by
  obtain ⟨m,rfl⟩ : ∃ m,n = m + 1:=⟨n - 1,by omega⟩
  exact FnOk g.O D1_10 g.at_10 g.bind_10 fun env=>walk1_10 g (by omega)

/-! _law_refused -/
noncomputable def m1_11_0 : Sm:=sFor 1000 (.loc 1) (mTup (aCons (mFn 3) (aCons (mFn 1) (aCons (mFn 2) (aCons (mFn 0) aNil))))) (sSeq (sAssign (.loc 2) (mArgs fListA (aCons (mLoc 0) aNil))) (sSeq (sTry (eCall (mLoc 1) dAllE1 (aCons (mLoc 0) (aCons (mInt 0) (aCons (mUn fNeg (mInt 1)) aNil)))) (gIfOr "lo must be non-negative" (accLoc 0) (accLoc 2))) sNil))
theorem s1_11_0 (g : G1 X a) (hn : 3 ≤ n) : RS X φ n nm1_11 (xSt 0 (fnBody PySem.Challenge.pw_wb0001_01 13)) m1_11_0 :=
  RS_for N1_11 (fuel:=1000) (t:=.loc 1) (RX_tup (RXs_cons (RX_fn g.O N1_11 (i:=0) rfl g.mg_3 g.fn_3) (RXs_cons (RX_fn g.O N1_11 (i:=1) rfl g.mg_1 g.fn_1) (RXs_cons (RX_fn g.O N1_11 (i:=2) rfl g.mg_2 g.fn_2) (RXs_cons (RX_fn g.O N1_11 (i:=3) rfl g.mg_0 g.fn_0) RXs_nil))))) rfl (RSs_cons (RS_assign N1_11 (t:=.loc 2) (RX_ty g.O N1_11 (i:=4) rfl g.no_list Boot.«list» (RXs_cons (RX_loc N1_11 (i:=0) rfl) RXs_nil) OpN_listA) rfl) (RSs_cons (RS_try g.O N1_11 (i:=5) (by decide) rfl rfl g.no_ValueError (RSsE_head (RSE_expr N1_11 (RXE_call (RX_loc N1_11 (i:=1) rfl) (dAllE1_ok g (by omega)) (RXs_cons (RX_loc N1_11 (i:=0) rfl) (RXs_cons RX_int (RXs_cons (RX_un RX_int Op1_neg) RXs_nil)))))) (RH_ifOr g.O N1_11 (i:=6) rfl (by decide) rfl g.no_str (by decide +kernel) (RX0_loc N1_11 (i:=0) rfl) (RX0_loc N1_11 (i:=2) rfl))) RSs_nil))
noncomputable def m1_11_1 : Sm:=sRet (mBool true)
theorem s1_11_1 (g : G1 X a) (hn : 3 ≤ n) : RS X φ n nm1_11 (xSt 1 (fnBody PySem.Challenge.pw_wb0001_01 13)) m1_11_1 :=
  RS_ret RX_bool
noncomputable def body1_11 : Sm:=sSeq m1_11_0 (sSeq m1_11_1 sNil)
theorem walk1_11 (g : G1 X a) (hn : 3 ≤ n) : RSs X φ n nm1_11 (fnBody PySem.Challenge.pw_wb0001_01 13) body1_11 :=
  RSs_cons (s1_11_0 g hn) (RSs_cons (s1_11_1 g hn) RSs_nil)
noncomputable def sem1_11 : FCall:=fnSem df1_11 full1_11 kap1 body1_11
theorem call1_11 (g : G1 X a) (hn : 4 ≤ n) : CallOk X φ n (a 11) sem1_11:=by
  obtain ⟨m,rfl⟩ : ∃ m,n = m + 1:=⟨n - 1,by omega⟩
  exact FnOk g.O D1_11 g.at_11 g.bind_11 fun env=>walk1_11 g (by omega)

/-! _law_holds -/
noncomputable def cnm1_12_0 : Nm:={ scope:=relabelS (lcScope (sValue (xSt 0 (fnBody PySem.Challenge.pw_wb0001_01 14)))) nm1_12.scope,loc:=["cell"],cel:=["cells"],glb:=[],qual:="_law_holds.<locals>.",tab:=1000 }
theorem cN1_12_0 : NmOk cnm1_12_0:=.of (by decide +kernel)
theorem cAt1_12_0 : CompAt nm1_12 cnm1_12_0 (lcScope (sValue (xSt 0 (fnBody PySem.Challenge.pw_wb0001_01 14)))) [0]:=⟨rfl,rfl,rfl,rfl,rfl,by decide +kernel,rfl,by decide +kernel⟩
noncomputable def cnm1_12_1 : Nm:={ scope:=relabelS (lcScope (cRight (sTest (xSt 1 (sBody (xSt 8 (fnBody PySem.Challenge.pw_wb0001_01 14))))))) nm1_12.scope,loc:=["claim","place"],cel:=["claims","came"],glb:=[],qual:="_law_holds.<locals>.",tab:=1000 }
theorem cN1_12_1 : NmOk cnm1_12_1:=.of (by decide +kernel)
theorem cAt1_12_1 : CompAt nm1_12 cnm1_12_1 (lcScope (cRight (sTest (xSt 1 (sBody (xSt 8 (fnBody PySem.Challenge.pw_wb0001_01 14))))))) [1,2]:=⟨rfl,rfl,rfl,rfl,rfl,by decide +kernel,rfl,by decide +kernel⟩
noncomputable def m1_12_0 : Sm:=sAssign (.cel 1) (mCompI 1000 1 [0] (putL 0) (iPlain (mSlice (mCel 0) mNone (mBin fAdd (mInt 3) (mBin fMod (mArgs fSum (aCons (mCel 0) aNil)) (mInt 2))) mNone)) (mConst true) (cElt (mBin fMul (mInt 24) (mBin fMod (mLoc 0) (mBin fItem (mList (aCons (mInt 10) (aCons (mInt 50) (aCons (mInt 1000) aNil)))) (mBin fMod (mBin fItem (mCel 0) (mInt 6)) (mInt 3)))))))
theorem s1_12_0 (g : G1 X a) (hn : 6 ≤ n) : RS X φ n nm1_12 (xSt 0 (fnBody PySem.Challenge.pw_wb0001_01 14)) m1_12_0 :=
  RS_assignC N1_12 (t:=.cel 1) (RX_compI (by decide) cAt1_12_0 cN1_12_0 (RIt_plain (RX_slice (RX_cel N1_12 (i:=0) rfl) rfl (RX_bin RX_int (RX_bin (RX_bi g.O N1_12 (i:=0) rfl g.no_sum Boot.«sum» (RXs_cons (RX_cel N1_12 (i:=0) rfl) RXs_nil) OpN_sum) RX_int Op2_mod) Op2_add) rfl)) (RTL_name cN1_12_0 (i:=0) rfl) RIf_nil (RCm_elt (RX_bin RX_int (RX_bin (RX_loc cN1_12_0 (i:=0) rfl) (RX_item (RX_list (RXs_cons RX_int (RXs_cons RX_int (RXs_cons RX_int RXs_nil)))) (RX_bin (RX_item (RX_cel cN1_12_0 (i:=0) rfl) RX_int) RX_int Op2_mod)) Op2_mod) Op2_mul) rfl)) ⟨rfl,rfl⟩
noncomputable def m1_12_1 : Sm:=sUnpack (putTup [.loc 0,.loc 1,.loc 2,.loc 3]) (mTup (aCons (mArgs fLen (aCons (mCel 1) aNil)) (aCons (mArgs fSorted (aCons (mCel 1) aNil)) (aCons (mCall (mFn 6) (dFn 6 sem1_6) (aCons (mCel 1) aNil)) (aCons (mBin fMul (mInt 24) (mBin fMod (mBin fItem (mCel 0) (mInt 4)) (mBin fAdd (mBin fDiv (mArgs fSum (aCons (mCel 1) aNil)) (mInt 24)) (mInt 1)))) aNil)))))
theorem s1_12_1 (g : G1 X a) (hn : 6 ≤ n) : RS X φ n nm1_12 (xSt 1 (fnBody PySem.Challenge.pw_wb0001_01 14)) m1_12_1 :=
  RS_unpack (RX_tup (RXs_cons (RX_bi g.O N1_12 (i:=1) rfl g.no_len Boot.«len» (RXs_cons (RX_cel N1_12 (i:=1) rfl) RXs_nil) OpN_len) (RXs_cons (RX_bi g.O N1_12 (i:=2) rfl g.no_sorted Boot.«sorted» (RXs_cons (RX_cel N1_12 (i:=1) rfl) RXs_nil) OpN_sorted) (RXs_cons (RX_call (RX_fn g.O N1_12 (i:=3) rfl g.mg_6 g.fn_6) (dFn_ok g.fn_6 g.at_6 (call1_6 g (by omega))) (RXs_cons (RX_cel N1_12 (i:=1) rfl) RXs_nil)) (RXs_cons (RX_bin RX_int (RX_bin (RX_item (RX_cel N1_12 (i:=0) rfl) RX_int) (RX_bin (RX_bin (RX_bi g.O N1_12 (i:=0) rfl g.no_sum Boot.«sum» (RXs_cons (RX_cel N1_12 (i:=1) rfl) RXs_nil) OpN_sum) RX_int Op2_div) RX_int Op2_add) Op2_mod) Op2_mul) RXs_nil))))) (RT_tup N1_12 (xs:=[(_,_),(_,_),(_,_),(_,_)]) (ts:=[.loc 0,.loc 1,.loc 2,.loc 3]) (.cons rfl (.cons rfl (.cons rfl (.cons rfl .nil)))))
noncomputable def m1_12_2 : Sm:=sSwap [.loc 4,.loc 5,.loc 6] (mTup (aCons (mCall (mFn 7) (dFn 7 sem1_7) (aCons (mCel 1) (aCons (mLoc 3) (aCons (mInt 0) aNil)))) (aCons (mCall (mFn 7) (dFn 7 sem1_7) (aCons (mCel 1) (aCons (mLoc 3) (aCons (mInt 1) aNil)))) (aCons (mList (aCons (mCall (mFn 5) (dFn 5 sem1_5) (aCons (mCel 1) (aCons (mInt 0) aNil))) (aCons (mCall (mFn 5) (dFn 5 sem1_5) (aCons (mCel 1) (aCons (mInt 1) aNil))) aNil))) aNil))))
theorem s1_12_2 (g : G1 X a) (hn : 6 ≤ n) : RS X φ n nm1_12 (xSt 2 (fnBody PySem.Challenge.pw_wb0001_01 14)) m1_12_2 :=
  RS_swap N1_12 (xs:=["shares","told","rows"]) (ts:=[.loc 4,.loc 5,.loc 6]) (RX_tup (RXs_cons (RX_call (RX_fn g.O N1_12 (i:=4) rfl g.mg_7 g.fn_7) (dFn_ok g.fn_7 g.at_7 (call1_7 g (by omega))) (RXs_cons (RX_cel N1_12 (i:=1) rfl) (RXs_cons (RX_loc N1_12 (i:=3) rfl) (RXs_cons RX_int RXs_nil)))) (RXs_cons (RX_call (RX_fn g.O N1_12 (i:=4) rfl g.mg_7 g.fn_7) (dFn_ok g.fn_7 g.at_7 (call1_7 g (by omega))) (RXs_cons (RX_cel N1_12 (i:=1) rfl) (RXs_cons (RX_loc N1_12 (i:=3) rfl) (RXs_cons RX_int RXs_nil)))) (RXs_cons (RX_list (RXs_cons (RX_call (RX_fn g.O N1_12 (i:=5) rfl g.mg_5 g.fn_5) (dFn_ok g.fn_5 g.at_5 (call1_5 g (by omega))) (RXs_cons (RX_cel N1_12 (i:=1) rfl) (RXs_cons RX_int RXs_nil))) (RXs_cons (RX_call (RX_fn g.O N1_12 (i:=5) rfl g.mg_5 g.fn_5) (dFn_ok g.fn_5 g.at_5 (call1_5 g (by omega))) (RXs_cons (RX_cel N1_12 (i:=1) rfl) (RXs_cons RX_int RXs_nil))) RXs_nil))) RXs_nil)))) (.cons rfl (.cons rfl (.cons rfl .nil))) (by rintro ⟨⟩ rfl; rfl)
noncomputable def m1_12_3 : Sm:=sIf (mOrB (mTest (mBin fNeI (mArgs fSum (aCons (mLoc 4) aNil)) (mLoc 3))) (mOrB (mTest (mBin fNe (mSortZip (aCons (mCel 1) (aCons (mLoc 5) aNil))) (mListZip (aCons (mLoc 1) (aCons (mCall (mFn 4) (dFn 4 (sem1_4 5)) (aCons (mLoc 1) (aCons (mLoc 3) aNil))) aNil))))) (mOrB (mNot (mTest (mCall (mFn 8) (dFn 8 sem1_8) (aCons (mCel 1) (aCons (mLoc 4) (aCons (mBin fItem (mCel 0) (mInt 5)) aNil)))))) (mConst false)))) (sSeq (sRet (mBool false)) sNil) sNil
theorem s1_12_3 (g : G1 X a) (hn : 6 ≤ n) : RS X φ n nm1_12 (xSt 3 (fnBody PySem.Challenge.pw_wb0001_01 14)) m1_12_3 :=
  RS_if (RB_bool (RAll_or (RB_cmp (RX_bi g.O N1_12 (i:=0) rfl g.no_sum Boot.«sum» (RXs_cons (RX_loc N1_12 (i:=4) rfl) RXs_nil) OpN_sum) (RX_loc N1_12 (i:=3) rfl) Op2_neI) (RAll_or (RB_cmp (RX_sortZip g.O N1_12 (i:=2) (j:=6) rfl g.no_sorted rfl g.no_zip (RXs_cons (RX_cel N1_12 (i:=1) rfl) (RXs_cons (RX_loc N1_12 (i:=5) rfl) RXs_nil))) (RX_listZip g.O N1_12 (i:=7) (j:=6) rfl g.no_list rfl g.no_zip (RXs_cons (RX_loc N1_12 (i:=1) rfl) (RXs_cons (RX_call (RX_fn g.O N1_12 (i:=8) rfl g.mg_4 g.fn_4) (dFn_ok g.fn_4 g.at_4 (call1_4 g 5 (by omega))) (RXs_cons (RX_loc N1_12 (i:=1) rfl) (RXs_cons (RX_loc N1_12 (i:=3) rfl) RXs_nil))) RXs_nil))) Op2_ne) (RAll_or (RB_not (RB_val (RX_call (RX_fn g.O N1_12 (i:=9) rfl g.mg_8 g.fn_8) (dFn_ok g.fn_8 g.at_8 (call1_8 g (by omega))) (RXs_cons (RX_cel N1_12 (i:=1) rfl) (RXs_cons (RX_loc N1_12 (i:=4) rfl) (RXs_cons (RX_item (RX_cel N1_12 (i:=0) rfl) RX_int) RXs_nil)))))) RAll_or_nil)))) (RSs_cons (RS_ret RX_bool) RSs_nil) RSs_nil
noncomputable def m1_12_4 : Sm:=sSwap [.loc 7,.loc 8] (mTup (aCons (mBin fSub (mBin fMod (mBin fItem (mCel 0) (mInt 5)) (mInt 41)) (mInt 20)) (aCons (mBin fSub (mBin fMod (mBin fDiv (mBin fItem (mCel 0) (mInt 5)) (mInt 41)) (mInt 41)) (mInt 20)) aNil)))
theorem s1_12_4 (g : G1 X a) (hn : 6 ≤ n) : RS X φ n nm1_12 (xSt 4 (fnBody PySem.Challenge.pw_wb0001_01 14)) m1_12_4 :=
  RS_swap N1_12 (xs:=["one","two"]) (ts:=[.loc 7,.loc 8]) (RX_tup (RXs_cons (RX_bin (RX_bin (RX_item (RX_cel N1_12 (i:=0) rfl) RX_int) RX_int Op2_mod) RX_int Op2_sub) (RXs_cons (RX_bin (RX_bin (RX_bin (RX_item (RX_cel N1_12 (i:=0) rfl) RX_int) RX_int Op2_div) RX_int Op2_mod) RX_int Op2_sub) RXs_nil))) (.cons rfl (.cons rfl .nil)) (by rintro ⟨⟩ rfl; rfl)
noncomputable def m1_12_5 : Sm:=sAssign (.loc 9) (mBin fCat (mList (aCons (mBin fAdd (mBin fItem (mLoc 4) (mInt 0)) (mLoc 7)) (aCons (mBin fAdd (mBin fItem (mLoc 4) (mInt 1)) (mLoc 8)) (aCons (mBin fSub (mBin fSub (mBin fItem (mLoc 4) (mInt 2)) (mLoc 7)) (mLoc 8)) aNil)))) (mSlice (mLoc 4) (mInt 3) mNone mNone))
theorem s1_12_5 (g : G1 X a) (hn : 6 ≤ n) : RS X φ n nm1_12 (xSt 5 (fnBody PySem.Challenge.pw_wb0001_01 14)) m1_12_5 :=
  RS_assign N1_12 (t:=.loc 9) (RX_bin (RX_list (RXs_cons (RX_bin (RX_item (RX_loc N1_12 (i:=4) rfl) RX_int) (RX_loc N1_12 (i:=7) rfl) Op2_add) (RXs_cons (RX_bin (RX_item (RX_loc N1_12 (i:=4) rfl) RX_int) (RX_loc N1_12 (i:=8) rfl) Op2_add) (RXs_cons (RX_bin (RX_bin (RX_item (RX_loc N1_12 (i:=4) rfl) RX_int) (RX_loc N1_12 (i:=7) rfl) Op2_sub) (RX_loc N1_12 (i:=8) rfl) Op2_sub) RXs_nil)))) (RX_slice (RX_loc N1_12 (i:=4) rfl) RX_int rfl rfl) Op2_cat) rfl
noncomputable def m1_12_6 : Sm:=sSwap [.loc 10,.loc 11,.loc 12] (mTup (aCons (mCall (mFn 9) (dFn 9 sem1_9) (aCons (mCel 1) (aCons (mLoc 3) (aCons (mLoc 4) (aCons (mFn 2) aNil))))) (aCons (mCall (mFn 9) (dFn 9 sem1_9) (aCons (mCel 1) (aCons (mLoc 3) (aCons (mLoc 4) (aCons (mFn 0) aNil))))) (aCons (mCall (mFn 9) (dFn 9 sem1_9) (aCons (mCel 1) (aCons (mLoc 3) (aCons (mLoc 9) (aCons (mFn 0) aNil))))) aNil))))
theorem s1_12_6 (g : G1 X a) (hn : 6 ≤ n) : RS X φ n nm1_12 (xSt 6 (fnBody PySem.Challenge.pw_wb0001_01 14)) m1_12_6 :=
  RS_swap N1_12 (xs:=["left","right","behind"]) (ts:=[.loc 10,.loc 11,.loc 12]) (RX_tup (RXs_cons (RX_call (RX_fn g.O N1_12 (i:=10) rfl g.mg_9 g.fn_9) (dFn_ok g.fn_9 g.at_9 (call1_9 g (by omega))) (RXs_cons (RX_cel N1_12 (i:=1) rfl) (RXs_cons (RX_loc N1_12 (i:=3) rfl) (RXs_cons (RX_loc N1_12 (i:=4) rfl) (RXs_cons (RX_fn g.O N1_12 (i:=11) rfl g.mg_2 g.fn_2) RXs_nil))))) (RXs_cons (RX_call (RX_fn g.O N1_12 (i:=10) rfl g.mg_9 g.fn_9) (dFn_ok g.fn_9 g.at_9 (call1_9 g (by omega))) (RXs_cons (RX_cel N1_12 (i:=1) rfl) (RXs_cons (RX_loc N1_12 (i:=3) rfl) (RXs_cons (RX_loc N1_12 (i:=4) rfl) (RXs_cons (RX_fn g.O N1_12 (i:=12) rfl g.mg_0 g.fn_0) RXs_nil))))) (RXs_cons (RX_call (RX_fn g.O N1_12 (i:=10) rfl g.mg_9 g.fn_9) (dFn_ok g.fn_9 g.at_9 (call1_9 g (by omega))) (RXs_cons (RX_cel N1_12 (i:=1) rfl) (RXs_cons (RX_loc N1_12 (i:=3) rfl) (RXs_cons (RX_loc N1_12 (i:=9) rfl) (RXs_cons (RX_fn g.O N1_12 (i:=12) rfl g.mg_0 g.fn_0) RXs_nil))))) RXs_nil)))) (.cons rfl (.cons rfl (.cons rfl .nil))) (by rintro ⟨⟩ rfl; rfl)
noncomputable def m1_12_7 : Sm:=sIf (mOrB (mTest (mBin fNe (mLoc 10) (mLoc 11))) (mOrB (mTest (mBin fLtL (mLoc 11) (mLoc 12))) (mOrB (mTest (mBin fNe (mBin fEq (mLoc 11) (mLoc 12)) (mBin fEq (mLoc 9) (mLoc 4)))) (mConst false)))) (sSeq (sRet (mBool false)) sNil) sNil
theorem s1_12_7 (g : G1 X a) (hn : 6 ≤ n) : RS X φ n nm1_12 (xSt 7 (fnBody PySem.Challenge.pw_wb0001_01 14)) m1_12_7 :=
  RS_if (RB_bool (RAll_or (RB_cmp (RX_loc N1_12 (i:=10) rfl) (RX_loc N1_12 (i:=11) rfl) Op2_ne) (RAll_or (RB_cmp (RX_loc N1_12 (i:=11) rfl) (RX_loc N1_12 (i:=12) rfl) Op2_ltL) (RAll_or (RB_cmp (RX_cmp (RX_loc N1_12 (i:=11) rfl) (RX_loc N1_12 (i:=12) rfl) Op2_eq) (RX_cmp (RX_loc N1_12 (i:=9) rfl) (RX_loc N1_12 (i:=4) rfl) Op2_eq) Op2_ne) RAll_or_nil)))) (RSs_cons (RS_ret RX_bool) RSs_nil) RSs_nil
noncomputable def m1_12_8 : Sm:=sFor 1000 (.loc 13) (mTup (aCons (mInt 0) (aCons (mInt 1) aNil))) (sSeq (sAssign (.cel 2) (mBin fItem (mList (aCons (mArgs fRange3 (aCons (mBin fSub (mLoc 0) (mInt 1)) (aCons (mUn fNeg (mInt 1)) (aCons (mUn fNeg (mInt 1)) aNil)))) (aCons (mArgs fRange3 (aCons (mLoc 0) aNil)) aNil))) (mLoc 13))) (sSeq (sIf (mTest (mBin fNe (mBin fItem (mLoc 6) (mLoc 13)) (mCompI 1000 2 [1,2] (putL 0) (iPlain (mSortSet (mCel 1))) (mConst true) (cForI 1000 (putL 1) (iPlain (mCel 1)) (mTest (mBin fEqI (mBin fItem (mCel 0) (mLoc 1)) (mLoc 0))) (cElt (mLoc 1)))))) (sSeq (sRet (mBool false)) sNil) sNil) sNil))
theorem s1_12_8 (g : G1 X a) (hn : 6 ≤ n) : RS X φ n nm1_12 (xSt 8 (fnBody PySem.Challenge.pw_wb0001_01 14)) m1_12_8 :=
  RS_for N1_12 (fuel:=1000) (t:=.loc 13) (RX_tup (RXs_cons RX_int (RXs_cons RX_int RXs_nil))) rfl (RSs_cons (RS_assign N1_12 (t:=.cel 2) (RX_item (RX_list (RXs_cons (RX_ty g.O N1_12 (i:=13) rfl g.no_range Boot.«range» (RXs_cons (RX_bin (RX_loc N1_12 (i:=0) rfl) RX_int Op2_sub) (RXs_cons (RX_un RX_int Op1_neg) (RXs_cons (RX_un RX_int Op1_neg) RXs_nil))) OpN_range3) (RXs_cons (RX_ty g.O N1_12 (i:=13) rfl g.no_range Boot.«range» (RXs_cons (RX_loc N1_12 (i:=0) rfl) RXs_nil) OpN_range3) RXs_nil))) (RX_loc N1_12 (i:=13) rfl)) ⟨rfl,rfl⟩) (RSs_cons (RS_if (RB_cmp (RX_item (RX_loc N1_12 (i:=6) rfl) (RX_loc N1_12 (i:=13) rfl)) (RX_compI (by decide) cAt1_12_1 cN1_12_1 (RIt_plain (RX_sortSet g.O N1_12 (i:=2) (j:=14) rfl g.no_sorted rfl g.no_set (RX_cel N1_12 (i:=1) rfl))) (RTL_name cN1_12_1 (i:=0) rfl) RIf_nil (RCm_forI rfl (by decide) putL_C cElt_C (RIt_plain (RX_cel cN1_12_1 (i:=1) rfl)) (RTL_name cN1_12_1 (i:=1) rfl) (RIf_one (RB_cmp (RX_item (RX_cel cN1_12_1 (i:=0) rfl) (RX_loc cN1_12_1 (i:=1) rfl)) (RX_loc cN1_12_1 (i:=0) rfl) Op2_eqI)) (RCm_elt (RX_loc cN1_12_1 (i:=1) rfl) rfl))) Op2_ne) (RSs_cons (RS_ret RX_bool) RSs_nil) RSs_nil) RSs_nil))
noncomputable def m1_12_9 : Sm:=sRet (mAndV (mCall (mFn 10) (dFn 10 sem1_10) (aCons (mBin fItem (mLoc 6) (mInt 0)) (aCons (mLoc 2) (aCons (mFn 3) (aCons (mInt 0) aNil))))) (mAndV (mCall (mFn 10) (dFn 10 sem1_10) (aCons (mBin fItem (mLoc 6) (mInt 1)) (aCons (mLoc 2) (aCons (mFn 1) (aCons (mInt 1) aNil))))) (mCall (mFn 11) (dFn 11 sem1_11) (aCons (mLoc 11) aNil))))
theorem s1_12_9 (g : G1 X a) (hn : 6 ≤ n) : RS X φ n nm1_12 (xSt 9 (fnBody PySem.Challenge.pw_wb0001_01 14)) m1_12_9 :=
  RS_ret (RX_and (RX_call (RX_fn g.O N1_12 (i:=15) rfl g.mg_10 g.fn_10) (dFn_ok g.fn_10 g.at_10 (call1_10 g (by omega))) (RXs_cons (RX_item (RX_loc N1_12 (i:=6) rfl) RX_int) (RXs_cons (RX_loc N1_12 (i:=2) rfl) (RXs_cons (RX_fn g.O N1_12 (i:=16) rfl g.mg_3 g.fn_3) (RXs_cons RX_int RXs_nil))))) (RX_and (RX_call (RX_fn g.O N1_12 (i:=15) rfl g.mg_10 g.fn_10) (dFn_ok g.fn_10 g.at_10 (call1_10 g (by omega))) (RXs_cons (RX_item (RX_loc N1_12 (i:=6) rfl) RX_int) (RXs_cons (RX_loc N1_12 (i:=2) rfl) (RXs_cons (RX_fn g.O N1_12 (i:=17) rfl g.mg_1 g.fn_1) (RXs_cons RX_int RXs_nil))))) (RX_bool1 (RX_call (RX_fn g.O N1_12 (i:=18) rfl g.mg_11 g.fn_11) (dFn_ok g.fn_11 g.at_11 (call1_11 g (by omega))) (RXs_cons (RX_loc N1_12 (i:=11) rfl) RXs_nil)))))
noncomputable def body1_12 : Sm:=sSeq m1_12_0 (sSeq m1_12_1 (sSeq m1_12_2 (sSeq m1_12_3 (sSeq m1_12_4 (sSeq m1_12_5 (sSeq m1_12_6 (sSeq m1_12_7 (sSeq m1_12_8 (sSeq m1_12_9 sNil)))))))))
theorem walk1_12 (g : G1 X a) (hn : 6 ≤ n) : RSs X φ n nm1_12 (fnBody PySem.Challenge.pw_wb0001_01 14) body1_12 :=
  RSs_cons (s1_12_0 g hn) (RSs_cons (s1_12_1 g hn) (RSs_cons (s1_12_2 g hn) (RSs_cons (s1_12_3 g hn) (RSs_cons (s1_12_4 g hn) (RSs_cons (s1_12_5 g hn) (RSs_cons (s1_12_6 g hn) (RSs_cons (s1_12_7 g hn) (RSs_cons (s1_12_8 g hn) (RSs_cons (s1_12_9 g hn) RSs_nil)))))))))
noncomputable def sem1_12 : FCall:=fnSem df1_12 full1_12 kap1 body1_12
theorem call1_12 (g : G1 X a) (hn : 7 ≤ n) : CallOk X φ n (a 12) sem1_12:=by
  obtain ⟨m,rfl⟩ : ∃ m,n = m + 1:=⟨n - 1,by omega⟩
  exact FnOk g.O D1_12 g.at_12 g.bind_12 fun env=>walk1_12 g (by omega)

/-! law -/
noncomputable def cnm1_13_0 : Nm:={ scope:=relabelS (lcScope (xNth 0 (kArgs (sValue (xSt 1 (fnBody PySem.Challenge.pw_wb0001_01 15)))))) nm1_13.scope,loc:=["place"],cel:=["script","cells"],glb:=["sum"],qual:="law.<locals>.",tab:=1000 }
theorem cN1_13_0 : NmOk cnm1_13_0:=.of (by decide +kernel)
theorem cAt1_13_0 : CompAt nm1_13 cnm1_13_0 (lcScope (xNth 0 (kArgs (sValue (xSt 1 (fnBody PySem.Challenge.pw_wb0001_01 15)))))) [0,1]:=⟨rfl,rfl,rfl,rfl,rfl,by decide +kernel,rfl,by decide +kernel⟩
noncomputable def cnm1_13_1 : Nm:={ scope:=relabelS (lcScope (xNth 0 (kArgs (bRight (lcElt (xNth 0 (kArgs (sValue (xSt 1 (fnBody PySem.Challenge.pw_wb0001_01 15)))))))))) cnm1_13_0.scope,loc:=["number"],cel:=[],glb:=[],qual:="law.<locals>.",tab:=1000 }
theorem cN1_13_1 : NmOk cnm1_13_1:=.of (by decide +kernel)
theorem cAt1_13_1 : CompAt cnm1_13_0 cnm1_13_1 (lcScope (xNth 0 (kArgs (bRight (lcElt (xNth 0 (kArgs (sValue (xSt 1 (fnBody PySem.Challenge.pw_wb0001_01 15)))))))))) []:=⟨rfl,rfl,rfl,rfl,rfl,by decide +kernel,rfl,by decide +kernel⟩
noncomputable def m1_13_0 : Sm:=sAssign (.cel 1) (mList (aCons (mInt 100) (aCons (mInt 200) (aCons (mInt 300) (aCons (mInt 200) (aCons (mInt 200) (aCons (mInt 880) (aCons (mInt 2) aNil))))))))
theorem s1_13_0 (g : G1 X a) (hn : 7 ≤ n) : RS X φ n nm1_13 (xSt 0 (fnBody PySem.Challenge.pw_wb0001_01 15)) m1_13_0 :=
  RS_assign N1_13 (t:=.cel 1) (RX_list (RXs_cons RX_int (RXs_cons RX_int (RXs_cons RX_int (RXs_cons RX_int (RXs_cons RX_int (RXs_cons RX_int (RXs_cons RX_int RXs_nil)))))))) ⟨rfl,rfl⟩
noncomputable def m1_13_1 : Sm:=sRet (mCall (mFn 12) (dFn 12 sem1_12) (aCons (mCompI 1000 1 [0,1] (putL 0) (iPlain (mArgs fRange3 (aCons (mInt 7) aNil))) (mConst true) (cElt (mBin fAdd (mBin fItem (mCel 1) (mLoc 0)) (mArgs fSum (aCons (mCompI 1000 1 [] (putL 0) (iPlain (mSlice (mSlice (mCel 0) mNone (mInt 60) mNone) (mLoc 0) mNone (mInt 7))) (mConst true) (cElt (mBin fMod (mLoc 0) (mInt 1000003)))) aNil))))) aNil))
theorem s1_13_1 (g : G1 X a) (hn : 7 ≤ n) : RS X φ n nm1_13 (xSt 1 (fnBody PySem.Challenge.pw_wb0001_01 15)) m1_13_1 :=
  RS_ret (RX_call (RX_fn g.O N1_13 (i:=0) rfl g.mg_12 g.fn_12) (dFn_ok g.fn_12 g.at_12 (call1_12 g (by omega))) (RXs_cons (RX_compI (by decide) cAt1_13_0 cN1_13_0 (RIt_plain (RX_ty g.O N1_13 (i:=1) rfl g.no_range Boot.«range» (RXs_cons RX_int RXs_nil) OpN_range3)) (RTL_name cN1_13_0 (i:=0) rfl) RIf_nil (RCm_elt (RX_bin (RX_item (RX_cel cN1_13_0 (i:=1) rfl) (RX_loc cN1_13_0 (i:=0) rfl)) (RX_bi g.O cN1_13_0 (i:=0) rfl g.no_sum Boot.«sum» (RXs_cons (RX_compI (by decide) cAt1_13_1 cN1_13_1 (RIt_plain (RX_slice (RX_slice (RX_cel cN1_13_0 (i:=0) rfl) rfl RX_int rfl) (RX_loc cN1_13_0 (i:=0) rfl) rfl RX_int)) (RTL_name cN1_13_1 (i:=0) rfl) RIf_nil (RCm_elt (RX_bin (RX_loc cN1_13_1 (i:=0) rfl) RX_int Op2_mod) rfl)) RXs_nil) OpN_sum) Op2_add) rfl)) RXs_nil))
noncomputable def body1_13 : Sm:=sSeq m1_13_0 (sSeq m1_13_1 sNil)
theorem walk1_13 (g : G1 X a) (hn : 7 ≤ n) : RSs X φ n nm1_13 (fnBody PySem.Challenge.pw_wb0001_01 15) body1_13 :=
  RSs_cons (s1_13_0 g hn) (RSs_cons (s1_13_1 g hn) RSs_nil)
noncomputable def sem1_13 : FCall:=fnSem df1_13 full1_13 kap1 body1_13
theorem call1_13 (g : G1 X a) (hn : 8 ≤ n) : CallOk X φ n (a 13) sem1_13:=by
  obtain ⟨m,rfl⟩ : ∃ m,n = m + 1:=⟨n - 1,by omega⟩
  exact FnOk g.O D1_13 g.at_13 g.bind_13 fun env=>walk1_13 g (by omega)

end Mine
namespace Mine

/-! ### what the four of bisect answer: plain Lean -/
theorem sSeq_n {a b : Sm} {σ σ1 : S} (h : a σ = some (.next,σ1)) : sSeq a b σ = b σ1:=by unfold sSeq; rw [h]
theorem sSeq_r {a b : Sm} {σ σ1 : S} {v : V} (h : a σ = some (.ret v,σ1)) : sSeq a b σ = some (.ret v,σ1):=by unfold sSeq; rw [h]
theorem sIf_t {t : Bm} {a b : Sm} {σ : S} {H : List L} (h : t σ = some (true,H)) : sIf t a b σ = a { σ with H:=H }:=by unfold sIf; rw [h]
theorem sIf_f {t : Bm} {a b : Sm} {σ : S} {H : List L} (h : t σ = some (false,H)) : sIf t a b σ = b { σ with H:=H }:=by unfold sIf; rw [h]
theorem sOne {a : Sm} {σ σ1 : S} (h : a σ = some (.next,σ1)) : sSeq a sNil σ = some (.next,σ1):=by rw [sSeq_n h]; rfl
theorem mBin_eq {f : F2} {a b : Xm} {σ : S} {x y : V} {H1 H2 : List L} (h1 : a σ = some (x,H1)) (h2 : b { σ with H:=H1 } = some (y,H2)) : mBin f a b σ = f x y H2:=by unfold mBin; rw [h1]; simp only; rw [h2]
theorem mTest_eq {m : Xm} {σ : S} {v : V} {H : List L} {b : Bool} (h : m σ = some (v,H)) (h2 : fTruth v H = some b) : mTest m σ = some (b,H):=by unfold mTest; rw [h]; simp only; rw [h2]
noncomputable def bSt (a : Nat) (x lo hi : Int) (key mid : Option V) (cel : List Nat) (C : List (Option V)) (H : List L) : S :=
  { loc:=[some (.ref a),some (.int x),some (.int lo),some (.int hi),key,mid],cel:=cel,C:=C,H:=H }
theorem t_lt {a : Nat} {x lo hi : Int} {key mid : Option V} {cel : List Nat} {C : List (Option V)} {H : List L} : mTest (mBin fLt (mLoc 2) (mLoc 3)) (bSt a x lo hi key mid cel C H) = some (decide (lo < hi),H):=by
  simp [mTest,mBin,mLoc,bSt,fLt,fTruth]
theorem s_mid {a : Nat} {x lo hi : Int} {key mid : Option V} {cel : List Nat} {C : List (Option V)} {H : List L} : sAssign (.loc 5) (mBin fDiv (mBin fAdd (mLoc 2) (mLoc 3)) (mInt 2)) (bSt a x lo hi key mid cel C H) = some (.next,bSt a x lo hi key (some (.int ((lo + hi).fdiv 2))) cel C H):=by
  simp [sAssign,mBin,mLoc,mInt,bSt,fDiv,fAdd,small,Tgt.put]
theorem s_lo {a : Nat} {x lo hi m : Int} {key : Option V} {cel : List Nat} {C : List (Option V)} {H : List L} : sAssign (.loc 2) (mBin fAdd (mLoc 5) (mInt 1)) (bSt a x lo hi key (some (.int m)) cel C H) = some (.next,bSt a x (m + 1) hi key (some (.int m)) cel C H):=by
  simp [sAssign,mBin,mLoc,mInt,bSt,fAdd,Tgt.put]
theorem s_hi {a : Nat} {x lo hi m : Int} {key : Option V} {cel : List Nat} {C : List (Option V)} {H : List L} : sAssign (.loc 3) (mLoc 5) (bSt a x lo hi key (some (.int m)) cel C H) = some (.next,bSt a x lo m key (some (.int m)) cel C H):=by
  simp [sAssign,mLoc,bSt,Tgt.put]

noncomputable def loopL (ek : Xm) : Sm:=sSeq (sAssign (.loc 5) (mBin fDiv (mBin fAdd (mLoc 2) (mLoc 3)) (mInt 2))) (sSeq (sIf (mTest (mBin fLt ek (mLoc 1))) (sSeq (sAssign (.loc 2) (mBin fAdd (mLoc 5) (mInt 1))) sNil) (sSeq (sAssign (.loc 3) (mLoc 5)) sNil)) sNil)
noncomputable def loopR (ek : Xm) : Sm:=sSeq (sAssign (.loc 5) (mBin fDiv (mBin fAdd (mLoc 2) (mLoc 3)) (mInt 2))) (sSeq (sIf (mTest (mBin fLt (mLoc 1) ek)) (sSeq (sAssign (.loc 3) (mLoc 5)) sNil) (sSeq (sAssign (.loc 2) (mBin fAdd (mLoc 5) (mInt 1))) sNil)) sNil)

theorem mid_in {lo hi : Int} (h : lo < hi) : lo ≤ (lo + hi).fdiv 2 ∧ (lo + hi).fdiv 2 < hi:=by
  rw [Int.fdiv_eq_ediv_of_nonneg _ (by lia)]
  lia

noncomputable def KeyAt (ek : Xm) (ks : List Int) (a : Nat) (x : Int) (key : Option V) (cel : List Nat) (C : List (Option V)) (H : List L) : Prop :=
  ∀ (lo hi m : Int),0 ≤ m → m < ks.length → ek (bSt a x lo hi key (some (.int m)) cel C H) = some (.int (ks.getD m.toNat 0),H)

theorem go_up {lo hi cnt m : Int} (h1 : lo ≤ m) (h2 : m < hi) (h3 : m < cnt) : max lo (min hi cnt) = max (m + 1) (min hi cnt):=by
  rw [Int.max_eq_right (Int.le_min.mpr ⟨by lia,by lia⟩),Int.max_eq_right (Int.le_min.mpr ⟨h2,h3⟩)]
theorem go_dn {lo hi cnt m : Int} (h2 : m < hi) (h3 : ¬ m < cnt) : max lo (min hi cnt) = max lo (min m cnt):=by
  have h4:=Int.not_lt.mp h3
  rw [Int.min_eq_right (Int.le_trans h4 (Int.le_of_lt h2)),Int.min_eq_right h4]
theorem go_stop {lo hi cnt : Int} (h : ¬ lo < hi) : max lo (min hi cnt) = lo:=Int.max_eq_left (Int.le_trans (Int.min_le_left _ _) (Int.not_lt.mp h))
theorem loopL_go {ek : Xm} {ks : List Int} {a : Nat} {x : Int} {key : Option V} {cel : List Nat} {C : List (Option V)} {H : List L} (hk : KeyAt ek ks a x key cel C H) {cnt : Int} (hc : ∀ j : Nat,j < ks.length → (ks.getD j 0 < x ↔ (j : Int) < cnt)) :
    ∀ (fuel : Nat) (lo hi : Int) (mid : Option V),0 ≤ lo → hi ≤ ks.length → hi - lo < fuel → 0 < fuel → ∃ hi' mid',whileGo (mTest (mBin fLt (mLoc 2) (mLoc 3))) (loopL ek) fuel (bSt a x lo hi key mid cel C H) = some (.next,bSt a x (max lo (min hi cnt)) hi' key mid' cel C H):=by
  intro fuel
  induction fuel with
  | zero =>
    intro lo hi mid h0 hh hf hp
    lia
  | succ fuel ih =>
    intro lo hi mid h0 hh hf hp
    unfold whileGo
    rw [t_lt]
    by_cases hlt : lo < hi
    · simp only [hlt,decide_true]
      refine e0a2 (mid_in hlt) fun m1 m2=>?_
      generalize hm : (lo + hi).fdiv 2 = m at m1 m2
      have hj:=hc m.toNat (by lia)
      rw [show ((m.toNat : Nat) : Int) = m by lia] at hj
      have e1 : loopL ek (bSt a x lo hi key mid cel C H) = if ks.getD m.toNat 0 < x then some (.next,bSt a x (m + 1) hi key (some (.int m)) cel C H) else some (.next,bSt a x lo m key (some (.int m)) cel C H):=by
        have hm2:=s_mid (a:=a) (x:=x) (lo:=lo) (hi:=hi) (key:=key) (mid:=mid) (cel:=cel) (C:=C) (H:=H)
        rw [hm] at hm2
        have ht : mTest (mBin fLt ek (mLoc 1)) (bSt a x lo hi key (some (.int m)) cel C H) = some (decide (ks.getD m.toNat 0 < x),H) :=
          mTest_eq (mBin_eq (hk lo hi m (by lia) (by lia)) (y:=.int x) (H2:=H) rfl) rfl
        unfold loopL
        rw [sSeq_n hm2]
        by_cases hx : ks.getD m.toNat 0 < x
        · rw [if_pos hx]
          simp only [hx,decide_true] at ht
          refine sOne ?_
          rw [sIf_t ht]
          exact sOne s_lo
        · rw [if_neg hx]
          simp only [hx,decide_false] at ht
          refine sOne ?_
          rw [sIf_f ht]
          exact sOne s_hi
      rw [show ({ bSt a x lo hi key mid cel C H with H:=H } : S) = bSt a x lo hi key mid cel C H from rfl,e1]
      by_cases hx : ks.getD m.toNat 0 < x
      · rw [if_pos hx]
        refine e2a1 (ih (m + 1) hi (some (.int m)) (by lia) hh (by lia) (by lia)) fun h1 h2 h3=>?_
        refine ⟨h1,h2,?_⟩
        have:=hj.mp hx
        rw [go_up m1 m2 this]
        exact h3
      · rw [if_neg hx]
        refine e2a1 (ih lo m (some (.int m)) h0 (by lia) (by lia) (by lia)) fun h1 h2 h3=>?_
        refine ⟨h1,h2,?_⟩
        have : ¬ m < cnt:=fun q=>hx (hj.mpr q)
        rw [go_dn m2 this]
        exact h3
    · simp only [hlt,decide_false]
      exact ⟨hi,mid,by rw [go_stop hlt]; rfl⟩

end Mine
namespace Mine

theorem loopR_go {ek : Xm} {ks : List Int} {a : Nat} {x : Int} {key : Option V} {cel : List Nat} {C : List (Option V)} {H : List L} (hk : KeyAt ek ks a x key cel C H) {cnt : Int} (hc : ∀ j : Nat,j < ks.length → (ks.getD j 0 ≤ x ↔ (j : Int) < cnt)) :
    ∀ (fuel : Nat) (lo hi : Int) (mid : Option V),0 ≤ lo → hi ≤ ks.length → hi - lo < fuel → 0 < fuel → ∃ hi' mid',whileGo (mTest (mBin fLt (mLoc 2) (mLoc 3))) (loopR ek) fuel (bSt a x lo hi key mid cel C H) = some (.next,bSt a x (max lo (min hi cnt)) hi' key mid' cel C H):=by
  intro fuel
  induction fuel with
  | zero =>
    intro lo hi mid h0 hh hf hp
    lia
  | succ fuel ih =>
    intro lo hi mid h0 hh hf hp
    unfold whileGo
    rw [t_lt]
    by_cases hlt : lo < hi
    · simp only [hlt,decide_true]
      refine e0a2 (mid_in hlt) fun m1 m2=>?_
      generalize hm : (lo + hi).fdiv 2 = m at m1 m2
      have hj:=hc m.toNat (by lia)
      rw [show ((m.toNat : Nat) : Int) = m by lia] at hj
      have e1 : loopR ek (bSt a x lo hi key mid cel C H) = if x < ks.getD m.toNat 0 then some (.next,bSt a x lo m key (some (.int m)) cel C H) else some (.next,bSt a x (m + 1) hi key (some (.int m)) cel C H):=by
        have hm2:=s_mid (a:=a) (x:=x) (lo:=lo) (hi:=hi) (key:=key) (mid:=mid) (cel:=cel) (C:=C) (H:=H)
        rw [hm] at hm2
        have ht : mTest (mBin fLt (mLoc 1) ek) (bSt a x lo hi key (some (.int m)) cel C H) = some (decide (x < ks.getD m.toNat 0),H) :=
          by
          have hb : mBin fLt (mLoc 1) ek (bSt a x lo hi key (some (.int m)) cel C H) = fLt (.int x) (.int (ks.getD m.toNat 0)) H:=mBin_eq (x:=.int x) (H1:=H) rfl (hk lo hi m (by lia) (by lia))
          exact mTest_eq hb rfl
        unfold loopR
        rw [sSeq_n hm2]
        by_cases hx : x < ks.getD m.toNat 0
        · rw [if_pos hx]
          simp only [hx,decide_true] at ht
          refine sOne ?_
          rw [sIf_t ht]
          exact sOne s_hi
        · rw [if_neg hx]
          simp only [hx,decide_false] at ht
          refine sOne ?_
          rw [sIf_f ht]
          exact sOne s_lo
      rw [show ({ bSt a x lo hi key mid cel C H with H:=H } : S) = bSt a x lo hi key mid cel C H from rfl,e1]
      by_cases hx : x < ks.getD m.toNat 0
      · rw [if_pos hx]
        refine e2a1 (ih lo m (some (.int m)) h0 (by lia) (by lia) (by lia)) fun h1 h2 h3=>?_
        refine ⟨h1,h2,?_⟩
        have : ¬ m < cnt:=fun q=>by have:=hj.mpr q; lia
        rw [go_dn m2 this]
        exact h3
      · rw [if_neg hx]
        refine e2a1 (ih (m + 1) hi (some (.int m)) (by lia) hh (by lia) (by lia)) fun h1 h2 h3=>?_
        refine ⟨h1,h2,?_⟩
        have:=hj.mp (by lia)
        rw [go_up m1 m2 this]
        exact h3
    · simp only [hlt,decide_false]
      exact ⟨hi,mid,by rw [go_stop hlt]; rfl⟩

/-! the whole search -/
noncomputable def bisBody (loop : Xm → Sm) (disp : V → Option FCall) : Sm :=
  sSeq (sIf (mTest (mBin fLt (mLoc 2) (mInt 0))) (sSeq sNo sNil) sNil) (sSeq (sIf (mTest (mUn fIsNone (mLoc 3))) (sSeq (sAssign (.loc 3) (mArgs fLen (aCons (mLoc 0) aNil))) sNil) sNil)
    (sSeq (sIf (mTest (mUn fIsNone (mLoc 4))) (sSeq (sWhile 1000 (mTest (mBin fLt (mLoc 2) (mLoc 3))) (loop (mBin fItem (mLoc 0) (mLoc 5)))) sNil)
      (sSeq (sWhile 1000 (mTest (mBin fLt (mLoc 2) (mLoc 3))) (loop (mCall (mLoc 4) disp (aCons (mBin fItem (mLoc 0) (mLoc 5)) aNil)))) sNil)) (sSeq (sRet (mLoc 2)) sNil)))

theorem expo_flat {v : V} {H : List L} (hv : kap1 H.length v H = []) (hr : renV H.length [] v = some v) : expo kap1 H.length v H = some (v,H):=by
  unfold expo
  rw [hv]
  simp [hr,expLs]

inductive KeyOk (disp : V → Option FCall) (C : List (Option V)) (H : List L) (xs : List Int) : V → List Int → Prop
  | none : KeyOk disp C H xs .none xs
  | fn {kv : V} {f : FCall} {g : Int → Int} (hn : kv.isNone = false) (hd : disp kv = some f) (hf : ∀ i ∈ xs,f [.int i] none C H = some (.int (g i),H)) : KeyOk disp C H xs kv (xs.map g)

theorem fItem_ints {H : List L} {a : Nat} {xs : List Int} (ha : H[a]? = some (.ints xs)) {m : Int} (h0 : 0 ≤ m) (h1 : m < xs.length) : fItem (.ref a) (.int m) H = some (.int (xs.getD m.toNat 0),H):=by
  unfold fItem
  simp only [ha,L.vs,List.length_map]
  have : pyIdx m xs.length = some m.toNat:=by unfold pyIdx; rw [if_pos h0,if_pos h1]
  rw [this]
  have hlt : m.toNat < xs.length:=by lia
  simp [List.getElem?_map,List.getElem?_eq_getElem hlt,List.getD_eq_getElem?_getD]

theorem keyAt_none {a : Nat} {x : Int} {key : Option V} {cel : List Nat} {C : List (Option V)} {H : List L} {xs : List Int} (ha : H[a]? = some (.ints xs)) : KeyAt (mBin fItem (mLoc 0) (mLoc 5)) xs a x key cel C H:=fun lo hi m h0 h1=>by
  rw [mBin_eq (x:=.ref a) (H1:=H) (y:=.int m) (H2:=H) rfl rfl]
  exact fItem_ints ha h0 h1
theorem keyAt_fn {disp : V → Option FCall} {a : Nat} {x : Int} {kv : V} {f : FCall} {g : Int → Int} {cel : List Nat} {C : List (Option V)} {H : List L} {xs : List Int} (ha : H[a]? = some (.ints xs)) (hd : disp kv = some f) (hf : ∀ i ∈ xs,f [.int i] none C H = some (.int (g i),H)) :
    KeyAt (mCall (mLoc 4) disp (aCons (mBin fItem (mLoc 0) (mLoc 5)) aNil)) (xs.map g) a x (some kv) cel C H:=fun lo hi m h0 h1=>by
  simp only [List.length_map] at h1
  have e1:=keyAt_none (x:=x) (key:=some kv) (cel:=cel) (C:=C) ha lo hi m h0 h1
  have hlt : m.toNat < xs.length:=by lia
  have hmem : xs.getD m.toNat 0 ∈ xs:=by rw [List.getD_eq_getElem?_getD,List.getElem?_eq_getElem hlt]; exact List.getElem_mem hlt
  unfold mCall
  rw [show mLoc 4 (bSt a x lo hi (some kv) (some (.int m)) cel C H) = some (kv,H) from rfl]
  simp only [hd]
  unfold aCons aNil
  rw [show ({ bSt a x lo hi (some kv) (some (.int m)) cel C H with H:=H } : S) = bSt a x lo hi (some kv) (some (.int m)) cel C H from rfl,e1]
  simp only
  rw [show (bSt a x lo hi (some kv) (some (.int m)) cel C H).C = C from rfl,hf _ hmem]
  simp [List.getD_eq_getElem?_getD,List.getElem?_map,List.getElem?_eq_getElem hlt]

noncomputable def bisAns (lo hi cnt : Int) : Int:=max lo (min hi cnt)

theorem bis_go {loop : Xm → Sm} {disp : V → Option FCall} {d : Df} (hli : d.li = [some 0,some 1,some 2,some 3,some 4,none]) (hci : d.ci = []) {a : Nat} {x lo : Int} {hiV keyV : V} {vs : List V} {kv : Option V} {C : List (Option V)} {H : List L} {xs ks : List Int} {cnt : Int}
    (hfull : bisFull vs kv = some [.ref a,.int x,.int lo,hiV,keyV]) (ha : H[a]? = some (.ints xs)) (hlen : xs.length ≤ 900) (hlo : 0 ≤ lo) {hi : Int} (hhi : (hiV = .none ∧ hi = xs.length) ∨ (hiV = .int hi ∧ hi ≤ xs.length)) (hK : KeyOk disp C H xs keyV ks)
    (hgo : ∀ (ek : Xm),KeyAt ek ks a x (some keyV) [] C H → ∀ (fuel : Nat) (lo hi : Int) (mid : Option V),0 ≤ lo → hi ≤ ks.length → hi - lo < fuel → 0 < fuel → ∃ hi' mid',whileGo (mTest (mBin fLt (mLoc 2) (mLoc 3))) (loop ek) fuel (bSt a x lo hi (some keyV) mid [] C H) = some (.next,bSt a x (max lo (min hi cnt)) hi' (some keyV) mid' [] C H)) :
    fnSem d bisFull kap1 (bisBody loop disp) vs kv C H = some (.int (bisAns lo hi cnt),H):=by
  unfold fnSem
  rw [hfull]
  simp only
  have hent : entry d [.ref a,.int x,.int lo,hiV,keyV] C H = { loc:=[some (.ref a),some (.int x),some (.int lo),some hiV,some keyV,none],cel:=[],C:=C,H:=H }:=by
    unfold entry
    rw [hli,hci]
    simp
  rw [hent]
  have hkl : ks.length = xs.length:=by cases hK <;> simp
  have key : ∃ σ1,bisBody loop disp { loc:=[some (.ref a),some (.int x),some (.int lo),some hiV,some keyV,none],cel:=[],C:=C,H:=H } = some (.ret (.int (bisAns lo hi cnt)),σ1) ∧ σ1.H = H:=by
    unfold bisBody
    have t0 : mTest (mBin fLt (mLoc 2) (mInt 0)) { loc:=[some (.ref a),some (.int x),some (.int lo),some hiV,some keyV,none],cel:=[],C:=C,H:=H } = some (false,H):=by
      refine mTest_eq (mBin_eq (x:=.int lo) (H1:=H) (y:=.int 0) (H2:=H) rfl rfl) ?_
      show some (decide (lo < 0)) = some false
      rw [decide_eq_false (by lia)]
    have s0 : sIf (mTest (mBin fLt (mLoc 2) (mInt 0))) (sSeq sNo sNil) sNil { loc:=[some (.ref a),some (.int x),some (.int lo),some hiV,some keyV,none],cel:=[],C:=C,H:=H } = some (.next,{ loc:=[some (.ref a),some (.int x),some (.int lo),some hiV,some keyV,none],cel:=[],C:=C,H:=H }):=by rw [sIf_f t0]; rfl
    rw [sSeq_n s0]
    have s1 : sIf (mTest (mUn fIsNone (mLoc 3))) (sSeq (sAssign (.loc 3) (mArgs fLen (aCons (mLoc 0) aNil))) sNil) sNil { loc:=[some (.ref a),some (.int x),some (.int lo),some hiV,some keyV,none],cel:=[],C:=C,H:=H } = some (.next,bSt a x lo hi (some keyV) none [] C H):=by
      rcases hhi with ⟨rfl,rfl⟩ | ⟨rfl,h2⟩
      · rw [sIf_t (H:=H) rfl]
        refine sOne ?_
        unfold sAssign mArgs aCons aNil
        simp only [mLoc,List.getElem?_cons_zero,fLen,ha,L.vs,List.length_map,Tgt.put]
        rfl
      · rw [sIf_f (H:=H) rfl]; rfl
    rw [sSeq_n s1]
    obtain ⟨hi',mid',hw⟩ : ∃ hi' mid',sIf (mTest (mUn fIsNone (mLoc 4))) (sSeq (sWhile 1000 (mTest (mBin fLt (mLoc 2) (mLoc 3))) (loop (mBin fItem (mLoc 0) (mLoc 5)))) sNil)
      (sSeq (sWhile 1000 (mTest (mBin fLt (mLoc 2) (mLoc 3))) (loop (mCall (mLoc 4) disp (aCons (mBin fItem (mLoc 0) (mLoc 5)) aNil)))) sNil) (bSt a x lo hi (some keyV) none [] C H) = some (.next,bSt a x (max lo (min hi cnt)) hi' (some keyV) mid' [] C H):=by
      have hhl : hi ≤ xs.length:=by rcases hhi with ⟨_,rfl⟩ | ⟨_,h⟩ <;> lia
      cases hK with
      | none =>
        refine e2a1 (hgo _ (keyAt_none ha) 1000 lo hi none hlo (by lia) (by lia) (by lia)) fun hi' mid' h=>?_
        refine ⟨hi',mid',?_⟩
        rw [sIf_t (H:=H) rfl]
        exact sOne h
      | fn hn hd hf =>
        refine e2a1 (hgo _ (keyAt_fn ha hd hf) 1000 lo hi none hlo (by lia) (by lia) (by lia)) fun hi' mid' h=>?_
        refine ⟨hi',mid',?_⟩
        rw [sIf_f (H:=H) (by
          refine mTest_eq (v:=.bool keyV.isNone) (H:=H) ?_ (by rw [hn]; rfl)
          unfold mUn
          rw [show mLoc 4 (bSt a x lo hi (some keyV) none [] C H) = some (keyV,H) from rfl]
          exact fIsNone_eq keyV H)]
        exact sOne h
    rw [sSeq_n hw]
    exact ⟨_,sSeq_r (σ1:=bSt a x (max lo (min hi cnt)) hi' (some keyV) mid' [] C H) rfl,rfl⟩
  refine e1a2 key fun σ1 e1 e2=>?_
  rw [e1]
  simp only
  rw [e2]
  exact expo_flat rfl rfl

end Mine
namespace Mine

noncomputable def cntLt (ks : List Int) (x : Int) : Nat:=(ks.filter fun k=>decide (k < x)).length
noncomputable def cntLe (ks : List Int) (x : Int) : Nat:=(ks.filter fun k=>decide (k ≤ x)).length

theorem cntLt_le (ks : List Int) (x : Int) : cntLt ks x ≤ ks.length:=List.length_filter_le _ _
theorem cntLe_le (ks : List Int) (x : Int) : cntLe ks x ≤ ks.length:=List.length_filter_le _ _
theorem cnt_at {p : Int → Bool} : ∀ {ks : List Int},ks.Pairwise (fun a b=>p b = true → p a = true) → ∀ j : Nat,j < ks.length → (p (ks.getD j 0) = true ↔ j < (ks.filter p).length)
  | [],_,j,h=>by simp at h
  | k :: ks,hp,j,h=>by
    rw [List.pairwise_cons] at hp
    by_cases hk : p k = true
    · rw [List.filter_cons_of_pos hk]
      cases j with
      | zero=>simp [hk]
      | succ j =>
        have:=cnt_at hp.2 j (by simpa using h)
        simp only [List.getD_cons_succ,List.length_cons]
        rw [this]; lia
    · have hall : ks.filter p = []:=by
        rw [List.filter_eq_nil_iff]
        intro b hb q
        exact hk (hp.1 b hb q)
      rw [List.filter_cons_of_neg hk,hall]
      cases j with
      | zero=>simp [hk]
      | succ j =>
        have hj : j < ks.length:=by simpa using h
        simp only [List.getD_cons_succ,List.length_nil,Nat.not_lt_zero,iff_false]
        intro q
        refine hk (hp.1 _ ?_ q)
        rw [List.getD_eq_getElem?_getD,List.getElem?_eq_getElem hj]; exact List.getElem_mem hj
theorem cntLt_at {ks : List Int} (hs : ks.Pairwise (· ≤ ·)) (x : Int) (j : Nat) (h : j < ks.length) : ks.getD j 0 < x ↔ (j : Int) < (cntLt ks x : Int):=by
  have:=cnt_at (p:=fun k=>decide (k < x)) (hs.imp fun {a b} hab q=>by simp at q ⊢; lia) j h
  simp only [decide_eq_true_eq] at this
  rw [this]; unfold cntLt; lia
theorem cntLe_at {ks : List Int} (hs : ks.Pairwise (· ≤ ·)) (x : Int) (j : Nat) (h : j < ks.length) : ks.getD j 0 ≤ x ↔ (j : Int) < (cntLe ks x : Int):=by
  have:=cnt_at (p:=fun k=>decide (k ≤ x)) (hs.imp fun {a b} hab q=>by simp at q ⊢; lia) j h
  simp only [decide_eq_true_eq] at this
  rw [this]; unfold cntLe; lia

section
variable {disp : V → Option FCall} {d : Df} {a : Nat} {x lo hi : Int} {hiV keyV : V} {vs : List V} {kv : Option V} {C : List (Option V)} {H : List L} {xs ks : List Int}

theorem bisL_spec (hli : d.li = [some 0,some 1,some 2,some 3,some 4,none]) (hci : d.ci = []) (hfull : bisFull vs kv = some [.ref a,.int x,.int lo,hiV,keyV]) (ha : H[a]? = some (.ints xs)) (hlen : xs.length ≤ 900) (hlo : 0 ≤ lo)
    (hhi : (hiV = .none ∧ hi = xs.length) ∨ (hiV = .int hi ∧ hi ≤ xs.length)) (hK : KeyOk disp C H xs keyV ks) (hs : ks.Pairwise (· ≤ ·)) : fnSem d bisFull kap1 (bisBody loopL disp) vs kv C H = some (.int (bisAns lo hi (cntLt ks x)),H) :=
  bis_go hli hci hfull ha hlen hlo hhi hK fun ek hk=>loopL_go hk (cntLt_at hs x)
theorem bisR_spec (hli : d.li = [some 0,some 1,some 2,some 3,some 4,none]) (hci : d.ci = []) (hfull : bisFull vs kv = some [.ref a,.int x,.int lo,hiV,keyV]) (ha : H[a]? = some (.ints xs)) (hlen : xs.length ≤ 900) (hlo : 0 ≤ lo)
    (hhi : (hiV = .none ∧ hi = xs.length) ∨ (hiV = .int hi ∧ hi ≤ xs.length)) (hK : KeyOk disp C H xs keyV ks) (hs : ks.Pairwise (· ≤ ·)) : fnSem d bisFull kap1 (bisBody loopR disp) vs kv C H = some (.int (bisAns lo hi (cntLe ks x)),H) :=
  bis_go hli hci hfull ha hlen hlo hhi hK fun ek hk=>loopR_go hk (cntLe_at hs x)

/-! the insertions -/
noncomputable def insBody (k : Nat) (semB : FCall) (disp : V → Option FCall) : Sm :=
  sSeq (sIf (mTest (mUn fIsNone (mLoc 4))) (sSeq (sAssign (.loc 2) (mCall (mFn k) (dFn k semB) (aCons (mLoc 0) (aCons (mLoc 1) (aCons (mLoc 2) (aCons (mLoc 3) aNil)))))) sNil)
    (sSeq (sAssign (.loc 2) (mCallK (mFn k) (dFn k semB) (aCons (mLoc 0) (aCons (mCall (mLoc 4) disp (aCons (mLoc 1) aNil)) (aCons (mLoc 2) (aCons (mLoc 3) aNil)))) (mLoc 4))) sNil)) (sSeq (sExpr (mMeth fInsert (mLoc 0) (aCons (mLoc 2) (aCons (mLoc 1) aNil)))) sNil)

inductive KeyX (disp : V → Option FCall) (C : List (Option V)) (H : List L) (x : Int) : V → Int → Prop
  | none : KeyX disp C H x .none x
  | fn {kv : V} {f : FCall} {y : Int} (hn : kv.isNone = false) (hd : disp kv = some f) (hf : f [.int x] none C H = some (.int y,H)) : KeyX disp C H x kv y

theorem ins_go {k : Nat} {semB : FCall} {y r : Int} (hli : d.li = [some 0,some 1,some 2,some 3,some 4]) (hci : d.ci = []) (hfull : bisFull vs kv = some [.ref a,.int x,.int lo,hiV,keyV]) (ha : H[a]? = some (.ints xs)) (hlen : xs.length ≤ 900)
    (hX : KeyX disp C H x keyV y) (hB : semB [.ref a,.int y,.int lo,hiV] (if keyV.isNone then none else some keyV) C H = some (.int r,H)) (hr0 : 0 ≤ r) (hr : r ≤ xs.length) :
    fnSem d bisFull kap1 (insBody k semB disp) vs kv C H = some (.none,H.set a (.ints (insL xs r x))):=by
  unfold fnSem
  rw [hfull]
  simp only
  have hent : entry d [.ref a,.int x,.int lo,hiV,keyV] C H = { loc:=[some (.ref a),some (.int x),some (.int lo),some hiV,some keyV],cel:=[],C:=C,H:=H }:=by
    unfold entry
    rw [hli,hci]
    simp
  rw [hent]
  have halt : a < H.length:=(List.getElem?_eq_some_iff.mp ha).1
  have key : insBody k semB disp { loc:=[some (.ref a),some (.int x),some (.int lo),some hiV,some keyV],cel:=[],C:=C,H:=H } = some (.next,{ loc:=[some (.ref a),some (.int x),some (.int r),some hiV,some keyV],cel:=[],C:=C,H:=H.set a (.ints (insL xs r x)) }):=by
    unfold insBody
    have s0 : sIf (mTest (mUn fIsNone (mLoc 4))) (sSeq (sAssign (.loc 2) (mCall (mFn k) (dFn k semB) (aCons (mLoc 0) (aCons (mLoc 1) (aCons (mLoc 2) (aCons (mLoc 3) aNil)))))) sNil)
        (sSeq (sAssign (.loc 2) (mCallK (mFn k) (dFn k semB) (aCons (mLoc 0) (aCons (mCall (mLoc 4) disp (aCons (mLoc 1) aNil)) (aCons (mLoc 2) (aCons (mLoc 3) aNil)))) (mLoc 4))) sNil) { loc:=[some (.ref a),some (.int x),some (.int lo),some hiV,some keyV],cel:=[],C:=C,H:=H } =
        some (.next,{ loc:=[some (.ref a),some (.int x),some (.int r),some hiV,some keyV],cel:=[],C:=C,H:=H }):=by
      cases hX with
      | none =>
        rw [sIf_t (H:=H) rfl]
        refine sOne ?_
        unfold sAssign mCall mFn aCons aNil dFn
        simp only [mLoc,List.getElem?_cons_zero,List.getElem?_cons_succ,if_true]
        simp only [V.isNone,if_true] at hB
        rw [hB]
        rfl
      | fn hn hd hf =>
        rw [sIf_f (H:=H) (by
          refine mTest_eq (v:=.bool keyV.isNone) (H:=H) ?_ (by rw [hn]; rfl)
          exact fIsNone_eq keyV H)]
        refine sOne ?_
        unfold sAssign mCallK mCall mFn aCons aNil dFn
        simp only [mLoc,List.getElem?_cons_zero,List.getElem?_cons_succ,if_true,hd]
        rw [hf]
        simp only [mLoc,List.getElem?_cons_zero,List.getElem?_cons_succ]
        rw [hn] at hB
        simp only [Bool.false_eq_true,if_false] at hB
        rw [hB]
        rfl
    rw [sSeq_n s0]
    refine sOne ?_
    unfold sExpr mMeth aCons aNil
    simp only [mLoc,List.getElem?_cons_zero,List.getElem?_cons_succ,halt,if_true,fInsert,ha,V.flat,Bool.true_and,L.vs,List.length_map]
    rw [if_pos (by
      simp only [Builtin.List.listFitsIndex,Bool.and_eq_true,decide_eq_true_eq]
      lia)]
    rfl
  rw [key]
  simp only
  have hl : H.length = (H.set a (.ints (insL xs r x))).length:=by simp
  rw [hl]
  exact expo_flat rfl rfl
end

end Mine
namespace Mine
/-! what a value is,whatever else lies in the heap -/
inductive Sp where
  | is (v : V)
  | li (xs : List Int)
  | rws (xs ys : List Int)
noncomputable def Sp.ok : Sp → V → List L → Prop
  | .is v,w,_=>w = v
  | .li xs,w,H=>∃ i,w = .ref i ∧ H[i]? = some (.ints xs)
  | .rws xs ys,w,H=>∃ i a b,w = .ref i ∧ H[i]? = some (.vals [.ref a,.ref b]) ∧ H[a]? = some (.ints xs) ∧ H[b]? = some (.ints ys)
theorem pre_get {H H' : List L} (p : H <+: H') {i : Nat} {l : L} (e : H[i]? = some l) : H'[i]? = some l:=getElem?_pre p e
theorem Sp.mono {s : Sp} {w : V} {H H' : List L} (p : H <+: H') (h : s.ok w H) : s.ok w H':=by
  cases s with
  | is v=>exact h
  | li xs=>exact h.elim fun i q=>⟨i,q.1,pre_get p q.2⟩
  | rws xs ys =>
    obtain ⟨i,a,b,e,h1,h2,h3⟩:=h
    exact ⟨i,a,b,e,pre_get p h1,pre_get p h2,pre_get p h3⟩
noncomputable def SpL : List Sp → List V → List L → Prop
  | [],[],_=>True
  | s :: ss,v :: vs,H=>s.ok v H ∧ SpL ss vs H
  | _,_,_=>False
inductive EvR (H : List L) (sp : V → List L → Prop) : Option (V × List L) → Prop
  | mk (v : V) (H' : List L) (p : H <+: H') (h : sp v H') : EvR H sp (some (v,H'))
@[elab_as_elim] theorem EvR.e {H : List L} {sp : V → List L → Prop} {P : Option (V × List L) → Prop} {o : Option (V × List L)} (h : EvR H sp o) (k : ∀ v H',H <+: H' → sp v H' → P (some (v,H'))) : P o:=by cases h with | mk v H' p q=>exact k v H' p q
noncomputable def EvP (m : Xm) (σ : S) (P : V → List L → Prop) : Prop:=∀ H,σ.H <+: H → EvR H P (m { σ with H:=H })
noncomputable abbrev Ev (m : Xm) (σ : S) (s : Sp) : Prop:=EvP m σ s.ok
inductive EvaR (H : List L) (ss : List Sp) : Option (List V × List L) → Prop
  | mk (vs : List V) (H' : List L) (p : H <+: H') (h : SpL ss vs H') : EvaR H ss (some (vs,H'))
@[elab_as_elim] theorem EvaR.e {H : List L} {ss : List Sp} {P : Option (List V × List L) → Prop} {o : Option (List V × List L)} (h : EvaR H ss o) (k : ∀ v H',H <+: H' → SpL ss v H' → P (some (v,H'))) : P o:=by cases h with | mk v H' p q=>exact k v H' p q
noncomputable def Eva (a : Xms) (σ : S) (ss : List Sp) : Prop:=∀ H,σ.H <+: H → EvaR H ss (a { σ with H:=H })
inductive EvbR (H : List L) (b : Bool) : Option (Bool × List L) → Prop
  | mk (H' : List L) (p : H <+: H') : EvbR H b (some (b,H'))
@[elab_as_elim] theorem EvbR.e {H : List L} {b : Bool} {P : Option (Bool × List L) → Prop} {o : Option (Bool × List L)} (h : EvbR H b o) (k : ∀ H',H <+: H' → P (some (b,H'))) : P o:=by cases h with | mk H' p=>exact k H' p
noncomputable def Evb (m : Bm) (σ : S) (b : Bool) : Prop:=∀ H,σ.H <+: H → EvbR H b (m { σ with H:=H })
noncomputable abbrev pi (x : Int) : Sp:=.is (.int x)
section
variable {σ : S} {H : List L}
theorem pre_rfl {H : List L} : H <+: H:=List.prefix_refl _
theorem pre_app {H T : List L} : H <+: H ++ T:=⟨T,rfl⟩
theorem ev_loc {i : Nat} {v : V} (h : σ.loc[i]? = some (some v)) : Ev (mLoc i) σ (.is v):=fun H p=>by
  unfold mLoc; rw [h]; exact ⟨v,H,pre_rfl,rfl⟩
theorem ev_cel {i c : Nat} {v : V} (h : σ.cel[i]? = some c) (h2 : σ.C[c]? = some (some v)) : Ev (mCel i) σ (.is v):=fun H p=>by
  unfold mCel; rw [h]; dsimp only; rw [h2]; exact ⟨v,H,pre_rfl,rfl⟩
theorem ev_li {m : Xm} {i : Nat} {xs : List Int} (e : Ev m σ (.is (.ref i))) (h : σ.H[i]? = some (.ints xs)) : Ev m σ (.li xs):=fun H p=>by
  refine EvR.e (e H p) fun v H' q k=>?_
  exact ⟨v,H',q,i,k,pre_get (p.trans q) h⟩
theorem ev_int {k : Int} : Ev (mInt k) σ (pi k):=fun H p=>⟨_,H,pre_rfl,rfl⟩
theorem ev_bool {k : Bool} : Ev (mBool k) σ (.is (.bool k)):=fun H p=>⟨_,H,pre_rfl,rfl⟩
theorem ev_fn {k : Nat} : Ev (mFn k) σ (.is (.fn k)):=fun H p=>⟨_,H,pre_rfl,rfl⟩
theorem ev_bin {f : F2} {a b : Xm} {s t : Sp} {r : V} (ea : Ev a σ s) (eb : Ev b σ t) (hf : ∀ x y H,s.ok x H → t.ok y H → f x y H = some (r,H)) : Ev (mBin f a b) σ (.is r):=fun H p=>by
  unfold mBin
  refine EvR.e (ea H p) fun x H1 p1 k1=>?_
  dsimp only
  refine EvR.e (eb H1 (p.trans p1)) fun y H2 p2 k2=>?_
  dsimp only
  rw [hf x y H2 (Sp.mono p2 k1) k2]
  exact ⟨r,H2,p1.trans p2,rfl⟩
theorem ev_i2 {f : F2} {a b : Xm} {x y z : Int} (ea : Ev a σ (pi x)) (eb : Ev b σ (pi y)) (hf : ∀ H,f (.int x) (.int y) H = some (.int z,H)) : Ev (mBin f a b) σ (pi z) :=
  ev_bin ea eb fun u v H (q : u = _) (r : v = _)=>by rw [q,r]; exact hf H
theorem ev_add {a b : Xm} {x y : Int} (ea : Ev a σ (pi x)) (eb : Ev b σ (pi y)) : Ev (mBin fAdd a b) σ (pi (x + y)):=ev_i2 ea eb fun _=>rfl
theorem ev_sub {a b : Xm} {x y : Int} (ea : Ev a σ (pi x)) (eb : Ev b σ (pi y)) : Ev (mBin fSub a b) σ (pi (x - y)):=ev_i2 ea eb fun _=>rfl
theorem ev_mul {a b : Xm} {x y : Int} (ea : Ev a σ (pi x)) (eb : Ev b σ (pi y)) (h : (small x || small y) = true) : Ev (mBin fMul a b) σ (pi (x * y)):=ev_i2 ea eb fun H=>by
  show (if (small x || small y) = true then _ else _) = _; rw [if_pos h]
theorem ev_div {a b : Xm} {x y : Int} (ea : Ev a σ (pi x)) (eb : Ev b σ (pi y)) (h0 : 0 < y) (h : small y = true) : Ev (mBin fDiv a b) σ (pi (x / y)):=ev_i2 ea eb fun H=>by
  show (if y = 0 then none else if small y = true then some (V.int (x.fdiv y),H) else none) = _
  rw [if_neg (by lia),if_pos h,Int.fdiv_eq_ediv_of_nonneg _ (Int.le_of_lt h0)]
theorem ev_mod {a b : Xm} {x y : Int} (ea : Ev a σ (pi x)) (eb : Ev b σ (pi y)) (h0 : 0 < y) : Ev (mBin fMod a b) σ (pi (x % y)):=ev_i2 ea eb fun H=>by
  show (if y = 0 then none else some (V.int (x.fmod y),H)) = _
  rw [if_neg (by lia),Int.fmod_eq_emod_of_nonneg _ (Int.le_of_lt h0)]
theorem ev_item {a b : Xm} {xs : List Int} {k : Int} (ea : Ev a σ (.li xs)) (eb : Ev b σ (pi k)) (h0 : 0 ≤ k) (h1 : k < xs.length) : Ev (mBin fItem a b) σ (pi (xs.getD k.toNat 0)) :=
  ev_bin ea eb fun u v H ⟨i,q,hi⟩ (r : v = _)=>by rw [q,r]; exact fItem_ints hi h0 h1
theorem eva_nil : Eva aNil σ []:=fun H p=>⟨[],H,pre_rfl,trivial⟩
theorem eva_cons {a : Xm} {b : Xms} {s : Sp} {ss : List Sp} (ea : Ev a σ s) (eb : Eva b σ ss) : Eva (aCons a b) σ (s :: ss):=fun H p=>by
  unfold aCons
  refine EvR.e (ea H p) fun x H1 p1 k1=>?_
  dsimp only
  refine EvaR.e (eb H1 (p.trans p1)) fun y H2 p2 k2=>?_
  exact ⟨_,H2,p1.trans p2,Sp.mono p2 k1,k2⟩
theorem eva_1 {a : Xm} {s : Sp} (ea : Ev a σ s) : Eva (aCons a aNil) σ [s]:=eva_cons ea eva_nil
theorem ev_args {f : FN} {a : Xms} {ss : List Sp} {r : V} (ea : Eva a σ ss) (hf : ∀ vs H,SpL ss vs H → f vs H = some (r,H)) : Ev (mArgs f a) σ (.is r):=fun H p=>by
  unfold mArgs
  refine EvaR.e (ea H p) fun vs H1 p1 k1=>?_
  dsimp only
  rw [hf vs H1 k1]
  exact ⟨r,H1,p1,rfl⟩
@[elab_as_elim] theorem SpL.e1 {s : Sp} {vs : List V} {P : List V → Prop} (h : SpL [s] vs H) (k : ∀ v,s.ok v H → P [v]) : P vs:=by
  match vs,h with
  | [v],h=>exact k v h.1
@[elab_as_elim] theorem SpL.e2 {s t : Sp} {vs : List V} {P : List V → Prop} (h : SpL [s,t] vs H) (k : ∀ v w,s.ok v H → t.ok w H → P [v,w]) : P vs:=by
  match vs,h with
  | [v,w],h=>exact k v w h.1 h.2.1
@[elab_as_elim] theorem SpL.e3 {s t r : Sp} {vs : List V} {P : List V → Prop} (h : SpL [s,t,r] vs H) (k : ∀ v w u,s.ok v H → t.ok w H → r.ok u H → P [v,w,u]) : P vs:=by
  match vs,h with
  | [v,w,u],h=>exact k v w u h.1 h.2.1 h.2.2.1
@[elab_as_elim] theorem SpL.e4 {s t r q : Sp} {vs : List V} {P : List V → Prop} (h : SpL [s,t,r,q] vs H) (k : ∀ v w u x,s.ok v H → t.ok w H → r.ok u H → q.ok x H → P [v,w,u,x]) : P vs:=by
  match vs,h with
  | [v,w,u,x],h=>exact k v w u x h.1 h.2.1 h.2.2.1 h.2.2.2.1
theorem ev_sum {a : Xm} {xs : List Int} (ea : Ev a σ (.li xs)) : Ev (mArgs fSum (aCons a aNil)) σ (pi xs.sum):=ev_args (eva_1 ea) fun vs H h=>h.e1 (P:=fun vs=>fSum vs H = _) fun v ⟨i,q,hi⟩=>by
  rw [q]; unfold fSum; dsimp only; rw [hi]
theorem ev_len {a : Xm} {xs : List Int} (ea : Ev a σ (.li xs)) : Ev (mArgs fLen (aCons a aNil)) σ (pi xs.length):=ev_args (eva_1 ea) fun vs H h=>h.e1 (P:=fun vs=>fLen vs H = _) fun v ⟨i,q,hi⟩=>by
  rw [q]; unfold fLen; dsimp only; rw [hi]; dsimp only [L.vs]; rw [List.length_map]
theorem ev_min {a b : Xm} {x y : Int} (ea : Ev a σ (pi x)) (eb : Ev b σ (pi y)) : Ev (mArgs fMin2 (aCons a (aCons b aNil))) σ (pi (min x y)):=ev_args (eva_cons ea (eva_1 eb)) fun vs H h=>h.e2 (P:=fun vs=>fMin2 vs H = _) fun v w (q : v = _) (r : w = _)=>by
  rw [q,r]; show some (V.int (if y < x then y else x),H) = _
  congr 3; split <;> lia
theorem ev_max {a b : Xm} {x y : Int} (ea : Ev a σ (pi x)) (eb : Ev b σ (pi y)) : Ev (mArgs fMax2 (aCons a (aCons b aNil))) σ (pi (max x y)):=ev_args (eva_cons ea (eva_1 eb)) fun vs H h=>h.e2 (P:=fun vs=>fMax2 vs H = _) fun v w (q : v = _) (r : w = _)=>by
  rw [q,r]; show some (V.int (if x < y then y else x),H) = _
  congr 3; split <;> lia
end
end Mine
namespace Mine
/-! comprehensions and loops over ints,step by step -/
theorem compI_step {item : Itm} {v : V} {put : Put} {t : Bm} {c : Cm} {g k : Nat} {vs vs2 : List V} {σ σ1 σ2 : S} {H : List L} (h : item σ.H k = some (some v)) (h1 : put v σ = some σ1) (h2 : t σ1 = some (true,H)) (h3 : c vs { σ1 with H:=H } = some (vs2,σ2)) :
    compGoI item put t c (g + 1) k vs σ = compGoI item put t c g (k + 1) vs2 σ2:=by
  simp only [compGoI,h,h1,h2,h3]
theorem compI_skip {item : Itm} {v : V} {put : Put} {t : Bm} {c : Cm} {g k : Nat} {vs : List V} {σ σ1 : S} {H : List L} (h : item σ.H k = some (some v)) (h1 : put v σ = some σ1) (h2 : t σ1 = some (false,H)) :
    compGoI item put t c (g + 1) k vs σ = compGoI item put t c g (k + 1) vs { σ1 with H:=H }:=by
  simp only [compGoI,h,h1,h2]
theorem compI_stop {item : Itm} {put : Put} {t : Bm} {c : Cm} {g k : Nat} {vs : List V} {σ : S} (h : item σ.H k = some none) :
    compGoI item put t c (g + 1) k vs σ = some (vs,σ):=by
  simp only [compGoI,h]
theorem comp_ints {item : Itm} {put : Put} {t : Bm} {c : Cm} {xs : List Int} {g : Int → List Int} (P : S → Prop) (hit : ∀ σ,P σ → ∀ k,item σ.H k = some ((xs.map V.int)[k]?))
    (hs : ∀ x ∈ xs,∀ σ vs,P σ → vs.length + (g x).length ≤ 900000 → ∃ σ1 H,put (.int x) σ = some σ1 ∧ ((t σ1 = some (true,H) ∧ ∃ σ2,c vs { σ1 with H:=H } = some (vs ++ (g x).map V.int,σ2) ∧ P σ2) ∨ (t σ1 = some (false,H) ∧ g x = [] ∧ P { σ1 with H:=H }))) :
    ∀ (fuel k : Nat) (vs : List V) (σ : S),P σ → k ≤ xs.length → xs.length - k < fuel → vs.length + ((xs.drop k).flatMap g).length ≤ 900000 → ∃ σ',compGoI item put t c fuel k vs σ = some (vs ++ ((xs.drop k).flatMap g).map V.int,σ') ∧ P σ':=by
  intro fuel
  induction fuel with
  | zero=>intro k vs σ _ _ h _; lia
  | succ fuel ih =>
    intro k vs σ hP hk hf hl
    by_cases h : k < xs.length
    · have hd : xs.drop k = xs[k] :: xs.drop (k + 1):=List.drop_eq_getElem_cons h
      rw [hd,List.flatMap_cons,List.length_append] at hl
      have it : item σ.H k = some (some (.int xs[k])):=by rw [hit σ hP,List.getElem?_map,List.getElem?_eq_getElem h]; rfl
      refine e2a2 (hs xs[k] (List.getElem_mem h) σ vs hP (by lia)) fun σ1 H e1 q=>?_
      rcases q with ⟨e2,σ2,e3,p2⟩ | ⟨e2,e3,p2⟩
      · refine e1a2 (ih (k + 1) (vs ++ (g xs[k]).map V.int) σ2 p2 (by lia) (by lia) (by simp only [List.length_append,List.length_map]; lia)) fun σ' q1 q2=>?_
        refine ⟨σ',?_,q2⟩
        rw [compI_step it e1 e2 e3,q1,hd,List.flatMap_cons,List.map_append,List.append_assoc]
      · refine e1a2 (ih (k + 1) vs { σ1 with H:=H } p2 (by lia) (by lia) (by lia)) fun σ' q1 q2=>?_
        refine ⟨σ',?_,q2⟩
        rw [compI_skip it e1 e2,q1,hd,List.flatMap_cons,e3,List.nil_append]
    · have it : item σ.H k = some none:=by rw [hit σ hP,List.getElem?_map,List.getElem?_eq_none (by lia)]; rfl
      refine ⟨σ,?_,hP⟩
      rw [compI_stop it,List.drop_eq_nil_of_le (by lia)]
      simp
theorem toInts_map : ∀ xs : List Int,toInts (xs.map V.int) = some xs
  | []=>rfl
  | x :: xs=>by
    rw [List.map_cons]
    unfold toInts
    rw [toInts_map xs]
theorem mkL_map (xs : List Int) : mkL (xs.map V.int) = .ints xs:=by unfold mkL; rw [toInts_map]
theorem flatMap_ite {α β : Type} (p : α → Bool) (g : α → β) : ∀ xs : List α,xs.flatMap (fun x=>if p x = true then [g x] else []) = (xs.filter p).map g
  | []=>rfl
  | x :: xs=>by
    rw [List.flatMap_cons,flatMap_ite p g xs]
    by_cases h : p x = true
    · rw [if_pos h,List.filter_cons_of_pos h]; rfl
    · rw [if_neg h,List.filter_cons_of_neg h]; rfl
/-! what can be walked over -/
noncomputable def It (xs : List Int) : V → List L → Prop:=fun w H=>∀ H2,H <+: H2 → ∀ k,itemAt w H2 k = some ((xs.map V.int)[k]?)
noncomputable def rng (n : Nat) : List Int:=(List.range n).map fun k : Nat=>(k : Int)
noncomputable def rngB (a n : Nat) : List Int:=(List.range n).map fun k : Nat=>((a + k : Nat) : Int)
section
variable {σ : S} {H : List L}
theorem It.li {xs : List Int} {w : V} (h : (Sp.li xs).ok w H) : It xs w H:=fun H2 p k=>h.elim fun i q=>by
  rw [q.1]; unfold itemAt; dsimp only; rw [pre_get p q.2]; rfl
theorem ev_it {m : Xm} {xs : List Int} (e : Ev m σ (.li xs)) : EvP m σ (It xs):=fun H p=>by
  refine EvR.e (e H p) fun v H' q k=>?_
  exact ⟨v,H',q,.li k⟩
theorem rngSize (a n : Nat) : Builtin.Range.rangeSize a ((a + n : Nat) : Int) 1 = (n : Int):=by
  unfold Builtin.Range.rangeSize
  simp
  lia
theorem It.rng {a n : Nat} (hn : a + n ≤ 1000) : It (rngB a n) (.rng a ((a + n : Nat) : Int) 1) H:=fun H2 p k=>by
  unfold itemAt
  simp only
  rw [if_pos (by unfold Builtin.Range.small Builtin.Range.rangeFitsLong; rw [rngSize]; simp; lia),rngSize]
  unfold rngB
  by_cases h : k < n
  · rw [if_pos (by lia)]; simp [h]; try lia
  · rw [if_neg (by lia),List.getElem?_eq_none (by simp; lia)]
theorem rngB_0 (n : Nat) : rngB 0 n = rng n:=by simp [rngB,rng]
theorem It.any {xs : List Int} {v : V} (h : It xs v []) : It xs v H:=fun H2 _=>h H2 List.nil_prefix
theorem ev_any {m : Xm} {xs : List Int} (e : EvP m σ (fun v _=>It xs v [])) : EvP m σ (It xs):=fun H p=>by
  refine EvR.e (e H p) fun v H' q k=>?_
  exact ⟨v,H',q,k.any⟩
theorem ev_rng1 {a : Xm} {n : Nat} (e : Ev a σ (pi n)) (hn : n ≤ 1000) : EvP (mArgs fRange3 (aCons a aNil)) σ (fun v _=>It (rng n) v []):=fun H p=>by
  unfold mArgs
  refine EvaR.e (eva_1 e H p) fun vs H1 p1 k1=>?_
  dsimp only
  refine k1.e1 fun v (q : v = _)=>?_
  rw [q]
  have:=It.rng (a:=0) (n:=n) (H:=[]) (by lia)
  rw [Nat.zero_add,rngB_0] at this
  exact ⟨_,H1,p1,this⟩
theorem ev_rng2 {a b : Xm} {s n : Nat} (e : Ev a σ (pi s)) (e2 : Ev b σ (pi ((s + n : Nat) : Int))) (hn : s + n ≤ 1000) : EvP (mArgs fRange3 (aCons a (aCons b aNil))) σ (fun v _=>It (rngB s n) v []):=fun H p=>by
  unfold mArgs
  refine EvaR.e (eva_cons e (eva_1 e2) H p) fun vs H1 p1 k1=>?_
  dsimp only
  refine k1.e2 fun v w (q : v = _) (r : w = _)=>?_
  rw [q,r]
  exact ⟨_,H1,p1,It.rng hn⟩
theorem evb_true : Evb (mConst true) σ true:=fun H p=>⟨H,pre_rfl⟩
theorem evb_cmp {f : F2} {a b : Xm} {r : Bool} (e : Ev (mBin f a b) σ (.is (.bool r))) : Evb (mTest (mBin f a b)) σ r:=fun H p=>by
  unfold mTest
  refine EvR.e (e H p) fun v H1 p1 (k1 : v = _)=>?_
  rw [k1]; exact ⟨H1,p1⟩
theorem evb_i2 {f : F2} {a b : Xm} {x y : Int} {r : Bool} (ea : Ev a σ (pi x)) (eb : Ev b σ (pi y)) (hf : ∀ H,f (.int x) (.int y) H = some (.bool r,H)) : Evb (mTest (mBin f a b)) σ r :=
  evb_cmp (ev_bin ea eb fun u v H (q : u = _) (s : v = _)=>by rw [q,s]; exact hf H)
theorem evb_lt {a b : Xm} {x y : Int} (ea : Ev a σ (pi x)) (eb : Ev b σ (pi y)) : Evb (mTest (mBin fLt a b)) σ (decide (x < y)):=evb_i2 ea eb fun _=>rfl
theorem evb_le {a b : Xm} {x y : Int} (ea : Ev a σ (pi x)) (eb : Ev b σ (pi y)) : Evb (mTest (mBin fLe a b)) σ (decide (x ≤ y)):=evb_i2 ea eb fun _=>rfl
theorem evb_eq {a b : Xm} {x y : Int} (ea : Ev a σ (pi x)) (eb : Ev b σ (pi y)) : Evb (mTest (mBin fEqI a b)) σ (decide (x = y)):=evb_i2 ea eb fun _=>rfl
theorem evb_ne {a b : Xm} {x y : Int} (ea : Ev a σ (pi x)) (eb : Ev b σ (pi y)) : Evb (mTest (mBin fNeI a b)) σ (decide (x ≠ y)):=evb_i2 ea eb fun _=>by
  show some (V.bool (x != y),_) = _
  congr 3; by_cases h : x = y <;> simp [h]
noncomputable def inn (σ : S) (is : List Nat) (x : Int) : S:={ loc:=[some (.int x)],cel:=is.map fun i=>σ.cel.getD i 0,C:=σ.C,H:=σ.H }
theorem compEnd_ints {xs : List Int} {τ : S} (h : xs.length ≤ 1000) : compEnd (some (xs.map V.int,τ)) = some (.ref τ.H.length,τ.H ++ [.ints xs]):=by
  unfold compEnd
  dsimp only
  rw [if_pos (by rw [stills_ints,List.length_map]; simp; lia),mkL_map]
theorem new_at {H : List L} {xs : List Int} : (Sp.li xs).ok (.ref H.length) (H ++ [.ints xs]):=⟨_,rfl,by simp⟩
theorem comp_core1 {item : Itm} {put : Put} {t : Bm} {elt : Xm} {xs : List Int} {p : Int → Bool} {g : Int → Int} {B : List L} (st : Option Int → List L → S) (hH : ∀ o H,(st o H).H = H) (hup : ∀ o H H',{ st o H with H:=H' } = st o H') (hput : ∀ x o H,put (.int x) (st o H) = some (st (some x) H))
    (hit : ∀ H2,B <+: H2 → ∀ k,item H2 k = some ((xs.map V.int)[k]?)) (hlen : xs.length ≤ 900) (ht : ∀ x ∈ xs,Evb t (st (some x) B) (p x)) (he : ∀ x ∈ xs,p x = true → Ev elt (st (some x) B) (pi (g x))) :
    ∃ o H',compGoI item put t (cElt elt) 1000 0 [] (st none B) = some (((xs.filter p).map g).map V.int,st o H') ∧ B <+: H':=by
  have hfl:=List.length_filter_le p xs
  have key:=comp_ints (item:=item) (put:=put) (t:=t) (c:=cElt elt) (xs:=xs) (g:=fun x=>if p x = true then [g x] else []) (fun τ=>∃ o H',τ = st o H' ∧ B <+: H') (fun τ ⟨o,H',e,q⟩=>by rw [e,hH]; exact hit _ q) (fun x hx τ vs ⟨o,H',e,q⟩ hl=>by
    subst e
    have h1:=ht x hx H' (by rw [hH]; exact q)
    rw [hup] at h1
    revert h1
    generalize hr : t (st (some x) H') = r
    intro h1
    cases h1 with | mk H1 q1 =>
    refine ⟨st (some x) H',H1,hput _ _ _,?_⟩
    cases hp : p x with
    | false=>exact .inr ⟨hp ▸ hr,by simp,some x,H1,hup _ _ _,q.trans q1⟩
    | true =>
      refine .inl ⟨hp ▸ hr,?_⟩
      rw [hup]
      have h2:=he x hx hp H1 (by rw [hH]; exact q.trans q1)
      rw [hup] at h2
      revert h2
      generalize hs : elt (st (some x) H1) = r2
      intro h2
      cases h2 with | mk v H2 q2 k2 =>
      have k2' : v = .int (g x):=k2
      subst k2'
      refine ⟨st (some x) H2,?_,some x,H2,rfl,(q.trans q1).trans q2⟩
      unfold cElt
      rw [hs]; dsimp only
      rw [if_pos (by rw [hp] at hl; simp at hl; lia),hup]; rfl) 1000 0 [] (st none B) ⟨none,B,rfl,pre_rfl⟩ (Nat.zero_le _) (by lia) (by rw [flatMap_ite]; simp; lia)
  obtain ⟨σ',e,o,H',rfl,q⟩:=key
  rw [List.drop_zero,flatMap_ite,List.nil_append] at e
  exact ⟨o,H',e,q⟩
theorem ev_comp {m : Xm} {xs : List Int} {is : List Nat} {t : Bm} {elt : Xm} {p : Int → Bool} {g : Int → Int} (em : EvP m σ (It xs)) (hlen : xs.length ≤ 900) (hall : is.all (fun i=>i < σ.cel.length) = true) (ht : ∀ x ∈ xs,Evb t (inn σ is x) (p x)) (he : ∀ x ∈ xs,p x = true → Ev elt (inn σ is x) (pi (g x))) :
    Ev (mCompI 1000 1 is (putL 0) (iPlain m) t (cElt elt)) σ (.li ((xs.filter p).map g)):=fun H pH=>by
  unfold mCompI iPlain
  refine EvR.e (em H pH) fun v H1 p1 k1=>?_
  dsimp only
  rw [if_pos hall]
  have pB:=pH.trans p1
  obtain ⟨o,H2,e,q⟩:=comp_core1 (item:=itemAt v) (put:=putL 0) (t:=t) (elt:=elt) (xs:=xs) (p:=p) (g:=g) (B:=H1) (fun o H=>{ loc:=[o.map V.int],cel:=is.map fun i=>σ.cel.getD i 0,C:=σ.C,H:=H }) (fun _ _=>rfl) (fun _ _ _=>rfl) (fun _ _ _=>rfl) k1 hlen
    (fun x hx H' q=>ht x hx H' (pB.trans q)) (fun x hx hp H' q=>he x hx hp H' (pB.trans q))
  rw [show (({ loc:=List.replicate 1 none,cel:=is.map fun i=>σ.cel.getD i 0,C:=σ.C,H:=H1 } : S)) = { loc:=[Option.map V.int none],cel:=is.map fun i=>σ.cel.getD i 0,C:=σ.C,H:=H1 } from rfl,e,compEnd_ints (by rw [List.length_map]; have:=List.length_filter_le p xs; lia)]
  exact ⟨_,_,p1.trans (q.trans pre_app),new_at⟩
theorem filter_true {α : Type} (xs : List α) : xs.filter (fun _=>true) = xs:=List.filter_eq_self.mpr fun _ _=>rfl
theorem ev_map {m : Xm} {xs : List Int} {is : List Nat} {elt : Xm} {g : Int → Int} (em : EvP m σ (It xs)) (hlen : xs.length ≤ 900) (hall : is.all (fun i=>i < σ.cel.length) = true) (he : ∀ x ∈ xs,Ev elt (inn σ is x) (pi (g x))) :
    Ev (mCompI 1000 1 is (putL 0) (iPlain m) (mConst true) (cElt elt)) σ (.li (xs.map g)):=by
  have:=ev_comp (p:=fun _=>true) em hlen hall (fun _ _=>evb_true) fun x hx _=>he x hx
  rw [filter_true] at this
  exact this
theorem spl_ints : ∀ {xs : List Int} {vs : List V},SpL (xs.map pi) vs H → vs = xs.map V.int
  | [],[],_=>rfl
  | x :: xs,v :: vs,h=>by rw [List.map_cons,← spl_ints h.2]; rw [show v = .int x from h.1]
theorem ev_list {a : Xms} {xs : List Int} (ea : Eva a σ (xs.map pi)) (hl : xs.length ≤ 1000) : Ev (mList a) σ (.li xs):=fun H p=>by
  unfold mList
  refine EvaR.e (ea H p) fun vs H1 p1 k1=>?_
  rw [spl_ints k1]
  dsimp only
  rw [if_pos (by rw [stills_ints,List.length_map]; simp; lia),mkL_map]
  exact ⟨_,_,p1.trans pre_app,new_at⟩
end
end Mine
namespace Mine
/-! statements -/
inductive StR (Q : Fl → S → Prop) : Option (Fl × S) → Prop
  | mk (f : Fl) (σ' : S) (h : Q f σ') : StR Q (some (f,σ'))
@[elab_as_elim] theorem StR.e {Q : Fl → S → Prop} {P : Option (Fl × S) → Prop} {o : Option (Fl × S)} (h : StR Q o) (k : ∀ f σ',Q f σ' → P (some (f,σ'))) : P o:=by cases h with | mk f σ' q=>exact k f σ' q
noncomputable def Do (s : Sm) (σ : S) (Q : Fl → S → Prop) : Prop:=StR Q (s σ)
noncomputable def SeqQ (b : Sm) (Q : Fl → S → Prop) : Fl → S → Prop
  | .next,σ1=>Do b σ1 Q
  | .ret v,σ1=>Q (.ret v) σ1
section
variable {σ : S} {Q : Fl → S → Prop}
theorem do_seq {a b : Sm} (h : Do a σ (SeqQ b Q)) : Do (sSeq a b) σ Q:=by
  unfold Do sSeq
  refine StR.e h fun f σ1 q=>?_
  cases f with
  | next=>exact q
  | ret v=>exact ⟨_,_,q⟩
theorem do_nil (h : Q .next σ) : Do sNil σ Q:=⟨_,_,h⟩
theorem do_one {a : Sm} (h : Do a σ Q) : Do (sSeq a sNil) σ Q:=by
  refine do_seq ?_
  unfold Do at h ⊢
  refine StR.e h fun f σ' q=>?_
  refine ⟨f,σ',?_⟩
  cases f
  · exact do_nil q
  · exact q
theorem do_put {t : Tgt} {m : Xm} {s : Sp} (e : Ev m σ s) (k : ∀ v H',σ.H <+: H' → s.ok v H' → ∃ σ1,t.put v { σ with H:=H' } = some σ1 ∧ Q .next σ1) : Do (sAssign t m) σ Q:=by
  unfold Do sAssign
  refine EvR.e (e σ.H pre_rfl) fun v H' p q=>?_
  dsimp only
  refine e1a2 (k v H' p q) fun σ1 h1 h2=>?_
  rw [h1]
  exact ⟨_,_,h2⟩
theorem do_loc {i : Nat} {m : Xm} {s : Sp} (e : Ev m σ s) (k : ∀ v H',σ.H <+: H' → s.ok v H' → Q .next { σ with loc:=σ.loc.set i (some v),H:=H' }) : Do (sAssign (.loc i) m) σ Q :=
  do_put e fun v H' p q=>⟨_,rfl,k v H' p q⟩
theorem do_cel {i c : Nat} {m : Xm} {s : Sp} (e : Ev m σ s) (hc : σ.cel[i]? = some c) (hl : c < σ.C.length) (k : ∀ v H',σ.H <+: H' → s.ok v H' → Q .next { σ with C:=σ.C.set c (some v),H:=H' }) : Do (sAssign (.cel i) m) σ Q :=
  do_put e fun v H' p q=>⟨_,by unfold Tgt.put; dsimp only; rw [hc]; dsimp only; rw [if_pos hl],k v H' p q⟩
theorem do_ret {m : Xm} {s : Sp} (e : Ev m σ s) (k : ∀ v H',σ.H <+: H' → s.ok v H' → Q (.ret v) { σ with H:=H' }) : Do (sRet m) σ Q:=by
  unfold Do sRet
  refine EvR.e (e σ.H pre_rfl) fun v H' p q=>?_
  exact ⟨_,_,k v H' p q⟩
theorem do_if {t : Bm} {a b : Sm} {c : Bool} (e : Evb t σ c) (k : ∀ H',σ.H <+: H' → Do (if c = true then a else b) { σ with H:=H' } Q) : Do (sIf t a b) σ Q:=by
  unfold Do sIf
  refine EvbR.e (e σ.H pre_rfl) fun H' p=>?_
  have:=k H' p
  cases c with
  | true=>rw [if_pos rfl] at this; exact this
  | false=>rw [if_neg (by decide)] at this; exact this
theorem do_forG {fuel : Nat} {t : Tgt} {m : Xm} {b : Sm} {vs : List V} {R : V → List L → Prop} (em : EvP m σ R) (hf : vs.length < fuel) (I : List L → Nat → S → Prop) (hit : ∀ v B k τ,R v B → I B k τ → itemAt v τ.H k = some vs[k]?) (h0 : ∀ H',σ.H <+: H' → I H' 0 { σ with H:=H' })
    (hs : ∀ B k τ (h : k < vs.length),σ.H <+: B → I B k τ → ∃ σ1,t.put vs[k] τ = some σ1 ∧ Do b σ1 (fun f τ'=>f = .next ∧ I B (k + 1) τ')) (hq : ∀ B τ,σ.H <+: B → I B vs.length τ → Q .next τ) : Do (sFor fuel t m b) σ Q:=by
  unfold Do sFor
  refine EvR.e (em σ.H pre_rfl) fun v B p it=>?_
  dsimp only
  have key : ∀ (g k : Nat) (τ : S),k ≤ vs.length → vs.length - k < g → I B k τ → StR Q (forGo v t b g k τ):=by
    intro g
    induction g with
    | zero=>intro k τ _ h; lia
    | succ g ih =>
      intro k τ h1 h2 hI
      unfold forGo
      rw [hit v B k τ it hI]
      by_cases h : k < vs.length
      · rw [List.getElem?_eq_getElem h]
        dsimp only
        refine e1a2 (hs B k τ h p hI) fun σ1 q1 q2=>?_
        rw [q1]; dsimp only
        refine StR.e q2 fun f τ' q=>?_
        rw [q.1]; dsimp only
        exact ih (k + 1) τ' (by lia) (by lia) q.2
      · rw [List.getElem?_eq_none (by lia)]
        have : k = vs.length:=by lia
        subst this
        exact ⟨_,_,hq B τ p hI⟩
  exact key fuel 0 _ (Nat.zero_le _) (by lia) (h0 B p)
theorem do_for {fuel : Nat} {t : Tgt} {m : Xm} {b : Sm} {xs : List Int} {R : V → List L → Prop} (em : EvP m σ R) (hf : xs.length < fuel) (I : List L → Nat → S → Prop) (hit : ∀ v B k τ,R v B → I B k τ → itemAt v τ.H k = some (xs.map V.int)[k]?) (h0 : ∀ H',σ.H <+: H' → I H' 0 { σ with H:=H' })
    (hs : ∀ B k τ (h : k < xs.length),σ.H <+: B → I B k τ → ∃ σ1,t.put (.int xs[k]) τ = some σ1 ∧ Do b σ1 (fun f τ'=>f = .next ∧ I B (k + 1) τ')) (hq : ∀ B τ,σ.H <+: B → I B xs.length τ → Q .next τ) : Do (sFor fuel t m b) σ Q :=
  do_forG em (by rw [List.length_map]; exact hf) I hit h0 (fun B k τ h p q=>by
    have h' : k < xs.length:=by rw [List.length_map] at h; exact h
    rw [List.getElem_map]; exact hs B k τ h' p q) fun B τ p q=>hq B τ p (by rw [List.length_map] at q; exact q)
end
/-! defs -/
noncomputable def FSpec (f : FCall) (args : List Sp) (res : Sp) : Prop:=∀ vs C H,SpL args vs H → EvR H res.ok (f vs none C H)
theorem ev_call {σ : S} {k : Nat} {f : FCall} {args : Xms} {ss : List Sp} {res : Sp} (F : FSpec f ss res) (ea : Eva args σ ss) : Ev (mCall (mFn k) (dFn k f) args) σ res:=fun H p=>by
  unfold mCall mFn dFn
  dsimp only
  rw [if_pos rfl]
  dsimp only
  refine EvaR.e (ea H p) fun vs H1 p1 k1=>?_
  dsimp only
  refine EvR.e (F vs σ.C H1 k1) fun v H2 p2 k2=>?_
  exact ⟨v,H2,p1.trans p2,k2⟩
theorem SpL.length {H : List L} : ∀ {ss : List Sp} {vs : List V},SpL ss vs H → vs.length = ss.length
  | [],[],_=>rfl
  | s :: ss,v :: vs,h=>by simp [SpL.length h.2]
noncomputable def Sp.out : Sp → Bool
  | .is (.int _)=>true
  | .is (.bool _)=>true
  | .is .none=>true
  | .li _=>true
  | _=>false
theorem pre_take {H H' : List L} (p : H <+: H') : H'.take H.length = H:=by
  obtain ⟨T,rfl⟩:=p
  simp
theorem expo_out {res : Sp} (ho : res.out = true) {v : V} {H H' : List L} (p : H <+: H') (h : res.ok v H') : EvR H res.ok (expo kap1 H.length v H'):=by
  have flat : ∀ v : V,kap1 H.length v H' = [] → renV H.length [] v = some v → expo kap1 H.length v H' = some (v,H):=fun v h1 h2=>by
    unfold expo
    rw [h1]
    simp only [List.nodup_nil,List.not_mem_nil,false_implies,implies_true,and_self,if_true,h2,expLs,List.append_nil,pre_take p]
  cases res with
  | is w =>
    have e : v = w:=h
    subst e
    cases v with
    | int i=>rw [flat _ rfl rfl]; exact ⟨_,H,pre_rfl,rfl⟩
    | bool i=>rw [flat _ rfl rfl]; exact ⟨_,H,pre_rfl,rfl⟩
    | none=>rw [flat _ rfl rfl]; exact ⟨_,H,pre_rfl,rfl⟩
    | _=>cases ho
  | rws xs ys=>cases ho
  | li xs =>
    obtain ⟨i,rfl,hi⟩:=h
    by_cases hlt : i < H.length
    · have hk : kap1 H.length (.ref i) H' = []:=by show (if i < H.length then [] else [i]) = []; rw [if_pos hlt]
      have hr : renV H.length [] (.ref i) = some (.ref i):=by unfold renV; rw [if_pos hlt]
      rw [flat _ hk hr]
      refine ⟨_,H,pre_rfl,i,rfl,?_⟩
      obtain ⟨T,rfl⟩:=p
      rw [List.getElem?_append_left hlt] at hi
      exact hi
    · have hk : kap1 H.length (.ref i) H' = [i]:=by show (if i < H.length then [] else [i]) = [i]; rw [if_neg hlt]
      have hr : renV H.length [i] (.ref i) = some (.ref H.length):=by unfold renV; rw [if_neg hlt]; simp [idxOf]
      unfold expo
      rw [hk]
      simp only [List.nodup_cons,List.not_mem_nil,not_false_eq_true,List.nodup_nil,and_self,List.mem_cons,or_false,forall_eq,Nat.not_lt.mp hlt,if_true,hr,expLs,hi,renL,pre_take p]
      exact ⟨_,_,pre_app,new_at⟩
noncomputable def Out (H : List L) (res : Sp) : Fl → S → Prop:=fun f σ'=>H <+: σ'.H ∧ ∃ v,f = .ret v ∧ res.ok v σ'.H
section
variable {σ : S} {H : List L} {res : Sp} {m : Xm}
theorem out_1 (p : H <+: σ.H) (e : Ev m σ res) : Do (sRet m) σ (Out H res):=do_ret e fun v H' q k=>⟨p.trans q,v,rfl,k⟩
theorem out_s {b : Sm} (p : H <+: σ.H) (e : Ev m σ res) : Do (sSeq (sRet m) sNil) σ (SeqQ b (Out H res)):=do_seq (do_ret e fun v H' q k=>⟨p.trans q,v,rfl,k⟩)
theorem out_if {t : Bm} {a b : Sm} (p : H <+: σ.H) (et : Evb t σ true) (k : ∀ H',σ.H <+: H' → Ev m { σ with H:=H' } res) : Do (sIf t (sSeq (sRet m) sNil) a) σ (SeqQ b (Out H res)):=do_if et fun H' q=>by
  rw [if_pos rfl]; exact out_s (p.trans q) (k H' q)
theorem out_mono {s : Sm} {H' : List L} (p : H <+: H') (h : Do s σ (Out H' res)) : Do s σ (Out H res):=by
  unfold Do at h ⊢
  refine StR.e h fun f σ' q=>?_
  exact ⟨f,σ',p.trans q.1,q.2⟩
end
theorem fspec {d : Df} {full : Full} {m : Sm} {ss : List Sp} {res : Sp} (hfull : ∀ vs : List V,vs.length = ss.length → full vs none = some vs) (ho : res.out = true)
    (hb : ∀ vs C H,SpL ss vs H → Do m (entry d vs C H) (Out H res)) : FSpec (fnSem d full kap1 m) ss res:=fun vs C H h=>by
  unfold fnSem
  rw [hfull vs h.length]
  dsimp only
  refine StR.e (hb vs C H h) fun f σ' q=>?_
  obtain ⟨p,v,rfl,k⟩:=q
  exact expo_out ho p k
end Mine
namespace Mine
section
variable {σ : S} {H : List L} {Q : Fl → S → Prop}
theorem ints_len {xs : List Int} : (L.ints xs).vs.length = xs.length:=List.length_map _
theorem ints_stl {xs : List Int} : stills (L.ints xs).vs = true:=stills_ints xs
theorem ev_bin2 {f : F2} {a b : Xm} {s t r : Sp} (ea : Ev a σ s) (eb : Ev b σ t) (hf : ∀ x y H,s.ok x H → t.ok y H → EvR H r.ok (f x y H)) : Ev (mBin f a b) σ r:=fun H p=>by
  unfold mBin
  refine EvR.e (ea H p) fun x H1 p1 k1=>?_
  dsimp only
  refine EvR.e (eb H1 (p.trans p1)) fun y H2 p2 k2=>?_
  dsimp only
  refine EvR.e (hf x y H2 (Sp.mono p2 k1) k2) fun v H3 p3 k3=>?_
  exact ⟨v,H3,(p1.trans p2).trans p3,k3⟩
theorem ev_args2 {f : FN} {a : Xms} {ss : List Sp} {r : Sp} (ea : Eva a σ ss) (hf : ∀ vs H,SpL ss vs H → EvR H r.ok (f vs H)) : Ev (mArgs f a) σ r:=fun H p=>by
  unfold mArgs
  refine EvaR.e (ea H p) fun vs H1 p1 k1=>?_
  dsimp only
  refine EvR.e (hf vs H1 k1) fun v H3 p3 k3=>?_
  exact ⟨v,H3,p1.trans p3,k3⟩
theorem ev_cat {a b : Xm} {xs ys : List Int} (ea : Ev a σ (.li xs)) (eb : Ev b σ (.li ys)) (hl : xs.length + ys.length ≤ 1000) : Ev (mBin fCat a b) σ (.li (xs ++ ys)):=ev_bin2 ea eb fun x y H ⟨i,q,hi⟩ ⟨j,r,hj⟩=>by
  rw [q,r]
  unfold fCat
  dsimp only
  rw [hi,hj]
  dsimp only
  rw [show (L.ints xs).cat (L.ints ys) = .ints (xs ++ ys) from rfl,if_pos (by rw [ints_stl,ints_len,ints_len]; simp; lia)]
  exact ⟨_,_,pre_app,new_at⟩
theorem ev_rep {a b : Xm} {x : Int} {n : Nat} (ea : Ev a σ (.li [x])) (eb : Ev b σ (pi n)) (hl : n ≤ 1000) : Ev (mBin fRep a b) σ (.li (List.replicate n x)):=ev_bin2 ea eb fun v w H ⟨i,q,hi⟩ (r : w = _)=>by
  rw [q,r]
  unfold fRep
  dsimp only
  rw [hi]
  dsimp only
  have e : (L.ints [x]).rep (n : Int).toNat = .ints (List.replicate n x):=by
    unfold L.rep
    simp
  rw [e,if_pos (by rw [ints_stl,ints_len]; simp; lia)]
  exact ⟨_,_,pre_app,new_at⟩
theorem ev_sorted {a : Xm} {xs : List Int} (ea : Ev a σ (.li xs)) (hl : xs.length < 64) : Ev (mArgs fSorted (aCons a aNil)) σ (.li (sortI xs)):=ev_args2 (eva_1 ea) fun vs H h=>h.e1 (P:=fun vs=>EvR H _ (fSorted vs H)) fun v ⟨i,q,hi⟩=>by
  rw [q]; unfold fSorted; dsimp only; rw [hi]; dsimp only; rw [if_pos hl]
  exact ⟨_,_,pre_app,new_at⟩
theorem ev_none : Ev mNone σ (.is .none):=fun H p=>⟨_,H,pre_rfl,rfl⟩
theorem ev_slice {a lo hi st : Xm} {vl vh vs : V} {l h t : Option Int} {xs : List Int} (ea : Ev a σ (.li xs)) (el : Ev lo σ (.is vl)) (eh : Ev hi σ (.is vh)) (es : Ev st σ (.is vs)) (p1 : partOf vl = some l) (p2 : partOf vh = some h) (p3 : partOf vs = some t) (ht : t ≠ some 0) (hl : (pick xs l h t).length ≤ 1048576) : Ev (mSlice a lo hi st) σ (.li (pick xs l h t)):=fun H p=>by
  unfold mSlice
  refine EvR.e (ea H p) fun v H1 q1 ⟨i,e,hi⟩=>?_
  dsimp only
  refine EvR.e (el H1 (p.trans q1)) fun v1 H2 q2 (e1 : v1 = _)=>?_
  dsimp only
  have r2:=q1.trans q2
  refine EvR.e (eh H2 (p.trans r2)) fun v2 H3 q3 (e2 : v2 = _)=>?_
  dsimp only
  have r3:=r2.trans q3
  refine EvR.e (es H3 (p.trans r3)) fun v3 H4 q4 (e3 : v3 = _)=>?_
  dsimp only
  rw [e,e1,e2,e3,p1,p2,p3]
  dsimp only
  rw [if_neg ht,pre_get ((q2.trans q3).trans q4) hi]
  dsimp only
  rw [show (L.ints xs).pick l h t = .ints (pick xs l h t) from rfl,if_pos (by rw [ints_stl,ints_len]; simpa using hl)]
  exact ⟨_,_,(r3.trans q4).trans pre_app,new_at⟩
/-! slices -/
theorem pick_plain {α : Type} (l : List α) (lo hi : Option Int) : pick l lo hi none = (l.drop (lo.elim 0 (clipAt l.length))).take (hi.elim l.length (clipAt l.length) - lo.elim 0 (clipAt l.length)):=by
  unfold pick
  rw [sliceBounds_plain]
  simp only [sliceRange_one]
  have:=pick_run l.toArray (lo.elim 0 (clipAt l.length)) (hi.elim l.length (clipAt l.length) - lo.elim 0 (clipAt l.length))
  simpa using this
theorem pick_to {α : Type} (l : List α) {k : Nat} (h : k ≤ l.length) : pick l none (some (k : Int)) none = l.take k:=by
  rw [pick_plain]
  simp only [Option.elim,clipAt_nat,Nat.min_eq_left h,List.drop_zero,Nat.sub_zero]
theorem pick_from {α : Type} (l : List α) {k : Nat} (h : k ≤ l.length) : pick l (some (k : Int)) none none = l.drop k:=by
  rw [pick_plain]
  simp only [Option.elim,clipAt_nat,Nat.min_eq_left h]
  exact List.take_of_length_le (by simp)
theorem ev_take {a b : Xm} {xs : List Int} {k : Nat} (ea : Ev a σ (.li xs)) (eb : Ev b σ (pi k)) (hk : k ≤ xs.length) (hl : xs.length ≤ 1000) : Ev (mSlice a mNone b mNone) σ (.li (xs.take k)):=by
  have:=ev_slice ea ev_none eb ev_none (l:=none) (h:=some (k : Int)) (t:=none) rfl rfl rfl (by simp) (by rw [pick_to xs hk]; simp; lia)
  rwa [pick_to xs hk] at this
theorem ev_drop {a b : Xm} {xs : List Int} {k : Nat} (ea : Ev a σ (.li xs)) (eb : Ev b σ (pi k)) (hk : k ≤ xs.length) (hl : xs.length ≤ 1000) : Ev (mSlice a b mNone mNone) σ (.li (xs.drop k)):=by
  have:=ev_slice ea eb ev_none ev_none (l:=some (k : Int)) (h:=none) (t:=none) rfl rfl rfl (by simp) (by rw [pick_from xs hk]; simp; lia)
  rwa [pick_from xs hk] at this
/-! tests -/
theorem evb_or {a b : Bm} {x y : Bool} (ea : Evb a σ x) (eb : x = false → Evb b σ y) : Evb (mOrB a b) σ (x || y):=fun H p=>by
  unfold mOrB
  refine EvbR.e (ea H p) fun H1 p1=>?_
  cases x with
  | true=>exact ⟨H1,p1⟩
  | false =>
    dsimp only
    refine EvbR.e (eb rfl H1 (p.trans p1)) fun H2 p2=>?_
    exact ⟨H2,p1.trans p2⟩
theorem evb_const {x : Bool} : Evb (mConst x) σ x:=fun H p=>⟨H,pre_rfl⟩
theorem evb_not {a : Bm} {x : Bool} (ea : Evb a σ x) : Evb (mNot a) σ (!x):=fun H p=>by
  unfold mNot
  refine EvbR.e (ea H p) fun H1 p1=>?_
  exact ⟨H1,p1⟩
theorem evb_test {m : Xm} {x : Bool} (e : Ev m σ (.is (.bool x))) : Evb (mTest m) σ x:=fun H p=>by
  unfold mTest
  refine EvR.e (e H p) fun v H1 p1 (k1 : v = _)=>?_
  rw [k1]; exact ⟨H1,p1⟩
theorem ev_if {t : Bm} {a b : Xm} {x : Bool} {s : Sp} (et : Evb t σ x) (ea : x = true → Ev a σ s) (eb : x = false → Ev b σ s) : Ev (mIf t a b) σ s:=fun H p=>by
  unfold mIf
  refine EvbR.e (et H p) fun H1 p1=>?_
  cases x with
  | true =>
    refine EvR.e (P:=EvR H _) (ea rfl H1 (p.trans p1)) fun v H2 p2 k=>?_
    exact ⟨v,H2,p1.trans p2,k⟩
  | false =>
    refine EvR.e (P:=EvR H _) (eb rfl H1 (p.trans p1)) fun v H2 p2 k=>?_
    exact ⟨v,H2,p1.trans p2,k⟩
theorem ev_and {a b : Xm} {x y : Bool} (ea : Ev a σ (.is (.bool x))) (eb : x = true → Ev b σ (.is (.bool y))) : Ev (mAndV a b) σ (.is (.bool (x && y))):=fun H p=>by
  unfold mAndV
  refine EvR.e (ea H p) fun v H1 p1 (k1 : v = _)=>?_
  rw [k1]
  cases x with
  | true =>
    refine EvR.e (P:=EvR H _) (eb rfl H1 (p.trans p1)) fun v H2 p2 k=>?_
    exact ⟨v,H2,p1.trans p2,k⟩
  | false=>exact ⟨_,H1,p1,rfl⟩
noncomputable def nums (xs : List Int) : PyData:=.list (xs.map PyData.int)
theorem eqv_nums (xs ys : List Int) : PyData.eqv (nums xs) (nums ys) = decide (xs = ys):=by
  unfold nums; rw [PyData.eqv,eqv_ints]
theorem shaped_nums (xs : List Int) : SeqAt.shaped (nums xs) = true:=ke_shaped_ints xs
theorem dat_ints {H : List L} {i f : Nat} {xs : List Int} (h : H[i]? = some (.ints xs)) : datOf H (f + 1) (.ref i) = some (nums xs):=by
  unfold datOf; rw [h]; rfl
theorem ev_eqL {a b : Xm} {xs ys : List Int} (ea : Ev a σ (.li xs)) (eb : Ev b σ (.li ys)) : Ev (mBin fEq a b) σ (.is (.bool (decide (xs = ys)))):=ev_bin ea eb fun x y H ⟨i,q,hi⟩ ⟨j,r,hj⟩=>by
  rw [q,r]; unfold fEq; rw [dat_ints hi,dat_ints hj]; dsimp only; rw [shaped_nums,shaped_nums,eqv_nums]; rfl
theorem ev_neL {a b : Xm} {xs ys : List Int} (ea : Ev a σ (.li xs)) (eb : Ev b σ (.li ys)) : Ev (mBin fNe a b) σ (.is (.bool (!decide (xs = ys)))):=ev_bin ea eb fun x y H ⟨i,q,hi⟩ ⟨j,r,hj⟩=>by
  rw [q,r]; unfold fNe; rw [dat_ints hi,dat_ints hj]; dsimp only; rw [shaped_nums,shaped_nums,eqv_nums]; rfl
theorem ev_neB {a b : Xm} {x y : Bool} (ea : Ev a σ (.is (.bool x))) (eb : Ev b σ (.is (.bool y))) : Ev (mBin fNe a b) σ (.is (.bool (x != y))):=ev_bin ea eb fun u v H (q : u = _) (r : v = _)=>by
  rw [q,r]; cases x <;> cases y <;> rfl
theorem ev_ltL {a b : Xm} {xs ys : List Int} (ea : Ev a σ (.li xs)) (eb : Ev b σ (.li ys)) (hl : xs.length = ys.length) : Ev (mBin fLtL a b) σ (.is (.bool (lexLt xs ys))):=ev_bin ea eb fun x y H ⟨i,q,hi⟩ ⟨j,r,hj⟩=>by
  rw [q,r]; unfold fLtL; dsimp only; rw [hi,hj]; dsimp only; rw [if_pos hl]
theorem ev_pow {a b : Xm} {x : Int} {n : Nat} (ea : Ev a σ (pi x)) (eb : Ev b σ (pi n)) (hn : n ≤ 1000) (hx : small x = true) : Ev (mBin fPow a b) σ (pi (x ^ n)):=ev_i2 ea eb fun H=>by
  unfold fPow; dsimp only; rw [if_pos ⟨Int.natCast_nonneg n,by lia,hx⟩]; rfl
noncomputable def bitB (c p : Nat) : Bool:=c / 2 ^ p % 2 == 1
theorem evb_bit {a b : Xm} {c p : Nat} (ea : Ev a σ (pi c)) (eb : Ev b σ (pi p)) : Evb (mTest (mBin fEqI (mBin fAnd (mBin fShr a b) (mInt 1)) (mInt 1))) σ (bitB c p):=by
  have e1 : Ev (mBin fShr a b) σ (pi ((c / 2 ^ p : Nat) : Int)):=ev_i2 ea eb fun H=>by
    unfold fShr; dsimp only; rw [if_pos (Int.natCast_nonneg p)]
    congr 3
    rw [Int.fdiv_eq_ediv_of_nonneg _ (Int.le_of_lt (Int.pow_pos (by decide)))]
    simp
  have e2 : Ev (mBin fAnd (mBin fShr a b) (mInt 1)) σ (pi ((c / 2 ^ p % 2 : Nat) : Int)):=ev_i2 e1 ev_int fun H=>by
    unfold fAnd; dsimp only
    congr 3
    rw [bitAnd_m1]; rfl
  refine evb_cmp (ev_bin e2 ev_int fun u v H (q : u = _) (r : v = _)=>?_)
  rw [q,r]
  show some (V.bool (((c / 2 ^ p % 2 : Nat) : Int) == 1),H) = _
  congr 3
  unfold bitB
  rcases Nat.mod_two_eq_zero_or_one (c / 2 ^ p) with h | h <;> rw [h] <;> rfl
/-! statements -/
theorem do_if1 {t : Bm} {a : Sm} (e : Evb t σ false) (k : ∀ H',σ.H <+: H' → Q .next { σ with H:=H' }) : Do (sIf t a sNil) σ Q:=do_if e fun H' p=>by
  rw [if_neg (by decide)]; exact do_nil (k H' p)
theorem do_unpack {ts : List Tgt} {a : Xms} {ss : List Sp} (ea : Eva a σ ss) (hl : ss.length ≤ 1000) (k : ∀ vs H',σ.H <+: H' → SpL ss vs H' → ∃ σ1,putAll ts vs { σ with H:=H' } = some σ1 ∧ Q .next σ1) : Do (sUnpack (putTup ts) (mTup a)) σ Q:=by
  unfold Do sUnpack mTup
  refine EvaR.e (ea σ.H pre_rfl) fun vs H' p h=>?_
  dsimp only
  rw [if_pos (by rw [h.length]; lia)]
  refine e1a2 (k vs H' p h) fun σ1 q1 q2=>?_
  unfold putTup
  dsimp only
  rw [q1]
  exact ⟨_,_,q2⟩
theorem do_swap {ts : List Tgt} {a : Xms} {ss : List Sp} (ea : Eva a σ ss) (hl : ss.length ≤ 1000) (k : ∀ vs H',σ.H <+: H' → SpL ss vs H' → ∃ σ1,putAll ts.reverse vs.reverse { σ with H:=H' } = some σ1 ∧ Q .next σ1) : Do (sSwap ts (mTup a)) σ Q:=by
  unfold Do sSwap mTup
  refine EvaR.e (ea σ.H pre_rfl) fun vs H' p h=>?_
  dsimp only
  rw [if_pos (by rw [h.length]; lia)]
  refine e1a2 (k vs H' p h) fun σ1 q1 q2=>?_
  dsimp only
  rw [q1]
  exact ⟨_,_,q2⟩
noncomputable def innC (σ : S) (is : List Nat) (x : Int) : S:={ loc:=[],cel:=σ.C.length :: is.map fun i=>σ.cel.getD i 0,C:=σ.C ++ [some (.int x)],H:=σ.H }
theorem ev_mapC {m : Xm} {xs : List Int} {is : List Nat} {elt : Xm} {g : Int → Int} (em : EvP m σ (It xs)) (hlen : xs.length ≤ 900) (hall : is.all (fun i=>i < σ.cel.length) = true) (he : ∀ x ∈ xs,Ev elt (innC σ is x) (pi (g x))) :
    Ev (mCompC 1000 0 is (putO 0) (iPlain m) (mConst true) (cElt elt)) σ (.li (xs.map g)):=fun H pH=>by
  unfold mCompC iPlain
  refine EvR.e (em H pH) fun v H1 p1 k1=>?_
  dsimp only
  rw [if_pos hall]
  have pB:=pH.trans p1
  obtain ⟨o,H2,e,q⟩:=comp_core1 (item:=itemAt v) (put:=putO 0) (t:=mConst true) (elt:=elt) (xs:=xs) (p:=fun _=>true) (g:=g) (B:=H1) (fun o H=>{ loc:=[],cel:=σ.C.length :: is.map fun i=>σ.cel.getD i 0,C:=σ.C ++ [o.map V.int],H:=H }) (fun _ _=>rfl) (fun _ _ _=>rfl)
    (fun x o H=>by unfold putO; dsimp only [List.getElem?_cons_zero]; rw [if_pos (by simp)]; simp) k1 hlen
    (fun x hx H' q=>evb_true H' q) (fun x hx hp H' q=>he x hx H' (pB.trans q))
  rw [filter_true] at e
  rw [show (({ loc:=List.replicate 0 none,cel:=σ.C.length :: is.map fun i=>σ.cel.getD i 0,C:=σ.C ++ [none],H:=H1 } : S)) = { loc:=[],cel:=σ.C.length :: is.map fun i=>σ.cel.getD i 0,C:=σ.C ++ [Option.map V.int none],H:=H1 } from rfl,e,compEnd_ints (by rw [List.length_map]; lia)]
  exact ⟨_,_,p1.trans (q.trans pre_app),new_at⟩
end
end Mine
namespace Mine
/-! the plain law: what is shared out,and how -/
noncomputable def hS (c : List Int) (μ : Int) : Int:=(c.map fun x=>min (x / 2) μ).sum
noncomputable def gS (b : Bool) (μ x : Int) : Int:=if b = true then min (x / 2) μ else x - min (x / 2) μ
theorem sum_le {f : Int → Int} {k : Int} : ∀ {c : List Int},(∀ x ∈ c,f x ≤ k) → (c.map f).sum ≤ c.length * k
  | [],_=>by simp
  | x :: c,h=>by
    have h1:=h x (by simp)
    have h2:=sum_le fun y hy=>h y (List.mem_cons_of_mem _ hy)
    rw [List.map_cons,List.sum_cons,List.length_cons,Int.natCast_add,Int.add_mul]
    lia
theorem sum_ge {f : Int → Int} {k : Int} : ∀ {c : List Int},(∀ x ∈ c,k ≤ f x) → c.length * k ≤ (c.map f).sum
  | [],_=>by simp
  | x :: c,h=>by
    have h1:=h x (by simp)
    have h2:=sum_ge fun y hy=>h y (List.mem_cons_of_mem _ hy)
    rw [List.map_cons,List.sum_cons,List.length_cons,Int.natCast_add,Int.add_mul]
    lia
theorem sum_add {f g : Int → Int} : ∀ c : List Int,(c.map fun x=>f x + g x).sum = (c.map f).sum + (c.map g).sum
  | []=>rfl
  | x :: c=>by
    simp only [List.map_cons,List.sum_cons]
    rw [sum_add c]; lia
theorem sum_mono {f g : Int → Int} : ∀ {c : List Int},(∀ x ∈ c,f x ≤ g x) → (c.map f).sum ≤ (c.map g).sum
  | [],_=>Int.le_refl _
  | x :: c,h=>by
    have h1:=h x (by simp)
    have h2:=sum_mono fun y hy=>h y (List.mem_cons_of_mem _ hy)
    simp only [List.map_cons,List.sum_cons]
    lia
theorem map_const {f : Int → Int} {k : Int} : ∀ {c : List Int},(∀ x ∈ c,f x = k) → c.map f = List.replicate c.length k
  | [],_=>rfl
  | x :: c,h=>by
    rw [List.map_cons,h x (by simp),map_const fun y hy=>h y (List.mem_cons_of_mem _ hy)]; rfl
structure Cl (c : List Int) : Prop where
  ne : c ≠ []
  len : c.length ≤ 4
  nn : ∀ x ∈ c,0 ≤ x
  dv : ∀ x ∈ c,x % 24 = 0
theorem n4 {n : Nat} (h0 : n ≠ 0) (h : n ≤ 4) : n = 1 ∨ n = 2 ∨ n = 3 ∨ n = 4:=by lia
theorem low_n {n : Nat} {e a : Int} (h0 : n ≠ 0) (h : n ≤ 4) (hd : e % 12 = 0) : n * (e / n) = e:=by
  rcases n4 h0 h with r | r | r | r <;> subst r <;> lia
theorem low_le {n : Nat} {q a e : Int} (h0 : n ≠ 0) (h : n ≤ 4) (hq : n * q = e) (hl : 2 * e ≤ n * a) : q ≤ a / 2:=by
  rcases n4 h0 h with r | r | r | r <;> subst r <;> lia
theorem low_nn {n : Nat} {q e : Int} (h0 : n ≠ 0) (hq : n * q = e) (he : 0 ≤ e) : 0 ≤ q:=by
  refine Int.not_lt.mp fun h=>?_
  have:=Int.mul_neg_of_pos_of_neg (a:=(n : Int)) (b:=q) (by lia) h
  lia
section
variable {a : Int} {c : List Int} {e : Int}
theorem min_all {k : Int} (hk : k ≤ a / 2) (hs : ∀ x ∈ c,a ≤ x) : ∀ x ∈ a :: c,min (x / 2) k = k:=fun x hx=>by
  rcases List.mem_cons.mp hx with r | r
  · rw [r]; lia
  · have:=hs x r; lia
theorem hS_all {k : Int} (hk : k ≤ a / 2) (hs : ∀ x ∈ c,a ≤ x) : hS (a :: c) k = ((a :: c).length : Int) * k:=by
  have h1:=sum_le (k:=k) (f:=fun x=>min (x / 2) k) (c:=a :: c) fun x _=>by lia
  have h2:=sum_ge (k:=k) (f:=fun x=>min (x / 2) k) (c:=a :: c) fun x hx=>by rw [min_all hk hs x hx]; lia
  unfold hS; lia
theorem tot_ge (hs : ∀ x ∈ c,a ≤ x) : ((a :: c).length : Int) * a ≤ (a :: c).sum:=by
  have:=sum_ge (k:=a) (f:=id) (c:=a :: c) fun x hx=>by
    rcases List.mem_cons.mp hx with r | r
    · rw [r]; exact Int.le_refl _
    · exact hs x r
  rwa [List.map_id] at this
theorem j_low (hc : Cl (a :: c)) (hs : ∀ x ∈ c,a ≤ x) (h0 : 0 ≤ e) (hd : e % 12 = 0) (h : 2 * e ≤ ((a :: c).length : Int) * a) :
    0 ≤ e / ((a :: c).length : Nat) ∧ hS (a :: c) (e / ((a :: c).length : Nat)) = min e ((a :: c).sum - e) ∧ List.replicate (a :: c).length (e / ((a :: c).length : Nat)) = (a :: c).map (gS (decide (e ≤ (a :: c).sum - e)) (e / ((a :: c).length : Nat))):=by
  have t:=tot_ge hs
  have hq:=low_n (a:=a) (n:=(a :: c).length) (by simp) hc.len hd
  have hle:=low_le (by simp) hc.len hq h
  refine ⟨low_nn (by simp) hq h0,?_,?_⟩
  · rw [hS_all hle hs,hq]; lia
  · rw [decide_eq_true (by lia)]
    exact (map_const (f:=gS true _) fun x hx=>min_all hle hs x hx).symm
theorem j_high (hc : Cl (a :: c)) (hs : ∀ x ∈ c,a ≤ x) (h0 : e ≤ (a :: c).sum) (hd : ((a :: c).sum - e) % 12 = 0) (hn : ¬ 2 * e ≤ ((a :: c).length : Int) * a) (h : 2 * ((a :: c).sum - e) ≤ ((a :: c).length : Int) * a) :
    0 ≤ ((a :: c).sum - e) / ((a :: c).length : Nat) ∧ hS (a :: c) (((a :: c).sum - e) / ((a :: c).length : Nat)) = min e ((a :: c).sum - e) ∧ ((a :: c).map fun x=>x - ((a :: c).sum - e) / ((a :: c).length : Nat)) = (a :: c).map (gS (decide (e ≤ (a :: c).sum - e)) (((a :: c).sum - e) / ((a :: c).length : Nat))):=by
  have hq:=low_n (a:=a) (n:=(a :: c).length) (by simp) hc.len hd
  have hle:=low_le (by simp) hc.len hq h
  refine ⟨low_nn (by simp) hq (by lia),?_,?_⟩
  · rw [hS_all hle hs,hq]; lia
  · rw [decide_eq_false (by lia)]
    refine List.map_congr_left fun x hx=>?_
    show _ = x - min (x / 2) _
    rw [min_all hle hs x hx]
theorem j_mid (hc : Cl (a :: c)) (hs : ∀ x ∈ c,a ≤ x) (hn : ¬ 2 * e ≤ ((a :: c).length : Int) * a) (h : ¬ 2 * ((a :: c).sum - e) ≤ ((a :: c).length : Int) * a) :
    c ≠ [] ∧ 0 ≤ e - a / 2 ∧ e - a / 2 ≤ c.sum ∧ ∀ μ,0 ≤ μ → hS c μ = min (e - a / 2) (c.sum - (e - a / 2)) → hS (a :: c) μ = min e ((a :: c).sum - e) ∧ a / 2 :: c.map (gS (decide (e - a / 2 ≤ c.sum - (e - a / 2))) μ) = (a :: c).map (gS (decide (e ≤ (a :: c).sum - e)) μ):=by
  have ha:=hc.nn a (by simp)
  have hd:=hc.dv a (by simp)
  rw [List.sum_cons,List.length_cons] at *
  obtain ⟨b,hb⟩ : ∃ b,a = 2 * b:=⟨a / 2,by lia⟩
  clear hd
  have hne : c ≠ []:=fun q=>by subst q; simp at hn h; lia
  clear hc
  subst hb
  have hh : 2 * b / 2 = b:=Int.mul_ediv_cancel_left b (by decide)
  rw [hh]
  generalize c.sum = S at *
  have pos : 0 ≤ (c.length : Int) * b:=Int.mul_nonneg (by lia) (by lia)
  have e1 : ((c.length + 1 : Nat) : Int) * (2 * b) = 2 * (c.length * b) + 2 * b:=by
    rw [Int.natCast_add,Int.add_mul,← Int.mul_assoc,Int.mul_comm (c.length : Int) 2,Int.mul_assoc]; lia
  rw [e1] at hn h
  have x1 : c.length * b + b < e:=by lia
  have x2 : c.length * b + b < 2 * b + S - e:=by lia
  clear hn h e1
  refine ⟨hne,by lia,by lia,fun μ h0 hm=>?_⟩
  have hμ : b ≤ μ:=by
    have up:=sum_le (k:=μ) (f:=fun x=>min (x / 2) μ) (c:=c) fun x _=>Int.min_le_right _ _
    have hm' : (c.map fun x=>min (x / 2) μ).sum = _:=hm
    rw [hm'] at up
    clear hm hm' hs
    refine Int.not_lt.mp fun q=>?_
    have : (c.length : Int) * μ ≤ c.length * (b - 1):=Int.mul_le_mul_of_nonneg_left (by lia) (by lia)
    rw [Int.mul_sub,Int.mul_one] at this
    by_cases k : e - b ≤ S - (e - b)
    · rw [Int.min_eq_left k] at up; lia
    · rw [Int.min_eq_right (by lia)] at up; lia
  have hS1 : hS (2 * b :: c) μ = b + hS c μ:=by
    unfold hS; rw [List.map_cons,List.sum_cons,hh]; rw [Int.min_eq_left hμ]
  have hb : decide (e - b ≤ S - (e - b)) = decide (e ≤ 2 * b + S - e):=by
    by_cases q : e ≤ 2 * b + S - e
    · rw [decide_eq_true q,decide_eq_true (by lia)]
    · rw [decide_eq_false q,decide_eq_false (by lia)]
  rw [hb,List.map_cons,hS1,hm]
  have hg : b = gS (decide (e ≤ 2 * b + S - e)) μ (2 * b):=by
    unfold gS
    rw [hh,Int.min_eq_left hμ]
    split
    · rfl
    · lia
  rw [← hg]
  refine ⟨?_,rfl⟩
  by_cases q : e ≤ 2 * b + S - e
  · rw [Int.min_eq_left q,Int.min_eq_left (by lia)]; lia
  · rw [Int.min_eq_right (a:=e) (by lia),Int.min_eq_right (by lia)]; lia
end
end Mine
namespace Mine
theorem at_0 {C T : List (Option V)} {x : Option V} : (C ++ x :: T)[C.length]? = some x:=by simp
theorem at_1 {C T : List (Option V)} {x y : Option V} : (C ++ y :: x :: T)[C.length + 1]? = some x:=by simp
theorem at_2 {C T : List (Option V)} {x y z : Option V} : (C ++ z :: y :: x :: T)[C.length + 2]? = some x:=by simp
theorem at_3 {C T : List (Option V)} {x y z w : Option V} : (C ++ w :: z :: y :: x :: T)[C.length + 3]? = some x:=by simp
theorem full_n {n : Nat} {vs : List V} (h : vs.length = n) : (if vs.length = n then some vs else none) = some vs:=if_pos h
/-! what is taken at each level -/
noncomputable def takenL (c : List Int) : List Int:=c.map fun m=>(c.map fun x=>min x m / 2).sum
theorem taken_spec {c : List Int} (hl : c.length ≤ 900) : FSpec sem1_6 [.li c] (.li (takenL c)):=fspec (fun vs h=>full_n h) rfl fun vs C H h=>h.e1 (P:=fun vs=>Do body1_6 (entry df1_6 vs C H) _) fun v hv=>by
  obtain ⟨i,e,hi⟩:=hv
  subst e
  refine do_one (do_ret (s:=.li (takenL c)) ?_ fun v H' p k=>⟨p,v,rfl,k⟩)
  refine ev_mapC (ev_it (ev_li (i:=i) (ev_cel rfl at_0) hi)) hl rfl fun m hm=>?_
  refine ev_sum (ev_map (g:=fun x=>min x m / 2) (ev_it (ev_li (i:=i) (ev_cel (c:=C.length) rfl ?_) hi)) hl rfl fun x hx=>?_)
  · show ((C ++ [some (.ref i)]) ++ [some (.int m)])[C.length]? = _
    rw [List.append_assoc]; exact at_0
  · exact ev_div (ev_min (ev_loc rfl) (ev_cel (c:=(C ++ [some (V.ref i)]).length) rfl at_0)) ev_int (by decide) (by decide)
theorem small_nat {n : Nat} (h : n ≤ 1000) : small (n : Int) = true:=by
  unfold small; simp; lia
/-! the shares by the levels joined,one after the other -/
noncomputable def jS (c : List Int) (e : Int) (C : List (Option V)) (H : List L) (i : Nat) : S:={ loc:=[some (.ref i)],cel:=[C.length,C.length + 1,C.length + 2],C:=C ++ [some (.int e),some (.int (c.length : Nat)),some (.int c.sum)],H:=H }
section
variable {c : List Int} {e : Int} {C : List (Option V)} {H : List L} {i : Nat}
theorem j_claims (hi : H[i]? = some (.ints c)) : Ev (mLoc 0) (jS c e C H i) (.li c):=ev_li (ev_loc rfl) hi
theorem j_first (hi : H[i]? = some (.ints c)) (h : c ≠ []) : Ev (mBin fItem (mLoc 0) (mInt 0)) (jS c e C H i) (pi (c.headD 0)):=by
  cases c with
  | nil=>exact absurd rfl h
  | cons a c=>exact ev_item (k:=0) (j_claims hi) ev_int (by lia) (by simp)
theorem j_est : Ev (mCel 0) (jS c e C H i) (pi e):=ev_cel rfl at_0
theorem j_cnt : Ev (mCel 1) (jS c e C H i) (pi (c.length : Nat)):=ev_cel rfl at_1
theorem j_tot : Ev (mCel 2) (jS c e C H i) (pi c.sum):=ev_cel rfl at_2
theorem j_side (hi : H[i]? = some (.ints c)) (h : c ≠ []) (hl : c.length ≤ 1000) : Ev (mBin fMul (mCel 1) (mBin fItem (mLoc 0) (mInt 0))) (jS c e C H i) (pi (c.length * c.headD 0)):=ev_mul j_cnt (j_first hi h) (by rw [small_nat hl]; rfl)
theorem j_walk {f : Nat} {res : List Int} (hw : ∀ (C : List (Option V)) (H : List L) (i : Nat),H[i]? = some (.ints c) → Do (sSeq (m1_4_1 (sem1_4 f)) (sSeq (m1_4_2 (sem1_4 f)) (sSeq (m1_4_3 (sem1_4 f)) sNil))) (jS c e C H i) (Out H (.li res))) : FSpec (sem1_4 (f + 1)) [.li c,pi e] (.li res) :=
  fspec (fun vs h=>full_n h) rfl fun vs C H h=>h.e2 (P:=fun vs=>Do (body1_4 (sem1_4 f)) (entry df1_4 vs C H) _) fun v w hv (hw2 : w = _)=>by
    obtain ⟨i,e1,hi⟩:=hv
    subst e1; subst hw2
    refine do_seq (do_unpack (ss:=[pi (c.length : Nat),pi c.sum]) (eva_cons (ev_len (ev_li (ev_loc rfl) hi)) (eva_1 (ev_sum (ev_li (ev_loc rfl) hi)))) (by simp) fun vs H' p k=>?_)
    refine k.e2 fun u w (hu : u = _) (hw3 : w = _)=>?_
    subst hu; subst hw3
    refine ⟨jS c e C H' i,?_,?_⟩
    · show putAll [.cel 1,.cel 2] _ { loc:=[some (.ref i)],cel:=[C.length,C.length + 1,C.length + 2],C:=C ++ [some (.int e),none,none],H:=H' } = _
      simp [putAll,Tgt.put,jS]
    · exact out_mono p (hw C H' i (pre_get p hi))
end
theorem joined_spec : ∀ (f : Nat) (c : List Int) (e : Int),c.length ≤ f → Cl c → c.Pairwise (· ≤ ·) → 0 ≤ e → e ≤ c.sum → e % 12 = 0 → (c.sum - e) % 12 = 0 → ∃ μ,0 ≤ μ ∧ hS c μ = min e (c.sum - e) ∧ FSpec (sem1_4 f) [.li c,pi e] (.li (c.map (gS (decide (e ≤ c.sum - e)) μ)))
  | 0,c,e,hf,hc,_,_,_,_,_=>absurd (List.eq_nil_of_length_eq_zero (by lia)) hc.ne
  | f + 1,[],e,hf,hc,_,_,_,_,_=>absurd rfl hc.ne
  | f + 1,a :: c,e,hf,hc,hs,h0,h1,hd,hd2=>by
    rw [List.pairwise_cons] at hs
    have hl:=hc.len
    have t1 : ∀ {C : List (Option V)} {H : List L} {i : Nat},H[i]? = some (.ints (a :: c)) → Evb (mTest (mBin fLe (mBin fMul (mInt 2) (mCel 0)) (mBin fMul (mCel 1) (mBin fItem (mLoc 0) (mInt 0))))) (jS (a :: c) e C H i) (decide (2 * e ≤ ((a :: c).length : Int) * a)):=fun hi=>evb_le (ev_mul ev_int j_est rfl) (j_side hi (by simp) (by lia))
    have t2 : ∀ {C : List (Option V)} {H : List L} {i : Nat},H[i]? = some (.ints (a :: c)) → Evb (mTest (mBin fLe (mBin fMul (mInt 2) (mBin fSub (mCel 2) (mCel 0))) (mBin fMul (mCel 1) (mBin fItem (mLoc 0) (mInt 0))))) (jS (a :: c) e C H i) (decide (2 * ((a :: c).sum - e) ≤ ((a :: c).length : Int) * a)):=fun hi=>evb_le (ev_mul ev_int (ev_sub j_tot j_est) rfl) (j_side hi (by simp) (by lia))
    have pos : 0 < ((a :: c).length : Int):=by rw [List.length_cons]; lia
    by_cases b1 : 2 * e ≤ ((a :: c).length : Int) * a
    · obtain ⟨q0,q1,q2⟩:=j_low hc hs.1 h0 hd b1
      refine ⟨_,q0,q1,j_walk fun C H i hi=>?_⟩
      refine do_seq (out_if (σ:=jS (a :: c) e C H i) pre_rfl (decide_eq_true b1 ▸ t1 hi) fun H' p=>?_)
      rw [← q2]
      show Ev _ (jS (a :: c) e C H' i) _
      exact ev_rep (ev_list (xs:=[_]) (eva_1 (ev_div j_est j_cnt pos (small_nat (by lia)))) (by simp)) j_cnt (by lia)
    · by_cases b2 : 2 * ((a :: c).sum - e) ≤ ((a :: c).length : Int) * a
      · obtain ⟨q0,q1,q2⟩:=j_high hc hs.1 h1 hd2 b1 b2
        refine ⟨_,q0,q1,j_walk fun C H i hi=>?_⟩
        refine do_seq (do_if1 (decide_eq_false b1 ▸ t1 hi) fun H' p=>?_)
        refine do_seq (out_if (σ:=jS (a :: c) e C H' i) p (decide_eq_true b2 ▸ t2 (pre_get p hi)) fun H' p2=>?_)
        rw [← q2]
        show Ev _ (jS (a :: c) e C H' i) _
        have hi':=pre_get (p.trans p2) hi
        exact ev_map (ev_it (j_claims hi')) (by lia) rfl fun x hx=>ev_sub (ev_loc rfl) (ev_div (ev_sub (ev_cel rfl at_2) (ev_cel rfl at_0)) (ev_cel rfl at_1) pos (small_nat (by lia)))
      · obtain ⟨n1,n2,n3,n4⟩:=j_mid hc hs.1 b1 b2
        have ha:=hc.dv a (by simp)
        have ihc : Cl c:=⟨n1,by rw [List.length_cons] at hl; lia,fun x hx=>hc.nn x (by simp [hx]),fun x hx=>hc.dv x (by simp [hx])⟩
        rw [List.sum_cons] at hd2
        obtain ⟨μ,m0,m1,F⟩:=joined_spec f c (e - a / 2) (by rw [List.length_cons] at hf; lia) ihc hs.2 n2 n3 (by lia) (by lia)
        obtain ⟨m2,m3⟩:=n4 μ m0 m1
        refine ⟨μ,m0,m2,j_walk fun C H i hi=>?_⟩
        refine do_seq (do_if1 (decide_eq_false b1 ▸ t1 hi) fun H' p=>?_)
        refine do_seq (do_if1 (decide_eq_false b2 ▸ t2 (pre_get p hi)) fun H' p2=>do_one (out_1 (σ:=jS (a :: c) e C H' i) (p.trans p2) ?_))
        rw [← m3]
        have hi':=pre_get (p.trans p2) hi
        have e0 : Ev (mBin fDiv (mBin fItem (mLoc 0) (mInt 0)) (mInt 2)) (jS (a :: c) e C H' i) (pi (a / 2)):=ev_div (j_first hi' (by simp)) ev_int (by decide) rfl
        exact ev_cat (xs:=[a / 2]) (ev_list (eva_1 e0) (by simp)) (ev_call F (eva_cons (ev_drop (k:=1) (j_claims hi') ev_int (by simp) (by lia)) (eva_1 (ev_sub j_est e0)))) (by rw [List.length_cons] at hl; simp; lia)
end Mine
namespace Mine
/-! an insertion,read off the list -/
noncomputable def insAt (p : Int → Bool) (x : Int) : List Int → List Int
  | []=>[x]
  | y :: ys=>if p y then y :: insAt p x ys else x :: y :: ys

theorem insAt_eq {p : Int → Bool} {x : Int} : ∀ {xs : List Int},xs.Pairwise (fun a b=>p b = true → p a = true) → insL xs ((xs.filter p).length : Nat) x = insAt p x xs
  | [],_=>rfl
  | y :: ys,hp=>by
    rw [List.pairwise_cons] at hp
    unfold insAt
    by_cases hy : p y = true
    · rw [if_pos hy,List.filter_cons_of_pos hy,← insAt_eq hp.2]
      unfold insL
      rw [if_neg (by lia),if_neg (by lia)]
      simp only [List.length_cons,Int.toNat_natCast]
      rw [show min ((ys.filter p).length + 1) (ys.length + 1) = min (ys.filter p).length ys.length + 1 by lia]
      rfl
    · rw [if_neg hy,List.filter_cons_of_neg hy]
      have hall : ys.filter p = []:=by
        rw [List.filter_eq_nil_iff]
        intro b hb q
        exact hy (hp.1 b hb q)
      rw [hall]
      simp [insL]
theorem insAt_app {p : Int → Bool} {x : Int} : ∀ {D S : List Int},(∀ c ∈ D,p c = true) → insAt p x (D ++ S) = D ++ insAt p x S
  | [],_,_=>rfl
  | d :: D,S,h=>by
    rw [List.cons_append,List.cons_append,show insAt p x (d :: (D ++ S)) = if p d = true then d :: insAt p x (D ++ S) else x :: d :: (D ++ S) from rfl,if_pos (h d (by simp)),insAt_app fun c hc=>h c (by simp [hc])]
theorem insAt_perm {p : Int → Bool} {x : Int} : ∀ xs : List Int,(insAt p x xs).Perm (x :: xs)
  | []=>.refl _
  | y :: ys=>by
    unfold insAt
    split
    · exact ((insAt_perm ys).cons y).trans (.swap x y ys)
    · exact .refl _
set_option tactic.hygienic true in
theorem insAt_pair {R : Int → Int → Prop} {p : Int → Bool} {x : Int} : ∀ {xs : List Int},xs.Pairwise (fun a b=>p b = true → p a = true) → xs.Pairwise R → (∀ c ∈ xs,p c = true → R c x) → (∀ c ∈ xs,p c = false → R x c) → (insAt p x xs).Pairwise R
  | [],_,_,_,_=>by simp [insAt]
  | y :: ys,hm,hR,h1,h2=>by
    rw [List.pairwise_cons] at hm hR
    unfold insAt
    split
    · rename_i hy
      rw [List.pairwise_cons]
      refine ⟨fun c hc=>?_,insAt_pair hm.2 hR.2 (fun c hc=>h1 c (by simp [hc])) fun c hc=>h2 c (by simp [hc])⟩
      rcases List.mem_cons.mp ((insAt_perm ys).mem_iff.mp hc) with e | hc
      · subst e; exact h1 y (by simp) hy
      · exact hR.1 c hc
    · rename_i hy
      rw [List.pairwise_cons]
      refine ⟨fun c hc=>h2 c hc ?_,List.pairwise_cons.mpr hR⟩
      rcases List.mem_cons.mp hc with e | hc
      · subst e; simpa using hy
      · refine Bool.eq_false_iff.mpr fun q=>hy (hm.1 c hc q)
theorem cntLt_map (f : Int → Int) (xs : List Int) (v : Int) : cntLt (xs.map f) v = (xs.filter fun y=>decide (f y < v)).length:=by
  unfold cntLt
  rw [List.filter_map,List.length_map]; rfl
theorem cntLe_map (f : Int → Int) (xs : List Int) (v : Int) : cntLe (xs.map f) v = (xs.filter fun y=>decide (f y ≤ v)).length:=by
  unfold cntLe
  rw [List.filter_map,List.length_map]; rfl
theorem mono_lt {f : Int → Int} {xs : List Int} {v : Int} (hs : (xs.map f).Pairwise (· ≤ ·)) : xs.Pairwise (fun a b=>decide (f b < v) = true → decide (f a < v) = true):=by
  rw [List.pairwise_map] at hs
  exact hs.imp fun {a b} hab q=>by simp at q ⊢; lia
theorem mono_le {f : Int → Int} {xs : List Int} {v : Int} (hs : (xs.map f).Pairwise (· ≤ ·)) : xs.Pairwise (fun a b=>decide (f b ≤ v) = true → decide (f a ≤ v) = true):=by
  rw [List.pairwise_map] at hs
  exact hs.imp fun {a b} hab q=>by simp at q ⊢; lia
theorem insL_lt {f : Int → Int} {xs : List Int} {v x : Int} (hs : (xs.map f).Pairwise (· ≤ ·)) : insL xs (cntLt (xs.map f) v) x = insAt (fun y=>decide (f y < v)) x xs:=by
  rw [cntLt_map]; exact insAt_eq (mono_lt hs)
theorem insL_le {f : Int → Int} {xs : List Int} {v x : Int} (hs : (xs.map f).Pairwise (· ≤ ·)) : insL xs (cntLe (xs.map f) v) x = insAt (fun y=>decide (f y ≤ v)) x xs:=by
  rw [cntLe_map]; exact insAt_eq (mono_le hs)
theorem insAt_lt_sorted {f : Int → Int} {xs : List Int} {x : Int} (hs : (xs.map f).Pairwise (· ≤ ·)) : ((insAt (fun y=>decide (f y < f x)) x xs).map f).Pairwise (· ≤ ·):=by
  rw [List.pairwise_map]
  refine insAt_pair (mono_lt hs) (List.pairwise_map.mp hs) (fun c _ h=>?_) fun c _ h=>?_
  · simp at h; lia
  · simp at h; lia
theorem insAt_le_sorted {f : Int → Int} {xs : List Int} {x : Int} (hs : (xs.map f).Pairwise (· ≤ ·)) : ((insAt (fun y=>decide (f y ≤ f x)) x xs).map f).Pairwise (· ≤ ·):=by
  rw [List.pairwise_map]
  refine insAt_pair (mono_le hs) (List.pairwise_map.mp hs) (fun c _ h=>?_) fun c _ h=>?_
  · simp at h; lia
  · simp at h; lia
theorem mem_rng {n : Nat} {c : Int} : c ∈ rng n ↔ 0 ≤ c ∧ c < n:=by
  unfold rng
  rw [List.mem_map]
  constructor
  · rintro ⟨k,hk,rfl⟩
    rw [List.mem_range] at hk
    lia
  · rintro ⟨h0,h1⟩
    exact ⟨c.toNat,by rw [List.mem_range]; lia,by lia⟩
theorem rng_succ (n : Nat) : rng (n + 1) = rng n ++ [(n : Int)]:=by
  unfold rng; rw [List.range_succ,List.map_append]; rfl
theorem rng_len (n : Nat) : (rng n).length = n:=by simp [rng]

noncomputable def insR (f : Int → Int) (t : Int) (xs : List Int) : List Int:=insAt (fun y=>decide (f y ≤ f t)) t xs
noncomputable def insLf (f : Int → Int) (t : Int) (xs : List Int) : List Int:=insAt (fun y=>decide (f y < f t)) t xs
noncomputable def stab (f : Int → Int) (xs : List Int) : List Int:=xs.foldl (fun acc t=>insR f t acc) []
noncomputable def stabL (f : Int → Int) (xs : List Int) : List Int:=xs.foldl (fun acc t=>insLf f t acc) []
theorem ins_comm (f : Int → Int) (x y : Int) : ∀ S : List Int,insR f y (insLf f x S) = insLf f x (insR f y S)
  | []=>by
    simp only [insR,insLf,insAt,decide_eq_true_eq]
    split
    · rw [if_neg (by lia)]
    · rw [if_pos (by lia)]
  | z :: S=>by
    have ih:=ins_comm f x y S
    simp only [insR,insLf] at ih
    simp only [insR,insLf,insAt,decide_eq_true_eq]
    have e : (f x ≤ f y) ↔ ¬ (f y < f x):=by lia
    by_cases h1 : f z < f x <;> by_cases h2 : f z ≤ f y <;> by_cases h3 : f y < f x
    all_goals first
      | (exfalso; lia)
      | (simp [insAt,e,h1,h2,h3,ih]; done)
theorem foldl_comm (f : Int → Int) (x : Int) : ∀ (ys acc : List Int),ys.foldl (fun acc t=>insR f t acc) (insLf f x acc) = insLf f x (ys.foldl (fun acc t=>insR f t acc) acc)
  | [],_=>rfl
  | y :: ys,acc=>by rw [List.foldl_cons,List.foldl_cons,ins_comm,foldl_comm f x ys]
theorem stabL_rev (f : Int → Int) (xs : List Int) : stabL f xs = stab f xs.reverse:=by
  unfold stabL stab
  rw [show xs.foldl (fun acc t=>insLf f t acc) [] = xs.reverse.foldr (fun t acc=>insLf f t acc) [] by rw [List.foldr_reverse]]
  induction xs.reverse with
  | nil=>rfl
  | cons x ys ih =>
    rw [List.foldr_cons,List.foldl_cons,ih,← foldl_comm]
    rfl
theorem stab_perm (f : Int → Int) (xs : List Int) : (stab f xs).Perm xs:=by
  have : ∀ (ys acc : List Int),(ys.foldl (fun acc t=>insR f t acc) acc).Perm (ys ++ acc):=by
    intro ys
    induction ys with
    | nil=>intro acc; exact .refl _
    | cons y ys ih =>
      intro acc
      rw [List.foldl_cons]
      refine (ih _).trans (((insAt_perm acc).append_left ys).trans ?_)
      exact List.perm_middle
  have:=this xs []
  rwa [List.append_nil] at this
theorem stab_sorted (f : Int → Int) (xs : List Int) : ((stab f xs).map f).Pairwise (· ≤ ·):=by
  have : ∀ (ys acc : List Int),(acc.map f).Pairwise (· ≤ ·) → ((ys.foldl (fun acc t=>insR f t acc) acc).map f).Pairwise (· ≤ ·):=by
    intro ys
    induction ys with
    | nil=>intro acc h; exact h
    | cons y ys ih=>intro acc h; rw [List.foldl_cons]; exact ih _ (insAt_le_sorted h)
  exact this xs [] .nil
theorem stab_snoc (f : Int → Int) (xs : List Int) (x : Int) : stab f (xs ++ [x]) = insR f x (stab f xs):=by
  unfold stab; rw [List.foldl_append]; rfl
theorem stabL_snoc (f : Int → Int) (xs : List Int) (x : Int) : stabL f (xs ++ [x]) = insLf f x (stabL f xs):=by
  unfold stabL; rw [List.foldl_append]; rfl
theorem stabL_perm (f : Int → Int) (xs : List Int) : (stabL f xs).Perm xs:=by
  rw [stabL_rev]; exact (stab_perm f _).trans (List.reverse_perm xs)
theorem stabL_sorted (f : Int → Int) (xs : List Int) : ((stabL f xs).map f).Pairwise (· ≤ ·):=by
  rw [stabL_rev]; exact stab_sorted f _
theorem ba_all {c len : Int} (h0 : 0 ≤ c) (h : c ≤ len) : max 0 (min len c) = c:=by lia
/-! the searches and insertions of law 1 -/
section
variable {C : List (Option V)} {H : List L} {a : Nat} {x y lo hi : Int} {hiV K : V} {vs : List V} {kv : Option V} {xs ks : List Int}
theorem KeyOk.len (h : KeyOk dLam1 C H xs K ks) : ks.length = xs.length:=by
  cases h <;> simp
theorem bl1 (hfull : bisFull vs kv = some [.ref a,.int x,.int lo,hiV,K]) (ha : H[a]? = some (.ints xs)) (hlen : xs.length ≤ 900) (hlo : 0 ≤ lo) (hhi : (hiV = .none ∧ hi = xs.length) ∨ (hiV = .int hi ∧ hi ≤ xs.length)) (hK : KeyOk dLam1 C H xs K ks) (hs : ks.Pairwise (· ≤ ·)) :
    sem1_3 vs kv C H = some (.int (bisAns lo hi (cntLt ks x)),H):=bisL_spec (d:=df1_3) rfl rfl hfull ha hlen hlo hhi hK hs
theorem br1 (hfull : bisFull vs kv = some [.ref a,.int x,.int lo,hiV,K]) (ha : H[a]? = some (.ints xs)) (hlen : xs.length ≤ 900) (hlo : 0 ≤ lo) (hhi : (hiV = .none ∧ hi = xs.length) ∨ (hiV = .int hi ∧ hi ≤ xs.length)) (hK : KeyOk dLam1 C H xs K ks) (hs : ks.Pairwise (· ≤ ·)) :
    sem1_1 vs kv C H = some (.int (bisAns lo hi (cntLe ks x)),H):=bisR_spec (d:=df1_1) rfl rfl hfull ha hlen hlo hhi hK hs
theorem getD_key (K : V) : (if K.isNone then (none : Option V) else some K).getD .none = K:=by
  cases K <;> rfl
theorem il1 (ha : H[a]? = some (.ints xs)) (hlen : xs.length ≤ 900) (hK : KeyOk dLam1 C H xs K ks) (hX : KeyX dLam1 C H x K y) (hs : ks.Pairwise (· ≤ ·)) (hkv : kv.getD .none = K) :
    sem1_2 [.ref a,.int x] kv C H = some (.none,H.set a (.ints (insL xs (cntLt ks y) x))):=by
  have hl:=hK.len
  have hc:=cntLt_le ks y
  refine ins_go (d:=df1_2) (disp:=dLam1) (k:=3) (semB:=sem1_3) (lo:=0) (hiV:=.none) (keyV:=K) (y:=y) rfl rfl (by simp [bisFull,hkv]) ha hlen hX ?_ (by lia) (by lia)
  rw [bl1 (K:=K) (x:=y) (lo:=0) (hi:=xs.length) (by simp only [bisFull,getD_key]) ha hlen (by lia) (.inl ⟨rfl,rfl⟩) hK hs]
  unfold bisAns
  rw [ba_all (Int.natCast_nonneg _) (by lia)]
theorem ir1 (ha : H[a]? = some (.ints xs)) (hlen : xs.length ≤ 900) (hK : KeyOk dLam1 C H xs K ks) (hX : KeyX dLam1 C H x K y) (hs : ks.Pairwise (· ≤ ·)) (hkv : kv.getD .none = K) :
    sem1_0 [.ref a,.int x] kv C H = some (.none,H.set a (.ints (insL xs (cntLe ks y) x))):=by
  have hl:=hK.len
  have hc:=cntLe_le ks y
  refine ins_go (d:=df1_0) (disp:=dLam1) (k:=1) (semB:=sem1_1) (lo:=0) (hiV:=.none) (keyV:=K) (y:=y) rfl rfl (by simp [bisFull,hkv]) ha hlen hX ?_ (by lia) (by lia)
  rw [br1 (K:=K) (x:=y) (lo:=0) (hi:=xs.length) (by simp only [bisFull,getD_key]) ha hlen (by lia) (.inl ⟨rfl,rfl⟩) hK hs]
  unfold bisAns
  rw [ba_all (Int.natCast_nonneg _) (by lia)]
end
end Mine
namespace Mine
noncomputable def atL (c : List Int) (x : Int) : Int:=c.getD x.toNat 0
noncomputable def stabT (t : Int) (f : Int → Int) (xs : List Int) : List Int:=if t = 0 then stabL f xs else stab f xs
noncomputable def rowL (t : Int) (c : List Int) : List Int:=stabT t (atL c) (rng c.length)
theorem stabT_perm {t : Int} {f : Int → Int} {xs : List Int} : (stabT t f xs).Perm xs:=by
  unfold stabT; split
  · exact stabL_perm f xs
  · exact stab_perm f xs
theorem stabT_sorted {t : Int} {f : Int → Int} {xs : List Int} : ((stabT t f xs).map f).Pairwise (· ≤ ·):=by
  unfold stabT; split
  · exact stabL_sorted f xs
  · exact stab_sorted f xs
theorem key_at {k : Nat} {C : List (Option V)} {H : List L} {c i : Nat} {cs xs : List Int} (hd : dLam1 (.clo k [c]) = some (loSem (mBin fItem (mCel 0) (mLoc 0)) [c])) (hC : C[c]? = some (some (.ref i))) (hi : H[i]? = some (.ints cs)) (hx : ∀ x ∈ xs,0 ≤ x ∧ x < cs.length) :
    KeyOk dLam1 C H xs (.clo k [c]) (xs.map (atL cs)):=.fn rfl hd fun x hx'=>by
  have e : Ev (mBin fItem (mCel 0) (mLoc 0)) { loc:=[some (.int x)],cel:=[c],C:=C,H:=H } (pi (atL cs x)):=ev_item (ev_li (ev_cel rfl hC) hi) (ev_loc rfl) (hx x hx').1 (hx x hx').2
  show mBin fItem (mCel 0) (mLoc 0) { loc:=[some (.int x)],cel:=[c],C:=C,H:=H } = _
  unfold mBin mCel mLoc
  dsimp only [List.getElem?_cons_zero]
  rw [hC]
  exact fItem_ints hi (hx x hx').1 (hx x hx').2
theorem keyX_at {k : Nat} {C : List (Option V)} {H : List L} {c i : Nat} {cs : List Int} {x : Int} (hd : dLam1 (.clo k [c]) = some (loSem (mBin fItem (mCel 0) (mLoc 0)) [c])) (hC : C[c]? = some (some (.ref i))) (hi : H[i]? = some (.ints cs)) (h0 : 0 ≤ x) (h1 : x < cs.length) : KeyX dLam1 C H x (.clo k [c]) (atL cs x):=.fn rfl hd (by
  show mBin fItem (mCel 0) (mLoc 0) { loc:=[some (.int x)],cel:=[c],C:=C,H:=H } = _
  unfold mBin mCel mLoc
  dsimp only [List.getElem?_cons_zero]
  rw [hC]
  exact fItem_ints hi h0 h1)
theorem mCallK_eq {fm : Xm} {disp : V → Option FCall} {args : Xms} {km : Xm} {σ : S} {fv kv : V} {f : FCall} {vs : List V} {H0 H1 H2 : List L} (h1 : fm σ = some (fv,H0)) (h2 : disp fv = some f) (h3 : args { σ with H:=H0 } = some (vs,H1)) (h4 : km { σ with H:=H1 } = some (kv,H2)) : mCallK fm disp args km σ = f vs (some kv) σ.C H2:=by
  unfold mCallK; rw [h1]; dsimp only; rw [h2]; dsimp only; rw [h3]; dsimp only; rw [h4]
theorem do_raw {m : Xm} {σ : S} {v : V} {H1 : List L} {Q : Fl → S → Prop} (h : m σ = some (v,H1)) (k : Q .next { σ with H:=H1 }) : Do (sExpr m) σ Q:=by
  unfold Do sExpr; rw [h]; exact ⟨_,_,k⟩
theorem pre_set {H0 H : List L} {r : Nat} {l : L} (p : H0 <+: H) (hr : H0.length ≤ r) : H0 <+: H.set r l:=by
  obtain ⟨T,rfl⟩:=p
  rw [List.set_append_right _ _ hr]
  exact ⟨_,rfl⟩
theorem set_ne {H : List L} {i r : Nat} {l x : L} (h : i ≠ r) (hi : H[i]? = some x) : (H.set r l)[i]? = some x:=by
  rw [List.getElem?_set_ne (Ne.symm h)]; exact hi
theorem set_eq {H : List L} {r : Nat} {l x : L} (hi : H[r]? = some x) : (H.set r l)[r]? = some l:=by
  rw [List.getElem?_set_self (List.getElem?_eq_some_iff.mp hi).1]
structure RowI (t : Int) (c : List Int) (C : List (Option V)) (H0 : List L) (i r k : Nat) (τ : S) : Prop where
  loc : ∃ p,τ.loc = [some (.int t),some (.ref r),p]
  cel : τ.cel = [C.length]
  C : τ.C = C ++ [some (.ref i)]
  pre : H0 <+: τ.H
  hi : τ.H[i]? = some (.ints c)
  hr : τ.H[r]? = some (.ints (stabT t (atL c) (rng k)))
theorem do_rawA {m : Xm} {σ : S} {i : Nat} {v : V} {H1 : List L} {Q : Fl → S → Prop} (h : m σ = some (v,H1)) (k : Q .next { σ with loc:=σ.loc.set i (some v),H:=H1 }) : Do (sAssign (.loc i) m) σ Q:=by
  unfold Do sAssign; rw [h]; exact ⟨_,_,k⟩
theorem list_nil {σ : S} : mList aNil σ = some (.ref σ.H.length,σ.H ++ [.ints []]):=rfl
@[elab_as_elim] theorem RowI.el {t : Int} {c : List Int} {C : List (Option V)} {H0 : List L} {i r k : Nat} {τ : S} {P : S → Prop} (h : RowI t c C H0 i r k τ) (K : ∀ p H,H0 <+: H → H[i]? = some (.ints c) → H[r]? = some (.ints (stabT t (atL c) (rng k))) → P { loc:=[some (.int t),some (.ref r),p],cel:=[C.length],C:=C ++ [some (.ref i)],H:=H }) : P τ:=by
  obtain ⟨⟨p,h1⟩,h2,h3,h4,h5,h6⟩:=h
  have:=K p τ.H h4 h5 h6
  rw [← h1,← h2,← h3] at this
  exact this
theorem row_spec {c : List Int} {t : Int} (hl : c.length ≤ 900) : FSpec sem1_5 [.li c,pi t] (.li (rowL t c)):=fspec (fun vs h=>full_n h) rfl fun vs C H h=>h.e2 (P:=fun vs=>Do body1_5 (entry df1_5 vs C H) _) fun v w hv (hw2 : w = _)=>by
  obtain ⟨i,e,hi⟩:=hv
  subst e; subst hw2
  have hil : i < H.length:=(List.getElem?_eq_some_iff.mp hi).1
  refine do_seq (do_rawA list_nil ?_)
  have hi1:=pre_get (pre_app (T:=[.ints []])) hi
  refine do_seq (do_for (xs:=rng c.length) (ev_rng1 (ev_len (ev_li (i:=i) (ev_cel rfl at_0) hi1)) (by lia)) (by rw [rng_len]; lia) (fun B k τ=>RowI t c C H i H.length k τ) (fun v B k τ it _=>it _ List.nil_prefix k) (fun H' p=>?_) (fun B k τ hk p I=>?_) fun B τ p I=>?_)
  · refine ⟨⟨none,rfl⟩,rfl,rfl,pre_app.trans p,pre_get p hi1,?_⟩
    refine pre_get p ?_
    show (H ++ [L.ints []])[H.length]? = _
    rw [show stabT t (atL c) (rng 0) = [] by unfold stabT; split <;> rfl]
    simp
  · rw [rng_len] at hk
    refine I.el fun p H2 p2 hi2 hr2=>?_
    refine ⟨_,rfl,?_⟩
    have hx : (rng c.length)[k]'(by rw [rng_len]; exact hk) = (k : Int):=by unfold rng; simp
    rw [hx]
    have hlen : (stabT t (atL c) (rng k)).length ≤ 900:=by rw [stabT_perm.length_eq,rng_len]; lia
    have hin : ∀ x ∈ stabT t (atL c) (rng k),0 ≤ x ∧ x < c.length:=fun x hx=>by
      have:=mem_rng.mp (stabT_perm.mem_iff.mp hx); lia
    refine do_one (do_if (c:=decide (t = 0)) (evb_eq (ev_loc rfl) ev_int) fun H' p3=>?_)
    have hi3:=pre_get p3 hi2
    have hr3:=pre_get p3 hr2
    have nx : ∀ l,l = stabT t (atL c) (rng (k + 1)) → RowI t c C H i H.length (k + 1) { loc:=[some (.int t),some (.ref H.length),some (.int k)],cel:=[C.length],C:=C ++ [some (.ref i)],H:=H'.set H.length (.ints l) }:=fun l e=>by
      rw [e]
      exact ⟨⟨_,rfl⟩,rfl,rfl,pre_set (p2.trans p3) (Nat.le_refl _),set_ne (by lia) hi3,set_eq hr3⟩
    have srt:=stabT_sorted (t:=t) (f:=atL c) (xs:=rng k)
    by_cases ht : t = 0
    · rw [decide_eq_true ht,if_pos rfl]
      refine do_one (do_raw ((mCallK_eq (f:=sem1_2) (kv:=.clo 0 [C.length]) (vs:=[.ref H.length,.int k]) rfl rfl rfl rfl).trans (il1 hr3 hlen (key_at rfl at_0 hi3 hin) (keyX_at rfl at_0 hi3 (by lia) (by lia)) srt rfl)) ⟨rfl,nx _ ?_⟩)
      rw [insL_lt srt,rng_succ]
      unfold stabT
      rw [if_pos ht,if_pos ht,stabL_snoc]; rfl
    · rw [decide_eq_false ht,if_neg (by decide)]
      refine do_one (do_raw ((mCallK_eq (f:=sem1_0) (kv:=.clo 1 [C.length]) (vs:=[.ref H.length,.int k]) rfl rfl rfl rfl).trans (ir1 hr3 hlen (key_at rfl at_0 hi3 hin) (keyX_at rfl at_0 hi3 (by lia) (by lia)) srt rfl)) ⟨rfl,nx _ ?_⟩)
      rw [insL_le srt,rng_succ]
      unfold stabT
      rw [if_neg ht,if_neg ht,stab_snoc]; rfl
  · rw [rng_len] at I
    refine I.el fun p H2 p2 hi2 hr2=>?_
    exact do_one (out_1 p2 (ev_li (ev_loc rfl) hr2))
end Mine
namespace Mine
theorem sum_perm {xs ys : List Int} (h : xs.Perm ys) : xs.sum = ys.sum:=by
  induction h with
  | nil=>rfl
  | cons x _ ih=>rw [List.sum_cons,List.sum_cons,ih]
  | swap x y l=>simp only [List.sum_cons]; lia
  | trans _ _ h1 h2=>exact h1.trans h2
theorem sum_lt {f g : Int → Int} : ∀ {c : List Int},(∀ x ∈ c,f x ≤ g x) → (∃ x ∈ c,f x < g x) → (c.map f).sum < (c.map g).sum
  | [],_,⟨_,h,_⟩=>absurd h (by simp)
  | y :: c,h,⟨x,hx,hlt⟩=>by
    have h1:=h y (by simp)
    have h2:=sum_mono fun y hy=>h y (List.mem_cons_of_mem _ hy)
    simp only [List.map_cons,List.sum_cons]
    rcases List.mem_cons.mp hx with r | r
    · subst r; lia
    · have:=sum_lt (fun y hy=>h y (List.mem_cons_of_mem _ hy)) ⟨x,r,hlt⟩
      lia
theorem atL_rng (c : List Int) : (rng c.length).map (atL c) = c:=by
  refine List.ext_getElem (by simp [rng]) fun i h1 h2=>?_
  simp [rng,atL,h2]
theorem mem_getD {R : List Int} {j : Nat} (h : j < R.length) : R.getD j 0 ∈ R:=by
  rw [List.getD_eq_getElem?_getD,List.getElem?_eq_getElem h]; exact List.getElem_mem h
theorem getD_of_mem {R : List Int} {x : Int} (h : x ∈ R) : ∃ j,j < R.length ∧ R.getD j 0 = x:=by
  obtain ⟨j,hj,e⟩:=List.mem_iff_getElem.mp h
  exact ⟨j,hj,by rw [List.getD_eq_getElem?_getD,List.getElem?_eq_getElem hj]; exact e⟩
noncomputable def tabA (c : List Int) (p : Int) : Int:=(c.map fun x=>min x (atL c p) / 2).sum
section
variable {c R : List Int} {μ D : Int}
theorem mem_R (hR : R.Perm (rng c.length)) {x : Int} : x ∈ c ↔ ∃ p ∈ R,atL c p = x:=by
  conv=>lhs; rw [← atL_rng c]
  rw [← (hR.map (atL c)).mem_iff,List.mem_map]
theorem last_max (hR : R.Perm (rng c.length)) (hs : (R.map (atL c)).Pairwise (· ≤ ·)) : ∀ x ∈ c,x ≤ atL c (R.getD (c.length - 1) 0):=fun x hx=>by
  obtain ⟨p,hp,e⟩:=(mem_R hR).mp hx
  obtain ⟨j,hj,e2⟩:=getD_of_mem hp
  have hl:=hR.length_eq
  rw [rng_len] at hl
  rw [← e,← e2]
  by_cases q : j = c.length - 1
  · rw [q]; exact Int.le_refl _
  · have:=List.pairwise_iff_getElem.mp (List.pairwise_map.mp hs) j (c.length - 1) hj (by lia) (by lia)
    rw [List.getD_eq_getElem?_getD,List.getElem?_eq_getElem hj,List.getD_eq_getElem?_getD,List.getElem?_eq_getElem (by lia)]
    exact this
theorem half_min (x m : Int) : min x m / 2 = min (x / 2) (m / 2):=by lia
theorem tab_low {p : Int} (hp : atL c p ∈ c) (h : tabA c p ≤ hS c μ) : atL c p / 2 ≤ μ:=Int.not_lt.mp fun q=>by
  have:=sum_lt (f:=fun x=>min (x / 2) μ) (g:=fun x=>min x (atL c p) / 2) (c:=c) (fun x _=>by rw [half_min]; lia) ⟨_,hp,by rw [half_min]; lia⟩
  unfold tabA hS at h
  lia
theorem tab_high {p m : Int} (hm : m ∈ c) (hμ : μ ≤ m / 2) (h : hS c μ ≤ tabA c p) : μ ≤ atL c p / 2:=Int.not_lt.mp fun q=>by
  have:=sum_lt (f:=fun x=>min x (atL c p) / 2) (g:=fun x=>min (x / 2) μ) (c:=c) (fun x _=>by rw [half_min]; lia) ⟨_,hm,by rw [half_min]; lia⟩
  unfold tabA hS at h
  lia
theorem sum_R (hR : R.Perm (rng c.length)) (g : Int → Int) : (R.map fun p=>g (atL c p)).sum = (c.map g).sum:=by
  have:=sum_perm (hR.map fun p=>g (atL c p))
  rw [this,show (rng c.length).map (fun p=>g (atL c p)) = ((rng c.length).map (atL c)).map g by rw [List.map_map]; rfl,atL_rng]
theorem level_eq {r : Nat} (h0 : 0 ≤ μ) (hD : hS c μ = D) (hn : ∀ x ∈ c,0 ≤ x) (hR : R.Perm (rng c.length)) (hs : (R.map (atL c)).Pairwise (· ≤ ·)) (hr : r < c.length) (hlo : ∀ j,j < r → tabA c (R.getD j 0) ≤ D) (hhi : ∀ j,r ≤ j → j + 1 < c.length → D ≤ tabA c (R.getD j 0)) :
    ∃ μ',(∀ x ∈ c,min (x / 2) μ' = min (x / 2) μ) ∧ (D - ((R.take r).map fun p=>atL c p / 2).sum) / ((c.length : Int) - r) = μ':=by
  have hl:=hR.length_eq
  rw [rng_len] at hl
  have hmax:=last_max hR hs
  have inC : ∀ j,j < c.length → atL c (R.getD j 0) ∈ c:=fun j hj=>(mem_R hR).mpr ⟨_,mem_getD (by lia),rfl⟩
  generalize hM : atL c (R.getD (c.length - 1) 0) = M at hmax
  have hMc : M ∈ c:=hM ▸ inC _ (by lia)
  have e1 : ∀ x ∈ c,min (x / 2) (min μ (M / 2)) = min (x / 2) μ:=fun x hx=>by
    have:=hmax x hx; lia
  have e2 : hS c (min μ (M / 2)) = D:=by
    rw [← hD]; unfold hS; rw [List.map_congr_left e1]
  refine ⟨min μ (M / 2),e1,?_⟩
  have low : ∀ p ∈ R.take r,min (atL c p / 2) (min μ (M / 2)) = atL c p / 2:=fun p hp=>by
    obtain ⟨j,hj,e⟩:=getD_of_mem hp
    rw [List.length_take] at hj
    have hj2 : j < r:=by lia
    have e3 : (R.take r).getD j 0 = R.getD j 0:=by rw [List.getD_eq_getElem?_getD,List.getElem?_take_of_lt hj2,List.getD_eq_getElem?_getD]
    rw [e3] at e
    have:=tab_low (c:=c) (μ:=min μ (M / 2)) (p:=R.getD j 0) (inC j (by lia)) (by rw [e2]; exact hlo j hj2)
    rw [e] at this
    exact Int.min_eq_left this
  have high : ∀ p ∈ R.drop r,min (atL c p / 2) (min μ (M / 2)) = min μ (M / 2):=fun p hp=>by
    obtain ⟨j,hj,e⟩:=getD_of_mem hp
    rw [List.length_drop] at hj
    have e3 : (R.drop r).getD j 0 = R.getD (r + j) 0:=by rw [List.getD_eq_getElem?_getD,List.getElem?_drop,List.getD_eq_getElem?_getD]
    rw [e3] at e
    refine Int.min_eq_right ?_
    by_cases q : r + j + 1 < c.length
    · have:=tab_high (c:=c) (μ:=min μ (M / 2)) (p:=R.getD (r + j) 0) hMc (by lia) (by rw [e2]; exact hhi (r + j) (by lia) q)
      rwa [e] at this
    · rw [← e,show r + j = c.length - 1 by lia,hM]; lia
  have s1:=sum_R hR fun x=>min (x / 2) (min μ (M / 2))
  have s2 : (c.map fun x=>min (x / 2) (min μ (M / 2))).sum = D:=e2
  rw [s2,← List.take_append_drop r R,List.map_append,List.sum_append,List.map_congr_left low,map_const high,List.length_drop] at s1
  have s3 : (List.replicate (R.length - r) (min μ (M / 2))).sum = (R.length - r : Nat) * min μ (M / 2):=by
    have h1:=sum_le (f:=id) (k:=min μ (M / 2)) (c:=List.replicate (R.length - r) (min μ (M / 2))) fun x hx=>by rw [List.mem_replicate] at hx; rw [hx.2]; exact Int.le_refl _
    have h2:=sum_ge (f:=id) (k:=min μ (M / 2)) (c:=List.replicate (R.length - r) (min μ (M / 2))) fun x hx=>by rw [List.mem_replicate] at hx; rw [hx.2]; exact Int.le_refl _
    rw [List.map_id,List.length_replicate] at h1 h2
    lia
  rw [s3] at s1
  rw [← s1,show ((R.length - r : Nat) : Int) = (c.length : Int) - r by lia]
  rw [Int.add_comm,Int.add_sub_cancel]
  exact Int.mul_ediv_cancel_left _ (by lia)
end
end Mine
namespace Mine
theorem set_1 {C T : List (Option V)} {x y z : Option V} : (C ++ z :: y :: T).set (C.length + 1) x = C ++ z :: x :: T:=by simp
theorem set_2 {C T : List (Option V)} {x y z w : Option V} : (C ++ w :: z :: y :: T).set (C.length + 2) x = C ++ w :: z :: x :: T:=by simp
theorem ev_raw {m : Xm} {σ : S} {v : V} (h : ∀ H,σ.H <+: H → m { σ with H:=H } = some (v,H)) : Ev m σ (.is v):=fun H p=>by
  rw [h H p]; exact ⟨v,H,pre_rfl,rfl⟩
theorem subs_map {f : Int → Int} : ∀ c : List Int,subs c (c.map f) = c.map fun x=>x - f x
  | []=>rfl
  | x :: c=>by
    have:=subs_map (f:=f) c
    unfold subs at this ⊢
    rw [List.map_cons,List.zipWith_cons_cons,this]; rfl
theorem ev_zipSub {σ : S} {a b : Xm} {xs ys : List Int} (ea : Ev a σ (.li xs)) (eb : Ev b σ (.li ys)) (hl : xs.length = ys.length) (hs : xs.length ≤ 1000) : Ev (mZipSub (aCons a (aCons b aNil))) σ (.li (subs xs ys)):=fun H p=>by
  unfold mZipSub zipOf
  refine EvaR.e (eva_cons ea (eva_1 eb) H p) fun vs H1 p1 k=>?_
  refine k.e2 fun u w ⟨i,e1,h1⟩ ⟨j,e2,h2⟩=>?_
  rw [e1,e2]
  dsimp only
  rw [h1,h2]
  dsimp only
  rw [if_pos ⟨hl,hs⟩]
  exact ⟨_,_,p1.trans pre_app,new_at⟩
/-! the shares -/
noncomputable def shS (E t : Int) (i : Nat) (l2 l3 l4 l5 l6 c1 c2 : Option V) (C : List (Option V)) (H : List L) : S:={ loc:=[some (.int E),some (.int t),l2,l3,l4,l5,l6],cel:=[C.length,C.length + 1,C.length + 2],C:=C ++ [some (.ref i),c1,c2],H:=H }
noncomputable def shB (c : List Int) (E : Int) : Bool:=decide (E ≤ c.sum - E)
noncomputable def shL (c : List Int) (E μ : Int) : List Int:=c.map (gS (shB c E) μ)
section
variable {E t : Int} {i r j : Nat} {l3 l4 l5 l6 c1 c2 : Option V} {C : List (Option V)} {H : List L} {c : List Int}
theorem tab_at {p : Int} (h0 : 0 ≤ p) (h1 : p < c.length) : atL (takenL c) p = tabA c p:=by
  have hlt : p.toNat < c.length:=by lia
  unfold atL takenL tabA atL
  rw [List.getD_eq_getElem?_getD,List.getElem?_map,List.getElem?_eq_getElem hlt,List.getD_eq_getElem?_getD,List.getElem?_eq_getElem hlt]
  rfl
theorem tab_sorted {R : List Int} (hs : (R.map (atL c)).Pairwise (· ≤ ·)) (hR : ∀ p ∈ R,0 ≤ p ∧ p < c.length) : (R.map (atL (takenL c))).Pairwise (· ≤ ·):=by
  rw [List.map_congr_left fun p hp=>tab_at (hR p hp).1 (hR p hp).2]
  rw [List.pairwise_map] at hs ⊢
  refine hs.imp fun {a b} h=>?_
  unfold tabA
  refine sum_mono fun x _=>?_
  rw [half_min,half_min]; lia
theorem row_in {p : Int} (h : p ∈ rowL t c) : 0 ≤ p ∧ p < c.length:=mem_rng.mp (stabT_perm.mem_iff.mp h)
theorem row_len : (rowL t c).length = c.length:=by unfold rowL; rw [stabT_perm.length_eq,rng_len]
noncomputable def cntT (t : Int) (ks : List Int) (x : Int) : Nat:=if t = 0 then cntLt ks x else cntLe ks x
noncomputable def keysT (t : Int) (c : List Int) : List Int:=(rowL t c).map (atL (takenL c))
theorem keys_len : (keysT t c).length = c.length:=by unfold keysT; rw [List.length_map,row_len]
theorem keys_sorted : (keysT t c).Pairwise (· ≤ ·):=tab_sorted stabT_sorted fun p hp=>row_in hp
theorem keys_at {j : Nat} (h : j < c.length) : (keysT t c).getD j 0 = tabA c ((rowL t c).getD j 0):=by
  have hj : j < (rowL t c).length:=by rw [row_len]; exact h
  unfold keysT
  rw [List.getD_eq_getElem?_getD,List.getElem?_map,List.getElem?_eq_getElem hj,List.getD_eq_getElem?_getD,List.getElem?_eq_getElem hj]
  exact tab_at (row_in (List.getElem_mem hj)).1 (row_in (List.getElem_mem hj)).2
theorem cntT_low {D : Int} {j : Nat} (h : j < c.length) (hj : (j : Int) < cntT t (keysT t c) D) : tabA c ((rowL t c).getD j 0) ≤ D:=by
  rw [← keys_at h]
  unfold cntT at hj
  split at hj
  · have:=(cntLt_at keys_sorted D j (by rw [keys_len]; exact h)).mpr hj; lia
  · exact (cntLe_at keys_sorted D j (by rw [keys_len]; exact h)).mpr hj
theorem cntT_high {D : Int} {j : Nat} (h : j < c.length) (hj : ¬ (j : Int) < cntT t (keysT t c) D) : D ≤ tabA c ((rowL t c).getD j 0):=by
  rw [← keys_at h]
  unfold cntT at hj
  split at hj
  · have:=mt (cntLt_at keys_sorted D j (by rw [keys_len]; exact h)).mp hj; lia
  · have:=mt (cntLe_at keys_sorted D j (by rw [keys_len]; exact h)).mp hj; lia
noncomputable def rankT (t : Int) (c : List Int) (D : Int) : Nat:=min (c.length - 1) (cntT t (keysT t c) D)
theorem rank_ans (hc : c ≠ []) {D : Int} : bisAns 0 ((c.length : Int) - 1) (cntT t (keysT t c) D) = rankT t c D:=by
  have hp:=List.length_pos_iff.mpr hc
  unfold bisAns rankT
  generalize cntT t (keysT t c) D = k
  generalize c.length = n at *
  by_cases h : k ≤ n - 1
  · rw [Nat.min_eq_right h,Int.min_eq_right (by lia),Int.max_eq_right (by lia)]
  · rw [Nat.min_eq_left (by lia),Int.min_eq_left (by lia),Int.max_eq_right (by lia)]; lia
theorem level_row {μ D : Int} (hc : Cl c) (h0 : 0 ≤ μ) (hD : hS c μ = D) : ∃ μ',(∀ x ∈ c,min (x / 2) μ' = min (x / 2) μ) ∧ (D - (((rowL t c).take (rankT t c D)).map fun p=>atL c p / 2).sum) / ((c.length : Int) - rankT t c D) = μ':=by
  have hn:=List.length_pos_iff.mpr hc.ne
  refine level_eq h0 hD hc.nn stabT_perm stabT_sorted (by unfold rankT; lia) (fun j hj=>?_) fun j hj hj2=>?_
  · unfold rankT at hj
    exact cntT_low (t:=t) (by lia) (by lia)
  · unfold rankT at hj
    exact cntT_high (t:=t) (by lia) (by lia)
end
end Mine
namespace Mine
section
variable {E t D : Int} {i r j : Nat} {l3 l4 l5 l6 c1 c2 : Option V} {C : List (Option V)} {H : List L} {c : List Int}
theorem rank_go (hc : Cl c) {σ : S} (e2 : σ.loc[2]? = some (some (.ref r))) (e3 : σ.loc[3]? = some (some (.int D))) (e4 : σ.loc[4]? = some (some (.int ((c.length : Int) - 1)))) (hr : σ.H[r]? = some (.ints (rowL t c))) {k : Nat} (hk : k < σ.cel.length) (hC : σ.C[σ.cel.getD k 0]? = some (some (.ref j))) (hj : σ.H[j]? = some (.ints (takenL c))) {f lam : Nat} {sem : FCall} (hd : ∀ cs,dLam1 (.clo lam cs) = some (loSem (mBin fItem (mCel 0) (mLoc 0)) cs))
    (hsem : ∀ H,σ.H <+: H → KeyOk dLam1 σ.C H (rowL t c) (.clo lam [σ.cel.getD k 0]) (keysT t c) → sem [.ref r,.int D,.int 0,.int ((c.length : Int) - 1)] (some (.clo lam [σ.cel.getD k 0])) σ.C H = some (.int (bisAns 0 ((c.length : Int) - 1) (cntT t (keysT t c) D)),H)) :
    Ev (mCallK (mFn f) (dFn f sem) (aCons (mLoc 2) (aCons (mLoc 3) (aCons (mInt 0) (aCons (mLoc 4) aNil)))) (mLam lam [k])) σ (pi (rankT t c D)):=by
  rw [← rank_ans hc.ne]
  refine ev_raw fun H p=>?_
  refine (mCallK_eq (f:=sem) (fv:=.fn f) (H1:=H) (kv:=.clo lam [σ.cel.getD k 0]) (vs:=[.ref r,.int D,.int 0,.int ((c.length : Int) - 1)]) rfl (if_pos rfl) ?_ ?_).trans (hsem H p ?_)
  · unfold aCons mLoc mInt aNil; dsimp only; rw [e2,e3,e4]
  · unfold mLam; dsimp only; rw [if_pos (by simp [hk])]; rfl
  · refine key_at (hd _) hC (pre_get p hj) fun x hx=>?_
    have:=row_in hx
    unfold takenL
    rw [List.length_map]; exact this
theorem shared_spec {μ : Int} (hc : Cl c) (h0 : 0 ≤ μ) (hD : hS c μ = min E (c.sum - E)) : FSpec sem1_7 [.li c,pi E,pi t] (.li (shL c E μ)):=fspec (fun vs h=>full_n h) rfl fun vs C H h=>h.e3 (P:=fun vs=>Do body1_7 (entry df1_7 vs C H) _) fun v w u hv (hw2 : w = _) (hu2 : u = _)=>by
  obtain ⟨i,e,hi⟩:=hv
  subst e; subst hw2; subst hu2
  have hl:=hc.len
  have hn:=List.length_pos_iff.mpr hc.ne
  have ec : Ev (mCel 0) (shS E t i none none none none none none none C H) (.li c):=ev_li (ev_cel rfl at_0) hi
  refine do_seq (do_unpack (ss:=[.li (rowL t c),pi (min E (c.sum - E)),.li (takenL c),pi ((c.length : Int) - 1)]) (σ:=shS E t i none none none none none none none C H) ?_ (by simp) fun vs H1 p1 k=>?_)
  · exact eva_cons (ev_call (row_spec (by lia)) (eva_cons ec (eva_1 (ev_loc rfl)))) (eva_cons (ev_min (ev_loc rfl) (ev_sub (ev_sum ec) (ev_loc rfl))) (eva_cons (ev_call (taken_spec (by lia)) (eva_1 ec)) (eva_1 (ev_sub (ev_len ec) ev_int))))
  refine k.e4 fun vr vd vt vl ⟨r,er,hr⟩ (ed : vd = _) ⟨j,et,hj⟩ (el : vl = _)=>?_
  subst er; subst ed; subst et; subst el
  refine ⟨shS E t i (some (.ref r)) (some (.int (min E (c.sum - E)))) (some (.int ((c.length : Int) - 1))) none none none (some (.ref j)) C H1,?_,?_⟩
  · simp [putAll,Tgt.put,shS]
  have hi1:=pre_get p1 hi
  refine out_mono p1 ?_
  obtain ⟨μ',hμ,hlev⟩:=level_row (t:=t) hc h0 hD
  have rank : Do m1_7_1 (shS E t i (some (.ref r)) (some (.int (min E (c.sum - E)))) (some (.int ((c.length : Int) - 1))) none none none (some (.ref j)) C H1) (SeqQ (sSeq m1_7_2 (sSeq m1_7_3 (sSeq m1_7_4 sNil))) (Out H1 (.li (shL c E μ)))):=by
    have fin : ∀ H2,H1 <+: H2 → Do (sSeq m1_7_2 (sSeq m1_7_3 (sSeq m1_7_4 sNil))) (shS E t i (some (.ref r)) (some (.int (min E (c.sum - E)))) (some (.int ((c.length : Int) - 1))) (some (.int (rankT t c (min E (c.sum - E))))) none none (some (.ref j)) C H2) (Out H1 (.li (shL c E μ))):=fun H2 p2=>by
      have hi2:=pre_get p2 hi1
      have hr2:=pre_get p2 hr
      have hlen : (rowL t c).length = c.length:=row_len
      have hrk : rankT t c (min E (c.sum - E)) < c.length:=by unfold rankT; lia
      refine out_mono p2 ?_
      refine do_seq (do_cel (i:=1) (c:=C.length + 1) (s:=pi μ') (σ:=shS E t i (some (.ref r)) (some (.int (min E (c.sum - E)))) (some (.int ((c.length : Int) - 1))) (some (.int (rankT t c (min E (c.sum - E))))) none none (some (.ref j)) C H2) ?_ rfl (by show C.length + 1 < (C ++ [_,_,_]).length; simp) fun v H3 p3 (ev : v = _)=>?_)
      · rw [← hlev]
        have er : Ev (mLoc 2) (shS E t i (some (.ref r)) (some (.int (min E (c.sum - E)))) (some (.int ((c.length : Int) - 1))) (some (.int (rankT t c (min E (c.sum - E))))) none none (some (.ref j)) C H2) (.li (rowL t c)):=ev_li (ev_loc rfl) hr2
        refine ev_div (ev_sub (ev_loc rfl) (ev_sum (ev_map (g:=fun p=>atL c p / 2) (ev_it (ev_take er (ev_loc rfl) (by lia) (by lia))) (by rw [List.length_take]; lia) rfl fun x hx=>?_))) (ev_sub (by rw [← row_len (t:=t)]; exact ev_len er) (ev_loc rfl)) (by lia) ?_
        · have:=row_in (List.mem_of_mem_take hx)
          exact ev_div (ev_item (ev_li (ev_cel rfl at_0) hi2) (ev_loc rfl) this.1 this.2) ev_int (by decide) rfl
        · rw [show ((c.length : Int) - rankT t c (min E (c.sum - E))) = ((c.length - rankT t c (min E (c.sum - E)) : Nat) : Int) by lia]
          exact small_nat (by lia)
      rw [ev]
      have hi3:=pre_get p3 hi2
      refine out_mono p3 ?_
      have eσ : ∀ x,shS E t i (some (.ref r)) (some (.int (min E (c.sum - E)))) (some (.int ((c.length : Int) - 1))) (some (.int (rankT t c (min E (c.sum - E))))) none (some (.int x)) (some (.ref j)) C H3 = { shS E t i (some (.ref r)) (some (.int (min E (c.sum - E)))) (some (.int ((c.length : Int) - 1))) (some (.int (rankT t c (min E (c.sum - E))))) none none (some (.ref j)) C H2 with C:=(shS E t i (some (.ref r)) (some (.int (min E (c.sum - E)))) (some (.int ((c.length : Int) - 1))) (some (.int (rankT t c (min E (c.sum - E))))) none none (some (.ref j)) C H2).C.set (C.length + 1) (some (.int x)),H:=H3 }:=fun x=>by
        unfold shS; dsimp only; rw [set_1]
      rw [← eσ]
      have tk : (c.map fun x=>min (x / 2) μ') = c.map fun x=>min (x / 2) μ:=List.map_congr_left hμ
      refine do_seq (do_loc (s:=.li (c.map fun x=>min (x / 2) μ)) ?_ fun v H4 p4 ⟨k,ek,hk⟩=>?_)
      · rw [← tk]
        exact ev_map (ev_it (ev_li (ev_cel rfl at_0) hi3)) (by lia) rfl fun x _=>ev_min (ev_div (ev_loc rfl) ev_int (by decide) rfl) (ev_cel rfl at_1)
      rw [ek]
      have hi4:=pre_get p4 hi3
      refine do_one (out_1 p4 ?_)
      have eb : decide (min E (c.sum - E) = E) = shB c E:=by
        unfold shB
        by_cases q : E ≤ c.sum - E
        · rw [decide_eq_true q,decide_eq_true (by lia)]
        · rw [decide_eq_false q,decide_eq_false (by lia)]
      refine ev_if (evb_eq (ev_loc rfl) (ev_loc rfl)) (fun q=>?_) fun q=>?_
      · rw [eb] at q
        unfold shL; rw [q]
        exact ev_li (ev_loc rfl) hk
      · rw [eb] at q
        unfold shL; rw [q]
        have e1 : c.map (gS false μ) = subs c (c.map fun x=>min (x / 2) μ):=(subs_map c).symm
        rw [e1]
        exact ev_zipSub (ev_li (ev_cel rfl at_0) hi4) (ev_li (ev_loc rfl) hk) (by rw [List.length_map]) (by lia)
    refine do_if (c:=decide (t = 0)) (evb_eq (ev_loc rfl) ev_int) fun H2 p2=>?_
    have hr2:=pre_get p2 hr
    have hj2:=pre_get p2 hj
    by_cases ht : t = 0
    · rw [decide_eq_true ht,if_pos rfl]
      refine do_one (do_loc (rank_go (D:=min E (c.sum - E)) (t:=t) (r:=r) (j:=j) hc (σ:=shS E t i (some (.ref r)) (some (.int (min E (c.sum - E)))) (some (.int ((c.length : Int) - 1))) none none none (some (.ref j)) C H2) rfl rfl rfl hr2 (k:=2) (by show 2 < 3; decide) at_2 hj2 (fun _=>rfl) fun H3 p3 hK=>?_) fun v H3 p3 (e : v = _)=>?_)
      · unfold cntT; rw [if_pos ht]
        exact bl1 rfl (pre_get p3 hr2) (by rw [row_len]; lia) (by decide) (.inr ⟨rfl,by rw [row_len]; lia⟩) hK keys_sorted
      · rw [e]; exact fin H3 (p2.trans p3)
    · rw [decide_eq_false ht,if_neg (by decide)]
      refine do_one (do_loc (rank_go (D:=min E (c.sum - E)) (t:=t) (r:=r) (j:=j) hc (σ:=shS E t i (some (.ref r)) (some (.int (min E (c.sum - E)))) (some (.int ((c.length : Int) - 1))) none none none (some (.ref j)) C H2) rfl rfl rfl hr2 (k:=2) (by show 2 < 3; decide) at_2 hj2 (fun _=>rfl) fun H3 p3 hK=>?_) fun v H3 p3 (e : v = _)=>?_)
      · unfold cntT; rw [if_neg ht]
        exact br1 rfl (pre_get p3 hr2) (by rw [row_len]; lia) (by decide) (.inr ⟨rfl,by rw [row_len]; lia⟩) hK keys_sorted
      · rw [e]; exact fin H3 (p2.trans p3)
  exact do_seq rank
end
end Mine
namespace Mine
section
variable {c part : List Int} {E μ : Int}
theorem loss_sum (b : List Int) : (b.map (gS false μ)).sum = b.sum - hS b μ:=by
  have:=sum_add (f:=fun x=>x - min (x / 2) μ) (g:=fun x=>min (x / 2) μ) b
  rw [show (b.map fun x=>x - min (x / 2) μ + min (x / 2) μ) = b by
    conv=>rhs; rw [← List.map_id b]
    exact List.map_congr_left fun x _=>Int.sub_add_cancel _ _] at this
  show (b.map fun x=>x - min (x / 2) μ).sum = _
  unfold hS; lia
theorem win_sum (b : List Int) : (b.map (gS true μ)).sum = hS b μ:=rfl
theorem half_side (h0 : 0 ≤ μ) (hn : ∀ x ∈ part,0 ≤ x) : hS part μ ≤ part.sum - hS part μ:=by
  rw [← loss_sum]
  exact sum_mono (f:=fun x=>min (x / 2) μ) fun x hx=>by
    have:=hn x hx
    show min (x / 2) μ ≤ x - min (x / 2) μ
    lia
theorem consist (h0 : 0 ≤ μ) (hn : ∀ x ∈ part,0 ≤ x) (b : Bool) : hS part μ = min (part.map (gS b μ)).sum (part.sum - (part.map (gS b μ)).sum) ∧ shL part (part.map (gS b μ)).sum μ = part.map (gS b μ):=by
  have hh:=half_side h0 hn
  cases b with
  | true =>
    rw [win_sum]
    refine ⟨by lia,?_⟩
    unfold shL shB
    rw [decide_eq_true (by lia)]
  | false =>
    rw [loss_sum]
    refine ⟨by lia,?_⟩
    unfold shL shB
    by_cases q : part.sum - hS part μ ≤ part.sum - (part.sum - hS part μ)
    · rw [decide_eq_true q]
      refine List.map_congr_left fun x hx=>?_
      show min (x / 2) μ = x - min (x / 2) μ
      refine Int.le_antisymm (by have:=hn x hx; lia) (Int.not_lt.mp fun lt=>?_)
      have:=sum_lt (f:=fun x=>min (x / 2) μ) (g:=gS false μ) (c:=part) (fun x hx=>by
        have:=hn x hx
        show min (x / 2) μ ≤ x - min (x / 2) μ
        lia) ⟨x,hx,lt⟩
      rw [loss_sum] at this
      unfold hS at q this
      lia
    · rw [decide_eq_false q]
end
theorem pair_sh {a b μ e : Int} : shL [a,b] e μ = [gS (shB [a,b] e) μ a,gS (shB [a,b] e) μ b]:=rfl
theorem pair_hS {a b μ : Int} : hS [a,b] μ = min (a / 2) μ + min (b / 2) μ:=by
  show min (a / 2) μ + (min (b / 2) μ + 0) = _
  rw [Int.add_zero]
theorem mnl {a b : Int} (h : a ≤ b) : min a b = a:=Int.min_eq_left h
theorem mnr {a b : Int} (h : b ≤ a) : min a b = b:=Int.min_eq_right h
theorem mx0 {a : Int} (h : a ≤ 0) : max 0 a = 0:=Int.max_eq_left h
theorem mx1 {a : Int} (h : 0 ≤ a) : max 0 a = a:=Int.max_eq_right h
theorem pair_level {p q h : Int} (hp : 0 ≤ p) (hpq : p ≤ q) (h0 : 0 ≤ h) (h1 : h ≤ p + q) :
    ∃ μ x y,0 ≤ μ ∧ min p μ = x ∧ min q μ = y ∧ ((2 * h ≤ p + q ∧ x + y = 2 * h ∧ x - y = max 0 (2 * h - 2 * q) - max 0 (2 * h - 2 * p)) ∨ (p + q < 2 * h ∧ x + y = 2 * p + 2 * q - 2 * h ∧ (2 * p - x) - (2 * q - y) = max 0 (2 * h - 2 * q) - max 0 (2 * h - 2 * p))):=by
  by_cases c : 2 * h ≤ p + q
  · by_cases d : h ≤ p
    · exact ⟨h,h,h,h0,mnr d,mnr (by lia),.inl ⟨c,by lia,by rw [mx0 (by lia),mx0 (by lia)]; lia⟩⟩
    · exact ⟨2 * h - p,p,2 * h - p,by lia,mnl (by lia),mnr (by lia),.inl ⟨c,by lia,by rw [mx0 (by lia),mx1 (by lia)]; lia⟩⟩
  · by_cases d : q ≤ h
    · exact ⟨p + q - h,p + q - h,p + q - h,by lia,mnr (by lia),mnr (by lia),.inr ⟨by lia,by lia,by rw [mx1 (by lia),mx1 (by lia)]; lia⟩⟩
    · exact ⟨p + 2 * q - 2 * h,p,p + 2 * q - 2 * h,by lia,mnl (by lia),mnr (by lia),.inr ⟨by lia,by lia,by rw [mx0 (by lia),mx1 (by lia)]; lia⟩⟩
theorem pair_both {p q h : Int} (hp : 0 ≤ p) (hq : 0 ≤ q) (h0 : 0 ≤ h) (h1 : h ≤ p + q) :
    ∃ μ x y,0 ≤ μ ∧ min p μ = x ∧ min q μ = y ∧ ((2 * h ≤ p + q ∧ x + y = 2 * h ∧ x - y = max 0 (2 * h - 2 * q) - max 0 (2 * h - 2 * p)) ∨ (p + q < 2 * h ∧ x + y = 2 * p + 2 * q - 2 * h ∧ (2 * p - x) - (2 * q - y) = max 0 (2 * h - 2 * q) - max 0 (2 * h - 2 * p))):=by
  by_cases c : p ≤ q
  · exact pair_level hp c h0 h1
  · obtain ⟨μ,x,y,m0,e1,e2,r⟩:=pair_level hq (Int.le_of_lt (Int.not_le.mp c)) h0 (by lia)
    generalize max 0 (2 * h - 2 * q) = A at *
    generalize max 0 (2 * h - 2 * p) = B at *
    refine ⟨μ,y,x,m0,e2,e1,?_⟩
    rcases r with ⟨r1,r2,r3⟩ | ⟨r1,r2,r3⟩
    · exact .inl ⟨by lia,by lia,by lia⟩
    · exact .inr ⟨by lia,by lia,by lia⟩
theorem garment {a b e : Int} (ha : 0 ≤ a) (hb : 0 ≤ b) (da : a % 24 = 0) (db : b % 24 = 0) (he : 0 ≤ e) (hu : e ≤ a + b) (de : e % 24 = 0) :
    ∃ μ one two,0 ≤ μ ∧ hS [a,b] μ = min e ([a,b].sum - e) ∧ shL [a,b] e μ = [one,two] ∧ one + two = e ∧ one - two = max 0 (e - b) - max 0 (e - a):=by
  have hs : [a,b].sum = a + b:=by rw [List.sum_cons,List.sum_cons,List.sum_nil,Int.add_zero]
  obtain ⟨p,hp⟩ : ∃ p,a = 2 * p:=⟨a / 2,by lia⟩
  obtain ⟨q,hq⟩ : ∃ q,b = 2 * q:=⟨b / 2,by lia⟩
  obtain ⟨h,hh⟩ : ∃ h,e = 2 * h:=⟨e / 2,by lia⟩
  clear da db de
  subst hp; subst hq; subst hh
  obtain ⟨μ,x,y,m0,e1,e2,r⟩:=pair_both (p:=p) (q:=q) (h:=h) (by lia) (by lia) (by lia) (by lia)
  have hp2 : 2 * p / 2 = p:=Int.mul_ediv_cancel_left p (by decide)
  have hq2 : 2 * q / 2 = q:=Int.mul_ediv_cancel_left q (by decide)
  refine ⟨μ,_,_,m0,?_,pair_sh,?_⟩
  · rw [pair_hS,hs,hp2,hq2,e1,e2]
    rcases r with ⟨r1,r2,_⟩ | ⟨r1,r2,_⟩
    · rw [mnl (by lia)]; exact r2
    · rw [mnr (by lia)]; exact r2
  · unfold gS shB
    rw [hs,hp2,hq2,e1,e2]
    rcases r with ⟨r1,r2,r3⟩ | ⟨r1,r2,r3⟩
    · rw [decide_eq_true (by lia),if_pos rfl,if_pos rfl]; exact ⟨r2,r3⟩
    · rw [decide_eq_false (by lia),if_neg (by decide),if_neg (by decide)]; exact ⟨by lia,r3⟩
/-! who is among -/
noncomputable def amongN (n k : Nat) : List Nat:=(List.range n).filter (bitB k)
noncomputable def amongL (n k : Nat) : List Int:=(rng n).filter fun x=>bitB k x.toNat
theorem among_eq (n k : Nat) : amongL n k = (amongN n k).map fun p : Nat=>(p : Int):=by
  unfold amongL amongN rng
  rw [List.filter_map]; rfl
theorem among_dec : ∀ n,n < 5 → ∀ k,k < 16 → 0 < k → k < 2 ^ n → amongN n k ≠ []:=by decide +kernel
theorem pow_le16 : ∀ n,n < 5 → 2 ^ n ≤ 16:=by decide
theorem among_ne {n k : Nat} (hn : n ≤ 4) (h0 : 0 < k) (h : k < 2 ^ n) : amongL n k ≠ []:=by
  rw [among_eq]
  have:=pow_le16 n (by lia)
  exact fun q=>among_dec n (by lia) k (by lia) h0 h (List.map_eq_nil_iff.mp q)
theorem among_in {n k : Nat} {x : Int} (h : x ∈ amongL n k) : 0 ≤ x ∧ x < n:=mem_rng.mp (List.mem_filter.mp h).1
theorem among_len {n k : Nat} : (amongL n k).length ≤ n:=by
  have:=List.length_filter_le (fun x : Int=>bitB k x.toNat) (rng n)
  rwa [rng_len] at this
end Mine
namespace Mine
inductive AgI (cell : Int) (i j : Nat) (C : List (Option V)) (B : List L) : S → Prop
  | mk (l1 l2 l3 l4 l5 l6 cx : Option V) (H : List L) (p : B <+: H) : AgI cell i j C B { loc:=[some (.int cell),l1,l2,l3,l4,l5,l6],cel:=[C.length,C.length + 1,C.length + 2],C:=C ++ [some (.ref i),some (.ref j),cx],H:=H }
@[elab_as_elim] theorem AgI.el {cell : Int} {i j : Nat} {C : List (Option V)} {B : List L} {P : S → Prop} {τ : S} (h : AgI cell i j C B τ) (K : ∀ l1 l2 l3 l4 l5 l6 cx H,B <+: H → P { loc:=[some (.int cell),l1,l2,l3,l4,l5,l6],cel:=[C.length,C.length + 1,C.length + 2],C:=C ++ [some (.ref i),some (.ref j),cx],H:=H }) : P τ:=by
  cases h with | mk l1 l2 l3 l4 l5 l6 cx H p=>exact K l1 l2 l3 l4 l5 l6 cx H p
noncomputable def agS (cell k : Int) (i j : Nat) (l1 l2 l3 l4 l5 l6 : Option V) (C : List (Option V)) (H : List L) : S:={ loc:=[some (.int cell),l1,l2,l3,l4,l5,l6],cel:=[C.length,C.length + 1,C.length + 2],C:=C ++ [some (.ref i),some (.ref j),some (.int k)],H:=H }
section
variable {σ : S} {c : List Int} {k : Nat}
theorem do_unpackL {Q : Fl → S → Prop} {ts : List Tgt} {m : Xm} {xs : List Int} (e : Ev m σ (.li xs)) (k : ∀ H',σ.H <+: H' → ∃ σ1,putAll ts (xs.map V.int) { σ with H:=H' } = some σ1 ∧ Q .next σ1) : Do (sUnpack (putList ts) m) σ Q:=by
  unfold Do sUnpack
  refine EvR.e (e σ.H pre_rfl) fun v H' p ⟨i,ei,hi⟩=>?_
  refine e1a2 (k H' p) fun σ1 q1 q2=>?_
  rw [ei]
  dsimp only
  unfold putList
  dsimp only
  rw [hi]
  dsimp only [L.vs]
  rw [q1]
  exact ⟨_,_,q2⟩
theorem ev_among {is : List Nat} {ck : Nat} {a : Xm} {n : Nat} (hn : n ≤ 900) (ea : Ev a σ (pi n)) (hall : is.all (fun i=>i < σ.cel.length) = true) (hck : ∀ x,(inn σ is x).cel[0]? = some ck) (hC : σ.C[ck]? = some (some (.int k))) :
    Ev (mCompI 1000 1 is (putL 0) (iPlain (mArgs fRange3 (aCons a aNil))) (mTest (mBin fEqI (mBin fAnd (mBin fShr (mCel 0) (mLoc 0)) (mInt 1)) (mInt 1))) (cElt (mLoc 0))) σ (.li (amongL n k)):=by
  have:=ev_comp (σ:=σ) (is:=is) (p:=fun x=>bitB k x.toNat) (g:=fun x=>x) (elt:=mLoc 0) (t:=mTest (mBin fEqI (mBin fAnd (mBin fShr (mCel 0) (mLoc 0)) (mInt 1)) (mInt 1))) (ev_any (ev_rng1 ea (by lia))) (by rw [rng_len]; exact hn) hall (fun x hx=>by
    have h0:=(mem_rng.mp hx).1
    have:=evb_bit (σ:=inn σ is x) (a:=mCel 0) (b:=mLoc 0) (c:=k) (p:=x.toNat) (ev_cel (hck x) hC) (ev_loc (show [some (V.int x)][0]? = some (some (.int (x.toNat : Int))) by rw [Int.toNat_of_nonneg h0]; rfl))
    exact this) fun x hx _=>ev_loc rfl
  rwa [List.map_id'] at this
theorem ev_picks {m : Xm} {is : List Nat} {cc i : Nat} {xs : List Int} (em : Ev m σ (.li xs)) (hl : xs.length ≤ 900) (hall : is.all (fun i=>i < σ.cel.length) = true) (hck : ∀ x,(inn σ is x).cel[0]? = some cc) (hC : σ.C[cc]? = some (some (.ref i))) (hi : σ.H[i]? = some (.ints c)) (hx : ∀ x ∈ xs,0 ≤ x ∧ x < c.length) :
    Ev (mCompI 1000 1 is (putL 0) (iPlain m) (mConst true) (cElt (mBin fItem (mCel 0) (mLoc 0)))) σ (.li (xs.map (atL c))) :=
  ev_map (ev_it em) hl hall fun x h=>ev_item (ev_li (ev_cel (hck x) hC) hi) (ev_loc rfl) (hx x h).1 (hx x h).2
end
noncomputable def agBody : Sm:=sSeq (sAssign (.loc 1) (mCompI 1000 1 [2] (putL 0) (iPlain (mArgs fRange3 (aCons (mArgs fLen (aCons (mCel 0) aNil)) aNil))) (mTest (mBin fEqI (mBin fAnd (mBin fShr (mCel 0) (mLoc 0)) (mInt 1)) (mInt 1))) (cElt (mLoc 0)))) (sSeq (sSwap [.loc 2,.loc 3] (mTup (aCons (mCompI 1000 1 [0] (putL 0) (iPlain (mLoc 1)) (mConst true) (cElt (mBin fItem (mCel 0) (mLoc 0)))) (aCons (mCompI 1000 1 [1] (putL 0) (iPlain (mLoc 1)) (mConst true) (cElt (mBin fItem (mCel 0) (mLoc 0)))) aNil)))) (sSeq (sIf (mTest (mBin fNe (mCall (mFn 7) (dFn 7 sem1_7) (aCons (mLoc 2) (aCons (mArgs fSum (aCons (mLoc 3) aNil)) (aCons (mBin fMod (mCel 2) (mInt 2)) aNil)))) (mLoc 3))) (sSeq (sRet (mBool false)) sNil) sNil) (sSeq (sIf (mTest (mBin fEqI (mArgs fLen (aCons (mLoc 2) aNil)) (mInt 2))) (sSeq (sAssign (.loc 4) (mBin fMul (mInt 24) (mBin fMod (mLoc 0) (mBin fAdd (mBin fDiv (mArgs fSum (aCons (mLoc 2) aNil)) (mInt 24)) (mInt 1))))) (sSeq (sUnpack (putList [.loc 5,.loc 6]) (mCall (mFn 7) (dFn 7 sem1_7) (aCons (mLoc 2) (aCons (mLoc 4) (aCons (mBin fMod (mBin fDiv (mLoc 0) (mInt 2)) (mInt 2)) aNil))))) (sSeq (sIf (mOrB (mTest (mBin fNeI (mBin fAdd (mLoc 5) (mLoc 6)) (mLoc 4))) (mOrB (mTest (mBin fNeI (mBin fSub (mLoc 5) (mLoc 6)) (mBin fSub (mArgs fMax2 (aCons (mInt 0) (aCons (mBin fSub (mLoc 4) (mBin fItem (mLoc 2) (mInt 1))) aNil))) (mArgs fMax2 (aCons (mInt 0) (aCons (mBin fSub (mLoc 4) (mBin fItem (mLoc 2) (mInt 0))) aNil)))))) (mConst false))) (sSeq (sRet (mBool false)) sNil) sNil) sNil))) sNil) sNil)))
theorem m1_8_0_eq : m1_8_0 = sFor 1000 (.cel 2) (mArgs fRange3 (aCons (mInt 1) (aCons (mBin fPow (mInt 2) (mArgs fLen (aCons (mCel 0) aNil))) aNil))) agBody:=rfl
section
variable {c : List Int} {E μ cell : Int} {i j k : Nat} {C : List (Option V)} {H B : List L} {l1 l2 l3 l4 l5 l6 : Option V}
theorem sh_len : (shL c E μ).length = c.length:=List.length_map _
theorem sh_at {p : Int} (h0 : 0 ≤ p) (h1 : p < c.length) : atL (shL c E μ) p = gS (shB c E) μ (atL c p):=by
  have hlt : p.toNat < c.length:=by lia
  unfold shL atL
  rw [List.getD_eq_getElem?_getD,List.getElem?_map,List.getElem?_eq_getElem hlt,List.getD_eq_getElem?_getD,List.getElem?_eq_getElem hlt]
  rfl
theorem at_mem {p : Int} (h0 : 0 ≤ p) (h1 : p < c.length) : atL c p ∈ c:=mem_getD (by lia)
theorem part_cl (hc : Cl c) (h0 : 0 < k) (h : k < 2 ^ c.length) : Cl ((amongL c.length k).map (atL c)) where
  ne:=fun q=>among_ne hc.len h0 h (List.map_eq_nil_iff.mp q)
  len:=by rw [List.length_map]; exact Nat.le_trans among_len hc.len
  nn:=fun x hx=>by
    obtain ⟨p,hp,e⟩:=List.mem_map.mp hx
    exact e ▸ hc.nn _ (at_mem (among_in hp).1 (among_in hp).2)
  dv:=fun x hx=>by
    obtain ⟨p,hp,e⟩:=List.mem_map.mp hx
    exact e ▸ hc.dv _ (at_mem (among_in hp).1 (among_in hp).2)
theorem ag_step (hc : Cl c) (h0 : 0 ≤ μ) (hi : B[i]? = some (.ints c)) (hj : B[j]? = some (.ints (shL c E μ))) (k0 : 0 < k) (hk : k < 2 ^ c.length) (p : B <+: H) : Do agBody (agS cell k i j l1 l2 l3 l4 l5 l6 C H) (fun f τ'=>f = .next ∧ AgI cell i j C B τ'):=by
  have hl:=hc.len
  have hal : (amongL c.length k).length ≤ c.length:=among_len
  have pc:=part_cl hc k0 hk
  refine do_seq (do_loc (ev_among (k:=k) (n:=c.length) (ck:=C.length + 2) (by lia) (ev_len (ev_li (ev_cel rfl at_0) (pre_get p hi))) rfl (fun _=>rfl) at_2) fun v H1 p1 ⟨a,ea,ha⟩=>?_)
  rw [ea]
  have q1:=p.trans p1
  refine do_seq (do_swap (ss:=[.li ((amongL c.length k).map (atL c)),.li ((amongL c.length k).map (atL (shL c E μ)))]) (σ:=agS cell k i j (some (.ref a)) l2 l3 l4 l5 l6 C H1) (eva_cons (ev_picks (ev_li (ev_loc rfl) ha) (by lia) rfl (fun _=>rfl) at_0 (pre_get q1 hi) fun x hx=>among_in hx) (eva_1 (ev_picks (ev_li (ev_loc rfl) ha) (by lia) rfl (fun _=>rfl) at_1 (pre_get q1 hj) fun x hx=>by rw [sh_len]; exact among_in hx))) (by simp) fun vs H2 p2 hv=>?_)
  refine hv.e2 fun vp vh ⟨b,eb,hb⟩ ⟨d,ed,hd⟩=>?_
  rw [eb,ed]
  refine ⟨agS cell k i j (some (.ref a)) (some (.ref b)) (some (.ref d)) l4 l5 l6 C H2,rfl,?_⟩
  have q2:=q1.trans p2
  have eh : (amongL c.length k).map (atL (shL c E μ)) = ((amongL c.length k).map (atL c)).map (gS (shB c E) μ):=by
    rw [List.map_map]
    exact List.map_congr_left fun x hx=>sh_at (among_in hx).1 (among_in hx).2
  rw [eh] at hd
  generalize (amongL c.length k).map (atL c) = part at *
  obtain ⟨c1,c2⟩:=consist h0 pc.nn (shB c E)
  refine do_seq (do_if1 (evb_test ?_) fun H3 p3=>?_)
  · have e1:=ev_neL (ys:=part.map (gS (shB c E) μ)) (ev_call (σ:=agS cell k i j (some (.ref a)) (some (.ref b)) (some (.ref d)) l4 l5 l6 C H2) (k:=7) (shared_spec (t:=(k : Int) % 2) pc h0 c1) (eva_cons (ev_li (ev_loc (i:=2) rfl) hb) (eva_cons (ev_sum (ev_li (ev_loc (i:=3) rfl) hd)) (eva_1 (ev_mod (ev_cel (i:=2) rfl at_2) (ev_int (k:=2)) (by decide)))))) (ev_li (ev_loc (i:=3) rfl) hd)
    rw [c2,decide_eq_true rfl] at e1
    exact e1
  have q3:=q2.trans p3
  have hb3:=pre_get p3 hb
  refine do_one (do_if (c:=decide ((part.length : Int) = 2)) (σ:=agS cell k i j (some (.ref a)) (some (.ref b)) (some (.ref d)) l4 l5 l6 C H3) (evb_eq (ev_len (ev_li (ev_loc rfl) hb3)) ev_int) fun H4 p4=>?_)
  have q4:=q3.trans p4
  have hb4:=pre_get p4 hb3
  by_cases h2 : (part.length : Int) = 2
  · rw [decide_eq_true h2,if_pos rfl]
    obtain ⟨x,y,rfl⟩ : ∃ x y,part = [x,y]:=by
      match part,h2 with
      | [x,y],_=>exact ⟨x,y,rfl⟩
      | [],h=>simp at h
      | [_],h=>simp at h
      | _ :: _ :: _ :: _,h=>simp at h; lia
    have x0:=pc.nn x (by simp)
    have y0:=pc.nn y (by simp)
    have xd:=pc.dv x (by simp)
    have yd:=pc.dv y (by simp)
    have es : [x,y].sum = x + y:=by simp
    have m0 : 0 ≤ cell % ((x + y) / 24 + 1):=Int.emod_nonneg _ (by lia)
    have m1 : cell % ((x + y) / 24 + 1) < (x + y) / 24 + 1:=Int.emod_lt_of_pos _ (by lia)
    obtain ⟨ν,one,two,n0,nS,sL,g1,g2⟩:=garment (e:=24 * (cell % ((x + y) / 24 + 1))) x0 y0 xd yd (by lia) (by lia) (by lia)
    refine do_seq (do_loc (s:=pi (24 * (cell % ((x + y) / 24 + 1)))) (ev_mul ev_int (ev_mod (ev_loc rfl) (by rw [← es]; exact ev_add (ev_div (ev_sum (ev_li (ev_loc rfl) hb4)) ev_int (by decide) rfl) ev_int) (by lia)) rfl) fun v H5 p5 (ev : v = _)=>?_)
    rw [ev]
    clear ev
    generalize 24 * (cell % ((x + y) / 24 + 1)) = e at *
    have hb5:=pre_get p5 hb4
    have q5:=q4.trans p5
    refine do_seq (do_unpackL (xs:=[one,two]) (σ:=agS cell k i j (some (.ref a)) (some (.ref b)) (some (.ref d)) (some (.int e)) l5 l6 C H5) ?_ fun H6 p6=>⟨agS cell k i j (some (.ref a)) (some (.ref b)) (some (.ref d)) (some (.int e)) (some (.int one)) (some (.int two)) C H6,rfl,?_⟩)
    · rw [← sL]
      exact ev_call (shared_spec (c:=[x,y]) (E:=e) (t:=cell / 2 % 2) pc n0 nS) (eva_cons (ev_li (ev_loc rfl) hb5) (eva_cons (ev_loc rfl) (eva_1 (ev_mod (ev_div (ev_loc rfl) ev_int (by decide) rfl) ev_int (by decide)))))
    have hb6:=pre_get p6 hb5
    have q6:=q5.trans p6
    have eb : ∀ z : Int,∀ m : Nat,m < 2 → [x,y].getD m 0 = z → Ev (mBin fItem (mLoc 2) (mInt m)) (agS cell k i j (some (.ref a)) (some (.ref b)) (some (.ref d)) (some (.int e)) (some (.int one)) (some (.int two)) C H6) (pi z):=fun z m hm ez=>ez ▸ ev_item (k:=(m : Int)) (ev_li (ev_loc rfl) hb6) ev_int (by lia) (by simp; lia)
    refine do_one (do_if1 (σ:=agS cell k i j (some (.ref a)) (some (.ref b)) (some (.ref d)) (some (.int e)) (some (.int one)) (some (.int two)) C H6) ?_ fun H7 p7=>⟨rfl,.mk _ _ _ _ _ _ _ _ (q6.trans p7)⟩)
    have t1:=evb_ne (σ:=agS cell k i j (some (.ref a)) (some (.ref b)) (some (.ref d)) (some (.int e)) (some (.int one)) (some (.int two)) C H6) (ev_add (ev_loc (i:=5) rfl) (ev_loc (i:=6) rfl)) (ev_loc (i:=4) rfl)
    have t2:=evb_ne (σ:=agS cell k i j (some (.ref a)) (some (.ref b)) (some (.ref d)) (some (.int e)) (some (.int one)) (some (.int two)) C H6) (ev_sub (ev_loc (i:=5) rfl) (ev_loc (i:=6) rfl)) (ev_sub (ev_max (ev_int (k:=0)) (ev_sub (ev_loc (i:=4) rfl) (eb y 1 (by decide) rfl))) (ev_max (ev_int (k:=0)) (ev_sub (ev_loc (i:=4) rfl) (eb x 0 (by decide) rfl))))
    rw [decide_eq_false (by rw [g1]; simp)] at t1
    rw [decide_eq_false (by rw [g2]; simp)] at t2
    exact evb_or t1 fun _=>evb_or t2 fun _=>evb_const
  · rw [decide_eq_false h2,if_neg (by decide)]
    exact do_nil ⟨rfl,.mk _ _ _ _ _ _ _ _ q4⟩
theorem rngB_at {a n k : Nat} (h : k < (rngB a n).length) : (rngB a n)[k] = ((a + k : Nat) : Int):=by simp [rngB]
theorem rngB_len {a n : Nat} : (rngB a n).length = n:=by simp [rngB]
theorem again_spec (hc : Cl c) (h0 : 0 ≤ μ) : FSpec sem1_8 [.li c,.li (shL c E μ),pi cell] (.is (.bool true)):=fspec (fun vs h=>full_n h) rfl fun vs C H h=>h.e3 (P:=fun vs=>Do body1_8 (entry df1_8 vs C H) _) fun v w u ⟨i,e,hi⟩ ⟨j,ej,hj⟩ (hu2 : u = _)=>by
  subst e; subst ej; subst hu2
  have hl:=hc.len
  have p16:=pow_le16 c.length (by lia)
  have pp : 0 < 2 ^ c.length:=Nat.pow_pos (by decide)
  show Do (sSeq m1_8_0 (sSeq m1_8_1 sNil)) _ _
  rw [m1_8_0_eq]
  refine do_seq (do_for (xs:=rngB 1 (2 ^ c.length - 1)) (σ:={ loc:=[some (.int cell),none,none,none,none,none,none],cel:=[C.length,C.length + 1,C.length + 2],C:=C ++ [some (.ref i),some (.ref j),none],H:=H }) (ev_rng2 (s:=1) ev_int ?_ (by lia)) (by rw [rngB_len]; lia) (fun B k τ=>AgI cell i j C B τ) (fun v B k τ it _=>it _ List.nil_prefix k) (fun H' p=>.mk _ _ _ _ _ _ _ _ pre_rfl) (fun B k τ hk p I=>?_) fun B τ p I=>?_)
  · rw [show ((1 + (2 ^ c.length - 1) : Nat) : Int) = 2 ^ c.length by rw [show 1 + (2 ^ c.length - 1) = 2 ^ c.length by lia,Int.natCast_pow]; rfl]
    exact ev_pow ev_int (ev_len (ev_li (ev_cel rfl at_0) hi)) (by lia) rfl
  · rw [rngB_at hk]
    rw [rngB_len] at hk
    refine I.el fun l1 l2 l3 l4 l5 l6 cx H2 p2=>?_
    refine ⟨agS cell ((1 + k : Nat) : Int) i j l1 l2 l3 l4 l5 l6 C H2,?_,ag_step hc h0 (pre_get p hi) (pre_get p hj) (by lia) (by lia) p2⟩
    simp [Tgt.put,agS]
  · refine I.el fun l1 l2 l3 l4 l5 l6 cx H2 p2=>?_
    exact do_one (out_1 (p.trans p2) ev_bool)
end
end Mine
namespace Mine
theorem ins_lt {xs : List Int} {x : Int} (hs : xs.Pairwise (· ≤ ·)) : (insL xs (cntLt xs x) x).Perm (x :: xs) ∧ (insL xs (cntLt xs x) x).Pairwise (· ≤ ·):=by
  have e:=insL_lt (f:=id) (v:=x) (x:=x) (xs:=xs) (by rw [List.map_id]; exact hs)
  have s:=insAt_lt_sorted (f:=id) (x:=x) (xs:=xs) (by rw [List.map_id]; exact hs)
  rw [List.map_id] at e s
  rw [e]
  exact ⟨insAt_perm xs,s⟩
theorem ins_le {xs : List Int} {x : Int} (hs : xs.Pairwise (· ≤ ·)) : (insL xs (cntLe xs x) x).Perm (x :: xs) ∧ (insL xs (cntLe xs x) x).Pairwise (· ≤ ·):=by
  have e:=insL_le (f:=id) (v:=x) (x:=x) (xs:=xs) (by rw [List.map_id]; exact hs)
  have s:=insAt_le_sorted (f:=id) (x:=x) (xs:=xs) (by rw [List.map_id]; exact hs)
  rw [List.map_id] at e s
  rw [e]
  exact ⟨insAt_perm xs,s⟩
theorem do_insert {σ : S} {Q : Fl → S → Prop} {m r : Nat} {x : Int} {args : Xms} {ys : List Int} (hm : m = 2 ∨ m = 0) (ef : σ.loc[1]? = some (some (.fn m))) (ea : Eva args σ [.is (.ref r),pi x]) (hr : σ.H[r]? = some (.ints ys)) (hs : ys.Pairwise (· ≤ ·)) (hl : ys.length ≤ 900)
    (k : ∀ H' zs,σ.H <+: H' → zs.Perm (x :: ys) → zs.Pairwise (· ≤ ·) → Q .next { σ with H:=H'.set r (.ints zs) }) : Do (sExpr (mCall (mLoc 1) dAll1 args)) σ Q:=by
  unfold Do sExpr mCall mLoc
  rw [ef]
  dsimp only
  rcases hm with hm | hm <;> subst hm
  · rw [show dAll1 (.fn 2) = some sem1_2 from rfl]
    dsimp only
    refine EvaR.e (ea σ.H pre_rfl) fun vs H' p q=>?_
    refine q.e2 fun u w (e1 : u = _) (e2 : w = _)=>?_
    rw [e1,e2]
    dsimp only
    rw [il1 (K:=.none) (ks:=ys) (y:=x) (pre_get p hr) hl .none .none hs rfl]
    exact ⟨_,_,k H' _ p (ins_lt hs).1 (ins_lt hs).2⟩
  · rw [show dAll1 (.fn 0) = some sem1_0 from rfl]
    dsimp only
    refine EvaR.e (ea σ.H pre_rfl) fun vs H' p q=>?_
    refine q.e2 fun u w (e1 : u = _) (e2 : w = _)=>?_
    rw [e1,e2]
    dsimp only
    rw [ir1 (K:=.none) (ks:=ys) (y:=x) (pre_get p hr) hl .none .none hs rfl]
    exact ⟨_,_,k H' _ p (ins_le hs).1 (ins_le hs).2⟩
/-! what a part has beyond what it could have made sure of -/
noncomputable def exA (c s : List Int) (E : Int) (k : Nat) : Int:=((amongL c.length k).map (atL s)).sum - max 0 (E - c.sum + ((amongL c.length k).map (atL c)).sum)
noncomputable def exL (c s : List Int) (E : Int) : List Int:=(rngB 1 (2 ^ c.length - 2)).map fun k=>exA c s E k.toNat
noncomputable def exS (E : Int) (m i j r : Nat) (l3 l4 cx : Option V) (C : List (Option V)) (H : List L) : S:={ loc:=[some (.int E),some (.fn m),some (.ref r),l3,l4],cel:=[C.length,C.length + 1,C.length + 2],C:=C ++ [some (.ref i),some (.ref j),cx],H:=H }
inductive ExI (c s : List Int) (E : Int) (m i j r : Nat) (C : List (Option V)) (H0 : List L) (k : Nat) : S → Prop
  | mk (l3 l4 cx : Option V) (H : List L) (ys : List Int) (p : H0 <+: H) (hi : H[i]? = some (.ints c)) (hj : H[j]? = some (.ints s)) (hr : H[r]? = some (.ints ys)) (hp : ys.Perm ((exL c s E).take k)) (hs : ys.Pairwise (· ≤ ·)) : ExI c s E m i j r C H0 k (exS E m i j r l3 l4 cx C H)
@[elab_as_elim] theorem ExI.el {c s : List Int} {E : Int} {m i j r : Nat} {C : List (Option V)} {H0 : List L} {k : Nat} {P : S → Prop} {τ : S} (h : ExI c s E m i j r C H0 k τ) (K : ∀ l3 l4 cx H ys,H0 <+: H → H[i]? = some (.ints c) → H[j]? = some (.ints s) → H[r]? = some (.ints ys) → ys.Perm ((exL c s E).take k) → ys.Pairwise (· ≤ ·) → P (exS E m i j r l3 l4 cx C H)) : P τ:=by
  cases h with | mk l3 l4 cx H ys p hi hj hr hp hs=>exact K l3 l4 cx H ys p hi hj hr hp hs
noncomputable def exBody : Sm:=sSeq (sAssign (.loc 3) (mCompI 1000 1 [2] (putL 0) (iPlain (mArgs fRange3 (aCons (mArgs fLen (aCons (mCel 0) aNil)) aNil))) (mTest (mBin fEqI (mBin fAnd (mBin fShr (mCel 0) (mLoc 0)) (mInt 1)) (mInt 1))) (cElt (mLoc 0)))) (sSeq (sAssign (.loc 4) (mArgs fMax2 (aCons (mInt 0) (aCons (mBin fAdd (mBin fSub (mLoc 0) (mArgs fSum (aCons (mCel 0) aNil))) (mArgs fSum (aCons (mCompI 1000 1 [0] (putL 0) (iPlain (mLoc 3)) (mConst true) (cElt (mBin fItem (mCel 0) (mLoc 0)))) aNil))) aNil)))) (sSeq (sExpr (mCall (mLoc 1) dAll1 (aCons (mLoc 2) (aCons (mBin fSub (mArgs fSum (aCons (mCompI 1000 1 [1] (putL 0) (iPlain (mLoc 3)) (mConst true) (cElt (mBin fItem (mCel 0) (mLoc 0)))) aNil)) (mLoc 4)) aNil)))) sNil))
theorem m1_9_1_eq : m1_9_1 = sFor 1000 (.cel 2) (mArgs fRange3 (aCons (mInt 1) (aCons (mBin fSub (mBin fPow (mInt 2) (mArgs fLen (aCons (mCel 0) aNil))) (mInt 1)) aNil))) exBody:=rfl
section
variable {c s : List Int} {E : Int} {m i j r k : Nat} {C : List (Option V)} {H0 H : List L} {l3 l4 : Option V} {ys : List Int}
theorem ex_at (hk : k < (exL c s E).length) : (exL c s E)[k] = exA c s E (1 + k):=by
  simp [exL,rngB]
  congr 1
theorem ex_step (hl : c.length ≤ 4) (hls : s.length = c.length) (hm : m = 2 ∨ m = 0) (hk : k < (exL c s E).length) (hir : i < H0.length) (hjr : j < H0.length) (hrr : H0.length ≤ r) (p : H0 <+: H) (hi : H[i]? = some (.ints c)) (hj : H[j]? = some (.ints s)) (hr : H[r]? = some (.ints ys)) (hp : ys.Perm ((exL c s E).take k)) (hs : ys.Pairwise (· ≤ ·)) :
    Do exBody (exS E m i j r l3 l4 (some (.int ((1 + k : Nat) : Int))) C H) (fun f τ'=>f = .next ∧ ExI c s E m i j r C H0 (k + 1) τ'):=by
  have p16:=pow_le16 c.length (by lia)
  have hal : (amongL c.length (1 + k)).length ≤ c.length:=among_len
  have xl : (exL c s E).length ≤ 16:=by unfold exL; rw [List.length_map,rngB_len]; lia
  refine do_seq (do_loc (ev_among (k:=1 + k) (n:=c.length) (ck:=C.length + 2) (by lia) (ev_len (ev_li (ev_cel rfl at_0) hi)) rfl (fun _=>rfl) at_2) fun v H1 p1 ⟨a,ea,ha⟩=>?_)
  rw [ea]
  have hi1:=pre_get p1 hi
  have sure : Ev (mArgs fMax2 (aCons (mInt 0) (aCons (mBin fAdd (mBin fSub (mLoc 0) (mArgs fSum (aCons (mCel 0) aNil))) (mArgs fSum (aCons (mCompI 1000 1 [0] (putL 0) (iPlain (mLoc 3)) (mConst true) (cElt (mBin fItem (mCel 0) (mLoc 0)))) aNil))) aNil))) (exS E m i j r (some (.ref a)) l4 (some (.int ((1 + k : Nat) : Int))) C H1) (pi (max 0 (E - c.sum + ((amongL c.length (1 + k)).map (atL c)).sum))) :=
    ev_max ev_int (ev_add (ev_sub (ev_loc rfl) (ev_sum (ev_li (ev_cel rfl at_0) hi1))) (ev_sum (ev_picks (ev_li (ev_loc rfl) ha) (by lia) rfl (fun _=>rfl) at_0 hi1 fun x hx=>among_in hx)))
  refine do_seq (do_loc sure fun v H2 p2 (ev : v = _)=>?_)
  rw [ev]
  have p12:=p1.trans p2
  have q:=p.trans p12
  have hi2:=pre_get p2 hi1
  have hj2:=pre_get p12 hj
  refine do_one (do_insert (σ:=exS E m i j r (some (.ref a)) (some (.int (max 0 (E - c.sum + ((amongL c.length (1 + k)).map (atL c)).sum)))) (some (.int ((1 + k : Nat) : Int))) C H2) (m:=m) (r:=r) (x:=exA c s E (1 + k)) hm rfl (eva_cons (ev_loc rfl) (eva_1 (ev_sub (ev_sum (ev_picks (ev_li (ev_loc rfl) (pre_get p2 ha)) (by lia) rfl (fun _=>rfl) at_1 hj2 fun x hx=>by rw [hls]; exact among_in hx)) (ev_loc rfl)))) (pre_get p12 hr) hs (by rw [hp.length_eq,List.length_take]; lia) fun H3 zs p3 z1 z2=>⟨rfl,?_⟩)
  refine .mk _ _ _ _ zs (pre_set (q.trans p3) hrr) (set_ne (by lia) (pre_get p3 hi2)) (set_ne (by lia) (pre_get p3 hj2)) (set_eq (pre_get (p12.trans p3) hr)) ?_ z2
  have e : (exL c s E)[k] = exA c s E (1 + k):=ex_at hk
  rw [List.take_succ_eq_append_getElem hk,e]
  exact z1.trans ((hp.cons _).trans (List.perm_append_singleton _ _).symm)
theorem excesses_spec (hn : c ≠ []) (hl : c.length ≤ 4) (hls : s.length = c.length) (hm : m = 2 ∨ m = 0) : FSpec sem1_9 [.li c,pi E,.li s,.is (.fn m)] (.li (sortI (exL c s E))):=fspec (fun vs h=>full_n h) rfl fun vs C H h=>h.e4 (P:=fun vs=>Do body1_9 (entry df1_9 vs C H) _) fun v w u x ⟨i,e,hi⟩ (hw : w = _) ⟨j,ej,hj⟩ (hx : x = _)=>by
  subst e; subst ej; subst hw; subst hx
  have p16:=pow_le16 c.length (by lia)
  have hnp:=List.length_pos_iff.mpr hn
  have pp : 2 ≤ 2 ^ c.length:=by
    have:=Nat.pow_le_pow_right (n:=2) (by decide) hnp
    exact this
  have xl : (exL c s E).length = 2 ^ c.length - 2:=by unfold exL; rw [List.length_map,rngB_len]
  have hil:=(List.getElem?_eq_some_iff.mp hi).1
  have hjl:=(List.getElem?_eq_some_iff.mp hj).1
  show Do (sSeq m1_9_0 (sSeq m1_9_1 (sSeq m1_9_2 sNil))) _ _
  rw [m1_9_1_eq]
  refine do_seq (do_rawA list_nil ?_)
  refine do_seq (do_for (xs:=rngB 1 (2 ^ c.length - 2)) (σ:=exS E m i j H.length none none none C (H ++ [.ints []])) (ev_rng2 (s:=1) ev_int ?_ (by lia)) (by rw [rngB_len]; lia) (fun B k τ=>ExI c s E m i j H.length C H k τ) (fun v B k τ it _=>it _ List.nil_prefix k) (fun H' p=>?_) (fun B k τ hk p I=>?_) fun B τ p I=>?_)
  · rw [show ((1 + (2 ^ c.length - 2) : Nat) : Int) = 2 ^ c.length - 1 by
      rw [show 1 + (2 ^ c.length - 2) = 2 ^ c.length - 1 by lia,Int.natCast_sub (by lia),Int.natCast_pow]; rfl]
    exact ev_sub (ev_pow ev_int (ev_len (ev_li (ev_cel rfl at_0) (pre_get pre_app hi))) (by lia) rfl) ev_int
  · refine .mk _ _ _ _ [] (pre_app.trans p) (pre_get p (pre_get pre_app hi)) (pre_get p (pre_get pre_app hj)) (pre_get p ?_) (by rw [List.take_zero]) .nil
    show (H ++ [L.ints []])[H.length]? = _
    simp
  · rw [rngB_at hk]
    rw [rngB_len,← xl] at hk
    refine I.el fun l3 l4 cx H2 ys p2 hi2 hj2 hr2 hp2 hs2=>?_
    refine ⟨exS E m i j H.length l3 l4 (some (.int ((1 + k : Nat) : Int))) C H2,?_,ex_step hl hls hm hk hil hjl (Nat.le_refl _) p2 hi2 hj2 hr2 hp2 hs2⟩
    simp [Tgt.put,exS]
  · refine I.el fun l3 l4 cx H2 ys p2 hi2 hj2 hr2 hp2 hs2=>?_
    rw [rngB_len,← xl,List.take_length] at hp2
    have e : ys = sortI (exL c s E):=perm_sorted_eq (hp2.trans (sortI_perm _).symm) hs2 (sortI_sorted _)
    rw [e] at hr2
    exact do_one (out_1 p2 (ev_li (ev_loc rfl) hr2))
end
end Mine
namespace Mine
noncomputable def Mode (m : Nat) (more : Int) : Prop:=(m = 3 ∧ more = 0) ∨ (m = 1 ∧ more = 1)
noncomputable def fdN (row tab : List Int) (more x : Int) : Nat:=(row.filter fun o=>decide (atL tab o < atL tab x + more)).length
noncomputable def fdS (r m j : Nat) (more : Int) (l2 l3 l4 cx : Option V) (C : List (Option V)) (H : List L) : S:={ loc:=[some (.ref r),some (.fn m),l2,l3,l4],cel:=[C.length,C.length + 1,C.length + 2],C:=C ++ [some (.ref j),some (.int more),cx],H:=H }
noncomputable def fdT : Bm:=mTest (mBin fNeI (mCallK (mLoc 1) dAll1 (aCons (mLoc 0) (aCons (mBin fItem (mCel 0) (mCel 2)) (aCons (mLoc 3) (aCons (mLoc 4) aNil)))) (mLam 4 [0])) (mArgs fMin2 (aCons (mLoc 4) (aCons (mArgs fMax2 (aCons (mLoc 3) (aCons (mLoc 2) aNil))) aNil))))
noncomputable def fdIn : Sm:=sSeq (sIf fdT (sSeq (sRet (mBool false)) sNil) sNil) sNil
noncomputable def fdMid : Sm:=sSeq (sFor 1000 (.loc 4) (mArgs fRange3 (aCons (mLoc 3) (aCons (mBin fAdd (mArgs fLen (aCons (mLoc 0) aNil)) (mInt 1)) aNil))) fdIn) sNil
noncomputable def fdOut : Sm:=sSeq (sAssign (.loc 2) (mArgs fLen (aCons (mCompI 1000 1 [0,2,1] (putL 0) (iPlain (mLoc 0)) (mTest (mBin fLt (mBin fItem (mCel 0) (mLoc 0)) (mBin fAdd (mBin fItem (mCel 0) (mCel 1)) (mCel 2)))) (cElt (mLoc 0))) aNil))) (sSeq (sFor 1000 (.loc 3) (mArgs fRange3 (aCons (mBin fAdd (mArgs fLen (aCons (mLoc 0) aNil)) (mInt 1)) aNil)) fdMid) sNil)
theorem m1_10_0_eq : m1_10_0 = sFor 1000 (.cel 2) (mLoc 0) fdOut:=rfl
inductive FdI (f : Option V → Option V → Option V → Option V → List L → S) (B : List L) : S → Prop
  | mk (l2 l3 l4 cx : Option V) (H : List L) (p : B <+: H) : FdI f B (f l2 l3 l4 cx H)
@[elab_as_elim] theorem FdI.el {f : Option V → Option V → Option V → Option V → List L → S} {B : List L} {P : S → Prop} {τ : S} (h : FdI f B τ) (K : ∀ l2 l3 l4 cx H,B <+: H → P (f l2 l3 l4 cx H)) : P τ:=by
  cases h with | mk l2 l3 l4 cx H p=>exact K l2 l3 l4 cx H p
section
variable {row tab : List Int} {more x lo hi : Int} {r m j k : Nat} {C : List (Option V)} {B H : List L} {l2 l3 l4 cx : Option V}
theorem ev_search (hm : Mode m more) (hl : row.length ≤ 900) (hin : ∀ p ∈ row,0 ≤ p ∧ p < tab.length) (hs : (row.map (atL tab)).Pairwise (· ≤ ·)) (hr : H[r]? = some (.ints row)) (hj : H[j]? = some (.ints tab)) (hx : 0 ≤ x ∧ x < tab.length) (h0 : 0 ≤ lo) (h2 : hi ≤ row.length) :
    Ev (mCallK (mLoc 1) dAll1 (aCons (mLoc 0) (aCons (mBin fItem (mCel 0) (mCel 2)) (aCons (mLoc 3) (aCons (mLoc 4) aNil)))) (mLam 4 [0])) (fdS r m j more l2 (some (.int lo)) (some (.int hi)) (some (.int x)) C H) (pi (max lo (min hi (fdN row tab more x)))):=fun H1 p=>by
  unfold mCallK
  rw [show mLoc 1 { (fdS r m j more l2 (some (.int lo)) (some (.int hi)) (some (.int x)) C H) with H:=H1 } = some (.fn m,H1) from rfl]
  dsimp only
  have ea : Eva (aCons (mLoc 0) (aCons (mBin fItem (mCel 0) (mCel 2)) (aCons (mLoc 3) (aCons (mLoc 4) aNil)))) (fdS r m j more l2 (some (.int lo)) (some (.int hi)) (some (.int x)) C H) [.is (.ref r),pi (atL tab x),pi lo,pi hi] :=
    eva_cons (ev_loc rfl) (eva_cons (ev_item (ev_li (ev_cel rfl at_0) hj) (ev_cel rfl at_2) hx.1 hx.2) (eva_cons (ev_loc rfl) (eva_1 (ev_loc rfl))))
  have go : ∀ {sem : FCall} (H2 : List L),H1 <+: H2 → (∀ K,KeyOk dLam1 (fdS r m j more l2 (some (.int lo)) (some (.int hi)) (some (.int x)) C H).C H2 row K (row.map (atL tab)) → sem [.ref r,.int (atL tab x),.int lo,.int hi] (some K) (fdS r m j more l2 (some (.int lo)) (some (.int hi)) (some (.int x)) C H).C H2 = some (.int (max lo (min hi (fdN row tab more x))),H2)) →
      EvR H1 (pi (max lo (min hi (fdN row tab more x)))).ok (match mLam 4 [0] { (fdS r m j more l2 (some (.int lo)) (some (.int hi)) (some (.int x)) C H) with H:=H2 } with
        | some (kv,H2)=>sem [.ref r,.int (atL tab x),.int lo,.int hi] (some kv) (fdS r m j more l2 (some (.int lo)) (some (.int hi)) (some (.int x)) C H).C H2
        | none=>none):=fun H2 p2 hsem=>by
    rw [show mLam 4 [0] { (fdS r m j more l2 (some (.int lo)) (some (.int hi)) (some (.int x)) C H) with H:=H2 } = some (.clo 4 [C.length],H2) from rfl]
    dsimp only
    rw [hsem (.clo 4 [C.length]) (key_at rfl at_0 (pre_get (p.trans p2) hj) hin)]
    exact ⟨_,_,p2,rfl⟩
  rcases hm with ⟨hm,hmo⟩ | ⟨hm,hmo⟩
  · subst hm; subst hmo
    rw [show dAll1 (.fn 3) = some sem1_3 from rfl]
    dsimp only
    refine EvaR.e (ea H1 p) fun vs H2 p2 q=>?_
    refine q.e4 fun u1 u2 u3 u4 (e1 : u1 = _) (e2 : u2 = _) (e3 : u3 = _) (e4 : u4 = _)=>?_
    subst e1; subst e2; subst e3; subst e4
    refine go H2 p2 fun K hK=>?_
    have e:=bl1 (vs:=[.ref r,.int (atL tab x),.int lo,.int hi]) (kv:=some K) rfl (pre_get (p.trans p2) hr) hl h0 (.inr ⟨rfl,h2⟩) hK hs
    rw [e]
    unfold bisAns fdN
    rw [cntLt_map]
    simp only [Int.add_zero]
  · subst hm; subst hmo
    rw [show dAll1 (.fn 1) = some sem1_1 from rfl]
    dsimp only
    refine EvaR.e (ea H1 p) fun vs H2 p2 q=>?_
    refine q.e4 fun u1 u2 u3 u4 (e1 : u1 = _) (e2 : u2 = _) (e3 : u3 = _) (e4 : u4 = _)=>?_
    subst e1; subst e2; subst e3; subst e4
    refine go H2 p2 fun K hK=>?_
    have e:=br1 (vs:=[.ref r,.int (atL tab x),.int lo,.int hi]) (kv:=some K) rfl (pre_get (p.trans p2) hr) hl h0 (.inr ⟨rfl,h2⟩) hK hs
    rw [e]
    unfold bisAns fdN
    rw [cntLe_map]
    simp only [Int.lt_add_one_iff]
end
end Mine
namespace Mine
section
variable {row tab : List Int} {more x lo : Int} {r m j k : Nat} {C : List (Option V)} {B H : List L} {l2 l3 l4 cx : Option V}
theorem fd_ans {l k : Nat} (f : Nat) : max (l : Int) (min ((l + k : Nat) : Int) f) = min ((l + k : Nat) : Int) (max (l : Int) f):=by
  by_cases h : f ≤ l
  · rw [Int.min_eq_right (a:=((l + k : Nat) : Int)) (by lia),Int.max_eq_left (by lia),Int.min_eq_right (by lia)]
  · rw [Int.max_eq_right (a:=(l : Int)) (b:=f) (by lia),Int.max_eq_right (by lia)]
theorem rng_at {n k : Nat} (h : k < (rng n).length) : (rng n)[k] = (k : Int):=by simp [rng]
theorem fd_in (hm : Mode m more) (hl : row.length ≤ 900) (hin : ∀ p ∈ row,0 ≤ p ∧ p < tab.length) (hs : (row.map (atL tab)).Pairwise (· ≤ ·)) (hr : B[r]? = some (.ints row)) (hj : B[j]? = some (.ints tab)) (hx : 0 ≤ x ∧ x < tab.length) {l : Nat} (h1 : l + k ≤ row.length) (p : B <+: H) :
    Do fdIn (fdS r m j more (some (.int (fdN row tab more x))) (some (.int l)) (some (.int ((l + k : Nat) : Int))) (some (.int x)) C H) (fun f τ'=>f = .next ∧ FdI (fun _ _ l4 _ H=>fdS r m j more (some (.int (fdN row tab more x))) (some (.int l)) l4 (some (.int x)) C H) B τ'):=by
  refine do_one (do_if1 ?_ fun H1 p1=>⟨rfl,.mk none none _ none H1 (p.trans p1)⟩)
  have t:=evb_ne (ev_search (l2:=some (.int (fdN row tab more x))) (C:=C) hm hl hin hs (pre_get p hr) (pre_get p hj) hx (Int.natCast_nonneg l) (hi:=((l + k : Nat) : Int)) (by lia)) (ev_min (ev_loc (i:=4) rfl) (ev_max (ev_loc (i:=3) rfl) (ev_loc (i:=2) rfl)))
  rw [fd_ans (fdN row tab more x),decide_eq_false (not_not_intro rfl)] at t
  exact t
theorem fd_mid (hm : Mode m more) (hl : row.length ≤ 900) (hin : ∀ p ∈ row,0 ≤ p ∧ p < tab.length) (hs : (row.map (atL tab)).Pairwise (· ≤ ·)) (hr : B[r]? = some (.ints row)) (hj : B[j]? = some (.ints tab)) (hx : 0 ≤ x ∧ x < tab.length) (h1 : k ≤ row.length) (p : B <+: H) :
    Do fdMid (fdS r m j more (some (.int (fdN row tab more x))) (some (.int (k : Int))) l4 (some (.int x)) C H) (fun f τ'=>f = .next ∧ FdI (fun _ l3 l4 _ H=>fdS r m j more (some (.int (fdN row tab more x))) l3 l4 (some (.int x)) C H) B τ'):=by
  refine do_one (do_for (xs:=rngB k (row.length + 1 - k)) (ev_rng2 (s:=k) (ev_loc rfl) ?_ (by lia)) (by rw [rngB_len]; lia) (fun B' _ τ=>FdI (fun _ _ l4 _ H=>fdS r m j more (some (.int (fdN row tab more x))) (some (.int k)) l4 (some (.int x)) C H) B τ) (fun v B' k τ it _=>it _ List.nil_prefix k) (fun H' p'=>.mk none none _ none _ (p.trans p')) (fun B' k' τ hk' p' I=>?_) fun B' τ p' I=>?_)
  · rw [show ((k + (row.length + 1 - k) : Nat) : Int) = row.length + 1 by lia]
    exact ev_add (ev_len (ev_li (ev_loc rfl) (pre_get p hr))) ev_int
  · rw [rngB_at hk']
    rw [rngB_len] at hk'
    refine I.el fun _ _ l4 _ H2 p2=>?_
    exact ⟨_,rfl,fd_in hm hl hin hs hr hj hx (by lia) p2⟩
  · refine I.el fun _ _ l4 _ H2 p2=>?_
    exact ⟨rfl,.mk none _ _ none H2 p2⟩
theorem fd_out (hm : Mode m more) (hl : row.length ≤ 900) (hin : ∀ p ∈ row,0 ≤ p ∧ p < tab.length) (hs : (row.map (atL tab)).Pairwise (· ≤ ·)) (hr : B[r]? = some (.ints row)) (hj : B[j]? = some (.ints tab)) (hx : 0 ≤ x ∧ x < tab.length) (p : B <+: H) :
    Do fdOut (fdS r m j more l2 l3 l4 (some (.int x)) C H) (fun f τ'=>f = .next ∧ FdI (fun l2 l3 l4 cx H=>fdS r m j more l2 l3 l4 cx C H) B τ'):=by
  have full : Ev (mArgs fLen (aCons (mCompI 1000 1 [0,2,1] (putL 0) (iPlain (mLoc 0)) (mTest (mBin fLt (mBin fItem (mCel 0) (mLoc 0)) (mBin fAdd (mBin fItem (mCel 0) (mCel 1)) (mCel 2)))) (cElt (mLoc 0))) aNil)) (fdS r m j more l2 l3 l4 (some (.int x)) C H) (pi (fdN row tab more x)):=by
    have:=ev_len (ev_comp (σ:=fdS r m j more l2 l3 l4 (some (.int x)) C H) (is:=[0,2,1]) (p:=fun o=>decide (atL tab o < atL tab x + more)) (g:=fun o=>o) (elt:=mLoc 0) (t:=mTest (mBin fLt (mBin fItem (mCel 0) (mLoc 0)) (mBin fAdd (mBin fItem (mCel 0) (mCel 1)) (mCel 2)))) (ev_it (ev_li (ev_loc (i:=0) rfl) (pre_get p hr))) hl rfl
      (fun o ho=>evb_lt (ev_item (ev_li (ev_cel rfl at_0) (pre_get p hj)) (ev_loc rfl) (hin o ho).1 (hin o ho).2) (ev_add (ev_item (ev_li (ev_cel rfl at_0) (pre_get p hj)) (ev_cel (i:=1) (c:=C.length + 2) rfl at_2) hx.1 hx.2) (ev_cel (i:=2) (c:=C.length + 1) rfl at_1))) fun o ho _=>ev_loc rfl)
    rw [List.length_map] at this
    exact this
  refine do_seq (do_loc full fun v H1 p1 (e : v = _)=>?_)
  rw [e]
  have q1:=p.trans p1
  refine do_one (do_for (xs:=rng (row.length + 1)) (σ:=fdS r m j more (some (.int (fdN row tab more x))) l3 l4 (some (.int x)) C H1) (ev_rng1 (n:=row.length + 1) ?_ (by lia)) (by rw [rng_len]; lia) (fun B' _ τ=>FdI (fun _ l3 l4 _ H=>fdS r m j more (some (.int (fdN row tab more x))) l3 l4 (some (.int x)) C H) B τ) (fun v B' k τ it _=>it _ List.nil_prefix k) (fun H' p'=>.mk none _ _ none _ (q1.trans p')) (fun B' k' τ hk' p' I=>?_) fun B' τ p' I=>?_)
  · exact ev_add (ev_len (ev_li (ev_loc rfl) (pre_get q1 hr))) ev_int
  · rw [rng_at hk']
    rw [rng_len] at hk'
    refine I.el fun _ l3 l4 _ H2 p2=>?_
    exact ⟨_,rfl,fd_mid hm hl hin hs hr hj hx (by lia) p2⟩
  · refine I.el fun _ l3 l4 _ H2 p2=>?_
    exact ⟨rfl,.mk _ _ _ _ H2 p2⟩
theorem found_spec (hm : Mode m more) (hl : row.length ≤ 900) (hin : ∀ p ∈ row,0 ≤ p ∧ p < tab.length) (hs : (row.map (atL tab)).Pairwise (· ≤ ·)) : FSpec sem1_10 [.li row,.li tab,.is (.fn m),pi more] (.is (.bool true)):=fspec (fun vs h=>full_n h) rfl fun vs C H h=>h.e4 (P:=fun vs=>Do body1_10 (entry df1_10 vs C H) _) fun v w u x ⟨r,e,hr⟩ ⟨j,ej,hj⟩ (hu : u = _) (hx : x = _)=>by
  subst e; subst ej; subst hu; subst hx
  show Do (sSeq m1_10_0 (sSeq m1_10_1 sNil)) _ _
  rw [m1_10_0_eq]
  refine do_seq (do_for (xs:=row) (σ:=fdS r m j more none none none none C H) (ev_it (ev_li (ev_loc rfl) hr)) (by lia) (fun B k τ=>FdI (fun l2 l3 l4 cx H=>fdS r m j more l2 l3 l4 cx C H) B τ) (fun v B k τ it I=>it _ (by refine I.el fun l2 l3 l4 cx H2 p2=>?_; exact p2) k) (fun H' p=>.mk _ _ _ _ _ pre_rfl) (fun B k τ hk p I=>?_) fun B τ p I=>?_)
  · refine I.el fun l2 l3 l4 cx H2 p2=>?_
    refine ⟨fdS r m j more l2 l3 l4 (some (.int row[k])) C H2,?_,fd_out hm hl hin hs (pre_get p hr) (pre_get p hj) (hin _ (List.getElem_mem hk)) p2⟩
    simp [Tgt.put,fdS]
  · refine I.el fun l2 l3 l4 cx H2 p2=>?_
    exact do_one (out_1 (p.trans p2) ev_bool)
end
end Mine
namespace Mine
/-! the refusals -/
noncomputable def msgLow : Str:="lo must be non-negative"
section
variable {C : List (Option V)} {H : List L} {a : Nat} {x lo : Int}
theorem raise_go {C : List (Option V)} {cel : List Nat} {l0 l1 l3 l4 l5 : Option V} (h : lo < 0) : eIf (mTest (mBin fLt (mLoc 2) (mInt 0))) (eRaise "lo must be non-negative") eNo { loc:=[l0,l1,some (.int lo),l3,l4,l5],cel:=cel,C:=C,H:=H } = some (msgLow,H):=by
  have ht : mTest (mBin fLt (mLoc 2) (mInt 0)) { loc:=[l0,l1,some (.int lo),l3,l4,l5],cel:=cel,C:=C,H:=H } = some (true,H):=by
    refine mTest_eq (v:=.bool (decide (lo < 0))) (H:=H) rfl ?_
    rw [decide_eq_true h]; rfl
  unfold eIf
  rw [ht]; rfl
theorem low1_3 (h : lo < 0) {hi K : V} {vs : List V} {kv : Option V} (hf : bisFull vs kv = some [.ref a,.int x,.int lo,hi,K]) : semE1_3 vs kv C H = some (msgLow,H):=by
  unfold semE1_3 fnSemE
  rw [show full1_3 = bisFull from rfl,hf]
  simp only
  rw [show bodyE1_3 (entry df1_3 [.ref a,.int x,.int lo,hi,K] C H) = some (msgLow,H) from raise_go h]
  simp
theorem low1_1 (h : lo < 0) {hi K : V} {vs : List V} {kv : Option V} (hf : bisFull vs kv = some [.ref a,.int x,.int lo,hi,K]) : semE1_1 vs kv C H = some (msgLow,H):=by
  unfold semE1_1 fnSemE
  rw [show full1_1 = bisFull from rfl,hf]
  simp only
  rw [show bodyE1_1 (entry df1_1 [.ref a,.int x,.int lo,hi,K] C H) = some (msgLow,H) from raise_go h]
  simp
theorem low1_2 (h : lo < 0) : semE1_2 [.ref a,.int x,.int lo] none C H = some (msgLow,H):=by
  unfold semE1_2 fnSemE
  rw [show full1_2 [V.ref a,.int x,.int lo] none = some [.ref a,.int x,.int lo,.none,.none] from rfl]
  simp only
  have e : bodyE1_2 (entry df1_2 [.ref a,.int x,.int lo,.none,.none] C H) = semE1_3 [.ref a,.int x,.int lo,.none] none (entry df1_2 [.ref a,.int x,.int lo,.none,.none] C H).C H:=rfl
  rw [e,low1_3 h (a:=a) (x:=x) (hi:=.none) (K:=.none) rfl]
  simp
theorem low1_0 (h : lo < 0) : semE1_0 [.ref a,.int x,.int lo] none C H = some (msgLow,H):=by
  unfold semE1_0 fnSemE
  rw [show full1_0 [V.ref a,.int x,.int lo] none = some [.ref a,.int x,.int lo,.none,.none] from rfl]
  simp only
  have e : bodyE1_0 (entry df1_0 [.ref a,.int x,.int lo,.none,.none] C H) = semE1_1 [.ref a,.int x,.int lo,.none] none (entry df1_0 [.ref a,.int x,.int lo,.none,.none] C H).C H:=rfl
  rw [e,low1_1 h (a:=a) (x:=x) (hi:=.none) (K:=.none) rfl]
  simp
end

@[elab_as_elim] theorem lt4 {P : Nat → Prop} {j : Nat} (h : j < 4) (p0 : P 0) (p1 : P 1) (p2 : P 2) (p3 : P 3) : P j :=
  match j,h with
  | 0,_=>p0
  | 1,_=>p1
  | 2,_=>p2
  | 3,_=>p3
inductive RfI (r : Nat) (C : List (Option V)) (B : List L) : S → Prop
  | mk (l1 l2 : Option V) (H : List L) (p : B <+: H) : RfI r C B { loc:=[some (.ref r),l1,l2],cel:=[],C:=C,H:=H }
noncomputable def rfBody : Sm:=sSeq (sAssign (.loc 2) (mArgs fListA (aCons (mLoc 0) aNil))) (sSeq (sTry (eCall (mLoc 1) dAllE1 (aCons (mLoc 0) (aCons (mInt 0) (aCons (mUn fNeg (mInt 1)) aNil)))) (gIfOr "lo must be non-negative" (accLoc 0) (accLoc 2))) sNil)
theorem m1_11_0_eq : m1_11_0 = sFor 1000 (.loc 1) (mTup (aCons (mFn 3) (aCons (mFn 1) (aCons (mFn 2) (aCons (mFn 0) aNil))))) rfBody:=rfl
section
variable {row : List Int} {r m : Nat} {C : List (Option V)} {B H : List L} {l2 : Option V}
theorem ev_copy {σ : S} {a : Xm} {xs : List Int} (ea : Ev a σ (.li xs)) (hl : xs.length ≤ 1000) : Ev (mArgs fListA (aCons a aNil)) σ (.li xs):=ev_args2 (eva_1 ea) fun vs H h=>h.e1 (P:=fun vs=>EvR H _ (fListA vs H)) fun v ⟨i,q,hi⟩=>by
  rw [q]; unfold fListA fListL; dsimp only; rw [hi]; dsimp only
  rw [if_pos (by rw [ints_stl,ints_len]; simp; lia)]
  exact ⟨_,_,pre_app,new_at⟩
theorem rf_step (hl : row.length ≤ 900) (hr : B[r]? = some (.ints row)) (hm : m < 4) (p : B <+: H) : Do rfBody { loc:=[some (.ref r),some (.fn m),l2],cel:=[],C:=C,H:=H } (fun f τ'=>f = .next ∧ RfI r C B τ'):=by
  refine do_seq (do_loc (ev_copy (ev_li (ev_loc rfl) (pre_get p hr)) (by lia)) fun v H1 p1 ⟨k,e,hk⟩=>?_)
  rw [e]
  have q1:=p.trans p1
  have key : eCall (mLoc 1) dAllE1 (aCons (mLoc 0) (aCons (mInt 0) (aCons (mUn fNeg (mInt 1)) aNil))) { loc:=[some (.ref r),some (.fn m),some (.ref k)],cel:=[],C:=C,H:=H1 } = some (msgLow,H1):=by
    unfold eCall
    rw [show mLoc 1 { loc:=[some (.ref r),some (.fn m),some (.ref k)],cel:=[],C:=C,H:=H1 } = some (.fn m,H1) from rfl]
    dsimp only
    have ea : ∀ m : Nat,aCons (mLoc 0) (aCons (mInt 0) (aCons (mUn fNeg (mInt 1)) aNil)) { loc:=[some (.ref r),some (.fn m),some (.ref k)],cel:=[],C:=C,H:=H1 } = some ([.ref r,.int 0,.int (-1)],H1):=fun _=>rfl
    refine lt4 hm ?_ ?_ ?_ ?_
    · rw [show dAllE1 (.fn 0) = some semE1_0 from rfl]; dsimp only; rw [ea]; exact low1_0 (by decide)
    · rw [show dAllE1 (.fn 1) = some semE1_1 from rfl]; dsimp only; rw [ea]; exact low1_1 (a:=r) (x:=0) (hi:=.none) (K:=.none) (lo:=-1) (by decide) rfl
    · rw [show dAllE1 (.fn 2) = some semE1_2 from rfl]; dsimp only; rw [ea]; exact low1_2 (by decide)
    · rw [show dAllE1 (.fn 3) = some semE1_3 from rfl]; dsimp only; rw [ea]; exact low1_3 (a:=r) (x:=0) (hi:=.none) (K:=.none) (lo:=-1) (by decide) rfl
  have hq : eqAcc (accLoc 0) (accLoc 2) { loc:=[some (.ref r),some (.fn m),some (.ref k)],cel:=[],C:=C,H:=H1 } = some true:=by
    unfold eqAcc
    rw [show accLoc 0 { loc:=[some (.ref r),some (.fn m),some (.ref k)],cel:=[],C:=C,H:=H1 } = some (.ref r) from rfl,show accLoc 2 { loc:=[some (.ref r),some (.fn m),some (.ref k)],cel:=[],C:=C,H:=H1 } = some (.ref k) from rfl]
    dsimp only
    rw [dat_ints (pre_get q1 hr),dat_ints hk]
    dsimp only
    rw [shaped_nums]
    simp only [Bool.and_self,if_true]
    rw [eqv_nums]
    simp
  refine do_one ?_
  unfold Do sTry
  show StR _ (match eCall (mLoc 1) dAllE1 (aCons (mLoc 0) (aCons (mInt 0) (aCons (mUn fNeg (mInt 1)) aNil))) { loc:=[some (.ref r),some (.fn m),some (.ref k)],cel:=[],C:=C,H:=H1 } with
    | some (msg,H2)=>gIfOr "lo must be non-negative" (accLoc 0) (accLoc 2) msg { loc:=[some (.ref r),some (.fn m),some (.ref k)],cel:=[],C:=C,H:=H2 }
    | none=>none)
  rw [key]
  dsimp only
  unfold gIfOr
  rw [if_pos (show msgLow = Str.ofString "lo must be non-negative" from rfl),hq]
  exact ⟨_,_,rfl,.mk _ _ _ q1⟩
theorem refused_spec (hl : row.length ≤ 900) : FSpec sem1_11 [.li row] (.is (.bool true)):=fspec (fun vs h=>full_n h) rfl fun vs C H h=>h.e1 (P:=fun vs=>Do body1_11 (entry df1_11 vs C H) _) fun v ⟨r,e,hr⟩=>by
  subst e
  show Do (sSeq m1_11_0 (sSeq m1_11_1 sNil)) _ _
  rw [m1_11_0_eq]
  refine do_seq (do_forG (vs:=[.fn 3,.fn 1,.fn 2,.fn 0]) (R:=fun v _=>v = .tup [.fn 3,.fn 1,.fn 2,.fn 0]) (σ:={ loc:=[some (.ref r),none,none],cel:=[],C:=C ++ [],H:=H }) (fun H1 p=>?_) (by decide) (fun B k τ=>RfI r (C ++ []) B τ) (fun v B k τ e I=>by rw [e]; rfl) (fun H' p=>.mk _ _ _ pre_rfl) (fun B k τ hk p I=>?_) fun B τ p I=>?_)
  · exact ⟨_,H1,pre_rfl,rfl⟩
  · cases I with | mk l1 l2 H2 p2 =>
    have : ∃ m,m < 4 ∧ ([.fn 3,.fn 1,.fn 2,.fn 0] : List V)[k] = .fn m:=by
      refine lt4 (P:=fun k=>∀ hk : k < ([.fn 3,.fn 1,.fn 2,.fn 0] : List V).length,∃ m,m < 4 ∧ ([.fn 3,.fn 1,.fn 2,.fn 0] : List V)[k] = .fn m) hk ?_ ?_ ?_ ?_ hk
      · exact fun _=>⟨3,by decide,rfl⟩
      · exact fun _=>⟨1,by decide,rfl⟩
      · exact fun _=>⟨2,by decide,rfl⟩
      · exact fun _=>⟨0,by decide,rfl⟩
    obtain ⟨m,hm,e⟩:=this
    rw [e]
    exact ⟨_,rfl,rf_step hl (pre_get p hr) hm p2⟩
  · cases I with | mk l1 l2 H2 p2=>exact do_one (out_1 (p.trans p2) ev_bool)
end
end Mine
namespace Mine
/-! two sorted rows: the one with something less comes first -/
theorem lex_self : ∀ xs : List Int,lexLt xs xs = false
  | []=>rfl
  | x :: xs=>by unfold lexLt; rw [if_pos rfl,lex_self xs]
theorem lex_go : ∀ (A B X Y Z : List Int),A.Pairwise (· ≤ ·) → B.Pairwise (· ≤ ·) → A.length = B.length → A.Perm (X ++ Y) → B.Perm (X ++ Z) → (∃ z ∈ Z,∀ y ∈ Y,z < y) → lexLt A B = false ∧ A ≠ B
  | [],[],X,Y,Z,_,_,_,_,hB,⟨z,hz,_⟩=>absurd (hB.mem_iff.mpr (List.mem_append_right X hz)) (by simp)
  | [],b :: B,_,_,_,_,_,h,_,_,_=>by simp at h
  | a :: A,[],_,_,_,_,_,h,_,_,_=>by simp at h
  | a :: A,b :: B,X,Y,Z,sA,sB,hl,hA,hB,⟨z,hz,hlt⟩=>by
    rw [List.pairwise_cons] at sA sB
    have lowB : ∀ x ∈ X ++ Z,b ≤ x:=fun x hx=>by
      rcases List.mem_cons.mp (hB.mem_iff.mpr hx) with e | e
      · exact Int.le_of_eq e.symm
      · exact sB.1 x e
    have hbz:=lowB z (List.mem_append_right X hz)
    have less : b < a → lexLt (a :: A) (b :: B) = false ∧ a :: A ≠ b :: B:=fun h=>by
      refine ⟨?_,fun q=>?_⟩
      · unfold lexLt; rw [if_neg (by lia)]; simp; lia
      · rw [List.cons.injEq] at q; lia
    rcases List.mem_append.mp (hA.mem_iff.mp (List.mem_cons_self)) with ha | ha
    · have hba:=lowB a (List.mem_append_left Z ha)
      by_cases q : b < a
      · exact less q
      · have e : b = a:=by lia
        subst e
        have pX:=List.perm_cons_erase ha
        have pA : A.Perm (X.erase b ++ Y):=(List.perm_cons b).mp (hA.trans (pX.append_right Y))
        have pB : B.Perm (X.erase b ++ Z):=(List.perm_cons b).mp (hB.trans (pX.append_right Z))
        obtain ⟨i1,i2⟩:=lex_go A B _ Y Z sA.2 sB.2 (by simpa using hl) pA pB ⟨z,hz,hlt⟩
        refine ⟨?_,fun q=>i2 ?_⟩
        · unfold lexLt; rw [if_pos rfl]; exact i1
        · rw [List.cons.injEq] at q; exact q.2
    · exact less (by have:=hlt a ha; lia)
theorem argmin {f : Nat → Int} {p : Nat → Bool} : ∀ ks : List Nat,(∃ k ∈ ks,p k = true) → ∃ k ∈ ks,p k = true ∧ ∀ j ∈ ks,p j = true → f k ≤ f j
  | [],⟨_,h,_⟩=>absurd h (by simp)
  | a :: ks,h=>by
    by_cases hr : ∃ k ∈ ks,p k = true
    · obtain ⟨k,h1,h2,h3⟩:=argmin (f:=f) ks hr
      by_cases ha : p a = true ∧ f a < f k
      · refine ⟨a,by simp,ha.1,fun j hj hp=>?_⟩
        rcases List.mem_cons.mp hj with e | e
        · subst e; exact Int.le_refl _
        · have:=h3 j e hp; lia
      · refine ⟨k,by simp [h1],h2,fun j hj hp=>?_⟩
        rcases List.mem_cons.mp hj with e | e
        · subst e; exact Int.not_lt.mp fun q=>ha ⟨hp,q⟩
        · exact h3 j e hp
    · obtain ⟨k,h1,h2⟩:=h
      rcases List.mem_cons.mp h1 with e | e
      · subst e
        refine ⟨k,by simp,h2,fun j hj hp=>?_⟩
        rcases List.mem_cons.mp hj with e | e
        · subst e; exact Int.le_refl _
        · exact absurd ⟨j,e,hp⟩ hr
      · exact absurd ⟨k,e,h2⟩ hr
theorem lex_ex {f g : Nat → Int} {ks : List Nat} (hT : ∃ k ∈ ks,g k ≠ f k) (hd : ∀ k ∈ ks,f k < g k → ∃ j ∈ ks,g j < f j ∧ f j ≤ f k) : lexLt (sortI (ks.map f)) (sortI (ks.map g)) = false ∧ sortI (ks.map f) ≠ sortI (ks.map g):=by
  obtain ⟨k0,h1,h2,h3⟩:=argmin (f:=f) (p:=fun k=>decide (g k ≠ f k)) ks (by obtain ⟨k,a,b⟩:=hT; exact ⟨k,a,by simpa using b⟩)
  have h2' : g k0 ≠ f k0:=by simpa using h2
  obtain ⟨t,t1,t2,t3⟩ : ∃ t ∈ ks,g t < f t ∧ f t ≤ f k0:=by
    by_cases q : f k0 < g k0
    · exact hd k0 h1 q
    · exact ⟨k0,h1,by lia,Int.le_refl _⟩
  have pf : ∀ v : Nat → Int,(ks.map v).Perm ((ks.filter fun k=>decide (g k ≠ f k)).map v ++ (ks.filter fun k=>!decide (g k ≠ f k)).map v):=fun v=>by
    rw [← List.map_append]
    exact (List.filter_append_perm _ ks).symm.map v
  have same : (ks.filter fun k=>!decide (g k ≠ f k)).map g = (ks.filter fun k=>!decide (g k ≠ f k)).map f:=List.map_congr_left fun k hk=>by
    have:=(List.mem_filter.mp hk).2
    simpa using this
  refine lex_go _ _ ((ks.filter fun k=>!decide (g k ≠ f k)).map f) ((ks.filter fun k=>decide (g k ≠ f k)).map f) ((ks.filter fun k=>decide (g k ≠ f k)).map g) (sortI_sorted _) (sortI_sorted _) (by rw [(sortI_perm _).length_eq,(sortI_perm _).length_eq,List.length_map,List.length_map]) ((sortI_perm _).trans ((pf f).trans List.perm_append_comm)) ((sortI_perm _).trans (((pf g).trans List.perm_append_comm).trans (by rw [same]))) ⟨g t,List.mem_map_of_mem (List.mem_filter.mpr ⟨t1,by simp; lia⟩),fun y hy=>?_⟩
  obtain ⟨k,hk,e⟩:=List.mem_map.mp hy
  obtain ⟨k1,k2⟩:=List.mem_filter.mp hk
  have:=h3 k k1 k2
  lia
/-! sums over those among -/
noncomputable def sumOn (n k : Nat) (v : Int → Int) : Int:=((amongL n k).map v).sum
theorem comp_dec3 : ∀ k,k < 8 → (amongN 3 k ++ amongN 3 (7 - k)).Perm (List.range 3):=by decide +kernel
theorem comp_dec4 : ∀ k,k < 16 → (amongN 4 k ++ amongN 4 (15 - k)).Perm (List.range 4):=by decide +kernel
theorem one_dec3 : ∀ p,p < 3 → amongN 3 (2 ^ p) = [p] ∧ 2 ^ p < 7:=by decide +kernel
theorem one_dec4 : ∀ p,p < 4 → amongN 4 (2 ^ p) = [p] ∧ 2 ^ p < 15:=by decide +kernel
section
variable {n k p : Nat} {v : Int → Int}
theorem sum_comp (hn : n = 3 ∨ n = 4) (hk : k < 2 ^ n) : sumOn n k v + sumOn n (2 ^ n - 1 - k) v = ((rng n).map v).sum:=by
  unfold sumOn
  rw [← List.sum_append,← List.map_append,among_eq,among_eq,← List.map_append]
  refine sum_perm (List.Perm.map v ?_)
  rcases hn with e | e <;> subst e
  · exact (comp_dec3 k hk).map _
  · exact (comp_dec4 k hk).map _
theorem sum_one (hn : n = 3 ∨ n = 4) (hp : p < n) : sumOn n (2 ^ p) v = v p ∧ 2 ^ p < 2 ^ n - 1:=by
  unfold sumOn
  rw [among_eq]
  rcases hn with e | e <;> subst e
  · rw [(one_dec3 p hp).1]; exact ⟨by simp,(one_dec3 p hp).2⟩
  · rw [(one_dec4 p hp).1]; exact ⟨by simp,(one_dec4 p hp).2⟩
end
end Mine
namespace Mine
theorem pos_one {v : Int → Int} {xs : List Int} (h : 0 < (xs.map v).sum) : ∃ x ∈ xs,0 < v x:=by
  refine Classical.byContradiction fun q=>?_
  have:=sum_le (f:=v) (k:=0) (c:=xs) fun x hx=>Int.not_lt.mp fun r=>q ⟨x,hx,r⟩
  rw [Int.mul_zero] at this
  lia
theorem le_one {v : Int → Int} : ∀ {xs : List Int} {x : Int},(∀ y ∈ xs,0 ≤ v y) → x ∈ xs → v x ≤ (xs.map v).sum
  | [],_,_,h=>absurd h (by simp)
  | y :: xs,x,h0,h=>by
    rw [List.map_cons,List.sum_cons]
    have hy:=h0 y (by simp)
    rcases List.mem_cons.mp h with e | e
    · subst e
      have:=sum_ge (f:=v) (k:=0) (c:=xs) fun z hz=>h0 z (by simp [hz])
      rw [Int.mul_zero] at this; lia
    · have:=le_one (fun z hz=>h0 z (by simp [hz])) e
      lia
section
variable {n : Nat} {u w d : Int → Int} {μ : Int}
theorem outweigh (hn : n = 3 ∨ n = 4) (hu : ∀ p : Int,0 ≤ p → p < n → 0 ≤ u p ∧ u p ≤ w p ∧ u p ≤ μ ∧ (u p < μ → w p = u p)) (hd : ((rng n).map d).sum = 0) {k : Nat} (k0 : 0 < k) (hk : k < 2 ^ n - 1) (hp : 0 < sumOn n k d) :
    ∃ t,0 < t ∧ t < 2 ^ n - 1 ∧ sumOn n t d < 0 ∧ min (sumOn n t u) (sumOn n (2 ^ n - 1 - t) w) ≤ min (sumOn n k u) (sumOn n (2 ^ n - 1 - k) w):=by
  have cs : ∀ (v : Int → Int) (k : Nat),k < 2 ^ n → sumOn n k v + sumOn n (2 ^ n - 1 - k) v = ((rng n).map v).sum:=fun v k h=>sum_comp hn h
  have so : ∀ (v : Int → Int) (p : Nat),p < n → sumOn n (2 ^ p) v = v p ∧ 2 ^ p < 2 ^ n - 1:=fun v p h=>sum_one hn h
  clear hn
  generalize 2 ^ n = N at hk cs so ⊢
  have dc:=cs d k (by lia)
  rw [hd] at dc
  have hin : ∀ {k : Nat} {x : Int},x ∈ amongL n k → 0 ≤ u x ∧ u x ≤ w x ∧ u x ≤ μ ∧ (u x < μ → w x = u x):=fun h=>hu _ (among_in h).1 (among_in h).2
  by_cases c1 : sumOn n (N - 1 - k) w ≤ sumOn n k u
  · refine ⟨N - 1 - k,by lia,by lia,by lia,?_⟩
    have:=sum_mono (f:=u) (g:=w) (c:=amongL n (N - 1 - k)) fun x hx=>(hin hx).2.1
    unfold sumOn at *
    lia
  · obtain ⟨p,hp1,hp2⟩:=pos_one hp
    obtain ⟨q,hq1,hq2⟩:=pos_one (v:=fun x=>- d x) (xs:=amongL n (N - 1 - k)) (by
      have e:=sum_add (f:=d) (g:=fun x=>- d x) (amongL n (N - 1 - k))
      have z:=sum_le (f:=fun x=>d x + - d x) (k:=0) (c:=amongL n (N - 1 - k)) fun x _=>by lia
      have z2:=sum_ge (f:=fun x=>d x + - d x) (k:=0) (c:=amongL n (N - 1 - k)) fun x _=>by lia
      unfold sumOn at *
      rw [Int.mul_zero] at z z2
      lia)
    have up:=le_one (v:=u) (fun y hy=>(hin hy).1) hp1
    have ip:=hin hp1
    have rp:=among_in hp1
    have rq:=among_in hq1
    have ep : ((p.toNat : Nat) : Int) = p:=Int.toNat_of_nonneg rp.1
    have eq : ((q.toNat : Nat) : Int) = q:=Int.toNat_of_nonneg rq.1
    by_cases c2 : u q ≤ sumOn n k u
    · obtain ⟨s1,s2⟩:=so d q.toNat (by lia)
      obtain ⟨s3,_⟩:=so u q.toNat (by lia)
      rw [eq] at s1 s3
      exact ⟨2 ^ q.toNat,Nat.pow_pos (by decide),s2,by lia,by lia⟩
    · obtain ⟨s1,s2⟩:=so d p.toNat (by lia)
      obtain ⟨s3,_⟩:=so w p.toNat (by lia)
      have dp:=cs d (2 ^ p.toNat) (by lia)
      have iq:=hin hq1
      have up' : u p ≤ sumOn n k u:=up
      have wp:=ip.2.2.2 (by lia)
      have pp : 0 < 2 ^ p.toNat:=Nat.pow_pos (by decide)
      rw [ep] at s1 s3
      refine ⟨N - 1 - 2 ^ p.toNat,by lia,by lia,by lia,?_⟩
      rw [show N - 1 - (N - 1 - 2 ^ p.toNat) = 2 ^ p.toNat by lia,s3]
      lia
end
section
variable {c s y : List Int} {E μ : Int} {n k : Nat}
theorem sumOn_congr {v v2 : Int → Int} (h : ∀ x : Int,0 ≤ x → x < n → v x = v2 x) : sumOn n k v = sumOn n k v2:=by
  unfold sumOn
  rw [List.map_congr_left fun x hx=>h x (among_in hx).1 (among_in hx).2]
theorem sumOn_sub {v v2 : Int → Int} : sumOn n k (fun x=>v x - v2 x) = sumOn n k v - sumOn n k v2:=by
  have:=sum_add (f:=fun x=>v x - v2 x) (g:=v2) (amongL n k)
  rw [show (fun x=>v x - v2 x + v2 x) = v by funext x; exact Int.sub_add_cancel _ _] at this
  unfold sumOn; lia
theorem sum_all : ((rng c.length).map (atL c)).sum = c.sum:=by rw [atL_rng]
theorem ex_min (hn : c.length = 3 ∨ c.length = 4) (hs : s.length = c.length) (hE : s.sum = E) (hk : k < 2 ^ c.length) : exA c s E k = min (sumOn c.length k (atL s)) (sumOn c.length (2 ^ c.length - 1 - k) (fun p=>atL c p - atL s p)):=by
  have e1:=sum_comp (v:=atL c) hn hk
  have e2:=sum_comp (v:=atL s) hn hk
  rw [sum_all] at e1
  rw [← hs,sum_all,hs,hE] at e2
  rw [sumOn_sub]
  show sumOn c.length k (atL s) - max 0 (E - c.sum + sumOn c.length k (atL c)) = _
  rw [← e1,← e2]
  generalize sumOn c.length k (atL s) = a
  generalize sumOn c.length (2 ^ c.length - 1 - k) (atL s) = b
  generalize sumOn c.length k (atL c) = x
  generalize sumOn c.length (2 ^ c.length - 1 - k) (atL c) = y
  by_cases h : a ≤ y - b
  · rw [Int.min_eq_left h,Int.max_eq_left (by lia)]; lia
  · rw [Int.min_eq_right (by lia),Int.max_eq_right (by lia)]; lia
theorem ex_lst : exL c s E = (List.range (2 ^ c.length - 2)).map fun k=>exA c s E (1 + k):=by
  unfold exL rngB
  rw [List.map_map]
  exact List.map_congr_left fun k _=>rfl
theorem ex_diff : exA c y E k = exA c s E k + sumOn c.length k (fun p=>atL y p - atL s p):=by
  rw [sumOn_sub]
  show sumOn c.length k (atL y) - max 0 (E - c.sum + sumOn c.length k (atL c)) = sumOn c.length k (atL s) - max 0 (E - c.sum + sumOn c.length k (atL c)) + _
  lia
theorem differs (hl : y.length = s.length) (h : y ≠ s) : ∃ p,p < s.length ∧ atL y p - atL s p ≠ 0:=by
  refine Classical.byContradiction fun q=>h (List.ext_getElem hl fun i h1 h2=>?_)
  have : ¬ (atL y i - atL s i ≠ 0):=fun r=>q ⟨i,h2,r⟩
  unfold atL at this
  rw [Int.toNat_natCast,List.getD_eq_getElem?_getD,List.getElem?_eq_getElem h1,List.getD_eq_getElem?_getD,List.getElem?_eq_getElem h2] at this
  simp at this
  lia
noncomputable def Hid (p : Prop) : Prop:=p
theorem nucleolus (hn : c.length = 3 ∨ c.length = 4) (hc : Cl c) (h0 : 0 ≤ μ) (hE : (shL c E μ).sum = E) (hyl : y.length = c.length) (hy : y.sum = E) :
    lexLt (sortI (exL c (shL c E μ) E)) (sortI (exL c y E)) = false ∧ (y ≠ shL c E μ → sortI (exL c (shL c E μ) E) ≠ sortI (exL c y E)):=by
  by_cases hne : y = shL c E μ
  · rw [hne]
    exact ⟨lex_self _,fun h=>absurd rfl h⟩
  have hsl : (shL c E μ).length = c.length:=sh_len
  have pw : 8 ≤ 2 ^ c.length:=by rcases hn with e | e <;> rw [e] <;> decide
  have hn' : Hid (c.length = 3 ∨ c.length = 4):=hn
  clear hn
  have hd : ((rng c.length).map (fun p=>atL y p - atL (shL c E μ) p)).sum = 0:=by
    have:=sum_add (f:=fun p=>atL y p - atL (shL c E μ) p) (g:=atL (shL c E μ)) (rng c.length)
    rw [show (fun x=>atL y x - atL (shL c E μ) x + atL (shL c E μ) x) = atL y by funext x; exact Int.sub_add_cancel _ _] at this
    have e1:=sum_all (c:=y)
    have e2:=sum_all (c:=shL c E μ)
    rw [hyl] at e1
    rw [hsl] at e2
    lia
  have hu : ∀ p : Int,0 ≤ p → p < c.length → 0 ≤ min (atL c p / 2) μ ∧ min (atL c p / 2) μ ≤ atL c p - min (atL c p / 2) μ ∧ min (atL c p / 2) μ ≤ μ ∧ (min (atL c p / 2) μ < μ → atL c p - min (atL c p / 2) μ = min (atL c p / 2) μ):=fun p p0 p1=>by
    have a0:=hc.nn _ (at_mem p0 p1)
    have ad:=hc.dv _ (at_mem p0 p1)
    refine ⟨by lia,by lia,by lia,fun q=>?_⟩
    rw [Int.min_eq_left (by lia)]
    lia
  have key : lexLt (sortI (exL c (shL c E μ) E)) (sortI (exL c y E)) = false ∧ sortI (exL c (shL c E μ) E) ≠ sortI (exL c y E):=by
    rw [ex_lst,ex_lst]
    refine lex_ex ?_ fun k hk hlt=>?_
    · obtain ⟨p,p1,p2⟩:=differs (hyl.trans hsl.symm) hne
      rw [hsl] at p1
      obtain ⟨s1,s2⟩:=sum_one (v:=fun p=>atL y p - atL (shL c E μ) p) hn' p1
      have pp : 0 < 2 ^ p:=Nat.pow_pos (by decide)
      refine ⟨2 ^ p - 1,List.mem_range.mpr (by lia),?_⟩
      rw [show 1 + (2 ^ p - 1) = 2 ^ p by lia,ex_diff (y:=y) (s:=shL c E μ),s1]
      lia
    · rw [List.mem_range] at hk
      rw [ex_diff (y:=y) (s:=shL c E μ)] at hlt
      have fin : ∀ t,0 < t → t < 2 ^ c.length - 1 → sumOn c.length t (fun p=>atL y p - atL (shL c E μ) p) < 0 → exA c (shL c E μ) E t ≤ exA c (shL c E μ) E (1 + k) → ∃ j ∈ List.range (2 ^ c.length - 2),exA c y E (1 + j) < exA c (shL c E μ) E (1 + j) ∧ exA c (shL c E μ) E (1 + j) ≤ exA c (shL c E μ) E (1 + k):=fun t t0 t1 t2 t3=>by
        refine ⟨t - 1,List.mem_range.mpr (by lia),?_⟩
        rw [show 1 + (t - 1) = t by lia,ex_diff (y:=y) (s:=shL c E μ)]
        exact ⟨by lia,t3⟩
      have sp : ∀ p : Int,0 ≤ p → p < c.length → atL (shL c E μ) p = gS (shB c E) μ (atL c p):=fun p p0 p1=>sh_at p0 p1
      cases hb : shB c E with
      | true =>
        rw [hb] at sp
        obtain ⟨t,t0,t1,t2,t3⟩:=outweigh (k:=1 + k) hn' hu hd (by lia) (by lia) (by lia)
        refine fin t t0 t1 t2 ?_
        rw [ex_min hn' hsl hE (by lia),ex_min hn' hsl hE (by lia),sumOn_congr sp,sumOn_congr sp,sumOn_congr (n:=c.length) (k:=2 ^ c.length - 1 - t) fun p p0 p1=>by rw [sp p p0 p1],sumOn_congr (n:=c.length) (k:=2 ^ c.length - 1 - (1 + k)) fun p p0 p1=>by rw [sp p p0 p1]]
        exact t3
      | false =>
        rw [hb] at sp
        have sp2 : ∀ p : Int,0 ≤ p → p < c.length → atL c p - atL (shL c E μ) p = min (atL c p / 2) μ:=fun p p0 p1=>by
          rw [sp p p0 p1]
          show atL c p - (atL c p - min (atL c p / 2) μ) = _
          lia
        have neg : ∀ k,sumOn c.length k (fun p=>atL (shL c E μ) p - atL y p) = - sumOn c.length k (fun p=>atL y p - atL (shL c E μ) p):=fun k=>by
          rw [sumOn_sub,sumOn_sub]; lia
        have hd2 : ((rng c.length).map (fun p=>atL (shL c E μ) p - atL y p)).sum = 0:=by
          rw [← sum_comp hn' (k:=0) (by lia),neg,neg,← Int.neg_add,sum_comp hn' (by lia),hd]; rfl
        have dc:=sum_comp (v:=fun p=>atL y p - atL (shL c E μ) p) hn' (k:=1 + k) (by lia)
        rw [hd] at dc
        obtain ⟨t,t0,t1,t2,t3⟩:=outweigh (k:=2 ^ c.length - 1 - (1 + k)) hn' hu hd2 (by lia) (by lia) (by rw [neg]; lia)
        have dt:=sum_comp (v:=fun p=>atL y p - atL (shL c E μ) p) hn' (k:=t) (by lia)
        rw [hd] at dt
        rw [neg] at t2
        refine fin (2 ^ c.length - 1 - t) (by lia) (by lia) (by lia) ?_
        rw [show 2 ^ c.length - 1 - (2 ^ c.length - 1 - (1 + k)) = 1 + k by lia] at t3
        rw [ex_min hn' hsl hE (by lia),ex_min hn' hsl hE (by lia),show 2 ^ c.length - 1 - (2 ^ c.length - 1 - t) = t by lia,sumOn_congr sp2,sumOn_congr sp2,sumOn_congr (k:=2 ^ c.length - 1 - t) sp,sumOn_congr (k:=1 + k) sp,Int.min_comm,Int.min_comm (sumOn c.length (1 + k) _)]
        exact t3
  exact ⟨key.1,fun _=>key.2⟩
end
end Mine
namespace Mine
/-! pairs,sorted -/
theorem zip_map_self {g : Int → Int} : ∀ c : List Int,c.zip (c.map g) = c.map fun x=>(x,g x)
  | []=>rfl
  | x :: c=>by rw [List.map_cons,List.zip_cons_cons,zip_map_self c]; rfl
theorem sortP_zip {c : List Int} (g : Int → Int) (hn : c.length = 3 ∨ c.length = 4) : sortP (c.zip (c.map g)) = (sortI c).zip ((sortI c).map g):=by
  rw [zip_map_self,zip_map_self]
  obtain ⟨_,_,_,_,h1,h2⟩:=sortP_run (ps:=c.map fun x=>(x,g x)) (by rw [List.length_map]; exact hn)
  refine List.Perm.eq_of_pairwise (le:=fun a b=>ltP b a = false) (fun a b _ _ h h'=>ltP_anti h' h) h2 ?_ (h1.trans ((sortI_perm c).symm.map _))
  rw [List.pairwise_map]
  refine (sortI_sorted c).imp fun {a b} h=>?_
  show decide _ = false
  refine decide_eq_false fun q=>?_
  rcases q with q | ⟨q1,q2⟩
  · exact absurd q (by show ¬ b < a; lia)
  · have e : b = a:=q1
    subst e
    exact absurd q2 (by show ¬ g b < g b; lia)
/-! like ones as they come -/
theorem insAt_none {p : Int → Bool} {x : Int} : ∀ {xs : List Int},(∀ y ∈ xs,p y = false) → insAt p x xs = x :: xs
  | [],_=>rfl
  | y :: ys,h=>by
    show (if p y = true then y :: insAt p x ys else x :: y :: ys) = _
    rw [h y (by simp),if_neg (by decide)]
noncomputable def flatK (f : Int → Int) (ks xs : List Int) : List Int:=ks.flatMap fun k=>xs.filter fun y=>f y == k
theorem flatK_snoc_ne {f : Int → Int} {x : Int} {xs : List Int} : ∀ {ks : List Int},(∀ k ∈ ks,f x ≠ k) → flatK f ks (xs ++ [x]) = flatK f ks xs
  | [],_=>rfl
  | k :: ks,h=>by
    have h1:=h k (by simp)
    have h2:=flatK_snoc_ne (f:=f) (x:=x) (xs:=xs) (ks:=ks) fun k hk=>h k (by simp [hk])
    unfold flatK at h2 ⊢
    rw [List.flatMap_cons,List.flatMap_cons,h2,List.filter_append,List.filter_cons_of_neg (by simpa using h1),List.filter_nil,List.append_nil]
theorem flatK_app {f : Int → Int} {k1 k2 xs : List Int} : flatK f (k1 ++ k2) xs = flatK f k1 xs ++ flatK f k2 xs:=List.flatMap_append
theorem flatK_mem {f : Int → Int} {ks xs : List Int} {y : Int} (h : y ∈ flatK f ks xs) : f y ∈ ks:=by
  obtain ⟨k,hk,hy⟩:=List.mem_flatMap.mp h
  have:=(List.mem_filter.mp hy).2
  simp at this
  rw [this]; exact hk
theorem flat_stab {f : Int → Int} {ks : List Int} (hs : ks.Pairwise (· < ·)) : ∀ xs : List Int,(∀ x ∈ xs,f x ∈ ks) → flatK f ks xs.reverse = stab f xs.reverse
  | [],_=>by
    rw [List.reverse_nil]
    unfold flatK
    simp [stab]
  | x :: xs,h=>by
    have ih:=flat_stab hs xs fun y hy=>h y (by simp [hy])
    rw [List.reverse_cons,stab_snoc,← ih]
    obtain ⟨k1,k2,e⟩:=List.append_of_mem (h x (by simp))
    rw [e,List.pairwise_append,List.pairwise_cons] at hs
    obtain ⟨_,⟨s2,_⟩,s3⟩:=hs
    have n1 : ∀ k ∈ k1,f x ≠ k:=fun k hk=>by have:=s3 k hk (f x) (by simp); lia
    have n2 : ∀ k ∈ k2,f x ≠ k:=fun k hk=>by have:=s2 k hk; lia
    have hx : flatK f [f x] (xs.reverse ++ [x]) = flatK f [f x] xs.reverse ++ [x]:=by
      unfold flatK
      simp [List.filter_append]
    rw [e,show k1 ++ f x :: k2 = k1 ++ ([f x] ++ k2) from rfl,flatK_app,flatK_app,flatK_app,flatK_app,flatK_snoc_ne n1,flatK_snoc_ne n2,hx]
    unfold insR
    rw [insAt_app fun c hc=>by have:=s3 _ (flatK_mem hc) (f x) (by simp); simp; lia,insAt_app fun c hc=>by have:=flatK_mem hc; simp at this; simp; lia,insAt_none fun c hc=>by have:=s2 _ (flatK_mem hc); simp; lia]
    rw [List.append_assoc]; rfl
theorem uniq_strict (c : List Int) : (sortI (uniq c)).Pairwise (· < ·):=by
  have h1:=sortI_sorted (uniq c)
  have h2 : (sortI (uniq c)).Pairwise (· ≠ ·):=(sortI_perm (uniq c)).nodup_iff.mpr (uniq_nodup c)
  exact (h1.and h2).imp fun {a b} h=>by lia
noncomputable def cameL (t : Int) (n : Nat) : List Int:=if t = 0 then (rng n).reverse else rng n
theorem came_row (t : Int) (c : List Int) : flatK (atL c) (sortI (uniq c)) (cameL t c.length) = rowL t c:=by
  have hin : ∀ x ∈ rng c.length,atL c x ∈ sortI (uniq c):=fun x hx=>by
    have:=mem_rng.mp hx
    exact (sortI_perm _).mem_iff.mpr (uniq_mem.mpr (mem_getD (by lia)))
  unfold rowL stabT cameL
  by_cases ht : t = 0
  · rw [if_pos ht,if_pos ht,stabL_rev]
    exact flat_stab (uniq_strict c) _ hin
  · rw [if_neg ht,if_neg ht]
    have:=flat_stab (f:=atL c) (uniq_strict c) (rng c.length).reverse fun x hx=>hin x (List.mem_reverse.mp hx)
    rwa [List.reverse_reverse] at this
end Mine
namespace Mine
section
variable {σ : S} {H : List L}
theorem ev_sortSet {m : Xm} {xs : List Int} (em : Ev m σ (.li xs)) (hl : xs.length ≤ 4) : Ev (mSortSet m) σ (.li (sortI (uniq xs))):=fun H p=>by
  unfold mSortSet
  refine EvR.e (em H p) fun v H1 p1 ⟨i,e,hi⟩=>?_
  rw [e]; dsimp only; rw [hi]; dsimp only; rw [if_pos hl]
  exact ⟨_,_,p1.trans pre_app,new_at⟩
/-! pairs are alike -/
noncomputable def pdat (ps : List (Int × Int)) : List PyData:=ps.map fun p=>.tuple [.int p.1,.int p.2]
theorem dat_pairs {i : Nat} {ps : List (Int × Int)} (h : H[i]? = some (.vals (ps.map pairV))) : datOf H 8 (.ref i) = some (.list (pdat ps)):=by
  unfold datOf
  rw [h]
  dsimp only
  have : ∀ qs : List (Int × Int),allSome ((qs.map pairV).map (datOf H 7)) = some (pdat qs):=fun qs=>by
    induction qs with
    | nil=>rfl
    | cons q qs ih =>
      rw [List.map_cons,List.map_cons,show datOf H 7 (pairV q) = some (.tuple [.int q.1,.int q.2]) from rfl]
      unfold allSome
      rw [ih]; rfl
  rw [this]
theorem eqv_pdat : ∀ ps : List (Int × Int),PyData.eqvAll (pdat ps) (pdat ps) = true
  | []=>by simp [pdat,PyData.eqvAll]
  | p :: ps=>by
    have:=eqv_pdat ps
    unfold pdat at this ⊢
    rw [List.map_cons,PyData.eqvAll,this]
    simp [PyData.eqv,PyData.eqvAll]
theorem lay_pdat : ∀ ps : List (Int × Int),PyData.canLayAll0 (pdat ps) = true ∧ PyData.depthAll (pdat ps) ≤ 4
  | []=>by simp [pdat,PyData.canLayAll0,PyData.depthAll]
  | p :: ps=>by
    have:=lay_pdat ps
    unfold pdat at this ⊢
    rw [List.map_cons,PyData.canLayAll0,PyData.depthAll,this.1]
    simp [PyData.canLay0,PyData.canLayAll0,PyData.depth,PyData.depthAll]
    have:=this.2
    lia
theorem shaped_pdat (ps : List (Int × Int)) : SeqAt.shaped (.list (pdat ps)) = true:=by
  have:=lay_pdat ps
  unfold SeqAt.shaped
  rw [Bool.and_eq_true]
  refine ⟨by simp only [PyData.canLay0,this.1],decide_eq_true ?_⟩
  simp only [PyData.depth]
  lia
theorem ev_zipOf {a b : Xm} {xs ys : List Int} (ea : Ev a σ (.li xs)) (eb : Ev b σ (.li ys)) (hl : xs.length = ys.length) (hs : xs.length ≤ 1000) {H : List L} (p : σ.H <+: H) : ∃ H1,H <+: H1 ∧ zipOf (aCons a (aCons b aNil)) { σ with H:=H } = some ((xs,ys),H1):=by
  have h:=(eva_cons ea (eva_1 eb)) H p
  unfold zipOf
  revert h
  generalize aCons a (aCons b aNil) { σ with H:=H } = o
  intro h
  cases h with | mk vs H1 p1 k =>
  refine k.e2 fun u w ⟨i,e1,h1⟩ ⟨j,e2,h2⟩=>?_
  refine ⟨H1,p1,?_⟩
  rw [e1,e2]
  dsimp only
  rw [h1,h2]
  dsimp only
  rw [if_pos ⟨hl,hs⟩]
theorem evb_zips {a b d e : Xm} {c : List Int} {g : Int → Int} (hn : c.length = 3 ∨ c.length = 4) (ea : Ev a σ (.li c)) (eb : Ev b σ (.li (c.map g))) (ed : Ev d σ (.li (sortI c))) (ee : Ev e σ (.li ((sortI c).map g))) : Evb (mTest (mBin fNe (mSortZip (aCons a (aCons b aNil))) (mListZip (aCons d (aCons e aNil))))) σ false:=fun H p=>by
  have sl : (sortI c).length = c.length:=(sortI_perm c).length_eq
  obtain ⟨H1,p1,z1⟩:=ev_zipOf ea eb (by rw [List.length_map]) (by lia) p
  unfold mTest mBin mSortZip mListZip
  rw [z1]
  dsimp only
  rw [if_pos hn]
  dsimp only
  obtain ⟨H2,p2,z2⟩:=ev_zipOf ed ee (by rw [List.length_map]) (by lia) (H:=H1 ++ [.vals ((sortP (c.zip (c.map g))).map pairV)]) ((p.trans p1).trans pre_app)
  rw [z2]
  dsimp only
  have d1 : (H2 ++ [L.vals (((sortI c).zip ((sortI c).map g)).map pairV)])[H1.length]? = some (.vals (((sortI c).zip ((sortI c).map g)).map pairV)):=pre_get pre_app (pre_get p2 (by rw [sortP_zip g hn]; simp))
  have d2 : (H2 ++ [L.vals (((sortI c).zip ((sortI c).map g)).map pairV)])[H2.length]? = some (.vals (((sortI c).zip ((sortI c).map g)).map pairV)):=by simp
  unfold fNe
  rw [dat_pairs d1,dat_pairs d2]
  dsimp only
  rw [shaped_pdat,if_pos (show (true && true) = true from rfl),PyData.eqv,eqv_pdat]
  exact ⟨_,((p1.trans pre_app).trans p2).trans pre_app⟩
end
end Mine
namespace Mine
section
variable {σ : S} {H : List L}
/-! two rows in a list -/
theorem ev_rows {a b : Xm} {xs ys : List Int} (ea : Ev a σ (.li xs)) (eb : Ev b σ (.li ys)) : Ev (mList (aCons a (aCons b aNil))) σ (.rws xs ys):=fun H p=>by
  unfold mList
  refine EvaR.e (eva_cons ea (eva_1 eb) H p) fun vs H1 p1 k=>?_
  refine k.e2 fun u w ⟨i,e1,h1⟩ ⟨j,e2,h2⟩=>?_
  rw [e1,e2]
  dsimp only
  rw [if_pos (by simp [stills,V.still])]
  refine ⟨_,_,p1.trans pre_app,H1.length,i,j,rfl,?_,pre_get pre_app h1,pre_get pre_app h2⟩
  rw [show mkL [V.ref i,V.ref j] = .vals [V.ref i,V.ref j] from rfl]
  simp
theorem ev_rowAt {a b : Xm} {xs ys : List Int} {t : Int} (ea : Ev a σ (.rws xs ys)) (eb : Ev b σ (pi t)) (ht : t = 0 ∨ t = 1) : Ev (mBin fItem a b) σ (.li (if t = 0 then xs else ys)):=ev_bin2 ea eb fun u v H ⟨i,a,b,e,h1,h2,h3⟩ (e2 : v = _)=>by
  rw [e,e2]
  unfold fItem
  dsimp only
  rw [h1]
  rcases ht with ht | ht <;> subst ht
  · exact ⟨.ref a,H,pre_rfl,a,rfl,h2⟩
  · exact ⟨.ref b,H,pre_rfl,b,rfl,h3⟩
theorem ev_pick2 {a b m : Xm} {v w : V} {t : Int} (ea : Ev a σ (.is v)) (eb : Ev b σ (.is w)) (em : Ev m σ (pi t)) (ht : t = 0 ∨ t = 1) (hs : stills [v,w] = true) (hm : mkL [v,w] = .vals [v,w]) : Ev (mBin fItem (mList (aCons a (aCons b aNil))) m) σ (.is (if t = 0 then v else w)):=fun H p=>by
  unfold mBin mList
  refine EvaR.e (eva_cons ea (eva_1 eb) H p) fun vs H1 p1 k=>?_
  refine k.e2 fun u x (e1 : u = _) (e2 : x = _)=>?_
  rw [e1,e2]
  dsimp only
  rw [if_pos (show (decide ([v,w].length ≤ 1048576) && stills [v,w]) = true by rw [hs]; rfl),hm]
  have q:=p1.trans (pre_app (T:=[L.vals [v,w]]))
  show EvR H _ (match m { σ with H:=H1 ++ [L.vals [v,w]] } with | some (y,H2)=>fItem (.ref H1.length) y H2 | none=>none)
  refine EvR.e (em _ (p.trans q)) fun y H2 p2 (e3 : y = _)=>?_
  rw [e3]
  dsimp only
  have h : H2[H1.length]? = some (.vals [v,w]):=pre_get p2 (by simp)
  unfold fItem
  dsimp only
  rw [h]
  rcases ht with ht | ht <;> subst ht
  · exact ⟨v,H2,q.trans p2,rfl⟩
  · exact ⟨w,H2,q.trans p2,rfl⟩
theorem It.came {n : Nat} (hn : n ≤ 900) (t : Int) : It (cameL t n) (if t = 0 then .rng ((n : Int) - 1) (-1) (-1) else .rng 0 n 1) []:=by
  unfold cameL
  by_cases ht : t = 0
  · rw [if_pos ht,if_pos ht]
    intro H2 _ k
    have sz : Builtin.Range.rangeSize ((n : Int) - 1) (-1) (-1) = (n : Int):=by
      unfold Builtin.Range.rangeSize
      simp
      lia
    unfold itemAt
    dsimp only
    rw [if_pos (by unfold Builtin.Range.small Builtin.Range.rangeFitsLong; rw [sz]; simp; lia),sz]
    by_cases h : k < n
    · rw [if_pos (by lia)]
      rw [List.getElem?_map,List.getElem?_reverse (by rw [rng_len]; exact h),rng_len]
      unfold Mine.rng
      rw [List.getElem?_map,List.getElem?_range (by lia)]
      simp
      lia
    · rw [if_neg (by lia),List.getElem?_eq_none (by rw [List.length_map,List.length_reverse,rng_len]; lia)]
  · rw [if_neg ht,if_neg ht]
    have:=It.rng (a:=0) (n:=n) (H:=[]) (by lia)
    rw [Nat.zero_add,rngB_0] at this
    exact this
/-! claims in turn,and for each the places that bear it -/
theorem ev_nest {i cc cm : Nat} {a0 : Nat} {c ys : List Int} {cv : V} (hcel : σ.cel = [a0,cc,cm]) (hC : σ.C[cc]? = some (some (.ref i))) (hi : σ.H[i]? = some (.ints c)) (hM : σ.C[cm]? = some (some cv)) (hy : It ys cv []) (hyl : ys.length ≤ 4) (hcl : c.length ≤ 4) (hin : ∀ y ∈ ys,0 ≤ y ∧ y < c.length) :
    Ev (mCompI 1000 2 [1,2] (putL 0) (iPlain (mSortSet (mCel 1))) (mConst true) (cForI 1000 (putL 1) (iPlain (mCel 1)) (mTest (mBin fEqI (mBin fItem (mCel 0) (mLoc 1)) (mLoc 0))) (cElt (mLoc 1)))) σ (.li (flatK (atL c) (sortI (uniq c)) ys)):=fun H pH=>by
  have em : EvP (mSortSet (mCel 1)) σ (It (sortI (uniq c))):=ev_it (ev_sortSet (ev_li (ev_cel (by rw [hcel]; rfl) hC) hi) hcl)
  have ul : (sortI (uniq c)).length ≤ 4:=by rw [(sortI_perm _).length_eq]; exact Nat.le_trans (uniq_len c) hcl
  have fl : ∀ k,(ys.filter fun y=>atL c y == k).length ≤ 4:=fun k=>Nat.le_trans (List.length_filter_le _ _) hyl
  unfold mCompI iPlain
  refine EvR.e (em H pH) fun v H1 p1 k1=>?_
  dsimp only
  rw [if_pos (by rw [hcel]; rfl)]
  have pB:=pH.trans p1
  rw [show (([1,2] : List Nat).map fun i=>σ.cel.getD i 0) = [cc,cm] by rw [hcel]; rfl]
  have st : ∀ (ks : List Int),(ks.flatMap fun k=>ys.filter fun y=>atL c y == k).length ≤ ks.length * 4:=fun ks=>by
    induction ks with
    | nil=>simp
    | cons k ks ih=>rw [List.flatMap_cons,List.length_append,List.length_cons]; have:=fl k; lia
  have key:=comp_ints (item:=itemAt v) (put:=putL 0) (t:=mConst true) (c:=cForI 1000 (putL 1) (iPlain (mCel 1)) (mTest (mBin fEqI (mBin fItem (mCel 0) (mLoc 1)) (mLoc 0))) (cElt (mLoc 1))) (xs:=sortI (uniq c)) (g:=fun k=>ys.filter fun y=>atL c y == k) (fun τ=>∃ o1 o2 H',τ = { loc:=[o1,o2],cel:=[cc,cm],C:=σ.C,H:=H' } ∧ H1 <+: H') (fun τ ⟨o1,o2,H',e,q⟩=>by rw [e]; exact k1 _ q) (fun x hx τ vs ⟨o1,o2,H',e,q⟩ hl=>by
    subst e
    refine ⟨{ loc:=[some (.int x),o2],cel:=[cc,cm],C:=σ.C,H:=H' },H',rfl,.inl ⟨rfl,?_⟩⟩
    have inner:=comp_ints (item:=itemAt cv) (put:=putL 1) (t:=mTest (mBin fEqI (mBin fItem (mCel 0) (mLoc 1)) (mLoc 0))) (c:=cElt (mLoc 1)) (xs:=ys) (g:=fun y=>if (atL c y == x) = true then [y] else []) (fun τ=>∃ o2 H',τ = { loc:=[some (.int x),o2],cel:=[cc,cm],C:=σ.C,H:=H' } ∧ H1 <+: H') (fun τ ⟨o2,H',e,q⟩=>by rw [e]; exact hy _ List.nil_prefix) (fun y hy' τ vs ⟨o2,H',e,q⟩ hl=>by
      subst e
      refine ⟨{ loc:=[some (.int x),some (.int y)],cel:=[cc,cm],C:=σ.C,H:=H' },H',rfl,?_⟩
      have hyin:=hin y hy'
      have tt : mTest (mBin fEqI (mBin fItem (mCel 0) (mLoc 1)) (mLoc 0)) { loc:=[some (.int x),some (.int y)],cel:=[cc,cm],C:=σ.C,H:=H' } = some (atL c y == x,H'):=by
        have e1 : mBin fItem (mCel 0) (mLoc 1) { loc:=[some (.int x),some (.int y)],cel:=[cc,cm],C:=σ.C,H:=H' } = some (.int (atL c y),H'):=by
          unfold mBin mCel mLoc
          dsimp only [List.getElem?_cons_zero,List.getElem?_cons_succ]
          rw [hC]
          exact fItem_ints (pre_get (pB.trans q) hi) hyin.1 hyin.2
        refine mTest_eq (v:=.bool (atL c y == x)) (H:=H') ?_ rfl
        rw [mBin_eq e1 (show mLoc 0 { loc:=[some (.int x),some (.int y)],cel:=[cc,cm],C:=σ.C,H:=H' } = some (.int x,H') from rfl)]
        rfl
      cases hp : (atL c y == x) with
      | false=>exact .inr ⟨hp ▸ tt,by simp,_,H',rfl,q⟩
      | true =>
        refine .inl ⟨hp ▸ tt,{ loc:=[some (.int x),some (.int y)],cel:=[cc,cm],C:=σ.C,H:=H' },?_,some (.int y),H',rfl,q⟩
        unfold cElt mLoc
        dsimp only [List.getElem?_cons_zero,List.getElem?_cons_succ]
        rw [if_pos (by rw [hp] at hl; simp at hl; lia)]
        rfl) 1000 0 vs { loc:=[some (.int x),o2],cel:=[cc,cm],C:=σ.C,H:=H' } ⟨o2,H',rfl,q⟩ (Nat.zero_le _) (by lia) (by rw [List.drop_zero,flatMap_ite (fun y=>atL c y == x) (fun y=>y),List.map_id']; exact hl)
    obtain ⟨σ2,e2,o,H2,e3,q2⟩:=inner
    rw [List.drop_zero,flatMap_ite (fun y=>atL c y == x) (fun y=>y),List.map_id'] at e2
    refine ⟨σ2,?_,some (.int x),o,H2,e3,q2⟩
    unfold cForI iPlain mCel
    dsimp only [List.getElem?_cons_zero,List.getElem?_cons_succ]
    rw [hM]
    exact e2) 1000 0 [] { loc:=[none,none],cel:=[cc,cm],C:=σ.C,H:=H1 } ⟨none,none,H1,rfl,pre_rfl⟩ (Nat.zero_le _) (by lia) (by rw [List.drop_zero]; have:=st (sortI (uniq c)); simp only [List.length_nil]; lia)
  obtain ⟨σ2,e2,o1,o2,H2,e3,q2⟩:=key
  rw [List.drop_zero,List.nil_append] at e2
  subst e3
  unfold iPlain at e2
  rw [show List.replicate 2 (none : Option V) = [none,none] from rfl,e2,compEnd_ints (by have:=st (sortI (uniq c)); lia)]
  exact ⟨_,_,p1.trans (q2.trans pre_app),new_at⟩
end
end Mine
namespace Mine
noncomputable def hoS (ls : List (Option V)) (i : Nat) (c1 c2 : Option V) (C : List (Option V)) (H : List L) : S:={ loc:=ls,cel:=[C.length,C.length + 1,C.length + 2],C:=C ++ [some (.ref i),c1,c2],H:=H }
theorem ev_neg1 {σ : S} : Ev (mUn fNeg (mInt 1)) σ (pi (-1)):=fun H p=>⟨_,H,pre_rfl,rfl⟩
theorem ev_rng3 {σ : S} {a b d : Xm} {x y z : Int} (ea : Ev a σ (pi x)) (eb : Ev b σ (pi y)) (ed : Ev d σ (pi z)) (hz : z ≠ 0) (h1 : small (y - x) = true) (h2 : small z = true) : Ev (mArgs fRange3 (aCons a (aCons b (aCons d aNil)))) σ (.is (.rng x y z)):=ev_args (eva_cons ea (eva_cons eb (eva_1 ed))) fun vs H h=>h.e3 (P:=fun vs=>fRange3 vs H = _) fun u v w (e1 : u = _) (e2 : v = _) (e3 : w = _)=>by
  rw [e1,e2,e3]
  unfold fRange3
  dsimp only
  rw [if_neg (by rw [h1,h2]; simp [hz])]
theorem ev_rngV {σ : S} {a : Xm} {x : Int} (ea : Ev a σ (pi x)) : Ev (mArgs fRange3 (aCons a aNil)) σ (.is (.rng 0 x 1)):=ev_args (eva_1 ea) fun vs H h=>h.e1 (P:=fun vs=>fRange3 vs H = _) fun u (e1 : u = _)=>by
  rw [e1]; rfl
section
variable {c A : List Int} {i j : Nat} {a2 r6 b11 : Nat} {l1 l3 l4 l5 l7 l8 l9 l10 l12 l13 c2 : Option V} {C : List (Option V)} {H0 H : List L}
noncomputable def hcS (c : List Int) (i j a2 r6 b11 : Nat) (l1 l3 l4 l5 l7 l8 l9 l10 l12 l13 c2 : Option V) (C : List (Option V)) (H : List L) : S:=hoS [some (.int (c.length : Nat)),l1,some (.ref a2),l3,l4,l5,some (.ref r6),l7,l8,l9,l10,some (.ref b11),l12,l13] i (some (.ref j)) c2 C H
inductive HcI (f : Option V → Option V → List L → S) (B : List L) : S → Prop
  | mk (l13 c2 : Option V) (H : List L) (p : B <+: H) : HcI f B (f l13 c2 H)
@[elab_as_elim] theorem HcI.el {f : Option V → Option V → List L → S} {B : List L} {P : S → Prop} {τ : S} (h : HcI f B τ) (K : ∀ l13 c2 H,B <+: H → P (f l13 c2 H)) : P τ:=by
  cases h with | mk l13 c2 H p=>exact K l13 c2 H p
noncomputable def hcBody : Sm:=sSeq (sAssign (.cel 2) (mBin fItem (mList (aCons (mArgs fRange3 (aCons (mBin fSub (mLoc 0) (mInt 1)) (aCons (mUn fNeg (mInt 1)) (aCons (mUn fNeg (mInt 1)) aNil)))) (aCons (mArgs fRange3 (aCons (mLoc 0) aNil)) aNil))) (mLoc 13))) (sSeq (sIf (mTest (mBin fNe (mBin fItem (mLoc 6) (mLoc 13)) (mCompI 1000 2 [1,2] (putL 0) (iPlain (mSortSet (mCel 1))) (mConst true) (cForI 1000 (putL 1) (iPlain (mCel 1)) (mTest (mBin fEqI (mBin fItem (mCel 0) (mLoc 1)) (mLoc 0))) (cElt (mLoc 1)))))) (sSeq (sRet (mBool false)) sNil) sNil) sNil)
theorem m1_12_8_eq : m1_12_8 = sFor 1000 (.loc 13) (mTup (aCons (mInt 0) (aCons (mInt 1) aNil))) hcBody:=rfl
theorem ev_rw {σ : S} {m : Xm} {r : Nat} {xs ys : List Int} (e : Ev m σ (.is (.ref r))) (h : (Sp.rws xs ys).ok (.ref r) σ.H) : Ev m σ (.rws xs ys):=fun H p=>by
  refine EvR.e (e H p) fun v H1 p1 (k : v = _)=>?_
  rw [k]
  exact ⟨_,H1,p1,Sp.mono (p.trans p1) h⟩
theorem came_len {t : Int} {n : Nat} : (cameL t n).length = n:=by
  unfold cameL; split
  · rw [List.length_reverse,rng_len]
  · exact rng_len n
theorem came_in {t : Int} {n : Nat} {x : Int} (h : x ∈ cameL t n) : 0 ≤ x ∧ x < n:=by
  unfold cameL at h; split at h
  · exact mem_rng.mp (List.mem_reverse.mp h)
  · exact mem_rng.mp h
theorem hc_step (hl : c.length ≤ 4) {t : Int} (ht : t = 0 ∨ t = 1) {B : List L} (hj : B[j]? = some (.ints c)) (hr : (Sp.rws (rowL 0 c) (rowL 1 c)).ok (.ref r6) B) (p : B <+: H) :
    Do hcBody (hcS c i j a2 r6 b11 l1 l3 l4 l5 l7 l8 l9 l10 l12 (some (.int t)) c2 C H) (fun f τ'=>f = .next ∧ HcI (fun l13 c2 H=>hcS c i j a2 r6 b11 l1 l3 l4 l5 l7 l8 l9 l10 l12 l13 c2 C H) B τ'):=by
  refine do_seq (do_cel (i:=2) (c:=C.length + 2) (σ:=hcS c i j a2 r6 b11 l1 l3 l4 l5 l7 l8 l9 l10 l12 (some (.int t)) c2 C H) (ev_pick2 (v:=.rng ((c.length : Int) - 1) (-1) (-1)) (w:=.rng 0 (c.length : Nat) 1) (t:=t) (ev_rng3 (ev_sub (ev_loc rfl) ev_int) ev_neg1 ev_neg1 (by decide) (by unfold small; simp; lia) rfl) (ev_rngV (ev_loc rfl)) (ev_loc rfl) ht (by simp [stills,V.still]) rfl) rfl (by show C.length + 2 < (C ++ [_,_,_]).length; simp) fun v H1 p1 (e : v = _)=>?_)
  rw [e]
  have q1:=p.trans p1
  have eσ : ∀ x,hcS c i j a2 r6 b11 l1 l3 l4 l5 l7 l8 l9 l10 l12 (some (.int t)) (some x) C H1 = { hcS c i j a2 r6 b11 l1 l3 l4 l5 l7 l8 l9 l10 l12 (some (.int t)) c2 C H with C:=(hcS c i j a2 r6 b11 l1 l3 l4 l5 l7 l8 l9 l10 l12 (some (.int t)) c2 C H).C.set (C.length + 2) (some x),H:=H1 }:=fun x=>by
    unfold hcS hoS; dsimp only; rw [set_2]
  rw [← eσ]
  refine do_one (do_if1 (evb_test ?_) fun H2 p2=>⟨rfl,.mk _ _ _ (q1.trans p2)⟩)
  have e1:=ev_neL (σ:=hcS c i j a2 r6 b11 l1 l3 l4 l5 l7 l8 l9 l10 l12 (some (.int t)) (some (if t = 0 then .rng ((c.length : Int) - 1) (-1) (-1) else .rng 0 (c.length : Nat) 1)) C H1) (ev_rowAt (t:=t) (ev_rw (ev_loc (i:=6) rfl) (Sp.mono q1 hr)) (ev_loc (i:=13) rfl) ht)
    (ev_nest (i:=j) (cc:=C.length + 1) (cm:=C.length + 2) (a0:=C.length) (c:=c) (ys:=cameL t c.length) rfl at_1 (pre_get q1 hj) at_2 (It.came (by lia) t) (by rw [came_len]; exact hl) hl fun y hy=>came_in hy)
  rw [came_row] at e1
  rw [show (if t = 0 then rowL 0 c else rowL 1 c) = rowL t c by rcases ht with q | q <;> subst q <;> rfl,decide_eq_true rfl] at e1
  exact e1
theorem tk_len : (takenL c).length = c.length:=List.length_map _
theorem ho_end (hl : c.length ≤ 4) (hj : H[j]? = some (.ints c)) (ha : H[a2]? = some (.ints (takenL c))) (hr : (Sp.rws (rowL 0 c) (rowL 1 c)).ok (.ref r6) H) (hb : H[b11]? = some (.ints A)) (hA : A.length ≤ 900) :
    Do (sSeq m1_12_8 (sSeq m1_12_9 sNil)) (hcS c i j a2 r6 b11 l1 l3 l4 l5 l7 l8 l9 l10 l12 l13 c2 C H) (Out H (.is (.bool true))):=by
  rw [m1_12_8_eq]
  refine do_seq (do_for (xs:=[0,1]) (R:=fun v _=>v = .tup [.int 0,.int 1]) (fun H1 p=>⟨_,H1,pre_rfl,rfl⟩) (by decide) (fun B k τ=>HcI (fun l13 c2 H=>hcS c i j a2 r6 b11 l1 l3 l4 l5 l7 l8 l9 l10 l12 l13 c2 C H) B τ) (fun v B k τ e I=>by rw [e]; rfl) (fun H' p=>.mk _ _ _ pre_rfl) (fun B k τ hk p I=>?_) fun B τ p I=>?_)
  · refine I.el fun l13 c2 H2 p2=>?_
    refine ⟨_,rfl,hc_step hl ?_ (pre_get p hj) (Sp.mono p hr) p2⟩
    match k,hk with
    | 0,_=>exact .inl rfl
    | 1,_=>exact .inr rfl
  · refine I.el fun l13 c2 H2 p2=>?_
    have q:=p.trans p2
    have found : ∀ (t : Int) (m : Nat),Mode m t → t = 0 ∨ t = 1 → Ev (mCall (mFn 10) (dFn 10 sem1_10) (aCons (mBin fItem (mLoc 6) (mInt t)) (aCons (mLoc 2) (aCons (mFn m) (aCons (mInt t) aNil))))) (hcS c i j a2 r6 b11 l1 l3 l4 l5 l7 l8 l9 l10 l12 l13 c2 C H2) (.is (.bool true)):=fun t m hm ht=>by
      refine ev_call (found_spec (row:=rowL t c) (tab:=takenL c) hm (by rw [row_len]; lia) (fun p hp=>by rw [tk_len]; exact row_in hp) keys_sorted) (eva_cons ?_ (eva_cons (ev_li (ev_loc rfl) (pre_get q ha)) (eva_cons ev_fn (eva_1 ev_int))))
      have:=ev_rowAt (t:=t) (ev_rw (σ:=hcS c i j a2 r6 b11 l1 l3 l4 l5 l7 l8 l9 l10 l12 l13 c2 C H2) (ev_loc (i:=6) rfl) (Sp.mono q hr)) (ev_int (k:=t)) ht
      rwa [show (if t = 0 then rowL 0 c else rowL 1 c) = rowL t c by rcases ht with q | q <;> subst q <;> rfl] at this
    exact do_one (out_1 q (ev_and (x:=true) (y:=true) (found 0 3 (.inl ⟨rfl,rfl⟩) (.inl rfl)) fun _=>ev_and (x:=true) (y:=true) (found 1 1 (.inr ⟨rfl,rfl⟩) (.inr rfl)) fun _=>ev_call (refused_spec hA) (eva_1 (ev_li (ev_loc rfl) (pre_get q hb)))))
end
end Mine
namespace Mine
section
variable {c : List Int} {E μ one two : Int} {i j a1 a2 s4 s5 r6 : Nat} {C : List (Option V)} {H0 H : List L}
theorem sh_sum (hm : hS c μ = min E (c.sum - E)) : (shL c E μ).sum = E:=by
  unfold shL
  cases hb : shB c E with
  | true =>
    rw [win_sum]
    have:=of_decide_eq_true hb; lia
  | false =>
    rw [loss_sum]
    have:=of_decide_eq_false hb; lia
noncomputable def oth (s : List Int) (one two : Int) : List Int:=[s.getD 0 0 + one,s.getD 1 0 + two,s.getD 2 0 - one - two] ++ s.drop 3
theorem oth_len {s : List Int} (h : s.length = 3 ∨ s.length = 4) : (oth s one two).length = s.length:=by
  unfold oth
  rw [List.length_append,List.length_drop]
  simp only [List.length_cons,List.length_nil]
  lia
theorem oth_sum {s : List Int} (h : s.length = 3 ∨ s.length = 4) : (oth s one two).sum = s.sum:=by
  match s,h with
  | [x,y,z],_=>simp [oth]; lia
  | [x,y,z,w],_=>simp [oth]; lia
  | [],h=>simp at h
  | [_],h=>simp at h
  | [_,_],h=>simp at h
  | _ :: _ :: _ :: _ :: _ :: _,h=>simp at h
theorem exL_len {s : List Int} : (exL c s E).length = 2 ^ c.length - 2:=by unfold exL; rw [List.length_map,rngB_len]
noncomputable def hbS (c : List Int) (E : Int) (i j a1 a2 s4 s5 r6 : Nat) (l7 l8 l9 l10 l11 l12 : Option V) (C : List (Option V)) (H : List L) : S:=hoS [some (.int (c.length : Nat)),some (.ref a1),some (.ref a2),some (.int E),some (.ref s4),some (.ref s5),some (.ref r6),l7,l8,l9,l10,l11,l12,none] i (some (.ref j)) none C H
theorem ho_mid {w : List Int} (hn : c.length = 3 ∨ c.length = 4) (hc : Cl c) (h0 : 0 ≤ μ) (hm : hS c μ = min E (c.sum - E)) (hw : w.length = 7) (hi : H[i]? = some (.ints w)) (hj : H[j]? = some (.ints c)) (ho : H[a1]? = some (.ints (sortI c))) (ha : H[a2]? = some (.ints (takenL c))) (h4 : H[s4]? = some (.ints (shL c E μ))) (h5 : H[s5]? = some (.ints (shL c E μ))) (hr : (Sp.rws (rowL 0 c) (rowL 1 c)).ok (.ref r6) H)
    (J : FSpec (sem1_4 5) [.li (sortI c),pi E] (.li ((sortI c).map (gS (shB c E) μ)))) :
    Do (sSeq m1_12_3 (sSeq m1_12_4 (sSeq m1_12_5 (sSeq m1_12_6 (sSeq m1_12_7 (sSeq m1_12_8 (sSeq m1_12_9 sNil))))))) (hbS c E i j a1 a2 s4 s5 r6 none none none none none none C H) (Out H (.is (.bool true))):=by
  have hl:=hc.len
  have hs:=sh_sum hm
  have sl : (shL c E μ).length = c.length:=sh_len
  have get : ∀ {H1 : List L} {l7 l8 l9 l10 l11 l12 : Option V} (k : Nat),H <+: H1 → k < 7 → Ev (mBin fItem (mCel 0) (mInt k)) (hbS c E i j a1 a2 s4 s5 r6 l7 l8 l9 l10 l11 l12 C H1) (pi (w.getD k 0)):=fun k p hk=>ev_item (k:=(k : Int)) (ev_li (ev_cel rfl at_0) (pre_get p hi)) ev_int (by lia) (by lia)
  refine do_seq (do_if1 ?_ fun H1 p1=>?_)
  · have t1:=evb_ne (σ:=hbS c E i j a1 a2 s4 s5 r6 none none none none none none C H) (ev_sum (ev_li (ev_loc (i:=4) rfl) h4)) (ev_loc (i:=3) rfl)
    rw [decide_eq_false (by rw [hs]; simp)] at t1
    have t2:=evb_zips (σ:=hbS c E i j a1 a2 s4 s5 r6 none none none none none none C H) (g:=gS (shB c E) μ) hn (ev_li (ev_cel (i:=1) rfl at_1) hj) (ev_li (ev_loc (i:=5) rfl) h5) (ev_li (ev_loc (i:=1) rfl) ho) (ev_call (k:=4) J (eva_cons (ev_li (ev_loc (i:=1) rfl) ho) (eva_1 (ev_loc (i:=3) rfl))))
    exact evb_or t1 fun _=>evb_or t2 fun _=>evb_or (evb_not (x:=true) (evb_test (ev_call (again_spec (E:=E) (μ:=μ) (cell:=w.getD 5 0) hc h0) (eva_cons (ev_li (ev_cel rfl at_1) hj) (eva_cons (ev_li (ev_loc rfl) h4) (eva_1 (get 5 pre_rfl (by decide)))))))) fun _=>evb_const
  refine do_seq (do_swap (ss:=[pi (w.getD 5 0 % 41 - 20),pi (w.getD 5 0 / 41 % 41 - 20)]) (σ:=hbS c E i j a1 a2 s4 s5 r6 none none none none none none C H1) (eva_cons (ev_sub (ev_mod (get 5 p1 (by decide)) ev_int (by decide)) ev_int) (eva_1 (ev_sub (ev_mod (ev_div (get 5 p1 (by decide)) ev_int (by decide) rfl) ev_int (by decide)) ev_int))) (by simp) fun vs H2 p2 k=>?_)
  refine k.e2 fun u v (e1 : u = _) (e2 : v = _)=>?_
  rw [e1,e2]
  generalize w.getD 5 0 % 41 - 20 = one
  generalize w.getD 5 0 / 41 % 41 - 20 = two
  refine ⟨hbS c E i j a1 a2 s4 s5 r6 (some (.int one)) (some (.int two)) none none none none C H2,rfl,?_⟩
  have q2:=p1.trans p2
  have g4 : ∀ k : Nat,k < 3 → Ev (mBin fItem (mLoc 4) (mInt k)) (hbS c E i j a1 a2 s4 s5 r6 (some (.int one)) (some (.int two)) none none none none C H2) (pi ((shL c E μ).getD k 0)):=fun k hk=>ev_item (k:=(k : Int)) (ev_li (ev_loc rfl) (pre_get q2 h4)) ev_int (by lia) (by rw [sl]; lia)
  refine do_seq (do_loc (s:=.li (oth (shL c E μ) one two)) (σ:=hbS c E i j a1 a2 s4 s5 r6 (some (.int one)) (some (.int two)) none none none none C H2) (ev_cat (xs:=[_,_,_]) (ev_list (eva_cons (ev_add (g4 0 (by decide)) (ev_loc rfl)) (eva_cons (ev_add (g4 1 (by decide)) (ev_loc rfl)) (eva_1 (ev_sub (ev_sub (g4 2 (by decide)) (ev_loc rfl)) (ev_loc rfl))))) (by simp)) (ev_drop (k:=3) (ev_li (ev_loc rfl) (pre_get q2 h4)) ev_int (by rw [sl]; lia) (by lia)) (by rw [List.length_drop,sl]; simp only [List.length_cons,List.length_nil]; lia)) fun v H3 p3 ⟨y9,e9,h9⟩=>?_)
  rw [e9]
  have q3:=q2.trans p3
  have ol : (oth (shL c E μ) one two).length = c.length:=by rw [oth_len (by rw [sl]; exact hn),sl]
  have os : (oth (shL c E μ) one two).sum = E:=by rw [oth_sum (by rw [sl]; exact hn),hs]
  have nuc:=nucleolus hn hc h0 hs ol os
  generalize oth (shL c E μ) one two = y at *
  refine do_seq (do_swap (ss:=[.li (sortI (exL c (shL c E μ) E)),.li (sortI (exL c (shL c E μ) E)),.li (sortI (exL c y E))]) (σ:=hbS c E i j a1 a2 s4 s5 r6 (some (.int one)) (some (.int two)) (some (.ref y9)) none none none C H3) ?_ (by simp) fun vs H4 p4 k=>?_)
  · have ex : ∀ {a f : Xm} {m : Nat} {s : List Int},m = 2 ∨ m = 0 → s.length = c.length → Ev a (hbS c E i j a1 a2 s4 s5 r6 (some (.int one)) (some (.int two)) (some (.ref y9)) none none none C H3) (.li s) → Ev (mCall (mFn 9) (dFn 9 sem1_9) (aCons (mCel 1) (aCons (mLoc 3) (aCons a (aCons (mFn m) aNil))))) (hbS c E i j a1 a2 s4 s5 r6 (some (.int one)) (some (.int two)) (some (.ref y9)) none none none C H3) (.li (sortI (exL c s E))):=fun hm' hs' ea=>ev_call (excesses_spec hc.ne hl hs' hm') (eva_cons (ev_li (ev_cel rfl at_1) (pre_get q3 hj)) (eva_cons (ev_loc rfl) (eva_cons ea (eva_1 ev_fn))))
    exact eva_cons (ex (f:=mNone) (.inl rfl) sl (ev_li (ev_loc rfl) (pre_get q3 h4))) (eva_cons (ex (f:=mNone) (.inr rfl) sl (ev_li (ev_loc rfl) (pre_get q3 h4))) (eva_1 (ex (f:=mNone) (.inr rfl) ol (ev_li (ev_loc rfl) h9))))
  refine k.e3 fun u v x ⟨b10,e1,h10⟩ ⟨b11,e2,h11⟩ ⟨b12,e3,h12⟩=>?_
  rw [e1,e2,e3]
  refine ⟨hbS c E i j a1 a2 s4 s5 r6 (some (.int one)) (some (.int two)) (some (.ref y9)) (some (.ref b10)) (some (.ref b11)) (some (.ref b12)) C H4,rfl,?_⟩
  have q4:=q3.trans p4
  have elen : ∀ s,(sortI (exL c s E)).length = 2 ^ c.length - 2:=fun s=>by rw [(sortI_perm _).length_eq,exL_len]
  have p16:=pow_le16 c.length (by lia)
  refine do_seq (do_if1 (σ:=hbS c E i j a1 a2 s4 s5 r6 (some (.int one)) (some (.int two)) (some (.ref y9)) (some (.ref b10)) (some (.ref b11)) (some (.ref b12)) C H4) ?_ fun H5 p5=>?_)
  · have t1:=evb_test (ev_neL (σ:=hbS c E i j a1 a2 s4 s5 r6 (some (.int one)) (some (.int two)) (some (.ref y9)) (some (.ref b10)) (some (.ref b11)) (some (.ref b12)) C H4) (ev_li (ev_loc (i:=10) rfl) h10) (ev_li (ev_loc (i:=11) rfl) h11))
    rw [decide_eq_true rfl] at t1
    have t2:=evb_test (ev_ltL (σ:=hbS c E i j a1 a2 s4 s5 r6 (some (.int one)) (some (.int two)) (some (.ref y9)) (some (.ref b10)) (some (.ref b11)) (some (.ref b12)) C H4) (ev_li (ev_loc (i:=11) rfl) h11) (ev_li (ev_loc (i:=12) rfl) h12) (by rw [elen,elen]))
    rw [nuc.1] at t2
    have t3:=evb_test (ev_neB (ev_eqL (σ:=hbS c E i j a1 a2 s4 s5 r6 (some (.int one)) (some (.int two)) (some (.ref y9)) (some (.ref b10)) (some (.ref b11)) (some (.ref b12)) C H4) (ev_li (ev_loc (i:=11) rfl) h11) (ev_li (ev_loc (i:=12) rfl) h12)) (ev_eqL (ev_li (ev_loc (i:=9) rfl) (pre_get p4 h9)) (ev_li (ev_loc (i:=4) rfl) (pre_get q4 h4))))
    have same : decide (sortI (exL c (shL c E μ) E) = sortI (exL c y E)) = decide (y = shL c E μ):=by
      by_cases e : y = shL c E μ
      · rw [decide_eq_true e,e]; simp
      · rw [decide_eq_false e,decide_eq_false (nuc.2 e)]
    rw [same,bne_self_eq_false] at t3
    exact evb_or t1 fun _=>evb_or t2 fun _=>evb_or t3 fun _=>evb_const
  have q5:=q4.trans p5
  exact out_mono q5 (ho_end (c:=c) (i:=i) (j:=j) (a2:=a2) (r6:=r6) (b11:=b11) hl (pre_get q5 hj) (pre_get q5 ha) (Sp.mono q5 hr) (pre_get p5 h11) (by rw [elen]; lia))
end
end Mine
namespace Mine
theorem sum_mod : ∀ {c : List Int},(∀ x ∈ c,x % 24 = 0) → c.sum % 24 = 0
  | [],_=>rfl
  | x :: c,h=>by
    have h1:=h x (by simp)
    have h2:=sum_mod fun y hy=>h y (List.mem_cons_of_mem _ hy)
    rw [List.sum_cons]; lia
noncomputable def modW (w : List Int) : Int:=([10,50,1000] : List Int).getD (w.getD 6 0 % 3).toNat 0
noncomputable def clW (w : List Int) : List Int:=(w.take (3 + (w.sum % 2).toNat)).map fun x=>24 * (x % modW w)
noncomputable def estW (w : List Int) : Int:=24 * (w.getD 4 0 % ((clW w).sum / 24 + 1))
section
variable {w : List Int} {i : Nat} {C : List (Option V)} {H : List L}
theorem modW_pos (w : List Int) : 0 < modW w:=by
  unfold modW
  have h0 : 0 ≤ w.getD 6 0 % 3:=Int.emod_nonneg _ (by decide)
  have h1 : w.getD 6 0 % 3 < 3:=Int.emod_lt_of_pos _ (by decide)
  generalize w.getD 6 0 % 3 = z at *
  have : z = 0 ∨ z = 1 ∨ z = 2:=by lia
  rcases this with e | e | e <;> subst e <;> decide
theorem clW_len (hw : w.length = 7) : (clW w).length = 3 ∨ (clW w).length = 4:=by
  unfold clW
  rw [List.length_map,List.length_take]
  lia
theorem clW_ok (hw : w.length = 7) : Cl (clW w) where
  ne:=fun q=>by have:=clW_len hw; rw [q] at this; simp at this
  len:=by have:=clW_len hw; lia
  nn:=fun x hx=>by
    obtain ⟨y,_,e⟩:=List.mem_map.mp hx
    have:=Int.emod_nonneg y (b:=modW w) (by have:=modW_pos w; lia)
    lia
  dv:=fun x hx=>by
    obtain ⟨y,_,e⟩:=List.mem_map.mp hx
    lia
theorem est_ok (hw : w.length = 7) : 0 ≤ estW w ∧ estW w ≤ (clW w).sum ∧ estW w % 12 = 0 ∧ ((clW w).sum - estW w) % 12 = 0:=by
  have hc:=clW_ok hw
  have h24:=sum_mod hc.dv
  have h0 : 0 ≤ (clW w).sum:=by
    have:=sum_ge (f:=id) (k:=0) (c:=clW w) fun x hx=>hc.nn x hx
    rw [List.map_id,Int.mul_zero] at this; exact this
  unfold estW
  generalize (clW w).sum = S at *
  have m0 : 0 ≤ w.getD 4 0 % (S / 24 + 1):=Int.emod_nonneg _ (by lia)
  have m1 : w.getD 4 0 % (S / 24 + 1) < S / 24 + 1:=Int.emod_lt_of_pos _ (by lia)
  generalize w.getD 4 0 % (S / 24 + 1) = z at *
  lia
theorem level_of (hw : w.length = 7) : ∃ μ,0 ≤ μ ∧ hS (clW w) μ = min (estW w) ((clW w).sum - estW w) ∧ FSpec (sem1_4 5) [.li (sortI (clW w)),pi (estW w)] (.li ((sortI (clW w)).map (gS (shB (clW w) (estW w)) μ))):=by
  have hc:=clW_ok hw
  have hp:=sortI_perm (clW w)
  have hsum : (sortI (clW w)).sum = (clW w).sum:=sum_perm hp
  obtain ⟨h1,h2,h3,h4⟩:=est_ok hw
  have hcs : Cl (sortI (clW w)):=⟨fun q=>hc.ne (by rw [q] at hp; exact List.nil_perm.mp hp),by rw [hp.length_eq]; exact hc.len,fun x hx=>hc.nn x (hp.mem_iff.mp hx),fun x hx=>hc.dv x (hp.mem_iff.mp hx)⟩
  obtain ⟨μ,m0,m1,m2⟩:=joined_spec 5 (sortI (clW w)) (estW w) (by have:=hcs.len; lia) hcs (sortI_sorted _) h1 (by rw [hsum]; exact h2) h3 (by rw [hsum]; exact h4)
  rw [hsum] at m1 m2
  refine ⟨μ,m0,?_,m2⟩
  rw [← m1]
  exact (sum_perm (hp.map _)).symm
theorem holds_spec (hw : w.length = 7) : FSpec sem1_12 [.li w] (.is (.bool true)):=fspec (fun vs h=>full_n h) rfl fun vs C H h=>h.e1 (P:=fun vs=>Do body1_12 (entry df1_12 vs C H) _) fun v ⟨i,e,hi⟩=>by
  subst e
  have hc:=clW_ok hw
  have hl:=hc.len
  obtain ⟨μ,h0,hm,J⟩:=level_of hw
  have e6 : 0 ≤ w.getD 6 0 % 3:=Int.emod_nonneg _ (by decide)
  have e6' : w.getD 6 0 % 3 < 3:=Int.emod_lt_of_pos _ (by decide)
  have h24:=sum_mod hc.dv
  have hS0 : 0 ≤ (clW w).sum:=by
    have:=sum_ge (f:=id) (k:=0) (c:=clW w) fun x hx=>hc.nn x hx
    rw [List.map_id,Int.mul_zero] at this; exact this
  refine do_seq (do_cel (i:=1) (c:=C.length + 1) (s:=.li (clW w)) (σ:=hoS [none,none,none,none,none,none,none,none,none,none,none,none,none,none] i none none C H) ?_ rfl (by show C.length + 1 < (C ++ [_,_,_]).length; simp) fun v H1 p1 ⟨j,ej,hj⟩=>?_)
  · refine ev_map (g:=fun x=>24 * (x % modW w)) (ev_it (ev_take (k:=3 + (w.sum % 2).toNat) (ev_li (ev_cel rfl at_0) hi) ?_ (by lia) (by lia))) (by rw [List.length_take]; lia) rfl fun x hx=>?_
    · rw [show ((3 + (w.sum % 2).toNat : Nat) : Int) = 3 + w.sum % 2 by lia]
      exact ev_add ev_int (ev_mod (ev_sum (ev_li (ev_cel rfl at_0) hi)) ev_int (by decide))
    · exact ev_mul ev_int (ev_mod (ev_loc rfl) (ev_item (ev_list (xs:=[10,50,1000]) (eva_cons ev_int (eva_cons ev_int (eva_1 ev_int))) (by simp)) (ev_mod (ev_item (k:=6) (ev_li (ev_cel rfl at_0) hi) ev_int (by decide) (by lia)) ev_int (by decide)) e6 (by simp; exact e6')) (modW_pos w)) rfl
  rw [ej]
  have eσ : ∀ x,hoS [none,none,none,none,none,none,none,none,none,none,none,none,none,none] i (some x) none C H1 = { hoS [none,none,none,none,none,none,none,none,none,none,none,none,none,none] i none none C H with C:=(hoS [none,none,none,none,none,none,none,none,none,none,none,none,none,none] i none none C H).C.set (C.length + 1) (some x),H:=H1 }:=fun x=>by
    unfold hoS; dsimp only; rw [set_1]
  rw [← eσ]
  have ec : Ev (mCel 1) (hoS [none,none,none,none,none,none,none,none,none,none,none,none,none,none] i (some (.ref j)) none C H1) (.li (clW w)):=ev_li (ev_cel rfl at_1) hj
  refine do_seq (do_unpack (ss:=[pi ((clW w).length : Nat),.li (sortI (clW w)),.li (takenL (clW w)),pi (estW w)]) (eva_cons (ev_len ec) (eva_cons (ev_sorted ec (by lia)) (eva_cons (ev_call (taken_spec (by lia)) (eva_1 ec)) (eva_1 (ev_mul ev_int (ev_mod (ev_item (k:=4) (ev_li (ev_cel rfl at_0) (pre_get p1 hi)) ev_int (by decide) (by lia)) (ev_add (ev_div (ev_sum ec) ev_int (by decide) rfl) ev_int) (by lia)) rfl))))) (by simp) fun vs H2 p2 k=>?_)
  refine k.e4 fun v0 v1 v2 v3 (e0 : v0 = _) ⟨a1,ea1,ho⟩ ⟨a2,ea2,ha⟩ (e3 : v3 = _)=>?_
  rw [e0,ea1,ea2,e3]
  refine ⟨hoS [some (.int ((clW w).length : Nat)),some (.ref a1),some (.ref a2),some (.int (estW w)),none,none,none,none,none,none,none,none,none,none] i (some (.ref j)) none C H2,rfl,?_⟩
  have hj2:=pre_get p2 hj
  have ec2 : ∀ t : Int,Ev (mCall (mFn 7) (dFn 7 sem1_7) (aCons (mCel 1) (aCons (mLoc 3) (aCons (mInt t) aNil)))) (hoS [some (.int ((clW w).length : Nat)),some (.ref a1),some (.ref a2),some (.int (estW w)),none,none,none,none,none,none,none,none,none,none] i (some (.ref j)) none C H2) (.li (shL (clW w) (estW w) μ)):=fun t=>ev_call (shared_spec (t:=t) hc h0 hm) (eva_cons (ev_li (ev_cel rfl at_1) hj2) (eva_cons (ev_loc rfl) (eva_1 ev_int)))
  have er2 : ∀ t : Int,Ev (mCall (mFn 5) (dFn 5 sem1_5) (aCons (mCel 1) (aCons (mInt t) aNil))) (hoS [some (.int ((clW w).length : Nat)),some (.ref a1),some (.ref a2),some (.int (estW w)),none,none,none,none,none,none,none,none,none,none] i (some (.ref j)) none C H2) (.li (rowL t (clW w))):=fun t=>ev_call (row_spec (t:=t) (by lia)) (eva_cons (ev_li (ev_cel rfl at_1) hj2) (eva_1 ev_int))
  refine do_seq (do_swap (ss:=[.li (shL (clW w) (estW w) μ),.li (shL (clW w) (estW w) μ),.rws (rowL 0 (clW w)) (rowL 1 (clW w))]) (eva_cons (ec2 0) (eva_cons (ec2 1) (eva_1 (ev_rows (er2 0) (er2 1))))) (by simp) fun vs H3 p3 k=>?_)
  refine k.e3 fun v4 v5 v6 ⟨s4,e4,h4⟩ ⟨s5,e5,h5⟩ h6=>?_
  obtain ⟨r6,a,b,e6,h6a⟩:=h6
  rw [e4,e5,e6]
  refine ⟨hbS (clW w) (estW w) i j a1 a2 s4 s5 r6 none none none none none none C H3,rfl,?_⟩
  have q:=(p1.trans p2).trans p3
  exact out_mono q (ho_mid (clW_len hw) hc h0 hm hw (pre_get q hi) (pre_get p3 hj2) (pre_get p3 ho) (pre_get p3 ha) h4 h5 ⟨r6,a,b,rfl,h6a⟩ J)
end
/-! the law -/
noncomputable def pk7 (k n : Nat) : Nat:=(sliceRange (sliceBounds (some (k : Int)) none (some 7) n).1 (sliceBounds (some (k : Int)) none (some 7) n).2.1 (sliceBounds (some (k : Int)) none (some 7) n).2.2).length
theorem pk7_le : ∀ n,n < 64 → ∀ k,k < 7 → pk7 k n ≤ 100:=by decide +kernel
theorem pick7_len {ys : List Int} {k : Nat} (hy : ys.length < 64) (hk : k < 7) : (pick ys (some (k : Int)) none (some 7)).length ≤ 100:=by
  refine Nat.le_trans (List.length_filterMap_le _ _) ?_
  exact pk7_le _ hy k hk
theorem ev_head {σ : S} {a : Xm} {xs : List Int} {n : Nat} (ea : Ev a σ (.is (.frz xs))) (hx : xs.length ≤ 63) : Ev (mSlice a mNone (mInt n) mNone) σ (.li (pick xs none (some (n : Int)) none)):=fun H p=>by
  have hl : (pick xs none (some (n : Int)) none).length ≤ 1048576:=by
    rw [pick_plain]; simp; lia
  unfold mSlice
  refine EvR.e (ea H p) fun v H1 p1 (e : v = _)=>?_
  rw [e]
  dsimp only [mNone,mInt,partOf]
  rw [if_neg (by simp)]
  rw [if_pos hl]
  exact ⟨_,_,p1.trans pre_app,new_at⟩
noncomputable def w0 : List Int:=[100,200,300,200,200,880,2]
theorem key1 (xs : List Int) (hx : xs.length ≤ 63) : ∃ H',sem1_13 [.frz xs] none [] [] = some (.bool true,H'):=by
  have F : FSpec sem1_13 [.is (.frz xs)] (.is (.bool true)):=fspec (fun vs h=>full_n h) rfl fun vs C H h=>h.e1 (P:=fun vs=>Do body1_13 (entry df1_13 vs C H) _) fun v (e : v = _)=>by
    rw [e]
    refine do_seq (do_cel (i:=1) (c:=C.length + 1) (s:=.li w0) (σ:={ loc:=[],cel:=[C.length,C.length + 1],C:=C ++ [some (.frz xs),none],H:=H }) (ev_list (eva_cons ev_int (eva_cons ev_int (eva_cons ev_int (eva_cons ev_int (eva_cons ev_int (eva_cons ev_int (eva_1 ev_int))))))) (by simp [w0])) rfl (by show C.length + 1 < (C ++ [_,_]).length; simp) fun v H1 p1 ⟨j,ej,hj⟩=>?_)
    rw [ej]
    dsimp only
    rw [set_1]
    have ec : Ev (mCompI 1000 1 [0,1] (putL 0) (iPlain (mArgs fRange3 (aCons (mInt 7) aNil))) (mConst true) (cElt (mBin fAdd (mBin fItem (mCel 1) (mLoc 0)) (mArgs fSum (aCons (mCompI 1000 1 [] (putL 0) (iPlain (mSlice (mSlice (mCel 0) mNone (mInt 60) mNone) (mLoc 0) mNone (mInt 7))) (mConst true) (cElt (mBin fMod (mLoc 0) (mInt 1000003)))) aNil))))) { loc:=[],cel:=[C.length,C.length + 1],C:=C ++ [some (.frz xs),some (.ref j)],H:=H1 }
        (.li ((rng 7).map fun p=>w0.getD p.toNat 0 + ((pick (pick xs none (some ((60 : Nat) : Int)) none) (some p) none (some 7)).map fun x=>x % 1000003).sum)):=by
      refine ev_map (ev_any (ev_rng1 (n:=7) ev_int (by decide))) (by rw [rng_len]; decide) rfl fun x hx7=>?_
      have hx7:=mem_rng.mp hx7
      have hl60 : (pick xs none (some ((60 : Nat) : Int)) none).length < 64:=by rw [pick_plain]; simp; lia
      have hl7:=pick7_len (ys:=pick xs none (some ((60 : Nat) : Int)) none) (k:=x.toNat) hl60 (by lia)
      rw [Int.toNat_of_nonneg hx7.1] at hl7
      refine ev_add (ev_item (ev_li (ev_cel rfl at_1) hj) (ev_loc rfl) hx7.1 (by simp [w0]; exact hx7.2)) (ev_sum (ev_map (g:=fun y=>y % 1000003) (ev_it (ev_slice (l:=some x) (h:=none) (t:=some 7) (ev_head (n:=60) (ev_cel rfl at_0) hx) (ev_loc rfl) ev_none ev_int rfl rfl rfl (by simp) (by lia))) (by lia) rfl fun y _=>ev_mod (ev_loc rfl) ev_int (by decide)))
    exact do_one (out_1 p1 (ev_call (holds_spec (by rw [List.length_map,rng_len])) (eva_1 ec)))
  have r:=F [.frz xs] [] [] ⟨rfl,trivial⟩
  revert r
  generalize sem1_13 [.frz xs] none [] [] = o
  intro r
  cases r with | mk v H' p k =>
  have k' : v = .bool true:=k
  exact ⟨H',by rw [k']⟩
end Mine
namespace Mine
noncomputable def prog1 : Program:=by
  refine (?f : (p : Program) → PySem.Challenge.pw_wb0001_01 = p → Program) ?p ?h
  case h=>delta PySem.Challenge.pw_wb0001_01; conv=>lhs; reduce
  case f=>exact fun p _=>p
theorem prog1_eq : prog1 = PySem.Challenge.pw_wb0001_01:=rfl
noncomputable def kE (P : Params) (n : Str) (t : Tok) (v : Value) : DictEntry:={ hash:=PyData.keyHash P n,key:=.str n t,val:=v }
noncomputable def kT (xs : List Value) : Obj:={ cls:=.type "tuple",data:=.seq ⟨xs⟩ 0 }
noncomputable def kD (es : List DictEntry) (n : Nat) : Obj:={ cls:=.type "dict",data:=.dict ⟨es⟩ n }
noncomputable def kF (n : Str) (i : Nat) (d k : Value) (m : Str) (mt : Tok) (c : Addr) : Obj:={ cls:=.type "function",data:=.func { name:=n,qualname:=n,params:=fnArgs prog1 i,body:=.stmts (fnBody prog1 i),scope:=fnScope prog1 i,globals:=3,closure:=[],defaults:=d,kwdefaults:=k,doc:=.none,pyModule:=.str m mt,annotations:=none,code:=.ref c,closureTuple:=.none,builtins:=0 } }
noncomputable def kC (n : Str) (t : Tok) (l a z : Int) (r : Addr) (v2 v3 : Value) (d : Nat) (t2 : Int) (t3 : Tok) : Obj:={ cls:=.type "code",data:=.fields ⟨[.str n t,.str n (t + 1),.str "/claim/cut.py" (t + 2),.int l 0,.int a 0,.int 0 0,.int z 0,.int 3 0,.ref r,.bool true,.int 181 0,.ref (r + 1),.none,v2,v3,.ref (r + d),.int t2 0,.int l 0,.str "/claim/cut.py" t3]⟩ }
noncomputable def kB (P : Params) (n : Str) (i : Nat) (b : Addr) (l : Int) (t t1 t2 : Tok) (t3 : Int) (t4 : Tok) : Frag :=
  [(b,kT [.int 0 t,.none]),(b + 1,kD [kE P "key" t1 .none] 1),(b + 7,kC n t2 l 4 1 (b + 2) (.ref (b + 4)) (.ref (b + 5)) 4 t3 t4),(b + 8,kF n i (.ref b) (.ref (b + 1)) "cpy313.bisect" 187 (b + 7))]
noncomputable def kV (n : Str) (r : Addr) (l a : Int) (t : Tok) (t2 : Int) (t3 : Tok) (i : Nat) : Frag:=[(r + 3,kC n t l a 0 r .none .none 2 t2 t3),(r + 4,kF n i .none .none "law_wb0001_01" 243 (r + 3))]
noncomputable def kU (n : Str) (r : Addr) (l a : Int) (t : Tok) (t2 : Int) (t3 : Tok) (i : Nat) : Frag:=[(r + 5,kC n t l a 0 r (.ref (r + 2)) (.ref (r + 3)) 4 t2 t3),(r + 6,kF n i .none .none "law_wb0001_01" 243 (r + 5))]
noncomputable def kM (P : Params) : Obj:=kD [kE P "__name__" 165 (.str "law_wb0001_01" 243),kE P "__doc__" 166 .none,kE P "__package__" 167 .none,kE P "__loader__" 168 (.builtin "__main__.__loader__#opaque"),kE P "__spec__" 169 .none,kE P "__annotations__" 170 (.ref 6),kE P "__builtins__" 171 (.ref 4),kE P "__file__" 173 (.str "/claim/cut.py" 172),kE P "__cached__" 174 .none,
    kE P "insort_right" 201 (.ref 23),kE P "bisect_right" 215 (.ref 32),kE P "insort_left" 228 (.ref 41),kE P "bisect_left" 242 (.ref 50),kE P "_law_joined" 250 (.ref 55),kE P "_law_row" 261 (.ref 62),kE P "_law_taken" 267 (.ref 67),kE P "_law_shared" 273 (.ref 72),kE P "_law_again" 279 (.ref 77),kE P "_law_excesses" 285 (.ref 82),kE P "_law_found" 291 (.ref 87),kE P "_law_refused" 301 (.ref 94),kE P "_law_holds" 307 (.ref 99),kE P "law" 313 (.ref 104)] 23
noncomputable def myK (P : Params) : Frag :=
  (2,{ cls:=.none,data:=.dict ⟨[]⟩ 0 }) ::
  (3,kM P) ::
  (kB P "insort_right" 1 15 2 189 190 191 199 200 ++ (kB P "bisect_right" 2 24 8 202 203 204 213 214 ++ (kB P "insort_left" 3 33 28 216 217 218 226 227 ++ (kB P "bisect_left" 4 42 34 229 230 231 240 241 ++ (kV "_law_joined" 51 55 2 245 248 249 6 ++ (kU "_law_row" 56 62 2 251 259 260 7 ++ (kV "_law_taken" 63 70 1 262 265 266 8 ++ (kV "_law_shared" 68 72 3 268 271 272 9 ++ (kV "_law_again" 73 81 3 274 277 278 10 ++ (kV "_law_excesses" 78 93 4 280 283 284 11 ++ (kV "_law_found" 83 100 4 286 289 290 12 ++ (kU "_law_refused" 88 108 1 292 299 300 13 ++ (kV "_law_holds" 95 118 1 302 305 306 14 ++ (kV "law" 100 134 1 308 311 312 15))))))))))))))
noncomputable def kS (t : Tok) (xs : List Str) : Obj:=kT (xs.zipIdx.map fun p=>.str p.1 (t + p.2))
noncomputable def kG (n : Str) (i : Nat) : Obj:={ cls:=.none,data:=.func { name:=n,qualname:=n,params:=fnArgs prog1 i,body:=.stmts (fnBody prog1 i),scope:=fnScope prog1 i,globals:=0,closure:=[],defaults:=.none,kwdefaults:=.none } }
noncomputable def k0 : Obj:={ cls:=.none,data:=.fields ⟨[]⟩ }
noncomputable def kA (P : Params) (n : Str) (i : Nat) (b : Addr) (l : Int) (t t1 t2 : Tok) (t3 : Int) (t4 : Tok) (xs : List Str) (r : List Obj) : List Obj :=
  kT [.int 0 t,.none] :: kD [kE P "key" t1 .none] 1 :: kT [] :: k0 :: kS (t2 + 3) xs :: kT [] :: kG n i :: kC n t2 l 4 1 (b + 2) (.ref (b + 4)) (.ref (b + 5)) 4 t3 t4 :: kF n i (.ref b) (.ref (b + 1)) "cpy313.bisect" 187 (b + 7) :: r
noncomputable def kW (n : Str) (r : Addr) (l a : Int) (t : Tok) (t2 : Int) (t3 : Tok) (i : Nat) (z : List Obj) : List Obj:=kT [] :: k0 :: kG n i :: kC n t l a 0 r .none .none 2 t2 t3 :: kF n i .none .none "law_wb0001_01" 243 (r + 3) :: z
noncomputable def kX (n : Str) (r : Addr) (l a : Int) (t : Tok) (t2 : Int) (t3 : Tok) (i : Nat) (x y : Obj) (z : List Obj) : List Obj:=kT [] :: k0 :: x :: y :: kG n i :: kC n t l a 0 r (.ref (r + 2)) (.ref (r + 3)) 4 t2 t3 :: kF n i .none .none "law_wb0001_01" 243 (r + 5) :: z
noncomputable def kH (P : Params) : Heap:=⟨⟨
  boot_o_0 P :: boot_o_1 P :: boot_o_2 P :: kM P :: boot_o_4 P :: boot_o_5 P :: boot_o_6 P :: boot_o_7 P :: boot_o_8 P :: boot_o_9 P :: boot_o_10 P :: kT [] ::
  { cls:=.none,data:=.fields ⟨[.int 2 0,.int 0 0,.ref 22,.int 8 0,.int 0 0,.ref 31,.int 28 0,.int 0 0,.ref 40,.int 34 0,.int 0 0,.ref 49,.int 55 0,.int 0 0,.ref 54,.int 62 0,.int 0 0,.ref 61,.int 70 0,.int 0 0,.ref 66,.int 72 0,.int 0 0,.ref 71,.int 81 0,.int 0 0,.ref 76,.int 93 0,.int 0 0,.ref 81,.int 100 0,.int 0 0,.ref 86,.int 108 0,.int 0 0,.ref 93,.int 118 0,.int 0 0,.ref 98,.int 134 0,.int 0 0,.ref 103]⟩ } ::
  { cls:=.type "code",data:=.fields ⟨[.str "<module>" 182,.str "<module>" 183,.str "/claim/cut.py" 184,.int 1 0,.int 0 0,.int 0 0,.int 0 0,.int 0 0,.ref 11,.bool false,.int 181 0,.ref 12,.none,.none,.none,.none,.int 185 0,.int 1 0,.str "/claim/cut.py" 186]⟩ } ::
  { cls:=.type "frame",slots:=⟨[some (.ref 13),some (.ref 3),some (.ref 3),none,some (.str "__main__" 164),none,some (.ref 0)]⟩ } ::
  kA P "insort_right" 1 15 2 189 190 191 199 200 ["a","x","lo","hi","key"] (
  kA P "bisect_right" 2 24 8 202 203 204 213 214 ["a","x","lo","hi","key","mid"] (
  kA P "insort_left" 3 33 28 216 217 218 226 227 ["a","x","lo","hi","key"] (
  kA P "bisect_left" 4 42 34 229 230 231 240 241 ["a","x","lo","hi","key","mid"] (
  kW "_law_joined" 51 55 2 245 248 249 6 (
  kX "_law_row" 56 62 2 251 259 260 7 (kS 254 ["claims","turn","row","place"]) (kS 258 ["claims"]) (
  kW "_law_taken" 63 70 1 262 265 266 8 (
  kW "_law_shared" 68 72 3 268 271 272 9 (
  kW "_law_again" 73 81 3 274 277 278 10 (
  kW "_law_excesses" 78 93 4 280 283 284 11 (
  kW "_law_found" 83 100 4 286 289 290 12 (
  kX "_law_refused" 88 108 1 292 299 300 13 (kS 295 ["row","call","kept","error"]) (kT []) (
  kW "_law_holds" 95 118 1 302 305 306 14 (
  kW "law" 100 134 1 308 311 312 15 ([]))))))))))))))⟩,(boot_heap P).life⟩
theorem t_run (w : World) (os : OsState) : topRun treeTable prog1 w 11 (some (.ref 6)) 500 ⟨boot_heap w.params,Array.mk [],boot_drawn,boot_toks,os⟩ (topStub prog1) = some ⟨kH w.params,Array.mk [],boot_drawn,314,os⟩:=by kernel_rfl
noncomputable def viewP : Program:={ prog1 with main:={ prog1.main with body:=prog1.main.body.drop 6 } }
theorem t_open : ∀ w : World,(fencedOpening treeTable prog1 w 880).map (fun s=>(s.heap,s.gens,s.drawn,s.toks)) = some (boot_heap w.params,Array.mk [],boot_drawn,boot_toks):=boot_open (by kernel_rfl) (by decide) (fun s=>by kernel_rfl)
theorem t_size (w : World) : ((boot_heap w.params).isNs mainGlobals && (Array.mk ([] : List GenState)).size == 0,(boot_heap w.params).objs.size,(boot_heap w.params).nsMap mainGlobals "__annotations__") = (true,11,some (.ref 6)):=by kernel_rfl
noncomputable abbrev kK : Hook:=kmHook myK [2,3,15,16,22,23,24,25,31,32,33,34,40,41,42,43,49,50,54,55,61,62,66,67,71,72,76,77,81,82,86,87,93,94,98,99,103,104] (fun _=>by kernel_rfl) [57,69,84]
noncomputable def row1 : OpenLaw:={ prog:=prog1,name:=Str.ofString "law",about:=[Str.ofString "bisect_left"],foot:=10,most:=some 63,bound:=none,writes:=false }
noncomputable def loose1 : List Str:=["insort_right","bisect_right","insort_left","bisect_left"]
theorem t_left : LeftO prog1 viewP loose1 (fun s=>xlAt viewP [] s && recOk (RowW.records (OpenRow.toRowW row1.row)) s) (Hook.obs kK) (Hook.val kK) 880:=LeftO.of_pieces t_open t_size t_run (by decide) fun w=>by kernel_rfl
theorem swapP (p : Program) (h : PySem.Challenge.pw_wb0001_01 = p) (k : OpenLaw.Holds { prog:=p,name:=Str.ofString "law",about:=[Str.ofString "bisect_left"],foot:=10,most:=some 63,bound:=none,writes:=false }) : PySem.Challenge.rw_wb0001_01.Holds:=by
  subst h; exact k
theorem ref_inj {a b : Addr} (h : some (Value.ref a) = some (.ref b)) : a = b:=by
  cases h; rfl
set_option tactic.hygienic true in
theorem joined1 : PySem.Challenge.rw_wb0001_01.Holds:=by
  refine swapP prog1 prog1_eq.symm (holds_law (l:=row1) (by kernel_rfl) fun said=>?_)
  refine holds_open (q:=viewP) (loose:=loose1) (Xt:=fun s=>xlAt viewP [] s && recOk (RowW.records (OpenRow.toRowW row1.row)) s) (XP:=XL viewP []) (Yf:=Hook.obs kK) (Ya:=Hook.val kK) (YP:=Hook.says kK) (N:=880) t_left (Hook.of kK) (Hook.keeps kK) (fun s e=>xl_of s (Bool.and_eq_true_iff.mp e).1) XL.keeps (by rfl) (by rfl) (by rfl) (fun s e=>recFacts_of (Bool.and_eq_true_iff.mp e).2) (by rfl) said (by kernel_rfl) ⟨rfl,rfl,rfl,rfl,rfl,by decide +kernel⟩ ?hw ?hc
  case hw=>delta row1 prog1; w_witness2
  intro w s₀ s₁ mg mb G Y fa o pm cd doc dV kV ho hd hcd hD hmg hg args vals as hpre hlay hrd hwl hlo
  have KX:=km_in_of Y
  have hT8:=km_tabs_of Y
  have T:=G.T
  have hT9 : TabsAt ([(61,57),(71,69),(86,84)] : List (Addr × Addr)) s₁.heap:=List.forall_mem_cons.mpr ⟨⟨codeHd_of_K (c:=61) (P:=57) KX (by kernel_rfl),hT8 57 (by simp)⟩,List.forall_mem_cons.mpr ⟨⟨codeHd_of_K (c:=71) (P:=69) KX (by kernel_rfl),hT8 69 (by simp)⟩,List.forall_mem_cons.mpr ⟨⟨codeHd_of_K (c:=86) (P:=84) KX (by kernel_rfl),hT8 84 (by simp)⟩,fun _ h=>nomatch h⟩⟩⟩
  have XK:=ghost_K hT9 KX (by kernel_rfl)
  have T':=ghost_top hT9 T
  have hfa : fa = 104:=ref_inj ((show mg (PySem.Str.ofString "law") = some (.ref fa) from hmg).symm.trans (mg_of (n:=PySem.Str.ofString "law") (v:=.ref 104) KX T.g (by kernel_rfl)))
  subst hfa
  clear hmg hcd hD hd ho G
  let X : Cx:={ prog:=prog1,w:=w,s₀:=s₁,h₀:=ghostOf s₁.heap [(61,57),(71,69),(86,84)],mg:=mg,mb:=mb,fn:=fun k=>[23,32,41,50,55,62,67,72,77,82,87,94,99,104][k]?,lams:=fun k=>[lam1_0,lam1_1,lam1_2,lam1_3,lam1_4][k]?,tabs:=[(61,57,"_law_row.<locals>.<lambda>"),(71,69,"_law_shared.<locals>.<lambda>"),(86,84,"_law_found.<locals>.<lambda>")] }
  have f0 : Mine.FnAt X 23 df1_0:=⟨⟨_,_,XK 23 _ rfl,rfl,rfl,rfl,rfl,rfl,rfl,rfl,rfl,⟨22,_,_,_,rfl,XK 22 _ rfl,rfl,rfl⟩,fun q e=>by cases e⟩,by decide +kernel,rfl⟩
  have b0 : BindOk X 23 df1_0 full1_0:=BindOk.bis rfl fun fd o ho hd s hk=>by
    have KS:=XK.keeps hk
    have e : X.h₀.get? 23 = some _:=XK 23 _ rfl
    rw [e] at ho; cases ho; cases hd
    exact ⟨_,fun _ _=>kp_binds KS fun _=>rfl,fun _ _ _=>kp_binds KS fun _=>rfl,fun _ _ _=>kp_binds KS fun _=>rfl,fun _ _ _ _=>kp_binds KS fun _=>rfl,fun _ _ _ _=>kp_binds KS fun _=>rfl,fun _ _ _ _ _=>kp_binds KS fun _=>rfl⟩
  have f1 : Mine.FnAt X 32 df1_1:=⟨⟨_,_,XK 32 _ rfl,rfl,rfl,rfl,rfl,rfl,rfl,rfl,rfl,⟨31,_,_,_,rfl,XK 31 _ rfl,rfl,rfl⟩,fun q e=>by cases e⟩,by decide +kernel,rfl⟩
  have b1 : BindOk X 32 df1_1 full1_1:=BindOk.bis rfl fun fd o ho hd s hk=>by
    have KS:=XK.keeps hk
    have e : X.h₀.get? 32 = some _:=XK 32 _ rfl
    rw [e] at ho; cases ho; cases hd
    exact ⟨_,fun _ _=>kp_binds KS fun _=>rfl,fun _ _ _=>kp_binds KS fun _=>rfl,fun _ _ _=>kp_binds KS fun _=>rfl,fun _ _ _ _=>kp_binds KS fun _=>rfl,fun _ _ _ _=>kp_binds KS fun _=>rfl,fun _ _ _ _ _=>kp_binds KS fun _=>rfl⟩
  have f2 : Mine.FnAt X 41 df1_2:=⟨⟨_,_,XK 41 _ rfl,rfl,rfl,rfl,rfl,rfl,rfl,rfl,rfl,⟨40,_,_,_,rfl,XK 40 _ rfl,rfl,rfl⟩,fun q e=>by cases e⟩,by decide +kernel,rfl⟩
  have b2 : BindOk X 41 df1_2 full1_2:=BindOk.bis rfl fun fd o ho hd s hk=>by
    have KS:=XK.keeps hk
    have e : X.h₀.get? 41 = some _:=XK 41 _ rfl
    rw [e] at ho; cases ho; cases hd
    exact ⟨_,fun _ _=>kp_binds KS fun _=>rfl,fun _ _ _=>kp_binds KS fun _=>rfl,fun _ _ _=>kp_binds KS fun _=>rfl,fun _ _ _ _=>kp_binds KS fun _=>rfl,fun _ _ _ _=>kp_binds KS fun _=>rfl,fun _ _ _ _ _=>kp_binds KS fun _=>rfl⟩
  have f3 : Mine.FnAt X 50 df1_3:=⟨⟨_,_,XK 50 _ rfl,rfl,rfl,rfl,rfl,rfl,rfl,rfl,rfl,⟨49,_,_,_,rfl,XK 49 _ rfl,rfl,rfl⟩,fun q e=>by cases e⟩,by decide +kernel,rfl⟩
  have b3 : BindOk X 50 df1_3 full1_3:=BindOk.bis rfl fun fd o ho hd s hk=>by
    have KS:=XK.keeps hk
    have e : X.h₀.get? 50 = some _:=XK 50 _ rfl
    rw [e] at ho; cases ho; cases hd
    exact ⟨_,fun _ _=>kp_binds KS fun _=>rfl,fun _ _ _=>kp_binds KS fun _=>rfl,fun _ _ _=>kp_binds KS fun _=>rfl,fun _ _ _ _=>kp_binds KS fun _=>rfl,fun _ _ _ _=>kp_binds KS fun _=>rfl,fun _ _ _ _ _=>kp_binds KS fun _=>rfl⟩
  have f4 : Mine.FnAt X 55 df1_4:=⟨⟨_,_,XK 55 _ rfl,rfl,rfl,rfl,rfl,rfl,rfl,rfl,rfl,⟨54,_,_,_,rfl,XK 54 _ rfl,rfl,rfl⟩,fun q e=>by cases e⟩,by decide +kernel,rfl⟩
  have b4 : BindOk X 55 df1_4 full1_4:=BindOk.plainN (n:=2) rfl rfl fun fd o ho hd s ys hk hl=>by
    have e : X.h₀.get? 55 = some _:=XK 55 _ rfl
    rw [e] at ho; cases ho; cases hd
    exact len_eS hl fun x0 ys hl=>len_eS hl fun x1 ys hl=>len_e0 hl (.of_eq rfl)
  have f5 : Mine.FnAt X 62 df1_5:=⟨⟨_,_,XK 62 _ rfl,rfl,rfl,rfl,rfl,rfl,rfl,rfl,rfl,⟨61,_,_,_,rfl,XK 61 _ rfl,rfl,rfl⟩,fun q e=>by cases e; rfl⟩,by decide +kernel,rfl⟩
  have b5 : BindOk X 62 df1_5 full1_5:=BindOk.plainN (n:=2) rfl rfl fun fd o ho hd s ys hk hl=>by
    have e : X.h₀.get? 62 = some _:=XK 62 _ rfl
    rw [e] at ho; cases ho; cases hd
    exact len_eS hl fun x0 ys hl=>len_eS hl fun x1 ys hl=>len_e0 hl (.of_eq rfl)
  have f6 : Mine.FnAt X 67 df1_6:=⟨⟨_,_,XK 67 _ rfl,rfl,rfl,rfl,rfl,rfl,rfl,rfl,rfl,⟨66,_,_,_,rfl,XK 66 _ rfl,rfl,rfl⟩,fun q e=>by cases e⟩,by decide +kernel,rfl⟩
  have b6 : BindOk X 67 df1_6 full1_6:=BindOk.plainN (n:=1) rfl rfl fun fd o ho hd s ys hk hl=>by
    have e : X.h₀.get? 67 = some _:=XK 67 _ rfl
    rw [e] at ho; cases ho; cases hd
    exact len_eS hl fun x0 ys hl=>len_e0 hl (.of_eq rfl)
  have f7 : Mine.FnAt X 72 df1_7:=⟨⟨_,_,XK 72 _ rfl,rfl,rfl,rfl,rfl,rfl,rfl,rfl,rfl,⟨71,_,_,_,rfl,XK 71 _ rfl,rfl,rfl⟩,fun q e=>by cases e; rfl⟩,by decide +kernel,rfl⟩
  have b7 : BindOk X 72 df1_7 full1_7:=BindOk.plainN (n:=3) rfl rfl fun fd o ho hd s ys hk hl=>by
    have e : X.h₀.get? 72 = some _:=XK 72 _ rfl
    rw [e] at ho; cases ho; cases hd
    exact len_eS hl fun x0 ys hl=>len_eS hl fun x1 ys hl=>len_eS hl fun x2 ys hl=>len_e0 hl (.of_eq rfl)
  have f8 : Mine.FnAt X 77 df1_8:=⟨⟨_,_,XK 77 _ rfl,rfl,rfl,rfl,rfl,rfl,rfl,rfl,rfl,⟨76,_,_,_,rfl,XK 76 _ rfl,rfl,rfl⟩,fun q e=>by cases e⟩,by decide +kernel,rfl⟩
  have b8 : BindOk X 77 df1_8 full1_8:=BindOk.plainN (n:=3) rfl rfl fun fd o ho hd s ys hk hl=>by
    have e : X.h₀.get? 77 = some _:=XK 77 _ rfl
    rw [e] at ho; cases ho; cases hd
    exact len_eS hl fun x0 ys hl=>len_eS hl fun x1 ys hl=>len_eS hl fun x2 ys hl=>len_e0 hl (.of_eq rfl)
  have f9 : Mine.FnAt X 82 df1_9:=⟨⟨_,_,XK 82 _ rfl,rfl,rfl,rfl,rfl,rfl,rfl,rfl,rfl,⟨81,_,_,_,rfl,XK 81 _ rfl,rfl,rfl⟩,fun q e=>by cases e⟩,by decide +kernel,rfl⟩
  have b9 : BindOk X 82 df1_9 full1_9:=BindOk.plainN (n:=4) rfl rfl fun fd o ho hd s ys hk hl=>by
    have e : X.h₀.get? 82 = some _:=XK 82 _ rfl
    rw [e] at ho; cases ho; cases hd
    exact len_eS hl fun x0 ys hl=>len_eS hl fun x1 ys hl=>len_eS hl fun x2 ys hl=>len_eS hl fun x3 ys hl=>len_e0 hl (.of_eq rfl)
  have f10 : Mine.FnAt X 87 df1_10:=⟨⟨_,_,XK 87 _ rfl,rfl,rfl,rfl,rfl,rfl,rfl,rfl,rfl,⟨86,_,_,_,rfl,XK 86 _ rfl,rfl,rfl⟩,fun q e=>by cases e; rfl⟩,by decide +kernel,rfl⟩
  have b10 : BindOk X 87 df1_10 full1_10:=BindOk.plainN (n:=4) rfl rfl fun fd o ho hd s ys hk hl=>by
    have e : X.h₀.get? 87 = some _:=XK 87 _ rfl
    rw [e] at ho; cases ho; cases hd
    exact len_eS hl fun x0 ys hl=>len_eS hl fun x1 ys hl=>len_eS hl fun x2 ys hl=>len_eS hl fun x3 ys hl=>len_e0 hl (.of_eq rfl)
  have f11 : Mine.FnAt X 94 df1_11:=⟨⟨_,_,XK 94 _ rfl,rfl,rfl,rfl,rfl,rfl,rfl,rfl,rfl,⟨93,_,_,_,rfl,XK 93 _ rfl,rfl,rfl⟩,fun q e=>by cases e⟩,by decide +kernel,rfl⟩
  have b11 : BindOk X 94 df1_11 full1_11:=BindOk.plainN (n:=1) rfl rfl fun fd o ho hd s ys hk hl=>by
    have e : X.h₀.get? 94 = some _:=XK 94 _ rfl
    rw [e] at ho; cases ho; cases hd
    exact len_eS hl fun x0 ys hl=>len_e0 hl (.of_eq rfl)
  have f12 : Mine.FnAt X 99 df1_12:=⟨⟨_,_,XK 99 _ rfl,rfl,rfl,rfl,rfl,rfl,rfl,rfl,rfl,⟨98,_,_,_,rfl,XK 98 _ rfl,rfl,rfl⟩,fun q e=>by cases e⟩,by decide +kernel,rfl⟩
  have b12 : BindOk X 99 df1_12 full1_12:=BindOk.plainN (n:=1) rfl rfl fun fd o ho hd s ys hk hl=>by
    have e : X.h₀.get? 99 = some _:=XK 99 _ rfl
    rw [e] at ho; cases ho; cases hd
    exact len_eS hl fun x0 ys hl=>len_e0 hl (.of_eq rfl)
  have f13 : Mine.FnAt X 104 df1_13:=⟨⟨_,_,XK 104 _ rfl,rfl,rfl,rfl,rfl,rfl,rfl,rfl,rfl,⟨103,_,_,_,rfl,XK 103 _ rfl,rfl,rfl⟩,fun q e=>by cases e⟩,by decide +kernel,rfl⟩
  have b13 : BindOk X 104 df1_13 full1_13:=BindOk.plainN (n:=1) rfl rfl fun fd o ho hd s ys hk hl=>by
    have e : X.h₀.get? 104 = some _:=XK 104 _ rfl
    rw [e] at ho; cases ho; cases hd
    exact len_eS hl fun x0 ys hl=>len_e0 hl (.of_eq rfl)
  have g : G1 X (fun k=>[23,32,41,50,55,62,67,72,77,82,87,94,99,104].getD k 0) :=
    { O:={ g:=T'.g,b:=T'.b,nolimit:=T'.nolimit,builtins:=T'.builtins,bmain:=T'.bmain,codes:=fun q hq=>by
               have h:=ghost_code hT9
               simp only [X,List.mem_cons,List.not_mem_nil,or_false] at hq
               rcases hq with rfl | rfl | rfl
               all_goals first | exact h.1 | exact h.2.1 | exact h.2.2.1 | exact h.2.2.2.1 | exact h.2.2.2.2.1 ,gens:=hg }
      OT:={ nodup:=by show ([57,69,84] : List Addr).Nodup; decide,hidden:=fun P hP=>by
               simp only [X,Cx.ptabs,List.map_cons,List.map_nil,List.mem_cons,List.not_mem_nil,or_false] at hP
               rcases hP with rfl | rfl | rfl
               all_goals exact hidden_get _ (by simp) }
      mg_0:=mg_of KX T.g (by kernel_rfl)
      fn_0:=rfl
      at_0:=f0
      bind_0:=b0
      mg_1:=mg_of KX T.g (by kernel_rfl)
      fn_1:=rfl
      at_1:=f1
      bind_1:=b1
      mg_2:=mg_of KX T.g (by kernel_rfl)
      fn_2:=rfl
      at_2:=f2
      bind_2:=b2
      mg_3:=mg_of KX T.g (by kernel_rfl)
      fn_3:=rfl
      at_3:=f3
      bind_3:=b3
      mg_4:=mg_of KX T.g (by kernel_rfl)
      fn_4:=rfl
      at_4:=f4
      bind_4:=b4
      mg_5:=mg_of KX T.g (by kernel_rfl)
      fn_5:=rfl
      at_5:=f5
      bind_5:=b5
      mg_6:=mg_of KX T.g (by kernel_rfl)
      fn_6:=rfl
      at_6:=f6
      bind_6:=b6
      mg_7:=mg_of KX T.g (by kernel_rfl)
      fn_7:=rfl
      at_7:=f7
      bind_7:=b7
      mg_8:=mg_of KX T.g (by kernel_rfl)
      fn_8:=rfl
      at_8:=f8
      bind_8:=b8
      mg_9:=mg_of KX T.g (by kernel_rfl)
      fn_9:=rfl
      at_9:=f9
      bind_9:=b9
      mg_10:=mg_of KX T.g (by kernel_rfl)
      fn_10:=rfl
      at_10:=f10
      bind_10:=b10
      mg_11:=mg_of KX T.g (by kernel_rfl)
      fn_11:=rfl
      at_11:=f11
      bind_11:=b11
      mg_12:=mg_of KX T.g (by kernel_rfl)
      fn_12:=rfl
      at_12:=f12
      bind_12:=b12
      mg_13:=mg_of KX T.g (by kernel_rfl)
      fn_13:=rfl
      at_13:=f13
      bind_13:=b13
      no_ValueError:=ns_none_of KX T.g (by kernel_rfl)
      no_len:=ns_none_of KX T.g (by kernel_rfl)
      no_list:=ns_none_of KX T.g (by kernel_rfl)
      no_max:=ns_none_of KX T.g (by kernel_rfl)
      no_min:=ns_none_of KX T.g (by kernel_rfl)
      no_range:=ns_none_of KX T.g (by kernel_rfl)
      no_set:=ns_none_of KX T.g (by kernel_rfl)
      no_sorted:=ns_none_of KX T.g (by kernel_rfl)
      no_str:=ns_none_of KX T.g (by kernel_rfl)
      no_sum:=ns_none_of KX T.g (by kernel_rfl)
      no_zip:=ns_none_of KX T.g (by kernel_rfl)
      lam_0:=rfl
      lam_1:=rfl
      lam_2:=rfl
      lam_3:=rfl
      lam_4:=rfl
      tabs:=by show 3 ≤ 1000; omega
      tab_5:=⟨_,rfl,rfl⟩
      tab_7:=⟨_,rfl,rfl⟩
      tab_10:=⟨_,rfl,rfl⟩
    }
  wrow_args hpre hlay hrd hwl hlo
  rename_i xs _ _ _ _ _ _ _ l its _ hL _ _ _ hI _ hlen _
  have hxs : xs.length ≤ 63:=by
    have h1 : ¬ ((63 : Int) < xs.length):=by assumption
    omega
  obtain ⟨H',ef⟩:=Mine.key1 xs hxs
  have hl:=hI.length
  exact join_end (X:=X) (n:=40) (vs:=[]) rfl rfl rfl hT9 hg (by decide) (call1_13 (n:=40) g (by decide)) (.frz (ghost_list hT9 hL) (vrs_of_ints hI) (by omega)) ef (fun _ _=>rfl) (postW_of (by wrow_shape) (w_eq_bool (w_res rfl) w_lit) rfl) trivial g.OT.nodup
end Mine
theorem PySem.Challenge.cw_wb0001_01_holds : PySem.Challenge.rw_wb0001_01.Holds :=
  Mine.joined1

