import PyProof.Rows.All
import Wide.All
import OpenK.AllK
import Wide.FinOn
import Lean
import PySem.Challenge.RW_wb0001_03
open PySem PySem.W PyProof.Rows
set_option Elab.async false
set_option maxRecDepth 100000
set_option maxHeartbeats 8000000
set_option linter.unusedVariables false
set_option linter.all false
namespace Mine
inductive V where
  | none
  | bool (b : Bool)
  | int (i : Int)
  | str (s : Str)
  | ref (i : Nat)
  | tup (vs : List V)
  | rng (a b c : Int)
  | fn (k : Nat)
  | clo (k : Nat) (cs : List Nat)
  | frz (xs : List Int)
inductive L where
  | ints (xs : List Int)
  | vals (vs : List V)
noncomputable def L.vs : L → List V
  | .ints xs => xs.map .int
  | .vals vs => vs
structure Lam where
  params : Arguments
  body : PySem.Expr
  scope : Scope
  qual : Str
  names : List Str
structure Cx where
  prog : Program
  w : World
  s₀ : Shared
  h₀ : Heap
  mg : Str → Option Value
  mb : Str → Option Value
  fn : Nat → Option Addr
  lams : Nat → Option Lam
  tabs : List (Addr × Addr × Str)
noncomputable def Cx.ptabs (X : Cx) : List Addr := X.tabs.map (·.2.1)
noncomputable def CodeC (h : Heap) (cd : Value) (q : Str) : Prop := ∃ c o vs t, cd = .ref c ∧ h.get? c = some o ∧ o.cls = .type "code" ∧ o.data = .fields vs ∧ vs[1]? = some (.str q t)
theorem CodeC.rec {h : Heap} {cd : Value} {q : Str} (x : CodeC h cd q) : h.CodeRec cd q :=
  let ⟨c, o, vs, t, e, a, _, b, d⟩ := x; ⟨c, o, vs, t, e, a, b, d⟩
/-- what never changes once it is made -/
noncomputable def Stable (o : Obj) : Prop := (∃ its n, o.data = .seq its n ∧ o.cls = .type "tuple") ∨ (∃ vs, o.data = .fields vs ∧ (o.cls = .type "range" ∨ o.cls = .type "code")) ∨ (∃ fd, o.data = .func fd)
noncomputable def Stab (h h' : Heap) : Prop := ∀ b o, h.get? b = some o → Stable o → h'.get? b = some o
theorem Stab.refl (h : Heap) : Stab h h := fun _ _ e _ => e
theorem Stab.trans {h h' h'' : Heap} (x : Stab h h') (y : Stab h' h'') : Stab h h'' := fun b o e s => y b o (x b o e s) s
theorem CodeC.stab {h h' : Heap} {cd : Value} {q : Str} (k : Stab h h') (x : CodeC h cd q) : CodeC h' cd q :=
  let ⟨c, o, vs, t, e, a, b, d, f⟩ := x; ⟨c, o, vs, t, e, k _ _ a (.inr (.inl ⟨vs, d, .inr b⟩)), b, d, f⟩
noncomputable def lamFd (l : Lam) (closure : List (Str × Addr)) (pm cd ct : Value) : FuncData :=
  { name := "<lambda>", qualname := l.qual, params := l.params, body := .expr l.body, scope := l.scope, globals := mainGlobals, closure := closure, defaults := .none, kwdefaults := .none,
    doc := .none, pyModule := pm, annotations := none, code := cd, closureTuple := ct, builtins := builtinsNs }
mutual
inductive VR (X : Cx) (h : Heap) : (μ ν : List Addr) → Value → V → Prop
  | none {μ ν} : VR X h μ ν .none .none
  | bool {μ ν} (b : Bool) : VR X h μ ν (.bool b) (.bool b)
  | int {μ ν} (i : Int) (t : Tok) : VR X h μ ν (.int i t) (.int i)
  | str {μ ν} (s : Str) (t : Tok) : VR X h μ ν (.str s t) (.str s)
  | ref {μ ν} {i : Nat} {a : Addr} (e : μ[i]? = some a) : VR X h μ ν (.ref a) (.ref i)
  | tup {μ ν} {a : Addr} {its : List Value} {n : Nat} {vs : List V} (e : h.get? a = some { cls := .type "tuple", data := .seq its.toArray n }) (r : VRs X h μ ν its vs) : VR X h μ ν (.ref a) (.tup vs)
  | rng {μ ν} {r : Addr} {a b c : Int} {t u v : Tok} (e : IsRange h r a b c t u v) : VR X h μ ν (.ref r) (.rng a b c)
  | fn {μ ν} {k : Nat} {a : Addr} (e : X.fn k = some a) : VR X h μ ν (.ref a) (.fn k)
  | clo {μ ν} {a k : Nat} {cs : List Nat} {l : Lam} {cl : List (Str × Addr)} {pm cd ct : Value} (e : h.get? a = some { cls := .type "function", data := .func (lamFd l cl pm cd ct) })
      (hl : X.lams k = some l) (hc : CodeC h cd l.qual) (hn : cl.map (·.1) = l.names) (ha : cs.map (fun c => ν[c]?) = cl.map (fun x => some x.2)) : VR X h μ ν (.ref a) (.clo k cs)
  | frz {μ ν} {a : Addr} {its : List Value} {xs : List Int} (e : X.h₀.IsList a its.toArray) (r : VRs X h [] [] its (xs.map .int)) (hz : its.length ≤ 1048576) : VR X h μ ν (.ref a) (.frz xs)
inductive VRs (X : Cx) (h : Heap) : (μ ν : List Addr) → List Value → List V → Prop
  | nil {μ ν} : VRs X h μ ν [] []
  | cons {μ ν} {x : Value} {v : V} {xs : List Value} {vs : List V} (a : VR X h μ ν x v) (b : VRs X h μ ν xs vs) : VRs X h μ ν (x :: xs) (v :: vs)
end
section
variable {X : Cx} {h : Heap} {μ ν : List Addr}
@[elab_as_elim] theorem VR.none_e {P : Value → Prop} {x : Value} (r : VR X h μ ν x .none) (k : P .none) : P x := by cases r; exact k
@[elab_as_elim] theorem VR.bool_e {P : Value → Prop} {x : Value} {b : Bool} (r : VR X h μ ν x (.bool b)) (k : P (.bool b)) : P x := by cases r; exact k
@[elab_as_elim] theorem VR.int_e {P : Value → Prop} {x : Value} {i : Int} (r : VR X h μ ν x (.int i)) (k : ∀ t, P (.int i t)) : P x := by cases r; exact k _
@[elab_as_elim] theorem VR.str_e {P : Value → Prop} {x : Value} {i : Str} (r : VR X h μ ν x (.str i)) (k : ∀ t, P (.str i t)) : P x := by cases r; exact k _
@[elab_as_elim] theorem VR.ref_e {P : Value → Prop} {x : Value} {i : Nat} (r : VR X h μ ν x (.ref i)) (k : ∀ a, μ[i]? = some a → P (.ref a)) : P x := by cases r; exact k _ ‹_›
@[elab_as_elim] theorem VR.tup_e {P : Value → Prop} {x : Value} {vs : List V} (r : VR X h μ ν x (.tup vs)) (k : ∀ a its n, h.get? a = some { cls := .type "tuple", data := .seq (List.toArray its) n } → VRs X h μ ν its vs → P (.ref a)) : P x := by cases r; exact k _ _ _ ‹_› ‹_›
@[elab_as_elim] theorem VR.rng_e {P : Value → Prop} {x : Value} {a b c : Int} (r : VR X h μ ν x (.rng a b c)) (k : ∀ r t u v, IsRange h r a b c t u v → P (.ref r)) : P x := by cases r; exact k _ _ _ _ ‹_›
@[elab_as_elim] theorem VR.fn_e {P : Value → Prop} {x : Value} {j : Nat} (r : VR X h μ ν x (.fn j)) (k : ∀ a, X.fn j = some a → P (.ref a)) : P x := by cases r; exact k _ ‹_›
@[elab_as_elim] theorem VR.clo_e {P : Value → Prop} {x : Value} {j : Nat} {cs : List Nat} (r : VR X h μ ν x (.clo j cs)) (k : ∀ (a : Nat) (l : Lam) (cl : List (Str × Addr)) (pm cd ct : Value), h.get? a = some { cls := .type "function", data := .func (lamFd l cl pm cd ct) } → X.lams j = some l → CodeC h cd l.qual → cl.map (·.1) = l.names → cs.map (fun c => ν[c]?) = cl.map (fun x => some x.2) → P (.ref a)) : P x := by
  cases r; exact k _ _ _ _ _ _ ‹_› ‹_› ‹_› ‹_› ‹_›
@[elab_as_elim] theorem VR.frz_e {P : Value → Prop} {x : Value} {xs : List Int} (r : VR X h μ ν x (.frz xs)) (k : ∀ (a : Nat) (its : List Value), X.h₀.IsList a its.toArray → VRs X h [] [] its (xs.map .int) → its.length ≤ 1048576 → P (.ref a)) : P x := by cases r; exact k _ _ ‹_› ‹_› ‹_›
@[elab_as_elim] theorem VRs.nil_e {P : List Value → Prop} {xs : List Value} (r : VRs X h μ ν xs []) (k : P []) : P xs := by cases r; exact k
@[elab_as_elim] theorem VRs.cons_e {P : List Value → Prop} {xs : List Value} {v : V} {vs : List V} (r : VRs X h μ ν xs (v :: vs)) (k : ∀ x ys, VR X h μ ν x v → VRs X h μ ν ys vs → P (x :: ys)) : P xs := by cases r; exact k _ _ ‹_› ‹_›
@[elab_as_elim] theorem VRs.e1 {P : List Value → Prop} {xs : List Value} {v : V} (r : VRs X h μ ν xs [v]) (k : ∀ x, VR X h μ ν x v → P [x]) : P xs := r.cons_e fun x _ rx r => r.nil_e (k x rx)
@[elab_as_elim] theorem VRs.e2 {P : List Value → Prop} {xs : List Value} {v w : V} (r : VRs X h μ ν xs [v, w]) (k : ∀ x y, VR X h μ ν x v → VR X h μ ν y w → P [x, y]) : P xs := r.cons_e fun x _ rx r => r.e1 fun y ry => k x y rx ry
@[elab_as_elim] theorem VRs.e3 {P : List Value → Prop} {xs : List Value} {v w u : V} (r : VRs X h μ ν xs [v, w, u]) (k : ∀ x y z, VR X h μ ν x v → VR X h μ ν y w → VR X h μ ν z u → P [x, y, z]) : P xs := r.cons_e fun x _ rx r => r.e2 fun y z ry rz => k x y z rx ry rz
@[elab_as_elim] theorem VRs.e4 {P : List Value → Prop} {xs : List Value} {v w u o : V} (r : VRs X h μ ν xs [v, w, u, o]) (k : ∀ x y z q, VR X h μ ν x v → VR X h μ ν y w → VR X h μ ν z u → VR X h μ ν q o → P [x, y, z, q]) : P xs := r.cons_e fun x _ rx r => r.e3 fun y z q ry rz rq => k x y z q rx ry rz rq
/-- an induction over what two lists share -/
theorem VRs.ind {P : List Value → List V → Prop} (h0 : P [] []) (h1 : ∀ x v xs vs, VR X h μ ν x v → VRs X h μ ν xs vs → P xs vs → P (x :: xs) (v :: vs)) : ∀ {xs : List Value} {vs : List V}, VRs X h μ ν xs vs → P xs vs := fun {xs vs} => by
  induction vs generalizing xs with
  | nil => exact fun r => r.nil_e h0
  | cons v vs ih => exact fun r => r.cons_e fun x ys rx rs => h1 _ _ _ _ rx rs (ih rs)
end
theorem getElem?_pre {α : Type} {l l' : List α} (hp : l <+: l') {i : Nat} {a : α} (e : l[i]? = some a) : l'[i]? = some a := by
  obtain ⟨r, rfl⟩ := hp
  rw [List.getElem?_append_left (List.getElem?_eq_some_iff.mp e).1]; exact e
theorem map_pre {ν ν' : List Addr} (hp : ν <+: ν') : ∀ {cs : List Nat} {cl : List (Str × Addr)}, cs.map (fun c => ν[c]?) = cl.map (fun x => some x.2) → cs.map (fun c => ν'[c]?) = cl.map (fun x => some x.2)
  | [], [], _ => rfl
  | [], _ :: _, e => by cases e
  | _ :: _, [], e => by cases e
  | c :: cs, x :: cl, e => by
    simp only [List.map_cons, List.cons.injEq] at e ⊢
    exact ⟨getElem?_pre hp e.1, map_pre hp e.2⟩
theorem VRs.of_map {X : Cx} {h h' : Heap} {μ μ' ν ν' : List Addr} {vs : List V} : ∀ {xs : List Value}, VRs X h μ ν xs vs → (∀ x, ∀ v ∈ vs, VR X h μ ν x v → VR X h' μ' ν' x v) → VRs X h' μ' ν' xs vs := by
  induction vs with
  | nil => exact fun r _ => r.nil_e .nil
  | cons v vs ih => exact fun r k => r.cons_e fun x ys rx rs => .cons (k _ _ (List.mem_cons_self ..) rx) (ih rs fun x v hv => k x v (List.mem_cons_of_mem _ hv))
theorem mono_both {X : Cx} {h h' : Heap} (k : Stab h h') : (∀ {μ ν : List Addr} {x : Value} {v : V}, VR X h μ ν x v → ∀ μ' ν' : List Addr, μ <+: μ' → ν <+: ν' → VR X h' μ' ν' x v) ∧ (∀ {μ ν : List Addr} {xs : List Value} {vs : List V}, VRs X h μ ν xs vs → ∀ μ' ν' : List Addr, μ <+: μ' → ν <+: ν' → VRs X h' μ' ν' xs vs) :=
  ⟨fun r => VR.rec (motive_1 := fun μ ν x v _ => ∀ μ' ν' : List Addr, μ <+: μ' → ν <+: ν' → VR X h' μ' ν' x v) (motive_2 := fun μ ν x v _ => ∀ μ' ν' : List Addr, μ <+: μ' → ν <+: ν' → VRs X h' μ' ν' x v)
    (fun _ _ _ _ => .none) (fun b _ _ _ _ => .bool b) (fun i t _ _ _ _ => .int i t) (fun s t _ _ _ _ => .str s t) (fun e _ _ hp _ => .ref (getElem?_pre hp e)) (fun e _ ih _ _ hp hq => .tup (k _ _ e (.inl ⟨_, _, rfl, rfl⟩)) (ih _ _ hp hq)) (fun e _ _ _ _ => .rng (k _ _ e (.inr (.inl ⟨_, rfl, .inl rfl⟩)))) (fun e _ _ _ _ => .fn e)
    (fun e hl hc hn ha _ _ _ hq => .clo (k _ _ e (.inr (.inr ⟨_, rfl⟩))) hl (hc.stab k) hn (map_pre hq ha)) (fun e _ hz ih _ _ _ _ => .frz e (ih _ _ (List.prefix_refl _) (List.prefix_refl _)) hz) (fun _ _ _ _ => .nil) (fun _ _ iha ihb _ _ hp hq => .cons (iha _ _ hp hq) (ihb _ _ hp hq)) r,
   fun r => VRs.rec (motive_1 := fun μ ν x v _ => ∀ μ' ν' : List Addr, μ <+: μ' → ν <+: ν' → VR X h' μ' ν' x v) (motive_2 := fun μ ν x v _ => ∀ μ' ν' : List Addr, μ <+: μ' → ν <+: ν' → VRs X h' μ' ν' x v)
    (fun _ _ _ _ => .none) (fun b _ _ _ _ => .bool b) (fun i t _ _ _ _ => .int i t) (fun s t _ _ _ _ => .str s t) (fun e _ _ hp _ => .ref (getElem?_pre hp e)) (fun e _ ih _ _ hp hq => .tup (k _ _ e (.inl ⟨_, _, rfl, rfl⟩)) (ih _ _ hp hq)) (fun e _ _ _ _ => .rng (k _ _ e (.inr (.inl ⟨_, rfl, .inl rfl⟩)))) (fun e _ _ _ _ => .fn e)
    (fun e hl hc hn ha _ _ _ hq => .clo (k _ _ e (.inr (.inr ⟨_, rfl⟩))) hl (hc.stab k) hn (map_pre hq ha)) (fun e _ hz ih _ _ _ _ => .frz e (ih _ _ (List.prefix_refl _) (List.prefix_refl _)) hz) (fun _ _ _ _ => .nil) (fun _ _ iha ihb _ _ hp hq => .cons (iha _ _ hp hq) (ihb _ _ hp hq)) r⟩
theorem VR.mono {X : Cx} {h h' : Heap} (k : Stab h h') {μ μ' ν ν' : List Addr} (hp : μ <+: μ') (hq : ν <+: ν') {x : Value} {v : V} (r : VR X h μ ν x v) : VR X h' μ' ν' x v := (mono_both k).1 r _ _ hp hq
theorem VRs.mono {X : Cx} {h h' : Heap} (k : Stab h h') {μ μ' ν ν' : List Addr} (hp : μ <+: μ') (hq : ν <+: ν') {xs : List Value} {vs : List V} (r : VRs X h μ ν xs vs) : VRs X h' μ' ν' xs vs := (mono_both k).2 r _ _ hp hq
section
variable {X : Cx} {h : Heap} {μ ν : List Addr}
theorem VRs.length : ∀ {xs : List Value} {vs : List V}, VRs X h μ ν xs vs → xs.length = vs.length :=
  VRs.ind (P := fun xs vs => xs.length = vs.length) rfl fun _ _ _ _ _ _ ih => congrArg (· + 1) ih
theorem VRs.append {xs ys : List Value} {vs us : List V} (r : VRs X h μ ν xs vs) (q : VRs X h μ ν ys us) : VRs X h μ ν (xs ++ ys) (vs ++ us) :=
  VRs.ind (P := fun xs vs => VRs X h μ ν (xs ++ ys) (vs ++ us)) q (fun _ _ _ _ a _ ih => .cons a ih) r
theorem VRs.get {xs : List Value} {vs : List V} (r : VRs X h μ ν xs vs) : ∀ {i : Nat} {v : V}, vs[i]? = some v → ∃ x, xs[i]? = some x ∧ VR X h μ ν x v :=
  VRs.ind (P := fun xs vs => ∀ {i : Nat} {v : V}, vs[i]? = some v → ∃ x, xs[i]? = some x ∧ VR X h μ ν x v) (fun e => by simp at e) (fun x w xs vs a _ ih i v e => by
    cases i with
    | zero =>
      rw [List.getElem?_cons_zero, Option.some.injEq] at e
      exact ⟨x, rfl, e ▸ a⟩
    | succ i => exact ih e) r
theorem VRs.getNone {X : Cx} {h : Heap} {μ ν : List Addr} {xs : List Value} {vs : List V} (r : VRs X h μ ν xs vs) {i : Nat} (e : vs[i]? = none) : xs[i]? = none := by
  rw [List.getElem?_eq_none_iff] at e ⊢
  rw [r.length]; exact e
theorem VRs.take {X : Cx} {h : Heap} {μ ν : List Addr} {xs : List Value} {vs : List V} (r : VRs X h μ ν xs vs) : ∀ n, VRs X h μ ν (xs.take n) (vs.take n) :=
  VRs.ind (P := fun xs vs => ∀ n, VRs X h μ ν (xs.take n) (vs.take n)) (fun n => by rw [List.take_nil, List.take_nil]; exact .nil) (fun x v xs vs a _ ih n => by
    cases n with
    | zero => exact .nil
    | succ n => exact .cons a (ih n)) r
theorem VRs.drop {X : Cx} {h : Heap} {μ ν : List Addr} {xs : List Value} {vs : List V} (r : VRs X h μ ν xs vs) : ∀ n, VRs X h μ ν (xs.drop n) (vs.drop n) :=
  VRs.ind (P := fun xs vs => ∀ n, VRs X h μ ν (xs.drop n) (vs.drop n)) (fun n => by rw [List.drop_nil, List.drop_nil]; exact .nil) (fun x v xs vs a b ih n => by
    cases n with
    | zero => exact .cons a b
    | succ n => exact ih n) r
theorem VRs.set {X : Cx} {h : Heap} {μ ν : List Addr} {xs : List Value} {vs : List V} (r : VRs X h μ ν xs vs) {x : Value} {v : V} (q : VR X h μ ν x v) : ∀ n, VRs X h μ ν (xs.set n x) (vs.set n v) :=
  VRs.ind (P := fun xs vs => ∀ n, VRs X h μ ν (xs.set n x) (vs.set n v)) (fun n => .nil) (fun _ _ _ _ a b ih n => by
    cases n with
    | zero => exact .cons q b
    | succ n => exact .cons a (ih n)) r
end
theorem VRs.of_get {X : Cx} {h : Heap} {μ ν : List Addr} : ∀ {xs : List Value} {vs : List V}, xs.length = vs.length → (∀ (i : Nat) (x : Value) (v : V), xs[i]? = some x → vs[i]? = some v → VR X h μ ν x v) → VRs X h μ ν xs vs
  | [], [], _, _ => .nil
  | x :: xs, v :: vs, hl, k => .cons (k 0 x v rfl rfl) (VRs.of_get (by simpa using hl) fun i y u e f => k (i + 1) y u (by simpa using e) (by simpa using f))
structure S where
  loc : List (Option V)
  cel : List Nat
  C : List (Option V)
  H : List L
structure Nm where
  scope : Scope
  loc : List Str
  cel : List Str
  glb : List Str := []
  qual : Str := Str.empty
  tab : Nat := 0
noncomputable def CellR (X : Cx) (h : Heap) (μ ν : List Addr) (a : Addr) : Option V → Prop
  | none => ∃ v, h.IsCell a v
  | some x => ∃ v, h.IsCell a (some v) ∧ VR X h μ ν v x
noncomputable def Mut (X : Cx) (μ ν : List Addr) (b : Addr) : Prop := b ∈ μ ∨ b ∈ ν ∨ b ∈ X.ptabs
/-- the frames that run -/
noncomputable def frsOf (φ : List Env) : List Addr := φ.filterMap (·.frame)
noncomputable def IsDictAt (h : Heap) (L : Addr) : Prop := ∃ o es ep, h.get? L = some o ∧ o.data = .dict es ep
structure Rep (X : Cx) (φ : List Env) (μ ν : List Addr) (H : List L) (C : List (Option V)) (s : Shared) : Prop where
  frs : ∀ L ∈ frsOf φ, X.h₀.get? L = none ∧ ¬ Mut X μ ν L ∧ IsDictAt s.heap L
  same : ∃ h tk, s = { X.s₀ with heap := h, toks := tk }
  keep : ∀ b o, X.h₀.get? b = some o → s.heap.get? b = some o
  lenH : μ.length = H.length
  lenC : ν.length = C.length
  nodup : (μ ++ ν).Nodup
  fresh : ∀ a, a ∈ μ ∨ a ∈ ν → X.h₀.get? a = none ∧ a ∉ X.ptabs
  lists : ∀ (i : Nat) (a : Addr) (l : L), μ[i]? = some a → H[i]? = some l → ∃ (its : List Value) (n : Nat), s.heap.get? a = some { cls := .type "list", data := .seq its.toArray n } ∧ its.length ≤ 1048576 ∧ VRs X s.heap (μ.take i) [] its l.vs
  cells : ∀ (i : Nat) (a : Addr) (v : Option V), ν[i]? = some a → C[i]? = some v → CellR X s.heap μ ν a v
  tabs : ∀ q ∈ X.tabs, ∃ ps, s.heap.get? q.2.1 = some (tabObj ps) ∧ TriplesOk ps.toList ∧ ∀ pos cv, codeAmong pos ps.toList = some cv → CodeC s.heap cv q.2.2
/-- it stays, but for the slots of a namespace -/
noncomputable def Kept (h' : Heap) (b : Addr) (o : Obj) : Prop := h'.get? b = some o ∨ ((∃ es ep, o.data = .dict es ep) ∧ ∃ sl, h'.get? b = some { o with slots := sl })
theorem Kept.nd {h' : Heap} {b : Addr} {o : Obj} (k : Kept h' b o) (nd : ∀ es ep, o.data ≠ .dict es ep) : h'.get? b = some o := k.elim id fun ⟨⟨es, ep, d⟩, _⟩ => absurd d (nd es ep)
theorem Kept.trans {h h' : Heap} {b : Addr} {o : Obj} (k : Kept h b o) (f : ∀ o', h.get? b = some o' → Kept h' b o') : Kept h' b o := by
  rcases k with e | ⟨d, sl, e⟩
  · exact f o e
  · rcases f _ e with e' | ⟨_, sl', e'⟩
    · exact .inr ⟨d, sl, e'⟩
    · exact .inr ⟨d, sl', e'⟩
theorem Kept.step {h h' : Heap} {b : Addr} {o : Obj} (k : Kept h b o) (f : ∀ o', h.get? b = some o' → h'.get? b = some o') : Kept h' b o := k.trans fun o' e => .inl (f o' e)
theorem Kept.some {h' : Heap} {b : Addr} {o : Obj} (k : Kept h' b o) : ∃ o', h'.get? b = .some o' := k.elim (fun e => ⟨_, e⟩) fun ⟨_, _, e⟩ => ⟨_, e⟩
theorem Kept.ns {h h' : Heap} {a : Addr} {m : Str → Option Value} (x : h.Ns a m) (k : ∀ o, h.get? a = .some o → Kept h' a o) : h'.Ns a m := by
  obtain ⟨o, es, ep, ho, hd, r⟩ := x
  rcases k o ho with e | ⟨_, sl, e⟩
  · exact ⟨o, es, ep, e, hd, r⟩
  · exact ⟨_, es, ep, e, hd, r⟩
theorem Stable.nd {o : Obj} (st : Stable o) : ∀ es ep, o.data ≠ .dict es ep := by
  intro es ep d
  rcases st with ⟨_, _, e, _⟩ | ⟨_, e, _⟩ | ⟨_, e⟩ <;> (rw [d] at e; cases e)
noncomputable def Keeps (P : Addr → Prop) (h h' : Heap) : Prop := ∀ b o, ¬ P b → h.get? b = some o → Kept h' b o
theorem Keeps.refl {P : Addr → Prop} (h : Heap) : Keeps P h h := fun _ _ _ e => .inl e
theorem Keeps.trans {P : Addr → Prop} {h h' h'' : Heap} (x : Keeps P h h') (y : Keeps P h' h'') : Keeps P h h'' := fun b o n e => (x b o n e).trans fun o' e' => y b o' n e'
theorem Keeps.weaken {P P' : Addr → Prop} {h h' : Heap} (x : Keeps P h h') (k : ∀ b, P b → P' b) : Keeps P' h h' := fun b o n e => x b o (fun q => n (k b q)) e
theorem list_ne_tuple : (Value.type "list") ≠ .type "tuple" := by decide
theorem IsCell_data {h : Heap} {a : Addr} {v : Option Value} {o : Obj} (x : h.IsCell a v) (e : h.get? a = some o) : o.data = .cell v := by
  obtain ⟨o', e', d⟩ := x
  rw [e] at e'; cases e'; exact d
section
variable {X : Cx} {φ : List Env} {μ ν : List Addr} {H : List L} {C : List (Option V)} {s : Shared}
theorem Rep.list_at (R : Rep X φ μ ν H C s) {a : Addr} (ha : a ∈ μ) : ∃ its n, s.heap.get? a = some { cls := .type "list", data := .seq its n } := by
  obtain ⟨i, hi⟩ := List.mem_iff_getElem?.mp ha
  have hlt : i < H.length := by rw [← R.lenH]; exact (List.getElem?_eq_some_iff.mp hi).1
  obtain ⟨its, n, e, _⟩ := R.lists i a _ hi (List.getElem?_eq_getElem hlt)
  exact ⟨_, n, e⟩
theorem Rep.cell_at (R : Rep X φ μ ν H C s) {a : Addr} (ha : a ∈ ν) : ∃ v, s.heap.IsCell a v := by
  obtain ⟨i, hi⟩ := List.mem_iff_getElem?.mp ha
  have hlt : i < C.length := by rw [← R.lenC]; exact (List.getElem?_eq_some_iff.mp hi).1
  have := R.cells i a _ hi (List.getElem?_eq_getElem hlt)
  cases q : C[i] with
  | none => rw [q] at this; exact this
  | some x => rw [q] at this; obtain ⟨v, hv, _⟩ := this; exact ⟨_, hv⟩
theorem Rep.tab_at (R : Rep X φ μ ν H C s) {a : Addr} (ha : a ∈ X.ptabs) : ∃ ps, s.heap.get? a = some (tabObj ps) := by
  obtain ⟨q, hq, rfl⟩ := List.mem_map.mp ha
  obtain ⟨ps, e, _⟩ := R.tabs q hq
  exact ⟨ps, e⟩
theorem Rep.not_stable (R : Rep X φ μ ν H C s) {b : Addr} {o : Obj} (hb : Mut X μ ν b) (e : s.heap.get? b = some o) : ¬ Stable o := by
  rcases hb with hb | hb | hb
  · obtain ⟨its, n, e'⟩ := R.list_at hb
    rw [e] at e'; cases e'
    rintro (⟨_, _, _, h⟩ | ⟨_, h, _⟩ | ⟨_, h⟩)
    · exact list_ne_tuple h
    · cases h
    · cases h
  · obtain ⟨v, hv⟩ := R.cell_at hb
    have d := IsCell_data hv e
    rintro (⟨_, _, h, _⟩ | ⟨_, h, _⟩ | ⟨_, h⟩) <;> (rw [d] at h; cases h)
  · obtain ⟨ps, e'⟩ := R.tab_at hb
    rw [e] at e'; cases e'
    rintro (⟨_, _, h, _⟩ | ⟨_, _, h | h⟩ | ⟨_, h⟩) <;> cases h
theorem Rep.stab (R : Rep X φ μ ν H C s) {h' : Heap} (k : Keeps (Mut X μ ν) s.heap h') : Stab s.heap h' := fun b o e st => (k b o (fun q => R.not_stable q e st) e).nd st.nd
theorem Rep.live (R : Rep X φ μ ν H C s) {b : Addr} (hb : Mut X μ ν b) : b < s.heap.objs.size := by
  rcases hb with hb | hb | hb
  · obtain ⟨_, _, e⟩ := R.list_at hb; exact Heap.lt_size e
  · obtain ⟨v, hv⟩ := R.cell_at hb; exact hv.lt
  · obtain ⟨ps, e⟩ := R.tab_at hb; exact Heap.lt_size e
theorem Rep.base_none (R : Rep X φ μ ν H C s) {b : Addr} (hb : s.heap.get? b = none) : X.h₀.get? b = none := by
  cases q : X.h₀.get? b with
  | none => rfl
  | some o => rw [R.keep b o q] at hb; cases hb
theorem Rep.alive (R : Rep X φ μ ν H C s) {b : Addr} (hb : Mut X μ ν b) : ∃ o, s.heap.get? b = some o := by
  rcases hb with hb | hb | hb
  · obtain ⟨_, _, e⟩ := R.list_at hb; exact ⟨_, e⟩
  · obtain ⟨v, o, e, _⟩ := R.cell_at hb; exact ⟨_, e⟩
  · obtain ⟨ps, e⟩ := R.tab_at hb; exact ⟨_, e⟩
theorem Rep.not_mut (R : Rep X φ μ ν H C s) {b : Addr} (hb : s.heap.get? b = none) : ¬ Mut X μ ν b := fun q => by
  obtain ⟨o, e⟩ := R.alive q
  rw [hb] at e; cases e
theorem none_at_size (h : Heap) : h.get? h.objs.size = none := Heap.get?_none_of_le (Nat.le_refl _)
end
end Mine
namespace Mine
section
variable {X : Cx} {φ : List Env} {μ ν : List Addr} {H : List L} {C : List (Option V)} {s : Shared}
theorem CellR.mono {h h' : Heap} (st : Stab h h') {μ' ν' : List Addr} (hp : μ <+: μ') (hq : ν <+: ν') {a : Addr} (hk : ∀ o, h.get? a = some o → h'.get? a = some o) : ∀ {v : Option V}, CellR X h μ ν a v → CellR X h' μ' ν' a v
  | none, ⟨v, o, e, d⟩ => ⟨v, o, hk o e, d⟩
  | some _, ⟨v, ⟨o, e, d⟩, r⟩ => ⟨v, ⟨o, hk o e, d⟩, r.mono st hp hq⟩
theorem IsDictAt.keeps {h h' : Heap} {L : Addr} (x : IsDictAt h L) (k : ∀ o, h.get? L = some o → h'.get? L = some o) : IsDictAt h' L := let ⟨o, es, ep, e, d⟩ := x; ⟨o, es, ep, k o e, d⟩
theorem IsDictAt.lt {h : Heap} {L : Addr} (x : IsDictAt h L) : L < h.objs.size := let ⟨_, _, _, e, _⟩ := x; Heap.lt_size e
theorem IsDictAt.not_stable {h : Heap} {L : Addr} {o : Obj} (x : IsDictAt h L) (e : h.get? L = some o) : ∃ es ep, o.data = .dict es ep := by
  obtain ⟨o', es, ep, e', d⟩ := x
  rw [e] at e'; cases e'; exact ⟨es, ep, d⟩
theorem Rep.ext (R : Rep X φ μ ν H C s) {h' : Heap} {tk : Nat} (kf : ∀ L ∈ frsOf φ, IsDictAt s.heap L → IsDictAt h' L)
    (k : ∀ b o, (X.h₀.get? b = some o ∨ Mut X μ ν b) → s.heap.get? b = some o → h'.get? b = some o) (st : Stab s.heap h') : Rep X φ μ ν H C { s with heap := h', toks := tk } where
  frs := fun L hL => let ⟨f1, f2, f3⟩ := R.frs L hL; ⟨f1, f2, kf L hL f3⟩
  same := let ⟨_, _, e⟩ := R.same; ⟨h', tk, by rw [e]⟩
  keep := fun b o e => k b o (.inl e) (R.keep b o e)
  lenH := R.lenH
  lenC := R.lenC
  nodup := R.nodup
  fresh := R.fresh
  lists := fun i a l e1 e2 => by
    obtain ⟨its, n, e, hz, r⟩ := R.lists i a l e1 e2
    exact ⟨its, n, k a _ (.inr (.inl (List.mem_of_getElem? e1))) e, hz, r.mono st (List.prefix_refl _) (List.prefix_refl _)⟩
  cells := fun i a v e1 e2 => (R.cells i a v e1 e2).mono st (List.prefix_refl _) (List.prefix_refl _) fun o e => k a o (.inr (.inr (.inl (List.mem_of_getElem? e1)))) e
  tabs := fun q hq => by
    obtain ⟨ps, e, ht, hc⟩ := R.tabs q hq
    exact ⟨ps, k _ _ (.inr (.inr (.inr (List.mem_map_of_mem hq)))) e, ht, fun pos cv e => (hc pos cv e).stab st⟩
theorem Rep.grow (R : Rep X φ μ ν H C s) {h' : Heap} {tk : Nat} (k : ∀ b o, s.heap.get? b = some o → h'.get? b = some o) : Rep X φ μ ν H C { s with heap := h', toks := tk } :=
  R.ext (fun L _ x => x.keeps (k L)) (fun b o _ e => k b o e) fun b o e _ => k b o e
theorem Rep.tok (R : Rep X φ μ ν H C s) (tk : Nat) : Rep X φ μ ν H C { s with toks := tk } := R.grow fun _ _ e => e
theorem Rep.push (R : Rep X φ μ ν H C s) (o : Obj) {tk : Nat} : Rep X φ μ ν H C { s with heap := s.heap.push o, toks := tk } :=
  R.grow fun _ _ e => Heap.get?_push_of_some _ e
/-- an object that is none of the tracked ones, none of the base, and not stable, turns -/
theorem Rep.upd (R : Rep X φ μ ν H C s) {h' : Heap} {tk : Nat} {a : Addr} {o : Obj} (k : Heap.ExtBut a s.heap h') (ho : s.heap.get? a = some o) (hn : ¬ Stable o) (hm : ¬ Mut X μ ν a) (hb : X.h₀.get? a = none) (hd : (∀ es ep, o.data ≠ .dict es ep) ∨ IsDictAt h' a ∨ a ∉ frsOf φ) :
    Rep X φ μ ν H C { s with heap := h', toks := tk } :=
  R.ext (fun L hL x => by
    by_cases z : L = a
    · subst z
      rcases hd with hd | hd | hd
      · obtain ⟨es, ep, d⟩ := x.not_stable ho
        exact absurd d (hd es ep)
      · exact hd
      · exact absurd hL hd
    · exact x.keeps fun o e => k L o z e) (fun b o' q e => k b o' (fun z => by subst z; rcases q with q | q; rw [hb] at q; cases q; exact hm q) e) fun b o' e st => k b o' (fun z => by subst z; rw [ho] at e; cases e; exact hn st) e
theorem not_stable_list {its : Array Value} {n : Nat} {d : Option Addr} {sl : Array (Option Value)} : ¬ Stable { cls := .type "list", dict := d, data := .seq its n, slots := sl } := by
  rintro (⟨_, _, _, h⟩ | ⟨_, h, _⟩ | ⟨_, h⟩)
  · exact list_ne_tuple h
  · cases h
  · cases h
theorem not_stable_dict {o : Obj} {es : Array DictEntry} {n : Nat} (h : o.data = .dict es n) : ¬ Stable o := by
  rintro (⟨_, _, e, _⟩ | ⟨_, e, _⟩ | ⟨_, e⟩) <;> (rw [h] at e; cases e)
theorem not_stable_cell {o : Obj} {v : Option Value} (h : o.data = .cell v) : ¬ Stable o := by
  rintro (⟨_, _, e, _⟩ | ⟨_, e, _⟩ | ⟨_, e⟩) <;> (rw [h] at e; cases e)
theorem prefix_snoc {α : Type} (l : List α) (a : α) : l <+: l ++ [a] := ⟨[a], rfl⟩
/-- a new list goes onto the ledger -/
theorem Rep.pushList (R : Rep X φ μ ν H C s) {its : List Value} {l : L} {tk : Nat} (hz : its.length ≤ 1048576) (hv : VRs X s.heap μ [] its l.vs) :
    Rep X φ (μ ++ [s.heap.objs.size]) ν (H ++ [l]) C { s with heap := s.heap.push { cls := .type "list", data := .seq its.toArray }, toks := tk } where
  frs := fun L hL => let ⟨f1, f2, f3⟩ := R.frs L hL; ⟨f1, fun q => by
    rcases q with q | q | q
    · rcases List.mem_append.mp q with q | q
      · exact f2 (.inl q)
      · have := f3.lt; simp at q; subst q; exact Nat.lt_irrefl _ this
    · exact f2 (.inr (.inl q))
    · exact f2 (.inr (.inr q)), f3.keeps fun o e => Heap.get?_push_of_some _ e⟩
  same := let ⟨_, _, e⟩ := R.same; ⟨_, tk, by rw [e]⟩
  keep := fun b o e => Heap.get?_push_of_some _ (R.keep b o e)
  lenH := by simp [R.lenH]
  lenC := R.lenC
  nodup := by
    have hm : s.heap.objs.size ∉ μ := fun q => Nat.lt_irrefl _ (R.live (.inl q))
    have hn : s.heap.objs.size ∉ ν := fun q => Nat.lt_irrefl _ (R.live (.inr (.inl q)))
    have nd := R.nodup
    rw [List.nodup_append] at nd ⊢
    refine ⟨?_, nd.2.1, ?_⟩
    · rw [List.nodup_append]
      exact ⟨nd.1, by simp, fun a ha b hb => by simp at hb; subst hb; exact fun q => hm (q ▸ ha)⟩
    · intro a ha b hb
      rcases List.mem_append.mp ha with ha | ha
      · exact nd.2.2 a ha b hb
      · simp at ha; subst ha; exact fun q => hn (q ▸ hb)
  fresh := fun a ha => by
    rcases ha with ha | ha
    · rcases List.mem_append.mp ha with ha | ha
      · exact R.fresh a (.inl ha)
      · simp at ha; subst ha
        exact ⟨R.base_none (none_at_size _), fun q => Nat.lt_irrefl _ (R.live (.inr (.inr q)))⟩
    · exact R.fresh a (.inr ha)
  lists := fun i a l' e1 e2 => by
    have st : Stab s.heap (s.heap.push { cls := .type "list", data := .seq its.toArray }) := fun b o e _ => Heap.get?_push_of_some _ e
    by_cases hi : i < μ.length
    · rw [List.getElem?_append_left hi] at e1
      rw [List.getElem?_append_left (by rw [← R.lenH]; exact hi)] at e2
      obtain ⟨its', n, e, hz', r⟩ := R.lists i a l' e1 e2
      refine ⟨its', n, Heap.get?_push_of_some _ e, hz', ?_⟩
      rw [List.take_append_of_le_length (Nat.le_of_lt hi)]
      exact r.mono st (List.prefix_refl _) (List.prefix_refl _)
    · have hi' : i = μ.length := by
        have := (List.getElem?_eq_some_iff.mp e1).1
        simp at this; omega
      subst hi'
      simp at e1
      rw [R.lenH] at e2
      simp at e2
      subst e1 e2
      refine ⟨its, 0, Heap.get?_push_size _ rfl, hz, ?_⟩
      rw [List.take_append_of_le_length (Nat.le_refl _), List.take_length]
      exact hv.mono st (List.prefix_refl _) (List.prefix_refl _)
  cells := fun i a v e1 e2 => (R.cells i a v e1 e2).mono (fun b o e _ => Heap.get?_push_of_some _ e) (prefix_snoc _ _) (List.prefix_refl _) fun o e => Heap.get?_push_of_some _ e
  tabs := fun q hq => by
    obtain ⟨ps, e, ht, hc⟩ := R.tabs q hq
    exact ⟨ps, Heap.get?_push_of_some _ e, ht, fun pos cv e => (hc pos cv e).stab fun b o e _ => Heap.get?_push_of_some _ e⟩
theorem nodup_idx {l : List Addr} (nd : l.Nodup) {i j : Nat} {a : Addr} (e : l[i]? = some a) (f : l[j]? = some a) : i = j := by
  exact (List.getElem?_inj (List.getElem?_eq_some_iff.mp e).1 nd).mp (e.trans f.symm)
/-- a tracked list turns -/
theorem Rep.setList (R : Rep X φ μ ν H C s) {i : Nat} {a : Addr} {its : List Value} {n : Nat} {l : L} {h' : Heap} {tk : Nat} (hi : μ[i]? = some a) (k : Heap.ExtBut a s.heap h')
    (e : h'.get? a = some { cls := .type "list", data := .seq its.toArray n }) (hz : its.length ≤ 1048576) (hv : VRs X s.heap (μ.take i) [] its l.vs) : Rep X φ μ ν (H.set i l) C { s with heap := h', toks := tk } := by
  have ha : a ∈ μ := List.mem_of_getElem? hi
  have hb := (R.fresh a (.inl ha)).1
  have hp := (R.fresh a (.inl ha)).2
  obtain ⟨its0, n0, e0⟩ := R.list_at ha
  have st : Stab s.heap h' := fun b o eb sb => k b o (fun z => by subst z; rw [e0] at eb; cases eb; exact not_stable_list sb) eb
  have nd := List.nodup_append.mp R.nodup
  exact
  { frs := fun L hL => let ⟨f1, f2, f3⟩ := R.frs L hL; ⟨f1, f2, f3.keeps fun o e => k L o (fun z => f2 (z ▸ .inl ha)) e⟩
    same := let ⟨_, _, e⟩ := R.same; ⟨h', tk, by rw [e]⟩
    keep := fun b o q => k b o (fun z => by subst z; rw [hb] at q; cases q) (R.keep b o q)
    lenH := by simp [R.lenH]
    lenC := R.lenC
    nodup := R.nodup
    fresh := R.fresh
    lists := fun j b l' e1 e2 => by
      rw [List.getElem?_set] at e2
      split at e2
      · rename_i hij
        subst hij
        split at e2
        · cases e2
          rw [hi] at e1; cases e1
          exact ⟨its, n, e, hz, hv.mono st (List.prefix_refl _) (List.prefix_refl _)⟩
        · cases e2
      · rename_i hij
        obtain ⟨its', n', e', hz', r⟩ := R.lists j b l' e1 e2
        refine ⟨its', n', k b _ (fun z => hij ?_) e', hz', r.mono st (List.prefix_refl _) (List.prefix_refl _)⟩
        subst z
        exact nodup_idx nd.1 hi e1
    cells := fun j b v e1 e2 => (R.cells j b v e1 e2).mono st (List.prefix_refl _) (List.prefix_refl _) fun o eo => k b o (fun z => nd.2.2 a ha b (List.mem_of_getElem? e1) z.symm) eo
    tabs := fun q hq => by
      obtain ⟨ps, eq, ht, hc⟩ := R.tabs q hq
      exact ⟨ps, k _ _ (fun z => hp (by rw [← z]; exact List.mem_map_of_mem hq)) eq, ht, fun pos cv ec => (hc pos cv ec).stab st⟩ }
/-- a cell turns -/
theorem Rep.setCell (R : Rep X φ μ ν H C s) {i : Nat} {a : Addr} {x : Value} {v : V} {h' : Heap} {tk : Nat} (hi : ν[i]? = some a) (k : Heap.ExtBut a s.heap h')
    (e : h'.IsCell a (some x)) (hv : VR X s.heap μ ν x v) : Rep X φ μ ν H (C.set i (some v)) { s with heap := h', toks := tk } := by
  have ha : a ∈ ν := List.mem_of_getElem? hi
  have hb := (R.fresh a (.inr ha)).1
  have hp := (R.fresh a (.inr ha)).2
  obtain ⟨v0, e0⟩ := R.cell_at ha
  have st : Stab s.heap h' := fun b o eb sb => k b o (fun z => by subst z; exact not_stable_cell (IsCell_data e0 eb) sb) eb
  have nd := List.nodup_append.mp R.nodup
  exact
  { frs := fun L hL => let ⟨f1, f2, f3⟩ := R.frs L hL; ⟨f1, f2, f3.keeps fun o e => k L o (fun z => f2 (z ▸ .inr (.inl ha))) e⟩
    same := let ⟨_, _, e⟩ := R.same; ⟨h', tk, by rw [e]⟩
    keep := fun b o q => k b o (fun z => by subst z; rw [hb] at q; cases q) (R.keep b o q)
    lenH := R.lenH
    lenC := by simp [R.lenC]
    nodup := R.nodup
    fresh := R.fresh
    lists := fun j b l' e1 e2 => by
      obtain ⟨its', n', e', hz', r⟩ := R.lists j b l' e1 e2
      exact ⟨its', n', k b _ (fun z => nd.2.2 b (List.mem_of_getElem? e1) a ha z) e', hz', r.mono st (List.prefix_refl _) (List.prefix_refl _)⟩
    cells := fun j b w e1 e2 => by
      rw [List.getElem?_set] at e2
      split at e2
      · rename_i hij
        subst hij
        split at e2
        · cases e2
          rw [hi] at e1; cases e1
          exact ⟨x, e, hv.mono st (List.prefix_refl _) (List.prefix_refl _)⟩
        · cases e2
      · rename_i hij
        exact (R.cells j b w e1 e2).mono st (List.prefix_refl _) (List.prefix_refl _) fun o eo => k b o (fun z => hij (by subst z; exact nodup_idx nd.2.1 hi e1)) eo
    tabs := fun q hq => by
      obtain ⟨ps, eq, ht, hc⟩ := R.tabs q hq
      exact ⟨ps, k _ _ (fun z => hp (by rw [← z]; exact List.mem_map_of_mem hq)) eq, ht, fun pos cv ec => (hc pos cv ec).stab st⟩ }
end
structure FrOk (X : Cx) (φ : List Env) (nm : Nm) (env : Env) (loc : List (Option V)) (cel : List Nat) (μ ν : List Addr) (h : Heap) : Prop where
  top : ∃ e0 φ0, φ = e0 :: φ0 ∧ e0.frame = env.frame
  scope : env.scope = nm.scope
  glob : env.globals = mainGlobals
  bui : env.builtins = builtinsNs
  qual : env.qual = nm.qual
  ns : ∃ m, h.Ns env.locals m ∧ ∀ (i : Nat) (x : Str) (v : V), nm.loc[i]? = some x → loc[i]? = some (some v) → ∃ v', m x = some v' ∧ VR X h μ ν v' v
  own : ¬ Mut X μ ν env.locals ∧ X.h₀.get? env.locals = none
  cell : ∀ (i : Nat) (x : Str) (c : Nat), nm.cel[i]? = some x → cel[i]? = some c → ∃ a, ν[c]? = some a ∧ env.cells.lookup x = some a
  code : ∀ q, X.tabs[nm.tab]? = some q → env.code = .ref q.1
  ownc : ∀ (x : Str) (b : Addr), nm.scope.names.lookup x = some .cell → env.cells.lookup x = some b → b ∈ ν
/-- the static part of a frame's names -/
noncomputable def plainName (x : Str) : Bool := x != "__debug__" && x != "__classdict__" && x != "__name__"
noncomputable def nmOk (nm : Nm) : Bool := decide (nm.scope.kind = .function) && nm.loc.all (fun x => decide (nm.scope.names.lookup x = some .local) && plainName x) &&
  nm.cel.all (fun x => decide (nm.scope.names.lookup x = some .cell ∨ nm.scope.names.lookup x = some .free) && plainName x) && nm.glb.all (fun x => decide (nm.scope.names.lookup x = some .globalImplicit) && plainName x) &&
  decide nm.loc.Nodup && decide nm.cel.Nodup
structure NmOk (nm : Nm) : Prop where
  kind : nm.scope.kind = .function
  loc : ∀ x ∈ nm.loc, nm.scope.names.lookup x = some .local ∧ plainName x = true
  cel : ∀ x ∈ nm.cel, (nm.scope.names.lookup x = some .cell ∨ nm.scope.names.lookup x = some .free) ∧ plainName x = true
  glb : ∀ x ∈ nm.glb, nm.scope.names.lookup x = some .globalImplicit ∧ plainName x = true
  nloc : nm.loc.Nodup
  ncel : nm.cel.Nodup
theorem NmOk.of {nm : Nm} (h : nmOk nm = true) : NmOk nm := by
  simp only [nmOk, Bool.and_eq_true, decide_eq_true_eq, List.all_eq_true] at h
  obtain ⟨⟨⟨⟨⟨h1, h2⟩, h3⟩, h4⟩, h5⟩, h6⟩ := h
  exact ⟨h1, h2, h3, h4, h5, h6⟩
theorem plainName_debug {x : Str} (h : plainName x = true) : (x == ("__debug__" : Str)) = false := by
  simp only [plainName, Bool.and_eq_true, bne_iff_ne, ne_eq] at h
  exact beq_eq_false_iff_ne.mpr h.1.1
theorem plainName_cd {x : Str} (h : plainName x = true) : (x == ("__classdict__" : Str)) = false := by
  simp only [plainName, Bool.and_eq_true, bne_iff_ne, ne_eq] at h
  exact beq_eq_false_iff_ne.mpr h.1.2
theorem plainName_nm {x : Str} (h : plainName x = true) : x ≠ "__name__" := by
  simp only [plainName, Bool.and_eq_true, bne_iff_ne, ne_eq] at h
  exact h.2
theorem FrOk.monoK {X : Cx} {nm : Nm} {env : Env} {loc : List (Option V)} {cel : List Nat} {μ μ' ν ν' : List Addr} {h h' : Heap} (F : FrOk X φ nm env loc cel μ ν h) (st : Stab h h') (hp : μ <+: μ') (hq : ν <+: ν')
    (k : ∀ o, h.get? env.locals = some o → Kept h' env.locals o) (hm : ¬ Mut X μ' ν' env.locals) : FrOk X φ nm env loc cel μ' ν' h' where
  top := F.top
  scope := F.scope
  glob := F.glob
  bui := F.bui
  qual := F.qual
  ns := let ⟨m, hn, r⟩ := F.ns; ⟨m, Kept.ns hn k, fun i x v e1 e2 => let ⟨v', e, q⟩ := r i x v e1 e2; ⟨v', e, q.mono st hp hq⟩⟩
  own := ⟨hm, F.own.2⟩
  cell := fun i x c e1 e2 => let ⟨a, e, f⟩ := F.cell i x c e1 e2; ⟨a, getElem?_pre hq e, f⟩
  code := F.code
  ownc := fun x b e f => (hq.subset (F.ownc x b e f))
theorem FrOk.mono {X : Cx} {nm : Nm} {env : Env} {loc : List (Option V)} {cel : List Nat} {μ μ' ν ν' : List Addr} {h h' : Heap} (F : FrOk X φ nm env loc cel μ ν h) (st : Stab h h') (hp : μ <+: μ') (hq : ν <+: ν')
    (k : ∀ o, h.get? env.locals = some o → h'.get? env.locals = some o) (hm : ¬ Mut X μ' ν' env.locals) : FrOk X φ nm env loc cel μ' ν' h' := F.monoK st hp hq (fun o e => .inl (k o e)) hm
/-- what an expression may turn: tracked lists, the tables of codes -/
noncomputable def Chg (X : Cx) (μ : List Addr) (b : Addr) : Prop := b ∈ μ ∨ b ∈ X.ptabs
theorem Chg.mut {X : Cx} {μ ν : List Addr} {b : Addr} (h : Chg X μ b) : Mut X μ ν b := h.elim .inl fun h => .inr (.inr h)
/-- what a frame's statements may turn besides: its locals, its own cells -/
noncomputable def FrW (nm : Nm) (env : Env) (b : Addr) : Prop := b = env.locals ∨ ∃ x, nm.scope.names.lookup x = some .cell ∧ env.cells.lookup x = some b
theorem FrOk.frw {X : Cx} {nm : Nm} {env : Env} {loc : List (Option V)} {cel : List Nat} {μ ν : List Addr} {h : Heap} (F : FrOk X φ nm env loc cel μ ν h) {b : Addr} (q : FrW nm env b) : b = env.locals ∨ b ∈ ν :=
  q.elim .inl fun ⟨x, e, f⟩ => .inr (F.ownc x b e f)
/-- a frame's statements leave what is stable -/
theorem FrOk.stabW {X : Cx} {nm : Nm} {env : Env} {loc : List (Option V)} {cel : List Nat} {μ ν : List Addr} {H : List L} {C : List (Option V)} {s : Shared} {h' : Heap} (F : FrOk X φ nm env loc cel μ ν s.heap) (R : Rep X φ μ ν H C s)
    (k : Keeps (fun b => Chg X μ b ∨ FrW nm env b) s.heap h') : Stab s.heap h' := fun b o e sb => (k b o (fun q => q.elim (fun q => R.not_stable q.mut e sb) fun q => (F.frw q).elim (fun z => by
      obtain ⟨m0, ⟨oL, es, ep, hL, hLd, _⟩, _⟩ := F.ns
      subst z; rw [hL] at e; cases e; exact not_stable_dict hLd sb) fun z => R.not_stable (.inr (.inl z)) e sb) e).nd sb.nd
/-- nothing that stood is touched but what is tracked; the ledger only grows -/
structure Aft (X : Cx) (φ : List Env) (μ ν : List Addr) (s : Shared) (H' : List L) (C' : List (Option V)) (μ' : List Addr) (s' : Shared) (free : Addr → Prop) : Prop where
  pre : μ <+: μ'
  new : ∀ a, a ∈ μ' → a ∈ μ ∨ s.heap.get? a = none
  rep : Rep X φ μ' ν H' C' s'
  keeps : Keeps (fun b => Chg X μ b ∨ free b) s.heap s'.heap
  alive : ∀ b o, s.heap.get? b = some o → ∃ o', s'.heap.get? b = some o'
noncomputable def NoFree : Addr → Prop := fun _ => False
section
variable {X : Cx} {μ ν : List Addr} {s : Shared} {H H' H'' : List L} {C C' C'' : List (Option V)} {μ' μ'' : List Addr} {s' s'' : Shared} {free : Addr → Prop}
theorem Aft.refl (R : Rep X φ μ ν H C s) : Aft X φ μ ν s H C μ s free := ⟨List.prefix_refl _, fun _ h => .inl h, R, Keeps.refl _, fun _ o e => ⟨o, e⟩⟩
theorem Aft.trans (a : Aft X φ μ ν s H' C' μ' s' free) (b : Aft X φ μ' ν s' H'' C'' μ'' s'' free) : Aft X φ μ ν s H'' C'' μ'' s'' free where
  pre := List.IsPrefix.trans a.pre b.pre
  new := fun x hx => (b.new x hx).elim (a.new x) fun q => .inr (by
    cases z : s.heap.get? x with
    | none => rfl
    | some o => obtain ⟨o', e⟩ := a.alive x o z; rw [q] at e; cases e)
  rep := b.rep
  keeps := fun x o hn e => (a.keeps x o hn e).trans fun o' e' => b.keeps x o' (fun q => q.elim (fun q => by
      rcases q with q | q
      · exact (a.new x q).elim (fun z => hn (.inl (.inl z))) fun z => by rw [z] at e; cases e
      · exact hn (.inl (.inr q))) fun q => hn (.inr q)) e'
  alive := fun x o e => let ⟨o', e'⟩ := a.alive x o e; b.alive x o' e'
theorem Aft.weaken {free' : Addr → Prop} (a : Aft X φ μ ν s H' C' μ' s' free) (k : ∀ b, free b → free' b) : Aft X φ μ ν s H' C' μ' s' free' :=
  ⟨a.pre, a.new, a.rep, a.keeps.weaken fun b q => q.elim .inl fun q => .inr (k b q), a.alive⟩
theorem Aft.stab (R : Rep X φ μ ν H C s) (a : Aft X φ μ ν s H' C' μ' s' NoFree) : Stab s.heap s'.heap :=
  R.stab (a.keeps.weaken fun _ q => q.elim Chg.mut False.elim)
theorem Aft.mut {b : Addr} {o : Obj} (a : Aft X φ μ ν s H' C' μ' s' free) (hl : s.heap.get? b = some o) (hn : ¬ Mut X μ ν b) : ¬ Mut X μ' ν b := fun q => by
  rcases q with q | q | q
  · exact (a.new b q).elim (fun z => hn (.inl z)) fun z => by rw [z] at hl; cases hl
  · exact hn (.inr (.inl q))
  · exact hn (.inr (.inr q))
theorem Ns_alive {h : Heap} {a : Addr} {m : Str → Option Value} (x : h.Ns a m) : ∃ o, h.get? a = some o := let ⟨o, _, _, e, _⟩ := x; ⟨o, e⟩
theorem FrOk.aft {nm : Nm} {env : Env} {loc : List (Option V)} {cel : List Nat} (R : Rep X φ μ ν H C s) (a : Aft X φ μ ν s H' C' μ' s' NoFree) (F : FrOk X φ nm env loc cel μ ν s.heap) : FrOk X φ nm env loc cel μ' ν s'.heap :=
  F.monoK (a.stab R) a.pre (List.prefix_refl _) (fun o e => a.keeps _ o (fun q => q.elim (fun q => F.own.1 q.mut) False.elim) e) (let ⟨_, hn, _⟩ := F.ns; let ⟨_, e⟩ := Ns_alive hn; a.mut e F.own.1)
theorem VR.aft {x : Value} {v : V} (R : Rep X φ μ ν H C s) (a : Aft X φ μ ν s H' C' μ' s' NoFree) (r : VR X s.heap μ ν x v) : VR X s'.heap μ' ν x v := r.mono (a.stab R) a.pre (List.prefix_refl _)
theorem VRs.aft {x : List Value} {v : List V} (R : Rep X φ μ ν H C s) (a : Aft X φ μ ν s H' C' μ' s' NoFree) (r : VRs X s.heap μ ν x v) : VRs X s'.heap μ' ν x v := r.mono (a.stab R) a.pre (List.prefix_refl _)
/-- what is made without a turn of anything -/
theorem Aft.grow (R : Rep X φ μ ν H C s) {h' : Heap} {tk : Nat} (k : ∀ b o, s.heap.get? b = some o → h'.get? b = some o) : Aft X φ μ ν s H C μ { s with heap := h', toks := tk } free :=
  ⟨List.prefix_refl _, fun _ h => .inl h, R.grow k, fun b o _ e => .inl (k b o e), fun b o e => ⟨o, k b o e⟩⟩
theorem Aft.tok (R : Rep X φ μ ν H C s) (tk : Nat) : Aft X φ μ ν s H C μ { s with toks := tk } free := Aft.grow R fun _ _ e => e
theorem Aft.push (R : Rep X φ μ ν H C s) (o : Obj) {tk : Nat} : Aft X φ μ ν s H C μ { s with heap := s.heap.push o, toks := tk } free := Aft.grow R fun _ _ e => Heap.get?_push_of_some _ e
/-- a new list -/
theorem Aft.pushList (R : Rep X φ μ ν H C s) {its : List Value} {l : L} {tk : Nat} (hz : its.length ≤ 1048576) (hv : VRs X s.heap μ [] its l.vs) :
    Aft X φ μ ν s (H ++ [l]) C (μ ++ [s.heap.objs.size]) { s with heap := s.heap.push { cls := .type "list", data := .seq its.toArray }, toks := tk } free :=
  ⟨prefix_snoc _ _, fun a ha => by
    rcases List.mem_append.mp ha with ha | ha
    · exact .inl ha
    · simp at ha; subst ha; exact .inr (none_at_size _), R.pushList hz hv, fun b o _ e => .inl (Heap.get?_push_of_some _ e), fun b o e => ⟨o, Heap.get?_push_of_some _ e⟩⟩
/-- a tracked list turns -/
theorem Aft.setList (R : Rep X φ μ ν H C s) {i : Nat} {a : Addr} {its : List Value} {n : Nat} {l : L} {h' : Heap} {tk : Nat} (hi : μ[i]? = some a) (k : Heap.ExtBut a s.heap h')
    (e : h'.get? a = some { cls := .type "list", data := .seq its.toArray n }) (hz : its.length ≤ 1048576) (hv : VRs X s.heap (μ.take i) [] its l.vs) : Aft X φ μ ν s (H.set i l) C μ { s with heap := h', toks := tk } free :=
  ⟨List.prefix_refl _, fun _ h => .inl h, R.setList hi k e hz hv, fun b o hn eb => .inl (k b o (fun z => hn (.inl (.inl (z ▸ List.mem_of_getElem? hi)))) eb), fun b o eb => by
    by_cases z : b = a
    · subst z; exact ⟨_, e⟩
    · exact ⟨o, k b o z eb⟩⟩
end
/-- room to call n deep, among the frames that run -/
structure Room (φ : List Env) (n : Nat) (A : Around) : Prop where
  handled : A.handled = none
  depth : A.depth + n ≤ 990
  units : A.units + 16 * n ≤ 9800
  frames : A.frames = some φ
  kinds : ∀ e ∈ φ, e.scope.kind ≠ .module ∧ ∃ L, e.frame = some L
theorem Room.le {n m : Nat} {A : Around} (r : Room φ n A) (h : m ≤ n) : Room φ m A := ⟨r.handled, by have := r.depth; omega, by have := r.units; omega, r.frames, r.kinds⟩
theorem Room.deeper {n : Nat} {A : Around} (r : Room φ (n + 1) A) (env : Env) (hk : env.scope.kind ≠ .module ∧ ∃ L, env.frame = some L) : Room (env :: φ) n (A.deeper env) :=
  ⟨r.handled, by show A.depth + 1 + n ≤ 990; have := r.depth; omega, by show A.units + 3 + 16 * n ≤ 9800; have := r.units; omega, by show A.frames.map (env :: ·) = _; rw [r.frames]; rfl, fun e he => by
    rcases List.mem_cons.mp he with rfl | he
    · exact hk
    · exact r.kinds e he⟩
theorem Room.in1 {n : Nat} {A : Around} (r : Room φ (n + 1) A) : Room φ n A.in1 := ⟨r.handled, by show A.depth + n ≤ 990; have := r.depth; omega, by show A.units + 1 + 16 * n ≤ 9800; have := r.units; omega, r.frames, r.kinds⟩
theorem Room.rl {n : Nat} {A : Around} (r : Room φ n A) : A.depth < recursionLimit := by show A.depth < 1000; have := r.depth; omega
theorem Room.c {n : Nat} {A : Around} (r : Room φ n A) : A.units < cLine := by show A.units < 9900; have := r.units; omega
noncomputable abbrev Xm := S → Option (V × List L)
noncomputable abbrev Xms := S → Option (List V × List L)
noncomputable abbrev Bm := S → Option (Bool × List L)
inductive Fl | next | ret (v : V)
noncomputable abbrev Sm := S → Option (Fl × S)
noncomputable abbrev QX (X : Cx) (φ : List Env) (μ ν : List Addr) (s : Shared) (H' : List L) (C : List (Option V)) (v : V) : Value → Shared → Prop :=
  fun v' s' => ∃ μ', Aft X φ μ ν s H' C μ' s' NoFree ∧ VR X s'.heap μ' ν v' v
noncomputable abbrev QB (X : Cx) (φ : List Env) (μ ν : List Addr) (s : Shared) (H' : List L) (C : List (Option V)) (v : Bool) : Bool → Shared → Prop :=
  fun v' s' => v' = v ∧ ∃ μ', Aft X φ μ ν s H' C μ' s' NoFree
noncomputable abbrev QXs (X : Cx) (φ : List Env) (μ ν : List Addr) (s : Shared) (H' : List L) (C : List (Option V)) (vs : List V) : List Value → Shared → Prop :=
  fun vs' s' => ∃ μ', Aft X φ μ ν s H' C μ' s' NoFree ∧ VRs X s'.heap μ' ν vs' vs
noncomputable def RX (X : Cx) (φ : List Env) (n : Nat) (nm : Nm) (e : PySem.Expr) (m : Xm) : Prop :=
  ∀ (A : Around) (env : Env) (σ : S) (s : Shared) (μ ν : List Addr) (v : V) (H' : List L), Room φ n A → FrOk X φ nm env σ.loc σ.cel μ ν s.heap → Rep X φ μ ν σ.H σ.C s → m σ = some (v, H') →
    wpAny (model X.prog X.w) A (eval e env) (QX X φ μ ν s H' σ.C v) (fun _ _ => False) s
/-- a test -/
noncomputable def RB (X : Cx) (φ : List Env) (n : Nat) (nm : Nm) (e : PySem.Expr) (m : Bm) : Prop :=
  ∀ (A : Around) (env : Env) (σ : S) (s : Shared) (μ ν : List Addr) (v : Bool) (H' : List L), Room φ n A → FrOk X φ nm env σ.loc σ.cel μ ν s.heap → Rep X φ μ ν σ.H σ.C s → m σ = some (v, H') →
    wpAny (model X.prog X.w) A (isTrue e env (eval e env)) (QB X φ μ ν s H' σ.C v) (fun _ _ => False) s
/-- arguments, one by one -/
noncomputable def RXs (X : Cx) (φ : List Env) (n : Nat) (nm : Nm) (es : List PySem.Expr) (m : Xms) : Prop :=
  ∀ (A : Around) (env : Env) (σ : S) (s : Shared) (μ ν : List Addr) (vs : List V) (H' : List L) (pos : Pos), Room φ n A → FrOk X φ nm env σ.loc σ.cel μ ν s.heap → Rep X φ μ ν σ.H σ.C s → m σ = some (vs, H') →
    wpAny (model X.prog X.w) A (spliced (backTo pos (starEach es env))) (QXs X φ μ ν s H' σ.C vs) (fun _ _ => False) s
noncomputable def FlR (X : Cx) (h : Heap) (μ ν : List Addr) : Flow → Fl → Prop
  | .next, .next => True
  | .ret x, .ret v => VR X h μ ν x v
  | _, _ => False
noncomputable abbrev QS (X : Cx) (φ : List Env) (nm : Nm) (env : Env) (μ ν : List Addr) (s : Shared) (σ' : S) (f : Fl) : Flow → Shared → Prop :=
  fun f' s' => ∃ μ', Aft X φ μ ν s σ'.H σ'.C μ' s' (FrW nm env) ∧ FrOk X φ nm env σ'.loc σ'.cel μ' ν s'.heap ∧ FlR X s'.heap μ' ν f' f
noncomputable def RS (X : Cx) (φ : List Env) (n : Nat) (nm : Nm) (st : Stmt) (m : Sm) : Prop :=
  ∀ (A : Around) (env : Env) (σ : S) (s : Shared) (μ ν : List Addr) (f : Fl) (σ' : S), Room φ n A → FrOk X φ nm env σ.loc σ.cel μ ν s.heap → Rep X φ μ ν σ.H σ.C s → m σ = some (f, σ') →
    wpAny (model X.prog X.w) A (exec st env) (QS X φ nm env μ ν s σ' f) (fun _ _ => False) s
noncomputable def RSs (X : Cx) (φ : List Env) (n : Nat) (nm : Nm) (st : List Stmt) (m : Sm) : Prop :=
  ∀ (A : Around) (env : Env) (σ : S) (s : Shared) (μ ν : List Addr) (f : Fl) (σ' : S), Room φ n A → FrOk X φ nm env σ.loc σ.cel μ ν s.heap → Rep X φ μ ν σ.H σ.C s → m σ = some (f, σ') →
    wpAny (model X.prog X.w) A (execs st env) (QS X φ nm env μ ν s σ' f) (fun _ _ => False) s
structure XOk (X : Cx) : Prop where
  g : X.h₀.Ns mainGlobals X.mg
  b : X.h₀.Ns builtinsNs X.mb
  nolimit : X.h₀.NoLimit
  builtins : ∀ x : Str, x ≠ "__name__" → X.mb x = bootBuiltins x
  bmain : ∃ bm ob, X.mg "__builtins__" = some (.ref bm) ∧ bm ≠ builtinsNs ∧ X.h₀.get? bm = some ob ∧ ob.cls = .type "module" ∧ ob.dict = some builtinsNs ∧ ob.data = .plain
  codes : ∀ q ∈ X.tabs, CodeHd X.h₀ q.1 q.2.1
  gens : X.s₀.gens = #[]
end Mine
namespace Mine
section
variable {X : Cx} {n : Nat} {nm : Nm} {env : Env} {A : Around} {σ : S} {s : Shared} {μ ν : List Addr} {H' : List L} {Q E : Value → Shared → Prop}
theorem RX.use {e : PySem.Expr} {m : Xm} (r : RX X φ n nm e m) (hA : Room φ n A) (F : FrOk X φ nm env σ.loc σ.cel μ ν s.heap) (R : Rep X φ μ ν σ.H σ.C s) {v : V} (em : m σ = some (v, H'))
    (k : ∀ v' s' μ', Aft X φ μ ν s H' σ.C μ' s' NoFree → FrOk X φ nm env σ.loc σ.cel μ' ν s'.heap → VR X s'.heap μ' ν v' v → Q v' s') : wpAny (model X.prog X.w) A (eval e env) Q E s :=
  wpAny_mono (r A env σ s μ ν v H' hA F R em) (fun v' s' ⟨μ', a, q⟩ => k v' s' μ' a (F.aft R a) q) fun _ _ h => h.elim
theorem RB.use {e : PySem.Expr} {m : Bm} (r : RB X φ n nm e m) (hA : Room φ n A) (F : FrOk X φ nm env σ.loc σ.cel μ ν s.heap) (R : Rep X φ μ ν σ.H σ.C s) {v : Bool} (em : m σ = some (v, H')) {Q : Bool → Shared → Prop}
    (k : ∀ s' μ', Aft X φ μ ν s H' σ.C μ' s' NoFree → FrOk X φ nm env σ.loc σ.cel μ' ν s'.heap → Q v s') : wpAny (model X.prog X.w) A (isTrue e env (eval e env)) Q E s :=
  wpAny_mono (r A env σ s μ ν v H' hA F R em) (fun v' s' ⟨e, μ', a⟩ => by subst e; exact k s' μ' a (F.aft R a)) fun _ _ h => h.elim
theorem RXs.use {es : List PySem.Expr} {m : Xms} (r : RXs X φ n nm es m) (hA : Room φ n A) (F : FrOk X φ nm env σ.loc σ.cel μ ν s.heap) (R : Rep X φ μ ν σ.H σ.C s) {vs : List V} (em : m σ = some (vs, H')) {pos : Pos} {Q : List Value → Shared → Prop}
    (k : ∀ v' s' μ', Aft X φ μ ν s H' σ.C μ' s' NoFree → FrOk X φ nm env σ.loc σ.cel μ' ν s'.heap → VRs X s'.heap μ' ν v' vs → Q v' s') : wpAny (model X.prog X.w) A (spliced (backTo pos (starEach es env))) Q E s :=
  wpAny_mono (r A env σ s μ ν vs H' pos hA F R em) (fun v' s' ⟨μ', a, q⟩ => k v' s' μ' a (F.aft R a) q) fun _ _ h => h.elim
end
noncomputable def mNone : Xm := fun σ => some (.none, σ.H)
noncomputable def mBool (b : Bool) : Xm := fun σ => some (.bool b, σ.H)
noncomputable def mInt (i : Int) : Xm := fun σ => some (.int i, σ.H)
noncomputable def mStr (x : Str) : Xm := fun σ => some (.str x, σ.H)
noncomputable def mFn (k : Nat) : Xm := fun σ => some (.fn k, σ.H)
noncomputable def mLoc (i : Nat) : Xm := fun σ => match σ.loc[i]? with
  | some (some v) => some (v, σ.H)
  | _ => none
noncomputable def mCel (i : Nat) : Xm := fun σ => match σ.cel[i]? with
  | some c => (match σ.C[c]? with
    | some (some v) => some (v, σ.H)
    | _ => none)
  | none => none
section
variable {X : Cx} {n : Nat} {nm : Nm}
theorem RX_none {k : Nat} {pos : Pos} : RX X φ n nm (.Constant .none k pos) mNone := fun A env σ s μ ν v H' _ _ R em => by
  cases em
  exact Constant_none ⟨μ, .refl R, .none⟩
theorem RX_bool {b : Bool} {k : Nat} {pos : Pos} : RX X φ n nm (.Constant (.bool b) k pos) (mBool b) := fun A env σ s μ ν v H' _ _ R em => by
  cases em
  exact Constant_bool ⟨μ, .refl R, .bool b⟩
theorem RX_int {i : Int} {k : Nat} {pos : Pos} : RX X φ n nm (.Constant (.int i) k pos) (mInt i) := fun A env σ s μ ν v H' _ _ R em => by
  cases em
  exact wpAny_Constant_int ⟨μ, .tok R _, .int _ _⟩
theorem RX_str {x : Str} {k : Nat} {pos : Pos} : RX X φ n nm (.Constant (.str x) k pos) (mStr x) := fun A env σ s μ ν v H' _ _ R em => by
  cases em
  exact Calls.Constant_str ⟨μ, .tok R _, .str _ _⟩
theorem FrOk.kindOf {env : Env} {loc : List (Option V)} {cel : List Nat} {μ ν : List Addr} {h : Heap} (F : FrOk X φ nm env loc cel μ ν h) (x : Str) : env.kindOf x = nm.scope.names.lookup x := by
  unfold Env.kindOf; rw [F.scope]
theorem RX_loc (N : NmOk nm) {x : Str} {pos : Pos} {i : Nat} (hi : nm.loc[i]? = some x) : RX X φ n nm (.Name x pos) (mLoc i) := fun A env σ s μ ν v H' _ F R em => by
  unfold mLoc at em
  split at em
  · rename_i v0 hv
    cases em
    obtain ⟨m, hn, hm⟩ := F.ns
    obtain ⟨v', e, r⟩ := hm i x _ hi hv
    have q := N.loc x (List.mem_of_getElem? hi)
    exact wpAny_Name (wpAny_loadName_local (by rw [F.scope]; exact N.kind) ((F.kindOf x).trans q.1) hn e ⟨μ, .refl R, r⟩) (plainName_debug q.2)
  · cases em
theorem RX_cel (N : NmOk nm) {x : Str} {pos : Pos} {i : Nat} (hi : nm.cel[i]? = some x) : RX X φ n nm (.Name x pos) (mCel i) := fun A env σ s μ ν v H' _ F R em => by
  unfold mCel at em
  split at em
  · rename_i c hc
    split at em
    · rename_i v0 hv
      cases em
      obtain ⟨a, ha, hl⟩ := F.cell i x c hi hc
      obtain ⟨v', hcell, r⟩ := R.cells c a _ ha hv
      have q := N.cel x (List.mem_of_getElem? hi)
      rcases q.1 with hk | hk
      · exact wpAny_Name (wpAny_loadName_cell (by rw [F.scope]; exact N.kind) ((F.kindOf x).trans hk) hl hcell ⟨μ, .refl R, r⟩) (plainName_debug q.2)
      · exact wpAny_Name (wpAny_loadName_free (by rw [F.scope]; exact N.kind) ((F.kindOf x).trans hk) hl hcell ⟨μ, .refl R, r⟩ (plainName_cd q.2)) (plainName_debug q.2)
    · cases em
  · cases em
/-- a def of the text -/
theorem RX_fn (O : XOk X) (N : NmOk nm) {x : Str} {pos : Pos} {k i : Nat} {a : Addr} (hi : nm.glb[i]? = some x) (hg : X.mg x = some (.ref a)) (hk : X.fn k = some a) : RX X φ n nm (.Name x pos) (mFn k) := fun A env σ s μ ν v H' _ F R em => by
  cases em
  have q := N.glb x (List.mem_of_getElem? hi)
  refine Calls.Name_function_global (by rw [F.scope]; exact N.kind) ((F.kindOf x).trans q.1) (Calls.loadGlobal_global (mg := X.mg) ?_ hg ⟨μ, .refl R, .fn hk⟩) (plainName_debug q.2)
  rw [F.glob]
  exact O.g.keeps R.keep
/-- a built-in's name -/
theorem name_builtin (O : XOk X) (N : NmOk nm) {x : Str} {pos : Pos} {i : Nat} {b : Value} {A : Around} {env : Env} {loc : List (Option V)} {cel : List Nat} {s : Shared} {μ ν : List Addr} {H : List L} {C : List (Option V)} {Q E : Value → Shared → Prop}
    (hi : nm.glb[i]? = some x) (hg : X.mg x = none) (hb : bootBuiltins x = some b) (F : FrOk X φ nm env loc cel μ ν s.heap) (R : Rep X φ μ ν H C s) (h : Q b s) : wpAny (model X.prog X.w) A (eval (.Name x pos) env) Q E s := by
  have q := N.glb x (List.mem_of_getElem? hi)
  refine Calls.Name_function_global (by rw [F.scope]; exact N.kind) ((F.kindOf x).trans q.1) (Calls.loadGlobal_builtin (mg := X.mg) (mb := X.mb) ?_ hg ?_ ((O.builtins x (plainName_nm q.2)).trans hb) h) (plainName_debug q.2)
  · rw [F.glob]; exact O.g.keeps R.keep
  · rw [F.bui]; exact O.b.keeps R.keep
end
noncomputable abbrev F1 := V → List L → Option (V × List L)
noncomputable abbrev F2 := V → V → List L → Option (V × List L)
noncomputable abbrev FN := List V → List L → Option (V × List L)
noncomputable def Op1 (X : Cx) (φ : List Env) (n : Nat) (t : Value → Sem Value) (f : F1) : Prop :=
  ∀ (A : Around) (s : Shared) (μ ν : List Addr) (H : List L) (C : List (Option V)) (x : Value) (v : V) (H' : List L) (r : V), Room φ n A → Rep X φ μ ν H C s → VR X s.heap μ ν x v → f v H = some (r, H') →
    wpAny (model X.prog X.w) A (t x) (QX X φ μ ν s H' C r) (fun _ _ => False) s
noncomputable def Op2 (X : Cx) (φ : List Env) (n : Nat) (t : Value → Value → Sem Value) (f : F2) : Prop :=
  ∀ (A : Around) (s : Shared) (μ ν : List Addr) (H : List L) (C : List (Option V)) (x y : Value) (v u : V) (H' : List L) (r : V), Room φ n A → Rep X φ μ ν H C s → VR X s.heap μ ν x v → VR X s.heap μ ν y u → f v u H = some (r, H') →
    wpAny (model X.prog X.w) A (t x y) (QX X φ μ ν s H' C r) (fun _ _ => False) s
noncomputable def OpN (X : Cx) (φ : List Env) (n : Nat) (t : List Value → Sem Value) (f : FN) : Prop :=
  ∀ (A : Around) (s : Shared) (μ ν : List Addr) (H : List L) (C : List (Option V)) (xs : List Value) (vs : List V) (H' : List L) (r : V), Room φ n A → Rep X φ μ ν H C s → VRs X s.heap μ ν xs vs → f vs H = some (r, H') →
    wpAny (model X.prog X.w) A (t xs) (QX X φ μ ν s H' C r) (fun _ _ => False) s
noncomputable def mUn (f : F1) (a : Xm) : Xm := fun σ => match a σ with
  | some (x, H1) => f x H1
  | none => none
noncomputable def mBin (f : F2) (a b : Xm) : Xm := fun σ => match a σ with
  | some (x, H1) => (match b { σ with H := H1 } with
    | some (y, H2) => f x y H2
    | none => none)
  | none => none
section
variable {X : Cx} {n : Nat} {nm : Nm}
theorem RX_bin {l r : PySem.Expr} {op : Operator} {pos : Pos} {a b : Xm} {f : F2} (ra : RX X φ n nm l a) (rb : RX X φ n nm r b) (hf : Op2 X φ n (binaryOp op) f) : RX X φ n nm (.BinOp l op r pos) (mBin f a b) := fun A env σ s μ ν v H' hA F R em => by
  unfold mBin at em
  split at em
  · rename_i x H1 e1
    split at em
    · rename_i y H2 e2
      refine wpAny_BinOp (ra.use hA F R e1 fun x' s1 μ1 a1 F1 r1 => rb.use (σ := { σ with H := H1 }) hA F1 a1.rep e2 fun y' s2 μ2 a2 F2 r2 => ?_)
      exact wpAny_mono (hf A s2 μ2 ν H2 σ.C x' y' x y H' v hA a2.rep (r1.aft a1.rep a2) r2 em) (fun z s3 ⟨μ3, a3, r3⟩ => ⟨μ3, (a1.trans a2).trans a3, r3⟩) fun _ _ h => h
    · cases em
  · cases em
theorem RX_un {x : PySem.Expr} {op : UnaryOp} {pos : Pos} {a : Xm} {f : F1} (ra : RX X φ n nm x a) (hf : Op1 X φ n (unaryOp op) f) : RX X φ n nm (.UnaryOp op x pos) (mUn f a) := fun A env σ s μ ν v H' hA F R em => by
  unfold mUn at em
  split at em
  · rename_i x H1 e1
    refine UnaryOp_ (ra.use hA F R e1 fun x' s1 μ1 a1 F1 r1 => ?_)
    exact wpAny_mono (hf A s1 μ1 ν H1 σ.C x' x H' v hA a1.rep r1 em) (fun z s3 ⟨μ3, a3, r3⟩ => ⟨μ3, a1.trans a3, r3⟩) fun _ _ h => h
  · cases em
theorem RX_cmp {l r : PySem.Expr} {op : CmpOp} {pos : Pos} {a b : Xm} {f : F2} (ra : RX X φ n nm l a) (rb : RX X φ n nm r b) (hf : Op2 X φ n (compareOp op) f) (hm : behindInMarks op r = false := by with_unfolding_all rfl) :
    RX X φ n nm (.Compare l [op] [r] pos) (mBin f a b) := fun A env σ s μ ν v H' hA F R em => by
  unfold mBin at em
  split at em
  · rename_i x H1 e1
    split at em
    · rename_i y H2 e2
      refine wpAny_Compare1 (ra.use hA F R e1 fun x' s1 μ1 a1 F1 r1 => rb.use (σ := { σ with H := H1 }) hA F1 a1.rep e2 fun y' s2 μ2 a2 F2 r2 => ?_) hm
      exact wpAny_mono (hf A s2 μ2 ν H2 σ.C x' y' x y H' v hA a2.rep (r1.aft a1.rep a2) r2 em) (fun z s3 ⟨μ3, a3, r3⟩ => ⟨μ3, (a1.trans a2).trans a3, r3⟩) fun _ _ h => h
    · cases em
  · cases em
noncomputable def small (a : Int) : Bool := decide (-9223372036854775808 ≤ a) && decide (a ≤ 9223372036854775807)
theorem small_bits {a : Int} (h : small a = true) : Builtin.Int.intBits a ≤ 64 := by
  simp only [small, Bool.and_eq_true, decide_eq_true_eq] at h
  exact intBits_le_64 (by omega) (by omega)
theorem small_log2 {a : Int} (h : small a = true) : a.natAbs.log2 < 9000 := by
  simp only [small, Bool.and_eq_true, decide_eq_true_eq] at h
  rcases Nat.eq_zero_or_pos a.natAbs with h0 | hp
  · rw [h0]; decide
  · have : a.natAbs.log2 < 64 := (Nat.log2_lt (Nat.ne_of_gt hp)).mpr (by omega)
    omega
noncomputable def fAdd : F2 := fun v w H => match v, w with
  | .int a, .int b => some (.int (a + b), H)
  | _, _ => none
noncomputable def fSub : F2 := fun v w H => match v, w with
  | .int a, .int b => some (.int (a - b), H)
  | _, _ => none
noncomputable def fMul : F2 := fun v w H => match v, w with
  | .int a, .int b => if small a || small b then some (.int (a * b), H) else none
  | _, _ => none
noncomputable def fDiv : F2 := fun v w H => match v, w with
  | .int a, .int b => if b = 0 then none else if small b then some (.int (a.fdiv b), H) else none
  | _, _ => none
noncomputable def fMod : F2 := fun v w H => match v, w with
  | .int a, .int b => if b = 0 then none else some (.int (a.fmod b), H)
  | _, _ => none
noncomputable def fPow : F2 := fun v w H => match v, w with
  | .int a, .int b => if 0 ≤ b ∧ b ≤ 1000 ∧ small a then some (.int (a ^ b.toNat), H) else none
  | _, _ => none
theorem Op2_add : Op2 X φ n (binaryOp .Add) fAdd := fun A s μ ν H C x y v u H' r hA R rx ry em => by
  unfold fAdd at em
  split at em
  · cases em; refine rx.int_e fun _ => ry.int_e fun _ => ?_
    exact add_int ⟨μ, .tok R _, .int _ _⟩
  · cases em
theorem Op2_sub : Op2 X φ n (binaryOp .Sub) fSub := fun A s μ ν H C x y v u H' r hA R rx ry em => by
  unfold fSub at em
  split at em
  · cases em; refine rx.int_e fun _ => ry.int_e fun _ => ?_
    exact sub_int ⟨μ, .tok R _, .int _ _⟩
  · cases em
theorem Op2_mul : Op2 X φ n (binaryOp .Mult) fMul := fun A s μ ν H C x y v u H' r hA R rx ry em => by
  unfold fMul at em
  split at em
  · split at em
    · rename_i hs
      cases em; refine rx.int_e fun _ => ry.int_e fun _ => ?_
      refine mul_int ⟨μ, .tok R _, .int _ _⟩ ?_
      rcases Bool.or_eq_true_iff.mp hs with hs | hs
      · exact .of_left (small_bits hs)
      · exact .of_right (small_bits hs)
    · cases em
  · cases em
theorem Op2_div : Op2 X φ n (binaryOp .FloorDiv) fDiv := fun A s μ ν H C x y v u H' r hA R rx ry em => by
  unfold fDiv at em
  split at em
  · split at em
    · cases em
    · rename_i hb
      split at em
      · rename_i hs
        cases em; refine rx.int_e fun _ => ry.int_e fun _ => ?_
        exact floordiv_int hb ⟨μ, .tok R _, .int _ _⟩ (.inl (PyProof.noPylong_of_log2 (small_log2 hs)))
      · cases em
  · cases em
theorem Op2_mod : Op2 X φ n (binaryOp .Mod) fMod := fun A s μ ν H C x y v u H' r hA R rx ry em => by
  unfold fMod at em
  split at em
  · split at em
    · cases em
    · rename_i hb
      cases em; refine rx.int_e fun _ => ry.int_e fun _ => ?_
      exact mod_int hb ⟨μ, .tok R _, .int _ _⟩
  · cases em
theorem Op2_pow : Op2 X φ n (binaryOp .Pow) fPow := fun A s μ ν H C x y v u H' r hA R rx ry em => by
  unfold fPow at em
  split at em
  · rename_i a b
    split at em
    · rename_i hb
      cases em; refine rx.int_e fun _ => ry.int_e fun _ => ?_
      have h1 := small_bits hb.2.2
      refine pow_int hb.1 ?_ ⟨μ, .tok R _, .int _ _⟩
      have h2 : (Builtin.Int.intBits a : Int) ≤ 64 := by omega
      have h3 : (Builtin.Int.intBits a : Int) * b ≤ 64 * 1000 := Int.mul_le_mul h2 hb.2.1 hb.1 (by omega)
      omega
    · cases em
  · cases em
noncomputable def fNeg : F1 := fun v H => match v with
  | .int a => some (.int (-a), H)
  | _ => none
theorem Op1_neg : Op1 X φ n (unaryOp .USub) fNeg := fun A s μ ν H C x v H' r hA R rx em => by
  unfold fNeg at em
  split at em
  · cases em; refine rx.int_e fun _ => ?_
    exact PyProof.Rows.neg_int ⟨μ, .tok R _, .int _ _⟩
  · cases em
noncomputable def fLt : F2 := fun v w H => match v, w with
  | .int a, .int b => some (.bool (decide (a < b)), H)
  | _, _ => none
noncomputable def fLe : F2 := fun v w H => match v, w with
  | .int a, .int b => some (.bool (decide (a ≤ b)), H)
  | _, _ => none
noncomputable def fGt : F2 := fun v w H => match v, w with
  | .int a, .int b => some (.bool (decide (b < a)), H)
  | _, _ => none
noncomputable def fEqI : F2 := fun v w H => match v, w with
  | .int a, .int b => some (.bool (a == b), H)
  | _, _ => none
noncomputable def fNeI : F2 := fun v w H => match v, w with
  | .int a, .int b => some (.bool (a != b), H)
  | _, _ => none
theorem Op2_lt : Op2 X φ n (compareOp .Lt) fLt := fun A s μ ν H C x y v u H' r hA R rx ry em => by
  unfold fLt at em
  split at em
  · cases em; refine rx.int_e fun _ => ry.int_e fun _ => ?_
    exact lt_int ⟨μ, .refl R, .bool _⟩
  · cases em
theorem Op2_le : Op2 X φ n (compareOp .LtE) fLe := fun A s μ ν H C x y v u H' r hA R rx ry em => by
  unfold fLe at em
  split at em
  · cases em; refine rx.int_e fun _ => ry.int_e fun _ => ?_
    exact le_int ⟨μ, .refl R, .bool _⟩
  · cases em
theorem Op2_gt : Op2 X φ n (compareOp .Gt) fGt := fun A s μ ν H C x y v u H' r hA R rx ry em => by
  unfold fGt at em
  split at em
  · cases em; refine rx.int_e fun _ => ry.int_e fun _ => ?_
    exact gt_int ⟨μ, .refl R, .bool _⟩
  · cases em
theorem Op2_eqI : Op2 X φ n (compareOp .Eq) fEqI := fun A s μ ν H C x y v u H' r hA R rx ry em => by
  unfold fEqI at em
  split at em
  · cases em; refine rx.int_e fun _ => ry.int_e fun _ => ?_
    exact eq_int ⟨μ, .refl R, .bool _⟩
  · cases em
theorem Op2_neI : Op2 X φ n (compareOp .NotEq) fNeI := fun A s μ ν H C x y v u H' r hA R rx ry em => by
  unfold fNeI at em
  split at em
  · cases em; refine rx.int_e fun _ => ry.int_e fun _ => ?_
    exact ne_int ⟨μ, .refl R, .bool _⟩
  · cases em
end
end Mine
namespace Mine
noncomputable def fTruth (v : V) (H : List L) : Option Bool := match v with
  | .bool b => some b
  | .int i => some (i != 0)
  | .none => some false
  | .ref i => (match H[i]? with
    | some l => some (!l.vs.isEmpty)
    | none => none)
  | _ => none
section
variable {X : Cx} {n : Nat} {nm : Nm}
theorem truthy_V {A : Around} {s : Shared} {μ ν : List Addr} {H : List L} {C : List (Option V)} {x : Value} {v : V} {b : Bool} {Q : Bool → Shared → Prop} {E : Value → Shared → Prop}
    (R : Rep X φ μ ν H C s) (r : VR X s.heap μ ν x v) (e : fTruth v H = some b) (h : ∀ tk, Q b { s with toks := tk }) : wpAny (model X.prog X.w) A (truthy x) Q E s := by
  unfold fTruth at e
  split at e
  · cases e; exact r.bool_e (wpAny_truthy_bool (h _))
  · cases e; exact r.int_e fun _ => P.truthy_int (h _)
  · cases e; exact r.none_e (truthy_none (h _))
  · split at e
    · rename_i l hl
      cases e; refine r.ref_e fun a ha => ?_
      obtain ⟨its, k, ho, hz, rv⟩ := R.lists _ a l ha hl
      refine wpAny_truthy_list (items := its.toArray) ⟨_, ho, rfl, k, rfl⟩ (by rw [List.size_toArray]; omega) ?_
      have : its.toArray.isEmpty = l.vs.isEmpty := by
        have := rv.length
        cases its with
        | nil => cases hv : l.vs with
          | nil => rfl
          | cons _ _ => rw [hv] at this; cases this
        | cons _ _ => cases hv : l.vs with
          | nil => rw [hv] at this; cases this
          | cons _ _ => simp
      rw [this]
      exact h _
    · cases e
  · cases e
noncomputable def mTest (m : Xm) : Bm := fun σ => match m σ with
  | some (v, H) => (match fTruth v H with
    | some b => some (b, H)
    | none => none)
  | none => none
theorem mTest_inv {m : Xm} {σ : S} {b : Bool} {H : List L} (e : mTest m σ = some (b, H)) : ∃ v, m σ = some (v, H) ∧ fTruth v H = some b := by
  unfold mTest at e
  split at e
  · rename_i v H1 h1
    split at e
    · rename_i b' h2
      cases e
      exact ⟨v, h1, h2⟩
    · cases e
  · cases e
/-- a plain value as a test -/
theorem RB_val {e : PySem.Expr} {m : Xm} (r : RX X φ n nm e m) (he : ∀ env, isTrue e env (eval e env) = (do let v ← eval e env; standAt e.pos; holding [v] (truthy v)) := by intro _; rfl) : RB X φ n nm e (mTest m) := fun A env σ s μ ν v H' hA F R em => by
  obtain ⟨w, e1, e2⟩ := mTest_inv em
  exact wpAny_isTrue_value (r.use hA F R e1 fun x' s1 μ1 a1 F1 r1 => truthy_V a1.rep r1 e2 fun tk => ⟨rfl, μ1, a1.trans (.tok a1.rep _)⟩) (he env)
theorem RB_cmp {l r : PySem.Expr} {op : CmpOp} {pos : Pos} {a b : Xm} {f : F2} (ra : RX X φ n nm l a) (rb : RX X φ n nm r b) (hf : Op2 X φ n (compareOp op) f) (hm : behindInMarks op r = false := by with_unfolding_all rfl) :
    RB X φ n nm (.Compare l [op] [r] pos) (mTest (mBin f a b)) := fun A env σ s μ ν v H' hA F R em => by
  obtain ⟨w, e1, e2⟩ := mTest_inv em
  unfold mBin at e1
  split at e1
  · rename_i x H1 e1'
    split at e1
    · rename_i y H2 e2'
      refine wpAny_isTrue_Compare1 (ra.use hA F R e1' fun x' s1 μ1 a1 F1 r1 => rb.use (σ := { σ with H := H1 }) hA F1 a1.rep e2' fun y' s2 μ2 a2 F2 r2 => ?_) hm
      refine wpAny_mono (hf A s2 μ2 ν H2 σ.C x' y' x y H' w hA a2.rep (r1.aft a1.rep a2) r2 e1) (fun z s3 ⟨μ3, a3, r3⟩ => truthy_V a3.rep r3 e2 fun tk => ⟨rfl, μ3, ((a1.trans a2).trans a3).trans (.tok a3.rep _)⟩) fun _ _ h => h.elim
    · cases e1
  · cases e1
noncomputable def mNot (m : Bm) : Bm := fun σ => match m σ with
  | some (b, H) => some (!b, H)
  | none => none
theorem RB_not {x : PySem.Expr} {pos : Pos} {m : Bm} (r : RB X φ n nm x m) : RB X φ n nm (.UnaryOp .Not x pos) (mNot m) := fun A env σ s μ ν v H' hA F R em => by
  unfold mNot at em
  split at em
  · rename_i b H1 e1
    cases em
    exact isTrue_not (r.use hA F R e1 fun s1 μ1 a1 F1 => ⟨rfl, μ1, a1⟩)
  · cases em
noncomputable def RAll (X : Cx) (φ : List Env) (n : Nat) (nm : Nm) (op : PySem.BoolOp) (es : List PySem.Expr) (m : Bm) : Prop :=
  ∀ (A : Around) (env : Env) (σ : S) (s : Shared) (μ ν : List Addr) (v : Bool) (H' : List L), Room φ n A → FrOk X φ nm env σ.loc σ.cel μ ν s.heap → Rep X φ μ ν σ.H σ.C s → m σ = some (v, H') →
    wpAny (model X.prog X.w) A (allTrue op es env) (QB X φ μ ν s H' σ.C v) (fun _ _ => False) s
noncomputable def mConst (b : Bool) : Bm := fun σ => some (b, σ.H)
noncomputable def mAndB (a b : Bm) : Bm := fun σ => match a σ with
  | some (true, H) => b { σ with H := H }
  | some (false, H) => some (false, H)
  | none => none
noncomputable def mOrB (a b : Bm) : Bm := fun σ => match a σ with
  | some (false, H) => b { σ with H := H }
  | some (true, H) => some (true, H)
  | none => none
theorem RAll_and_nil : RAll X φ n nm .And [] (mConst true) := fun A env σ s μ ν v H' hA F R em => by
  cases em
  exact wpAny_allTrue_And_nil ⟨rfl, μ, .refl R⟩
theorem RAll_or_nil : RAll X φ n nm .Or [] (mConst false) := fun A env σ s μ ν v H' hA F R em => by
  cases em
  exact wpAny_allTrue_Or_nil ⟨rfl, μ, .refl R⟩
theorem RAll_and {x : PySem.Expr} {rest : List PySem.Expr} {a b : Bm} (ra : RB X φ n nm x a) (rb : RAll X φ n nm .And rest b) : RAll X φ n nm .And (x :: rest) (mAndB a b) := fun A env σ s μ ν v H' hA F R em => by
  unfold mAndB at em
  split at em
  · rename_i H1 e1
    refine wpAny_allTrue_And_cons (ra.use hA F R e1 fun s1 μ1 a1 F1 => ?_)
    exact wpAny_mono (rb A env { σ with H := H1 } s1 μ1 ν v H' hA F1 a1.rep em) (fun v' s2 ⟨e, μ2, a2⟩ => ⟨e, μ2, a1.trans a2⟩) fun _ _ h => h
  · rename_i H1 e1
    cases em
    exact wpAny_allTrue_And_cons (ra.use hA F R e1 fun s1 μ1 a1 F1 => ⟨rfl, μ1, a1⟩)
  · cases em
theorem RAll_or {x : PySem.Expr} {rest : List PySem.Expr} {a b : Bm} (ra : RB X φ n nm x a) (rb : RAll X φ n nm .Or rest b) : RAll X φ n nm .Or (x :: rest) (mOrB a b) := fun A env σ s μ ν v H' hA F R em => by
  unfold mOrB at em
  split at em
  · rename_i H1 e1
    refine wpAny_allTrue_Or_cons (ra.use hA F R e1 fun s1 μ1 a1 F1 => ?_)
    exact wpAny_mono (rb A env { σ with H := H1 } s1 μ1 ν v H' hA F1 a1.rep em) (fun v' s2 ⟨e, μ2, a2⟩ => ⟨e, μ2, a1.trans a2⟩) fun _ _ h => h
  · rename_i H1 e1
    cases em
    exact wpAny_allTrue_Or_cons (ra.use hA F R e1 fun s1 μ1 a1 F1 => ⟨rfl, μ1, a1⟩)
  · cases em
theorem RB_bool {op : PySem.BoolOp} {es : List PySem.Expr} {pos : Pos} {m : Bm} (r : RAll X φ n nm op es m) : RB X φ n nm (.BoolOp op es pos) m := fun A env σ s μ ν v H' hA F R em =>
  wpAny_isTrue_BoolOp (r A env σ s μ ν v H' hA F R em)
noncomputable def mIf (t : Bm) (a b : Xm) : Xm := fun σ => match t σ with
  | some (true, H) => a { σ with H := H }
  | some (false, H) => b { σ with H := H }
  | none => none
theorem RX_ifexp {t e₁ e₂ : PySem.Expr} {pos : Pos} {m : Bm} {a b : Xm} (rt : RB X φ n nm t m) (ra : RX X φ n nm e₁ a) (rb : RX X φ n nm e₂ b) : RX X φ n nm (.IfExp t e₁ e₂ pos) (mIf m a b) := fun A env σ s μ ν v H' hA F R em => by
  unfold mIf at em
  split at em
  · rename_i H1 e1
    refine IfExp_ (rt.use hA F R e1 fun s1 μ1 a1 F1 => ?_)
    exact wpAny_mono (ra A env { σ with H := H1 } s1 μ1 ν v H' hA F1 a1.rep em) (fun v' s2 ⟨μ2, a2, q⟩ => ⟨μ2, a1.trans a2, q⟩) fun _ _ h => h
  · rename_i H1 e1
    refine IfExp_ (rt.use hA F R e1 fun s1 μ1 a1 F1 => ?_)
    exact wpAny_mono (rb A env { σ with H := H1 } s1 μ1 ν v H' hA F1 a1.rep em) (fun v' s2 ⟨μ2, a2, q⟩ => ⟨μ2, a1.trans a2, q⟩) fun _ _ h => h
  · cases em
noncomputable def V.isNone : V → Bool
  | .none => true
  | _ => false
noncomputable def fIsNone : F1 := fun v H => match v with
  | .none => some (.bool true, H)
  | _ => some (.bool false, H)
theorem VR.none_iff {h : Heap} {μ ν : List Addr} {x : Value} {v : V} (r : VR X h μ ν x v) : (x == Value.none) = v.isNone := by
  cases r <;> rfl
theorem fIsNone_eq (v : V) (H : List L) : fIsNone v H = some (.bool v.isNone, H) := by
  cases v <;> rfl
theorem RB_isNone {x : PySem.Expr} {k : Nat} {p pos : Pos} {a : Xm} (ra : RX X φ n nm x a) : RB X φ n nm (.Compare x [.Is] [.Constant .none k p] pos) (mTest (mUn fIsNone a)) := fun A env σ s μ ν v H' hA F R em => by
  obtain ⟨w, e1, e2⟩ := mTest_inv em
  unfold mUn at e1
  split at e1
  · rename_i w H1 e1'
    rw [fIsNone_eq] at e1
    cases e1
    cases e2
    refine wpAny_isTrue_Compare1 (ra.use hA F R e1' fun x' s1 μ1 a1 F1 r1 => Constant_none (is_none ?_))
    rw [r1.none_iff]
    exact wpAny_truthy_bool ⟨rfl, μ1, a1⟩
  · cases e1
end
section
variable {X : Cx} {n : Nat} {nm : Nm}
noncomputable def sNil : Sm := fun σ => some (.next, σ)
noncomputable def sSeq (a b : Sm) : Sm := fun σ => match a σ with
  | some (.next, σ1) => b σ1
  | some (.ret v, σ1) => some (.ret v, σ1)
  | none => none
theorem RSs_nil : RSs X φ n nm [] sNil := fun A env σ s μ ν f σ' hA F R em => by
  cases em
  exact wpAny_execs_nil ⟨μ, .refl R, F, trivial⟩
theorem RSs_cons {st : Stmt} {rest : List Stmt} {a b : Sm} (ra : RS X φ n nm st a) (rb : RSs X φ n nm rest b) : RSs X φ n nm (st :: rest) (sSeq a b) := fun A env σ s μ ν f σ' hA F R em => by
  unfold sSeq at em
  split at em
  · rename_i σ1 e1
    refine wpAny_execs_cons (wpAny_mono (ra A env σ s μ ν _ σ1 hA F R e1) (fun f1 s1 ⟨μ1, a1, F1, q1⟩ => ?_) fun _ _ h => h.elim)
    cases f1 with
    | next => exact wpAny_mono (rb A env σ1 s1 μ1 ν f σ' hA F1 a1.rep em) (fun f2 s2 ⟨μ2, a2, F2, q2⟩ => ⟨μ2, a1.trans a2, F2, q2⟩) fun _ _ h => h
    | _ => exact q1.elim
  · rename_i v σ1 e1
    cases em
    refine wpAny_execs_cons (wpAny_mono (ra A env σ s μ ν _ _ hA F R e1) (fun f1 s1 ⟨μ1, a1, F1, q1⟩ => ?_) fun _ _ h => h.elim)
    cases f1 with
    | ret x => exact ⟨μ1, a1, F1, q1⟩
    | _ => exact q1.elim
  · cases em
noncomputable def sIf (t : Bm) (a b : Sm) : Sm := fun σ => match t σ with
  | some (true, H) => a { σ with H := H }
  | some (false, H) => b { σ with H := H }
  | none => none
theorem Aft.toFr {μ ν : List Addr} {s s' : Shared} {H' : List L} {C' : List (Option V)} {μ' : List Addr} {env : Env} (a : Aft X φ μ ν s H' C' μ' s' NoFree) : Aft X φ μ ν s H' C' μ' s' (FrW nm env) := a.weaken fun _ h => h.elim
theorem RS_if {t : PySem.Expr} {body orelse : List Stmt} {pos : Pos} {m : Bm} {a b : Sm} (rt : RB X φ n nm t m) (ra : RSs X φ n nm body a) (rb : RSs X φ n nm orelse b) : RS X φ n nm (.If t body orelse pos) (sIf m a b) := fun A env σ s μ ν f σ' hA F R em => by
  unfold sIf at em
  split at em
  · rename_i H1 e1
    refine wpAny_If (rt.use hA F R e1 fun s1 μ1 a1 F1 => ?_)
    exact wpAny_mono (ra A env { σ with H := H1 } s1 μ1 ν f σ' hA F1 a1.rep em) (fun f2 s2 ⟨μ2, a2, F2, q2⟩ => ⟨μ2, a1.toFr.trans a2, F2, q2⟩) fun _ _ h => h
  · rename_i H1 e1
    refine wpAny_If (rt.use hA F R e1 fun s1 μ1 a1 F1 => ?_)
    exact wpAny_mono (rb A env { σ with H := H1 } s1 μ1 ν f σ' hA F1 a1.rep em) (fun f2 s2 ⟨μ2, a2, F2, q2⟩ => ⟨μ2, a1.toFr.trans a2, F2, q2⟩) fun _ _ h => h
  · cases em
noncomputable def sRet (m : Xm) : Sm := fun σ => match m σ with
  | some (v, H) => some (.ret v, { σ with H := H })
  | none => none
theorem RS_ret {e : PySem.Expr} {pos : Pos} {m : Xm} (r : RX X φ n nm e m) : RS X φ n nm (.Return (some e) pos) (sRet m) := fun A env σ s μ ν f σ' hA F R em => by
  unfold sRet at em
  split at em
  · rename_i v H1 e1
    cases em
    exact wpAny_Return_some (r.use hA F R e1 fun x' s1 μ1 a1 F1 r1 => ⟨μ1, a1.toFr, F1, r1⟩)
  · cases em
noncomputable def sExpr (m : Xm) : Sm := fun σ => match m σ with
  | some (_, H) => some (.next, { σ with H := H })
  | none => none
theorem RS_expr {e : PySem.Expr} {pos : Pos} {m : Xm} (N : NmOk nm) (r : RX X φ n nm e m) (hs : ∀ env, swapsWith e none pos.line env = pure false := by intro _; rfl) : RS X φ n nm (.Expr e pos) (sExpr m) := fun A env σ s μ ν f σ' hA F R em => by
  unfold sExpr at em
  split at em
  · rename_i v H1 e1
    cases em
    refine wpAny_Expr_any (r.use hA F R e1 fun x' s1 μ1 a1 F1 r1 => ⟨μ1, a1.toFr, F1, trivial⟩) ?_ (hs env)
    unfold interactive
    rw [F.scope, N.kind]
    rfl
  · cases em
theorem FrOk.kindLoc {env : Env} {loc : List (Option V)} {cel : List Nat} {μ ν : List Addr} {h : Heap} (F : FrOk X φ nm env loc cel μ ν h) (N : NmOk nm) {i : Nat} {x : Str} (hi : nm.loc[i]? = some x) : env.kindOf x = some .local :=
  (F.kindOf x).trans (N.loc x (List.mem_of_getElem? hi)).1
theorem FrOk.notModule {env : Env} {loc : List (Option V)} {cel : List Nat} {μ ν : List Addr} {h : Heap} (F : FrOk X φ nm env loc cel μ ν h) (N : NmOk nm) : (env.scope.kind == .class || (env.scope.kind == .module && env.locals != env.globals)) = false := by
  rw [F.scope, N.kind]; rfl
/-- a local takes a value -/
theorem store_loc (N : NmOk nm) {A : Around} {env : Env} {loc : List (Option V)} {cel : List Nat} {s : Shared} {μ ν : List Addr} {H : List L} {C : List (Option V)} {i : Nat} {x : Str} {v' : Value} {v : V} {Q : Unit → Shared → Prop} {E : Value → Shared → Prop}
    (F : FrOk X φ nm env loc cel μ ν s.heap) (R : Rep X φ μ ν H C s) (hi : nm.loc[i]? = some x) (r : VR X s.heap μ ν v' v)
    (h : ∀ s', Aft X φ μ ν s H C μ s' (FrW nm env) → FrOk X φ nm env (loc.set i (some v)) cel μ ν s'.heap → Q () s') : wpAny (model X.prog X.w) A (storeName env x v') Q E s := by
  obtain ⟨m, hn, hm⟩ := F.ns
  obtain ⟨oL, es, ep, hL, hLd, _⟩ := hn
  refine wpAny_storeName_local (F.kindLoc N hi) F.ns.choose_spec.1 (fun h' hn' hs' => ?_) (F.notModule N)
  have hext := hs'.extBut
  have R' : Rep X φ μ ν H C { s with heap := h', toks := s.toks + 1 } := R.upd hext hL (not_stable_dict hLd) F.own.1 F.own.2 (.inr (.inl (let ⟨o, es, ep, e, d, _⟩ := hn'; ⟨o, es, ep, e, d⟩)))
  have st : Stab s.heap h' := fun b o e sb => hext b o (fun z => by subst z; rw [hL] at e; cases e; exact not_stable_dict hLd sb) e
  obtain ⟨oL', es', ep', hL', r'⟩ := id hn'
  refine h _ ⟨List.prefix_refl _, fun _ q => .inl q, R', fun b o q e => .inl (hext b o (fun z => q (.inr (.inl z))) e), fun b o e => ?_⟩ ?_
  · by_cases z : b = env.locals
    · subst z; exact ⟨_, hL'⟩
    · exact ⟨o, hext b o z e⟩
  · exact
    { top := F.top, scope := F.scope, glob := F.glob, bui := F.bui, qual := F.qual, own := F.own, cell := F.cell, code := F.code, ownc := F.ownc
      ns := ⟨_, hn', fun j y w e1 e2 => by
        rw [List.getElem?_set] at e2
        split at e2
        · rename_i hij
          subst hij
          split at e2
          · cases e2
            rw [hi] at e1; cases e1
            exact ⟨v', by simp, r.mono st (List.prefix_refl _) (List.prefix_refl _)⟩
          · cases e2
        · rename_i hij
          obtain ⟨w', e, q⟩ := F.ns.choose_spec.2 j y w e1 e2
          have hne : y ≠ x := fun z => hij (by
            subst z
            exact (List.getElem?_inj (List.getElem?_eq_some_iff.mp hi).1 N.nloc).mp (hi.trans e1.symm))
          exact ⟨w', by simp only [hne, if_false]; exact e, q.mono st (List.prefix_refl _) (List.prefix_refl _)⟩⟩ }
/-- a cell takes a value -/
theorem store_cel (N : NmOk nm) {A : Around} {env : Env} {loc : List (Option V)} {cel : List Nat} {s : Shared} {μ ν : List Addr} {H : List L} {C : List (Option V)} {i c : Nat} {x : Str} {v' : Value} {v : V} {Q : Unit → Shared → Prop} {E : Value → Shared → Prop}
    (F : FrOk X φ nm env loc cel μ ν s.heap) (R : Rep X φ μ ν H C s) (hi : nm.cel[i]? = some x) (hk : nm.scope.names.lookup x = some .cell) (hc : cel[i]? = some c) (hlt : c < C.length) (r : VR X s.heap μ ν v' v)
    (h : ∀ s', Aft X φ μ ν s H (C.set c (some v)) μ s' (FrW nm env) → FrOk X φ nm env loc cel μ ν s'.heap → Q () s') : wpAny (model X.prog X.w) A (storeName env x v') Q E s := by
  obtain ⟨a, ha, hl⟩ := F.cell i x c hi hc
  obtain ⟨v0, hv0⟩ := R.cell_at (List.mem_of_getElem? ha)
  refine wpAny_storeName_cell (by rw [F.scope]; exact N.kind) ((F.kindOf x).trans hk) hl hv0 fun h' hc' hs' => ?_
  have hext := hs'.extBut
  have R' : Rep X φ μ ν H (C.set c (some v)) { s with heap := h' } := R.setCell ha hext hc' r
  have hm : Mut X μ ν a := .inr (.inl (List.mem_of_getElem? ha))
  have st : Stab s.heap h' := fun b o e sb => hext b o (fun z => by subst z; exact R.not_stable hm e sb) e
  obtain ⟨oc, hoc, _⟩ := id hc'
  refine h _ ⟨List.prefix_refl _, fun _ q => .inl q, R', fun b o q e => .inl (hext b o (fun z => q (.inr (.inr ⟨x, hk, z ▸ hl⟩))) e), fun b o e => ?_⟩ ?_
  · by_cases z : b = a
    · subst z; exact ⟨_, hoc⟩
    · exact ⟨o, hext b o z e⟩
  · exact F.mono st (List.prefix_refl _) (List.prefix_refl _) (fun o e => hext _ o (fun z => F.own.1 (z ▸ hm)) e) F.own.1
/-- where a name's value goes -/
inductive Tgt where
  | loc (i : Nat)
  | cel (i : Nat)
noncomputable def Tgt.put (t : Tgt) (v : V) (σ : S) : Option S := match t with
  | .loc i => some { σ with loc := σ.loc.set i (some v) }
  | .cel i => (match σ.cel[i]? with
    | some c => if c < σ.C.length then some { σ with C := σ.C.set c (some v) } else none
    | none => none)
noncomputable def Tgt.At (nm : Nm) (x : Str) : Tgt → Prop
  | .loc i => nm.loc[i]? = some x
  | .cel i => nm.cel[i]? = some x ∧ nm.scope.names.lookup x = some .cell
theorem store_tgt (N : NmOk nm) {A : Around} {env : Env} {σ σ' : S} {s : Shared} {μ ν : List Addr} {t : Tgt} {x : Str} {v' : Value} {v : V} {Q : Unit → Shared → Prop} {E : Value → Shared → Prop}
    (F : FrOk X φ nm env σ.loc σ.cel μ ν s.heap) (R : Rep X φ μ ν σ.H σ.C s) (ht : t.At nm x) (e : t.put v σ = some σ') (r : VR X s.heap μ ν v' v)
    (h : ∀ s', Aft X φ μ ν s σ'.H σ'.C μ s' (FrW nm env) → FrOk X φ nm env σ'.loc σ'.cel μ ν s'.heap → Q () s') : wpAny (model X.prog X.w) A (storeName env x v') Q E s := by
  cases t with
  | loc i =>
    cases e
    exact store_loc N F R ht r h
  | cel i =>
    unfold Tgt.put at e
    dsimp only at e
    split at e
    · rename_i c hc
      split at e
      · rename_i hlt
        cases e
        exact store_cel N F R ht.1 ht.2 hc hlt r h
      · cases e
    · cases e
noncomputable def sAssign (t : Tgt) (m : Xm) : Sm := fun σ => match m σ with
  | some (v, H) => (match t.put v { σ with H := H } with
    | some σ' => some (.next, σ')
    | none => none)
  | none => none
theorem RS_assign (N : NmOk nm) {x : Str} {p pos : Pos} {e : PySem.Expr} {m : Xm} {t : Tgt} (r : RX X φ n nm e m) (ht : t.At nm x) (hs : ∀ env, swapsWith e (some (.Name x p)) pos.line env = pure false := by intro _; rfl) :
    RS X φ n nm (.Assign [.Name x p] e pos) (sAssign t m) := fun A env σ s μ ν f σ' hA F R em => by
  unfold sAssign at em
  split at em
  · rename_i v H1 e1
    split at em
    · rename_i σ1 e2
      cases em
      refine wpAny_Assign_Name (r.use hA F R e1 fun x' s1 μ1 a1 F1 r1 => ?_) (hs env)
      exact store_tgt (σ := { σ with H := H1 }) N F1 a1.rep ht e2 r1 fun s2 a2 F2 => ⟨μ1, a1.toFr.trans a2, F2, trivial⟩
    · cases em
  · cases em
end
end Mine
namespace Mine
section
variable {X : Cx} {n : Nat} {nm : Nm}
noncomputable def whileGo (t : Bm) (b : Sm) : Nat → Sm
  | 0, _ => none
  | k + 1, σ => match t σ with
    | some (true, H) => (match b { σ with H := H } with
      | some (.next, σ1) => whileGo t b k σ1
      | some (.ret v, σ1) => some (.ret v, σ1)
      | none => none)
    | some (false, H) => some (.next, { σ with H := H })
    | none => none
noncomputable def sWhile (fuel : Nat) (t : Bm) (b : Sm) : Sm := whileGo t b fuel
theorem RS_while {fuel : Nat} {t : PySem.Expr} {body : List Stmt} {pos : Pos} {m : Bm} {b : Sm} (rt : RB X φ n nm t m) (rb : RSs X φ n nm body b) : RS X φ n nm (.While t body [] pos) (sWhile fuel m b) := fun A env σ s μ ν f σ' hA F R em => by
  refine wpAny_While (codeAny_whileLoop (fun k s1 => ∃ μ1 σ1, Aft X φ μ ν s σ1.H σ1.C μ1 s1 (FrW nm env) ∧ FrOk X φ nm env σ1.loc σ1.cel μ1 ν s1.heap ∧ whileGo m b k σ1 = some (f, σ')) (fun k s1 hI => ?_) fuel ⟨μ, σ, .refl R, F, em⟩)
  obtain ⟨μ1, σ1, a1, F1, e1⟩ := hI
  cases k with
  | zero => cases e1
  | succ k =>
    unfold whileGo at e1
    split at e1
    · rename_i H2 e2
      refine rt.use hA F1 a1.rep e2 fun s2 μ2 a2 F2 => ?_
      rw [if_pos rfl]
      split at e1
      · rename_i σ3 e3
        refine wpAny_mono (rb A env { σ1 with H := H2 } s2 μ2 ν _ σ3 hA F2 a2.rep e3) (fun f3 s3 ⟨μ3, a3, F3, q3⟩ => ?_) fun _ _ h => h.elim
        cases f3 with
        | next => exact ⟨k, Nat.lt_succ_self k, μ3, σ3, (a1.trans a2.toFr).trans a3, F3, e1⟩
        | _ => exact q3.elim
      · rename_i v σ3 e3
        cases e1
        refine wpAny_mono (rb A env { σ1 with H := H2 } s2 μ2 ν _ σ' hA F2 a2.rep e3) (fun f3 s3 ⟨μ3, a3, F3, q3⟩ => ?_) fun _ _ h => h.elim
        cases f3 with
        | ret x => exact ⟨μ3, (a1.trans a2.toFr).trans a3, F3, q3⟩
        | _ => exact q3.elim
      · cases e1
    · rename_i H2 e2
      cases e1
      refine rt.use hA F1 a1.rep e2 fun s2 μ2 a2 F2 => ?_
      rw [if_neg Bool.false_ne_true]
      exact wpAny_execs_nil ⟨μ2, a1.trans a2.toFr, F2, trivial⟩
    · cases e1
noncomputable def itemAt (src : V) (H : List L) (k : Nat) : Option (Option V) := match src with
  | .ref i => (match H[i]? with
    | some l => some (l.vs[k]?)
    | none => none)
  | .tup vs => some (vs[k]?)
  | .rng a b c => if Builtin.Range.small a b c then some (if (k : Int) < Builtin.Range.rangeSize a b c then some (.int (a + c * k)) else none) else none
  | _ => none
/-- an iterator over it, k items taken -/
noncomputable def ItAt (X : Cx) (h : Heap) (μ ν : List Addr) (it : Addr) (k : Nat) : V → Prop
  | .ref i => ∃ a, μ[i]? = some a ∧ h.IsListIter it a k
  | .tup vs => ∃ a its n, h.get? a = some { cls := .type "tuple", data := .seq its n } ∧ VRs X h μ ν its.toList vs ∧ h.IsTupleIter it a k
  | .rng a b c => (k : Int) ≤ max 0 (Builtin.Range.rangeSize a b c) ∧ IsRangeIter h it (a + c * k) (Builtin.Range.rangeSize a b c - k) c
  | _ => False
theorem not_stable_fields {o : Obj} {vs : Array Value} {T : String} (hd : o.data = .fields vs) (hc : o.cls = .type T) (h1 : T ≠ "range") (h2 : T ≠ "code") : ¬ Stable o := by
  rintro (⟨_, _, e, _⟩ | ⟨_, _, e | e⟩ | ⟨_, e⟩)
  · rw [hd] at e; cases e
  · rw [hc] at e; cases e; exact h1 rfl
  · rw [hc] at e; cases e; exact h2 rfl
  · rw [hd] at e; cases e
theorem ItAt.fields {h : Heap} {μ ν : List Addr} {it : Addr} {k : Nat} {src : V} (x : ItAt X h μ ν it k src) {o : Obj} (e : h.get? it = some o) : ∀ es ep, o.data ≠ .dict es ep := by
  cases src with
  | ref i => obtain ⟨a, _, o', e', c, d⟩ := x; rw [e] at e'; cases e'; rw [d]; intro _ _ z; cases z
  | tup vs => obtain ⟨a, its, m, _, _, o', e', c, d⟩ := x; rw [e] at e'; cases e'; rw [d]; intro _ _ z; cases z
  | rng a b c => have e' := x.2; unfold IsRangeIter at e'; rw [e] at e'; cases e'; intro _ _ z; cases z
  | _ => exact x.elim
theorem ItAt.notStable {h : Heap} {μ ν : List Addr} {it : Addr} {k : Nat} {src : V} (x : ItAt X h μ ν it k src) : ∃ o, h.get? it = some o ∧ ¬ Stable o := by
  cases src with
  | ref i => obtain ⟨a, _, o, e, c, d⟩ := x; exact ⟨o, e, not_stable_fields d c (by decide) (by decide)⟩
  | tup vs => obtain ⟨a, its, m, _, _, o, e, c, d⟩ := x; exact ⟨o, e, not_stable_fields d c (by decide) (by decide)⟩
  | rng a b c => exact ⟨_, x.2, not_stable_fields rfl rfl (by decide) (by decide)⟩
  | _ => exact x.elim
theorem ItAt.mono {h h' : Heap} {μ μ' ν : List Addr} {it : Addr} {k : Nat} {src : V} (x : ItAt X h μ ν it k src) (st : Stab h h') (hp : μ <+: μ') (hk : ∀ o, h.get? it = some o → h'.get? it = some o) : ItAt X h' μ' ν it k src := by
  cases src with
  | ref i => obtain ⟨a, e, o, eo, r⟩ := x; exact ⟨a, getElem?_pre hp e, o, hk o eo, r⟩
  | tup vs => obtain ⟨a, its, m, e, r, o, eo, q⟩ := x; exact ⟨a, its, m, st _ _ e (.inl ⟨_, _, rfl, rfl⟩), r.mono st hp (List.prefix_refl _), o, hk o eo, q⟩
  | rng a b c => exact ⟨x.1, hk _ x.2⟩
  | _ => exact x.elim
/-- the head of a loop: the iterator is made -/
theorem iter_src {A : Around} {s : Shared} {μ ν : List Addr} {H : List L} {C : List (Option V)} {x : Value} {src : V} {r : Option V} {Q E : Value → Shared → Prop} (R : Rep X φ μ ν H C s) (rx : VR X s.heap μ ν x src) (hi : itemAt src H 0 = some r)
    (h : ∀ it s', Aft X φ μ ν s H C μ s' NoFree → s.heap.get? it = none → ItAt X s'.heap μ ν it 0 src → Q (.ref it) s') : wpAny (model X.prog X.w) A (pyIter x) Q E s := by
  unfold itemAt at hi
  split at hi
  · split at hi
    · rename_i l hl
      refine rx.ref_e fun a ha => ?_
      obtain ⟨its, k, ho, hz, rv⟩ := R.lists _ a l ha hl
      exact wpAny_pyIter_list (items := its.toArray) ⟨_, ho, rfl, k, rfl⟩ (h _ _ (.push R _) (none_at_size _) ⟨a, ha, _, Heap.get?_push_size _ rfl, rfl, rfl⟩)
    · cases hi
  · refine rx.tup_e fun a its m e rv => ?_
    refine wpAny_pyIter_tuple (items := its.toArray) ⟨_, e, rfl, m, rfl⟩ (h _ _ (.push R _) (none_at_size _) ⟨a, its.toArray, m, Heap.get?_push_of_some _ e, ?_, _, Heap.get?_push_size _ rfl, rfl, rfl⟩)
    exact rv.mono (fun b o e _ => Heap.get?_push_of_some _ e) (List.prefix_refl _) (List.prefix_refl _)
  · rename_i a b c
    split at hi
    · rename_i hs
      refine rx.rng_e fun rr t u v e => ?_
      refine wpAny_pyIter_range e hs (h _ _ (.push R _) (none_at_size _) ⟨by omega, ?_⟩)
      have := Heap.get?_push_size s.heap (o := { cls := .type "range_iterator", data := .fields #[rawInt a, rawInt (Builtin.Range.rangeSize a b c), rawInt c] }) rfl
      simpa using this
    · cases hi
  · cases hi
/-- a turn's item -/
theorem next_item {A : Around} {s : Shared} {μ ν : List Addr} {H : List L} {C : List (Option V)} {it : Addr} {src v : V} {k : Nat} {Q : Option Value → Shared → Prop} {E : Value → Shared → Prop} (R : Rep X φ μ ν H C s) (I : ItAt X s.heap μ ν it k src) (hm : ¬ Mut X μ ν it) (hb : X.h₀.get? it = none) (hi : itemAt src H k = some (some v))
    (h : ∀ x s', Rep X φ μ ν H C s' → Heap.SameBut it s.heap s'.heap → ItAt X s'.heap μ ν it (k + 1) src → VR X s'.heap μ ν x v → Q (some x) s') : wpAny (model X.prog X.w) A (pyNext (.ref it)) Q E s := by
  obtain ⟨oi, ei, ni⟩ := I.notStable
  have fi := I.fields ei
  have stab : ∀ h', Heap.SameBut it s.heap h' → Stab s.heap h' := fun h' hs b o e sb => hs.extBut b o (fun z => by subst z; rw [ei] at e; cases e; exact ni sb) e
  unfold itemAt at hi
  split at hi
  · split at hi
    · rename_i l hl
      obtain ⟨a, ha, hit⟩ := I
      obtain ⟨its, m, ho, hz, rv⟩ := R.lists _ a l ha hl
      cases hi' : l.vs[k]? with
      | none => rw [hi'] at hi; cases hi
      | some v' =>
        rw [hi'] at hi; cases hi
        obtain ⟨x, hx, rx⟩ := rv.get hi'
        refine wpAny_pyNext_list_item hit (items := its.toArray) ⟨_, ho, rfl, m, rfl⟩ (by simpa using hx) fun h' hit' hs' => ?_
        exact h x _ (R.upd hs'.extBut ei ni hm hb (.inl fi)) hs' ⟨a, ha, hit'⟩ (rx.mono (stab h' hs') (List.take_prefix _ _) (List.nil_prefix))
    · cases hi
  · obtain ⟨a, its, m, e, rv, hit⟩ := I
    cases hi' : (‹List V›)[k]? with
    | none => rw [hi'] at hi; cases hi
    | some v' =>
      rw [hi'] at hi; cases hi
      obtain ⟨x, hx, rx⟩ := rv.get hi'
      refine wpAny_pyNext_tuple_item hit (items := its) ⟨_, e, rfl, m, rfl⟩ (by simpa using hx) fun h' hit' hs' => ?_
      have st := stab h' hs'
      exact h x _ (R.upd hs'.extBut ei ni hm hb (.inl fi)) hs' ⟨a, its, m, st _ _ e (.inl ⟨_, _, rfl, rfl⟩), rv.mono st (List.prefix_refl _) (List.prefix_refl _), hit'⟩ (rx.mono st (List.prefix_refl _) (List.prefix_refl _))
  · split at hi
    · split at hi
      · rename_i hlt
        cases hi
        obtain ⟨hk, hit⟩ := I
        refine wpAny_pyNext_range_item hit (by omega) fun h' hit' hs' => ?_
        refine h _ _ (R.upd hs'.extBut ei ni hm hb (.inl fi)) hs' ⟨by omega, ?_⟩ (.int _ _)
        rw [show (((k + 1 : Nat) : Int)) = (k : Int) + 1 by omega, Int.mul_add, Int.mul_one, ← Int.add_assoc, ← Int.sub_sub]
        exact hit'
      · cases hi
    · cases hi
  · cases hi
/-- no item is left -/
theorem next_end {A : Around} {s : Shared} {μ ν : List Addr} {H : List L} {C : List (Option V)} {it : Addr} {src : V} {k : Nat} {Q : Option Value → Shared → Prop} {E : Value → Shared → Prop} (hA : A.handled = none) (R : Rep X φ μ ν H C s) (I : ItAt X s.heap μ ν it k src) (hm : ¬ Mut X μ ν it) (hb : X.h₀.get? it = none) (hi : itemAt src H k = some none)
    (h : ∀ s', Rep X φ μ ν H C s' → Heap.ExtBut it s.heap s'.heap → Q none s') : wpAny (model X.prog X.w) A (pyNext (.ref it)) Q E s := by
  obtain ⟨oi, ei, ni⟩ := I.notStable
  have fi := I.fields ei
  unfold itemAt at hi
  split at hi
  · split at hi
    · rename_i l hl
      obtain ⟨a, ha, hit⟩ := I
      obtain ⟨its, m, ho, hz, rv⟩ := R.lists _ a l ha hl
      have hi' := Option.some.inj hi
      exact wpAny_pyNext_list_end hA hit (items := its.toArray) ⟨_, ho, rfl, m, rfl⟩ (by simpa using rv.getNone hi') fun h' he => h _ (R.upd he ei ni hm hb (.inl fi)) he
    · cases hi
  · obtain ⟨a, its, m, e, rv, hit⟩ := I
    have hi' := Option.some.inj hi
    exact wpAny_pyNext_tuple_end hA hit (items := its) ⟨_, e, rfl, m, rfl⟩ (by simpa using rv.getNone hi') fun h' he => h _ (R.upd he ei ni hm hb (.inl fi)) he
  · split at hi
    · split at hi
      · cases hi
      · rename_i hlt
        obtain ⟨hk, hit⟩ := I
        exact wpAny_pyNext_range_end hA hit (by omega) fun h' he => h _ (R.upd he ei ni hm hb (.inl fi)) he
    · cases hi
  · cases hi
noncomputable def forGo (src : V) (t : Tgt) (b : Sm) : Nat → Nat → Sm
  | 0, _, _ => none
  | g + 1, k, σ => match itemAt src σ.H k with
    | some none => some (.next, σ)
    | some (some v) => (match t.put v σ with
      | some σ1 => (match b σ1 with
        | some (.next, σ2) => forGo src t b g (k + 1) σ2
        | some (.ret r, σ2) => some (.ret r, σ2)
        | none => none)
      | none => none)
    | none => none
noncomputable def sFor (fuel : Nat) (t : Tgt) (m : Xm) (b : Sm) : Sm := fun σ => match m σ with
  | some (src, H) => forGo src t b fuel 0 { σ with H := H }
  | none => none
theorem RS_for (N : NmOk nm) {fuel : Nat} {x : Str} {p pos : Pos} {e : PySem.Expr} {body : List Stmt} {t : Tgt} {m : Xm} {b : Sm} (r : RX X φ n nm e m) (ht : t.At nm x) (rb : RSs X φ n nm body b) (hs : ∀ env x, foldedSetIterable e env x = pure x := by intro _ _; rfl) :
    RS X φ n nm (.For (.Name x p) e body [] pos) (sFor fuel t m b) := fun A env σ s μ ν f σ' hA F R em => by
  unfold sFor at em
  split at em
  · rename_i src H1 e1
    refine wpAny_For (r.use hA F R e1 fun x' s1 μ1 a1 F1 r1 => ?_) (hs env)
    have hi0 : ∃ r, itemAt src H1 0 = some r := by
      cases fuel with
      | zero => cases em
      | succ g =>
        unfold forGo at em
        split at em
        · exact ⟨_, ‹_›⟩
        · exact ⟨_, ‹_›⟩
        · cases em
    obtain ⟨r0, hi0⟩ := hi0
    refine iter_src a1.rep r1 hi0 fun it s2 a2 hnone I2 => ?_
    have hbase : X.h₀.get? it = none := a1.rep.base_none hnone
    have hmut2 : ¬ Mut X μ1 ν it := a1.rep.not_mut hnone
    have F2 := F1.aft a1.rep a2
    have hneL : it ≠ env.locals := fun z => by
      obtain ⟨m0, hn, _⟩ := F1.ns
      obtain ⟨o, eo⟩ := Ns_alive hn
      rw [z, eo] at hnone; cases hnone
    -- the turn
    refine codeAny_forLoop (fun g s3 => ∃ k μ3 σ3, Aft X φ μ ν s σ3.H σ3.C μ3 s3 (FrW nm env) ∧ μ1 <+: μ3 ∧ FrOk X φ nm env σ3.loc σ3.cel μ3 ν s3.heap ∧ ItAt X s3.heap μ3 ν it k src ∧ ¬ Mut X μ3 ν it ∧ s.heap.get? it = none ∧ forGo src t b g k σ3 = some (f, σ'))
      (fun g s3 hI => ?_) fuel ⟨0, μ1, { σ with H := H1 }, (a1.trans a2).toFr, List.prefix_refl _, F2, I2, hmut2, ?_, em⟩
    · obtain ⟨k, μ3, σ3, a3, hp3, F3, I3, hm3, hn3, e3⟩ := hI
      cases g with
      | zero => cases e3
      | succ g =>
        unfold forGo at e3
        split at e3
        · rename_i hend
          cases e3
          refine next_end hA.handled a3.rep I3 hm3 hbase hend fun s4 R4 x4 => ?_
          refine wpAny_execs_nil ⟨μ3, ⟨a3.pre, a3.new, R4, fun c o q eo => (a3.keeps c o q eo).step fun o' e' => x4 c o' (fun z => by rw [z, hn3] at eo; cases eo) e', fun c o eo => ?_⟩, ?_, trivial⟩
          · obtain ⟨o', eo'⟩ := a3.alive c o eo
            exact ⟨o', x4 c o' (fun z => by rw [z, hn3] at eo; cases eo) eo'⟩
          · obtain ⟨oi, ei, ni⟩ := I3.notStable
            exact F3.mono (fun c o eo sb => x4 c o (fun z => by subst z; rw [ei] at eo; cases eo; exact ni sb) eo) (List.prefix_refl _) (List.prefix_refl _) (fun o eo => x4 _ o (fun z => hneL z.symm) eo) F3.own.1
        · rename_i v hitem
          split at e3
          · rename_i σ4 e4
            refine next_item a3.rep I3 hm3 hbase hitem fun x4 s4 R4 x4b I4 r4 => ?_
            have st4 : Stab s3.heap s4.heap := by
              obtain ⟨oi, ei, ni⟩ := I3.notStable
              exact fun c o eo sb => x4b.extBut c o (fun z => by subst z; rw [ei] at eo; cases eo; exact ni sb) eo
            have a4 : Aft X φ μ ν s σ3.H σ3.C μ3 s4 (FrW nm env) := ⟨a3.pre, a3.new, R4, fun c o q eo => (a3.keeps c o q eo).step fun o' e' => x4b.extBut c o' (fun z => by rw [z, hn3] at eo; cases eo) e', fun c o eo => by
              obtain ⟨o', eo'⟩ := a3.alive c o eo
              exact ⟨o', x4b.extBut c o' (fun z => by rw [z, hn3] at eo; cases eo) eo'⟩⟩
            have F4 : FrOk X φ nm env σ3.loc σ3.cel μ3 ν s4.heap := F3.mono st4 (List.prefix_refl _) (List.prefix_refl _) (fun o eo => x4b.extBut _ o (fun z => hneL z.symm) eo) F3.own.1
            refine wpAny_assign_Name (store_tgt N F4 a4.rep ht e4 r4 fun s5 a5 F5 => ?_)
            have I5 : ItAt X s5.heap μ3 ν it (k + 1) src := I4.mono (F4.stabW a4.rep a5.keeps) (List.prefix_refl _) fun o eo => (a5.keeps it o (fun q => q.elim (fun q => hm3 q.mut) fun q => (F4.frw q).elim hneL fun q => hm3 (.inr (.inl q))) eo).nd (I4.fields eo)
            split at e3
            · rename_i σ6 e6
              refine wpAny_mono (rb A env σ4 s5 μ3 ν _ σ6 hA F5 a5.rep e6) (fun f6 s6 ⟨μ6, a6, F6, q6⟩ => ?_) fun _ _ h => h.elim
              cases f6 with
              | next =>
                obtain ⟨oi, ei, ni⟩ := I5.notStable
                refine ⟨g, Nat.lt_succ_self g, k + 1, μ6, σ6, (a4.trans a5).trans a6, List.IsPrefix.trans hp3 a6.pre, F6, ?_, a6.mut ei hm3, hn3, e3⟩
                exact I5.mono (F5.stabW a5.rep a6.keeps) a6.pre fun o eo => (a6.keeps it o (fun q => q.elim (fun q => hm3 q.mut) fun q => (F5.frw q).elim hneL fun q => hm3 (.inr (.inl q))) eo).nd (I5.fields eo)
              | _ => exact q6.elim
            · rename_i w σ6 e6
              cases e3
              refine wpAny_mono (rb A env σ4 s5 μ3 ν _ σ' hA F5 a5.rep e6) (fun f6 s6 ⟨μ6, a6, F6, q6⟩ => ?_) fun _ _ h => h.elim
              cases f6 with
              | ret y => exact ⟨μ6, (a4.trans a5).trans a6, F6, q6⟩
              | _ => exact q6.elim
            · cases e3
          · cases e3
        · cases e3
    · cases q : s.heap.get? it with
      | none => rfl
      | some o =>
        obtain ⟨o', eo'⟩ := a1.alive it o q
        rw [hnone] at eo'; cases eo'
  · cases em
end
end Mine
namespace Mine
noncomputable def idxOf (i : Nat) : List Nat → Option Nat
  | [] => none
  | k :: r => if k = i then some 0 else (idxOf i r).map (· + 1)
mutual
noncomputable def renV (n0 : Nat) (κ : List Nat) : V → Option V
  | .ref i => if i < n0 then some (.ref i) else (match idxOf i κ with
    | some j => some (.ref (n0 + j))
    | none => none)
  | .tup vs => (match renVs n0 κ vs with
    | some us => some (.tup us)
    | none => none)
  | .clo _ _ => none
  | .none => some .none
  | .bool b => some (.bool b)
  | .int i => some (.int i)
  | .str s => some (.str s)
  | .rng a b c => some (.rng a b c)
  | .fn k => some (.fn k)
  | .frz xs => some (.frz xs)
noncomputable def renVs (n0 : Nat) (κ : List Nat) : List V → Option (List V)
  | [] => some []
  | v :: vs => (match renV n0 κ v with
    | some u => (match renVs n0 κ vs with
      | some us => some (u :: us)
      | none => none)
    | none => none)
end
noncomputable def renL (n0 : Nat) (κ : List Nat) : L → Option L
  | .ints xs => some (.ints xs)
  | .vals vs => (match renVs n0 κ vs with
    | some us => some (.vals us)
    | none => none)
noncomputable def expLs (n0 : Nat) (H : List L) : List Nat → List Nat → Option (List L)
  | [], _ => some []
  | i :: r, done => (match H[i]? with
    | some l => (match renL n0 done l with
      | some l' => (match expLs n0 H r (done ++ [i]) with
        | some ls => some (l' :: ls)
        | none => none)
      | none => none)
    | none => none)
noncomputable abbrev Kap := Nat → V → List L → List Nat
noncomputable def kap1 : Kap := fun n0 v _ => match v with
  | .ref i => if i < n0 then [] else [i]
  | _ => []
noncomputable def expo (κ : Kap) (n0 : Nat) (v : V) (H : List L) : Option (V × List L) :=
  if (κ n0 v H).Nodup ∧ ∀ i ∈ κ n0 v H, n0 ≤ i then (match renV n0 (κ n0 v H) v with
    | some v' => (match expLs n0 H (κ n0 v H) [] with
      | some ls => some (v', H.take n0 ++ ls)
      | none => none)
    | none => none) else none
theorem idxOf_get : ∀ {κ : List Nat} {i j : Nat}, idxOf i κ = some j → κ[j]? = some i
  | k :: r, i, j, e => by
    unfold idxOf at e
    split at e
    · rename_i h; cases e; rw [h]; rfl
    · cases q : idxOf i r with
      | none => rw [q] at e; cases e
      | some j' => rw [q] at e; cases e; simpa using idxOf_get q
mutual
theorem renV_ok {X : Cx} {h : Heap} {μ μ' ν ν' : List Addr} {n0 : Nat} {κ : List Nat} (h1 : ∀ (i : Nat) (a : Addr), μ[i]? = some a → i < n0 → μ'[i]? = some a) (h2 : ∀ (j i : Nat) (a : Addr), κ[j]? = some i → μ[i]? = some a → μ'[n0 + j]? = some a) :
    ∀ {x : Value} {v u : V}, VR X h μ ν x v → renV n0 κ v = some u → VR X h μ' ν' x u
  | _, _, _, .none, e => by simp only [renV] at e; cases e; exact .none
  | _, _, _, .bool b, e => by simp only [renV] at e; cases e; exact .bool b
  | _, _, _, .int i t, e => by simp only [renV] at e; cases e; exact .int i t
  | _, _, _, .str s t, e => by simp only [renV] at e; cases e; exact .str s t
  | _, _, _, .ref q, e => by
    simp only [renV] at e
    split at e
    · rename_i hlt; cases e; exact .ref (h1 _ _ q hlt)
    · split at e
      · rename_i j hj; cases e; exact .ref (h2 _ _ _ (idxOf_get hj) q)
      · cases e
  | _, _, _, .tup q r, e => by
    simp only [renV] at e
    split at e
    · rename_i us hu; cases e; exact .tup q (renVs_ok h1 h2 r hu)
    · cases e
  | _, _, _, .rng q, e => by simp only [renV] at e; cases e; exact .rng q
  | _, _, _, .fn q, e => by simp only [renV] at e; cases e; exact .fn q
  | _, _, _, .clo _ _ _ _ _, e => by simp only [renV] at e; cases e
  | _, _, _, .frz q r z, e => by simp only [renV] at e; cases e; exact .frz q r z
theorem renVs_ok {X : Cx} {h : Heap} {μ μ' ν ν' : List Addr} {n0 : Nat} {κ : List Nat} (h1 : ∀ (i : Nat) (a : Addr), μ[i]? = some a → i < n0 → μ'[i]? = some a) (h2 : ∀ (j i : Nat) (a : Addr), κ[j]? = some i → μ[i]? = some a → μ'[n0 + j]? = some a) :
    ∀ {x : List Value} {v u : List V}, VRs X h μ ν x v → renVs n0 κ v = some u → VRs X h μ' ν' x u
  | _, _, _, .nil, e => by simp only [renVs] at e; cases e; exact .nil
  | _, _, _, .cons a b, e => by
    simp only [renVs] at e
    split at e
    · rename_i u hu
      split at e
      · rename_i us hus
        cases e
        exact .cons (renV_ok h1 h2 a hu) (renVs_ok h1 h2 b hus)
      · cases e
    · cases e
end
theorem ints_any {X : Cx} {h : Heap} {μ ν μ' ν' : List Addr} : ∀ {ns : List Int} {xs : List Value}, VRs X h μ ν xs (ns.map V.int) → VRs X h μ' ν' xs (ns.map V.int) := fun {ns} => by
  induction ns with
  | nil => exact fun r => r.nil_e .nil
  | cons n ns ih => exact fun r => r.cons_e fun x ys rx rs => rx.int_e fun t => .cons (.int n t) (ih rs)
theorem renL_ok {X : Cx} {h : Heap} {μ μ' ν ν' : List Addr} {n0 : Nat} {κ : List Nat} (h1 : ∀ (i : Nat) (a : Addr), μ[i]? = some a → i < n0 → μ'[i]? = some a) (h2 : ∀ (j i : Nat) (a : Addr), κ[j]? = some i → μ[i]? = some a → μ'[n0 + j]? = some a)
    {xs : List Value} {l u : L} (r : VRs X h μ ν xs l.vs) (e : renL n0 κ l = some u) : VRs X h μ' ν' xs u.vs := by
  rcases l with ns | vs
  · cases e; exact ints_any r
  · unfold renL at e
    dsimp only at e
    split at e
    · cases e; exact renVs_ok h1 h2 r ‹_›
    · cases e
theorem expLs_get {n0 : Nat} {H : List L} : ∀ {κ done : List Nat} {ls : List L}, expLs n0 H κ done = some ls → ls.length = κ.length ∧ ∀ (j : Nat) (l' : L), ls[j]? = some l' → ∃ i l, κ[j]? = some i ∧ H[i]? = some l ∧ renL n0 (done ++ κ.take j) l = some l'
  | [], _, _, e => by cases e; exact ⟨rfl, fun j l' q => by simp at q⟩
  | i :: r, done, ls, e => by
    unfold expLs at e
    split at e
    · rename_i l hl
      split at e
      · rename_i l' hl'
        split at e
        · rename_i ls' hls
          cases e
          obtain ⟨a, b⟩ := expLs_get hls
          refine ⟨by simp [a], fun j m q => ?_⟩
          cases j with
          | zero => simp at q; subst q; exact ⟨i, l, rfl, hl, by simpa using hl'⟩
          | succ j =>
            obtain ⟨i', l2, q1, q2, q3⟩ := b j m (by simpa using q)
            exact ⟨i', l2, by simpa using q1, q2, by simpa [List.append_assoc] using q3⟩
        · cases e
      · cases e
    · cases e
theorem nodup_map_of {α : Type} {f : α → Addr} : ∀ {κ : List α}, κ.Nodup → (∀ i ∈ κ, ∀ j ∈ κ, f i = f j → i = j) → (κ.map f).Nodup
  | [], _, _ => .nil
  | k :: r, nd, h => by
    obtain ⟨a, b⟩ := List.nodup_cons.mp nd
    rw [List.map_cons, List.nodup_cons]
    refine ⟨fun q => ?_, nodup_map_of b fun i hi j hj => h i (.tail _ hi) j (.tail _ hj)⟩
    obtain ⟨i, hi, e⟩ := List.mem_map.mp q
    exact a (h i (.tail _ hi) k (.head _) e ▸ hi)
section
variable {X : Cx}
/-- the ledger behind a def's return -/
noncomputable def keptAt (μ : List Addr) (n0 : Nat) (κ : List Nat) : List Addr := μ.take n0 ++ κ.map fun i => μ.getD i 0
theorem kept_get {μ : List Addr} {n0 : Nat} {κ : List Nat} (hn : n0 ≤ μ.length) {j : Nat} : (keptAt μ n0 κ)[n0 + j]? = κ[j]?.map fun i => μ.getD i 0 := by
  unfold keptAt
  rw [List.getElem?_append_right (by rw [List.length_take]; omega), List.length_take, Nat.min_eq_left hn, Nat.add_sub_cancel_left, List.getElem?_map]
theorem kept_lo {μ : List Addr} {n0 : Nat} {κ : List Nat} (hn : n0 ≤ μ.length) {i : Nat} (hi : i < n0) : (keptAt μ n0 κ)[i]? = μ[i]? := by
  unfold keptAt
  rw [List.getElem?_append_left (by rw [List.length_take]; omega), List.getElem?_take, if_pos hi]
theorem kept_h1 {μ : List Addr} {n0 : Nat} {κ : List Nat} (hn : n0 ≤ μ.length) (i : Nat) (a : Addr) (e : μ[i]? = some a) (hi : i < n0) : (keptAt μ n0 κ)[i]? = some a := by rw [kept_lo hn hi]; exact e
theorem kept_h2 {μ : List Addr} {n0 : Nat} {κ : List Nat} (hn : n0 ≤ μ.length) (j i : Nat) (a : Addr) (e : κ[j]? = some i) (f : μ[i]? = some a) : (keptAt μ n0 κ)[n0 + j]? = some a := by
  rw [kept_get hn, e]; simp [f]
theorem Rep.export {μ ν ν0 : List Addr} {H : List L} {C C0 : List (Option V)} {s : Shared} {n0 : Nat} {κ : List Nat} {ls : List L} (R : Rep X φ μ ν H C s) (hn : n0 ≤ μ.length) (hκ : κ.Nodup) (hlo : ∀ i ∈ κ, n0 ≤ i) (e : expLs n0 H κ [] = some ls)
    (hν : ν0 <+: ν) (hC : ν0.length = C0.length) (hc : ∀ (i : Nat) (a : Addr) (v : Option V), ν0[i]? = some a → C0[i]? = some v → CellR X s.heap (keptAt μ n0 κ) ν0 a v) : Rep X φ (keptAt μ n0 κ) ν0 (H.take n0 ++ ls) C0 s := by
  obtain ⟨e1, e2⟩ := expLs_get e
  have hin : ∀ i ∈ κ, ∃ a, μ[i]? = some a := fun i hi => by
    obtain ⟨j, hj⟩ := List.mem_iff_getElem?.mp hi
    have hjl : j < ls.length := by rw [e1]; exact (List.getElem?_eq_some_iff.mp hj).1
    obtain ⟨i', l, q1, q2, _⟩ := e2 j _ (List.getElem?_eq_getElem hjl)
    rw [hj] at q1; cases q1
    have : i < μ.length := by rw [R.lenH]; exact (List.getElem?_eq_some_iff.mp q2).1
    exact ⟨_, List.getElem?_eq_getElem this⟩
  have hsub : ∀ a ∈ keptAt μ n0 κ, a ∈ μ := fun a ha => by
    rcases List.mem_append.mp ha with ha | ha
    · exact List.mem_of_mem_take ha
    · obtain ⟨i, hi, rfl⟩ := List.mem_map.mp ha
      obtain ⟨b, hb⟩ := hin i hi
      rw [List.getD_eq_getElem?_getD, hb]
      exact List.mem_of_getElem? hb
  have nd := List.nodup_append.mp R.nodup
  exact
  { frs := fun L hL => let ⟨f1, f2, f3⟩ := R.frs L hL; ⟨f1, fun q => f2 (q.elim (fun q => .inl (hsub L q)) fun q => q.elim (fun q => .inr (.inl (hν.subset q))) fun q => .inr (.inr q)), f3⟩
    same := R.same
    keep := R.keep
    lenH := by simp only [keptAt, List.length_append, List.length_take, List.length_map, e1, R.lenH]
    lenC := hC
    nodup := by
      refine List.nodup_append.mpr ⟨List.nodup_append.mpr ⟨nd.1.sublist (List.take_sublist _ _), ?_, ?_⟩, nd.2.1.sublist hν.sublist, fun a ha b hb => nd.2.2 a (hsub a ha) b (hν.subset hb)⟩
      · refine nodup_map_of hκ fun a ha b hb q => ?_
        obtain ⟨x, hx⟩ := hin a ha
        obtain ⟨y, hy⟩ := hin b hb
        simp only [List.getD_eq_getElem?_getD, hx, hy, Option.getD_some] at q
        subst q
        exact nodup_idx nd.1 hx hy
      · intro a ha b hb q
        subst q
        obtain ⟨i, hi, hb⟩ := List.mem_map.mp hb
        obtain ⟨x, hx⟩ := hin i hi
        rw [List.getD_eq_getElem?_getD, hx] at hb
        simp at hb
        subst hb
        obtain ⟨k, hk⟩ := List.mem_iff_getElem?.mp ha
        rw [List.getElem?_take] at hk
        split at hk
        · have := nodup_idx nd.1 hk hx
          have := hlo i hi
          omega
        · cases hk
    fresh := fun a ha => R.fresh a (ha.elim (fun q => .inl (hsub a q)) fun q => .inr (hν.subset q))
    lists := fun i a l q1 q2 => by
      by_cases hi : i < n0
      · rw [kept_lo hn hi] at q1
        rw [List.getElem?_append_left (by rw [List.length_take, ← R.lenH]; omega), List.getElem?_take, if_pos hi] at q2
        obtain ⟨its, k, q3, q4, q5⟩ := R.lists i a l q1 q2
        refine ⟨its, k, q3, q4, ?_⟩
        have : (keptAt μ n0 κ).take i = μ.take i := by
          unfold keptAt
          rw [List.take_append_of_le_length (by rw [List.length_take]; omega), List.take_take, Nat.min_eq_left (Nat.le_of_lt hi)]
        rw [this]; exact q5
      · obtain ⟨j, rfl⟩ : ∃ j, i = n0 + j := ⟨i - n0, by omega⟩
        rw [kept_get hn] at q1
        rw [List.getElem?_append_right (by rw [List.length_take]; omega), List.length_take, ← R.lenH, Nat.min_eq_left hn, Nat.add_sub_cancel_left] at q2
        obtain ⟨i', l', p1, p2, p3⟩ := e2 j l q2
        rw [p1] at q1
        obtain ⟨x, hx⟩ := hin i' (List.mem_of_getElem? p1)
        simp [hx] at q1
        subst q1
        obtain ⟨its, k, q3, q4, q5⟩ := R.lists i' x l' hx p2
        refine ⟨its, k, q3, q4, ?_⟩
        refine renL_ok (n0 := n0) (κ := κ.take j) (fun i2 a2 f1 f2 => ?_) (fun j2 i2 a2 f1 f2 => ?_) q5 (by simpa using p3)
        · rw [List.getElem?_take] at f1
          split at f1
          · rw [List.getElem?_take, if_pos (by omega), kept_lo hn f2]; exact f1
          · cases f1
        · rw [List.getElem?_take] at f1
          split at f1
          · rename_i hj2
            rw [List.getElem?_take] at f2
            split at f2
            · rw [List.getElem?_take, if_pos (by omega)]
              exact kept_h2 hn j2 i2 a2 f1 f2
            · cases f2
          · cases f1
    cells := hc
    tabs := R.tabs }
/-- new cells -/
theorem Rep.addCells {μ ν : List Addr} {H : List L} {C : List (Option V)} {s : Shared} {bs : List Addr} {vs : List (Option V)} (R : Rep X φ μ ν H C s) (hl : bs.length = vs.length) (hf : ∀ b ∈ bs, ¬ Mut X μ ν b ∧ X.h₀.get? b = none) (nd : bs.Nodup)
    (hc : ∀ (i : Nat) (a : Addr) (v : Option V), bs[i]? = some a → vs[i]? = some v → CellR X s.heap μ ν a v) : Rep X φ μ (ν ++ bs) H (C ++ vs) s where
  frs := fun L hL => let ⟨f1, f2, f3⟩ := R.frs L hL; ⟨f1, fun q => by
    rcases q with q | q | q
    · exact f2 (.inl q)
    · rcases List.mem_append.mp q with q | q
      · exact f2 (.inr (.inl q))
      · obtain ⟨j, hj⟩ := List.mem_iff_getElem?.mp q
        have hjl : j < vs.length := by rw [← hl]; exact (List.getElem?_eq_some_iff.mp hj).1
        have hcell := hc j L _ hj (List.getElem?_eq_getElem hjl)
        obtain ⟨o, es, ep, e, d⟩ := f3
        have hv : ∃ v, s.heap.IsCell L v := by
          cases z : vs[j] with
          | none => rw [z] at hcell; exact hcell
          | some x => rw [z] at hcell; obtain ⟨v, hv, _⟩ := hcell; exact ⟨_, hv⟩
        obtain ⟨v, hv⟩ := hv
        have := IsCell_data hv e
        rw [d] at this; cases this
    · exact f2 (.inr (.inr q)), f3⟩
  same := R.same
  keep := R.keep
  lenH := R.lenH
  lenC := by simp [R.lenC, hl]
  nodup := by
    have n0 := List.nodup_append.mp R.nodup
    refine List.nodup_append.mpr ⟨n0.1, List.nodup_append.mpr ⟨n0.2.1, nd, fun a ha b hb q => (hf b hb).1 (.inr (.inl (q ▸ ha)))⟩, fun a ha b hb q => ?_⟩
    rcases List.mem_append.mp hb with hb | hb
    · exact n0.2.2 a ha b hb q
    · exact (hf b hb).1 (.inl (q ▸ ha))
  fresh := fun a ha => by
    rcases ha with ha | ha
    · exact R.fresh a (.inl ha)
    · rcases List.mem_append.mp ha with ha | ha
      · exact R.fresh a (.inr ha)
      · exact ⟨(hf a ha).2, fun q => (hf a ha).1 (.inr (.inr q))⟩
  lists := R.lists
  cells := fun i a v e1 e2 => by
    by_cases hi : i < ν.length
    · rw [List.getElem?_append_left hi] at e1
      rw [List.getElem?_append_left (by rw [← R.lenC]; exact hi)] at e2
      exact (R.cells i a v e1 e2).mono (Stab.refl _) (List.prefix_refl _) (List.prefix_append _ _) fun _ e => e
    · rw [List.getElem?_append_right (by omega)] at e1
      rw [List.getElem?_append_right (by rw [← R.lenC]; omega), ← R.lenC] at e2
      exact (hc _ a v e1 e2).mono (Stab.refl _) (List.prefix_refl _) (List.prefix_append _ _) fun _ e => e
  tabs := R.tabs
end
end Mine
namespace Mine
/-- a def of the text, as the calculus knows it -/
structure Df where
  name : Str
  params : Arguments
  body : List Stmt
  scope : Scope
  nm : Nm
  pars : List Str
  li : List (Option Nat)
  ci : List (Option Nat)
noncomputable def idxS (x : Str) : List Str → Option Nat
  | [] => none
  | y :: r => if x = y then some 0 else (idxS x r).map (· + 1)
noncomputable def dfOk (d : Df) : Bool := nmOk d.nm && decide (d.nm.scope.names = d.scope.names) && decide (d.nm.scope.kind = d.scope.kind) && !d.scope.isCoroutine && !d.scope.isGenerator && decide (d.li = d.nm.loc.map fun x => idxS x d.pars) && decide (d.ci = d.nm.cel.map fun x => idxS x d.pars) &&
  d.scope.names.all (fun x => x.2 != .cell || d.nm.cel.contains x.1) && d.nm.cel.all (fun x => decide (d.scope.names.lookup x = some .cell)) && d.pars.all (fun x => decide (d.scope.names.lookup x = some .local ∨ d.scope.names.lookup x = some .cell)) && decide d.pars.Nodup &&
  decide ((d.scope.names.filter (·.2 == .cell)).map (·.1)).Nodup
structure DfOk (d : Df) : Prop where
  nm : NmOk d.nm
  names : d.nm.scope.names = d.scope.names
  kind : d.nm.scope.kind = d.scope.kind
  co : d.scope.isCoroutine = false
  gen : d.scope.isGenerator = false
  li : d.li = d.nm.loc.map fun x => idxS x d.pars
  ci : d.ci = d.nm.cel.map fun x => idxS x d.pars
  cells : ∀ x ∈ d.scope.names, x.2 = .cell → x.1 ∈ d.nm.cel
  cel : ∀ x ∈ d.nm.cel, d.scope.names.lookup x = some .cell
  pars : ∀ x ∈ d.pars, d.scope.names.lookup x = some .local ∨ d.scope.names.lookup x = some .cell
  npars : d.pars.Nodup
  ncells : ((d.scope.names.filter (·.2 == .cell)).map (·.1)).Nodup
theorem DfOk.of {d : Df} (h : dfOk d = true) : DfOk d := by
  simp only [dfOk, Bool.and_eq_true, decide_eq_true_eq, List.all_eq_true, Bool.not_eq_true', Bool.or_eq_true, bne_iff_ne, ne_eq, List.contains_iff_mem] at h
  obtain ⟨⟨⟨⟨⟨⟨⟨⟨⟨⟨⟨h1, h2⟩, h3⟩, h4⟩, h5⟩, h6⟩, h7⟩, h8⟩, h9⟩, h10⟩, h11⟩, h12⟩ := h
  exact ⟨.of h1, h2, h3, h4, h5, h6, h7, fun x hx e => (h8 x hx).resolve_left (fun q => q e), h9, h10, h11, h12⟩
/-- it stands at the address -/
structure FnAt (X : Cx) (a : Addr) (d : Df) : Prop where
  obj : ∃ o fd, X.h₀.get? a = some o ∧ o.data = .func fd ∧ fd.qualname = d.name ∧ fd.params = d.params ∧ fd.body = .stmts d.body ∧ fd.scope = d.scope ∧ fd.globals = mainGlobals ∧ fd.closure = [] ∧ fd.builtins = builtinsNs ∧
    X.h₀.CodeRec fd.code d.name ∧ (∀ q, X.tabs[d.nm.tab]? = some q → fd.code = .ref q.1)
  qual : d.name ++ ".<locals>." = d.nm.qual
  scope : d.nm.scope = d.scope
theorem bindL_look {kindOf : Str → Option NameKind} {x : Str} (hk : kindOf x = some .local) : ∀ {binds : List (Str × Value)} {m : Str → Option Value}, (binds.map (·.1)).Nodup → bindL kindOf binds m x = match binds.lookup x with
    | some v => some v
    | none => m x
  | [], _, _ => rfl
  | (y, v) :: r, m, nd => by
    obtain ⟨n1, n2⟩ := List.nodup_cons.mp nd
    unfold bindL
    rw [bindL_look hk n2, List.lookup_cons]
    by_cases hxy : x = y
    · subst hxy
      have : r.lookup x = none := by
        cases q : r.lookup x with
        | none => rfl
        | some w => exact absurd (List.mem_map_of_mem (f := (·.1)) (mem_of_lookup q)) n1
      simp [this, hk]
    · have hb : (x == y) = false := beq_eq_false_iff_ne.mpr hxy
      rw [hb]
      dsimp only
      cases r.lookup x with
      | some w => rfl
      | none => dsimp only; split <;> simp [hxy]
theorem bindC_look {kindOf : Str → Option NameKind} {x : Str} (hk : kindOf x = some .cell) : ∀ {binds : List (Str × Value)} {m : Str → Option Value}, (binds.map (·.1)).Nodup → bindC kindOf binds m x = match binds.lookup x with
    | some v => some v
    | none => m x
  | [], _, _ => rfl
  | (y, v) :: r, m, nd => by
    obtain ⟨n1, n2⟩ := List.nodup_cons.mp nd
    unfold bindC
    rw [bindC_look hk n2, List.lookup_cons]
    by_cases hxy : x = y
    · subst hxy
      have : r.lookup x = none := by
        cases q : r.lookup x with
        | none => rfl
        | some w => exact absurd (List.mem_map_of_mem (f := (·.1)) (mem_of_lookup q)) n1
      simp [this, hk]
    · have hb : (x == y) = false := beq_eq_false_iff_ne.mpr hxy
      rw [hb]
      dsimp only
      cases r.lookup x with
      | some w => rfl
      | none => dsimp only; split <;> simp [hxy]
theorem zip_look {α : Type} : ∀ {ps : List Str} {vs : List α} {x : Str} {j : Nat}, idxS x ps = some j → (ps.zip vs).lookup x = vs[j]?
  | p :: ps, [], x, j, e => by simp
  | p :: ps, v :: vs, x, j, e => by
    unfold idxS at e
    rw [List.zip_cons_cons, List.lookup_cons]
    split at e
    · rename_i h; subst h; cases e; simp
    · rename_i h
      have hb : (x == p) = false := beq_eq_false_iff_ne.mpr h
      rw [hb]
      cases q : idxS x ps with
      | none => rw [q] at e; cases e
      | some k => rw [q] at e; cases e; simpa using zip_look q
/-- keyword arguments: none, or a key -/
noncomputable def KwR (X : Cx) (h : Heap) (μ ν : List Addr) (kws : List (Str × Value)) : Option V → Prop
  | none => kws = []
  | some v => ∃ kv, kws = [(("key" : Str), kv)] ∧ VR X h μ ν kv v
noncomputable abbrev FCall := List V → Option V → List (Option V) → List L → Option (V × List L)
noncomputable def RetR (X : Cx) (φ : List Env) (μ ν : List Addr) (s : Shared) (H' : List L) (C : List (Option V)) (v : V) : Result → Shared → Prop := fun r s' => ∃ v', r = .ok (.ret v') ∧ ∃ μ', Aft X φ μ ν s H' C μ' s' NoFree ∧ VR X s'.heap μ' ν v' v
noncomputable def CallOk (X : Cx) (φ : List Env) (n : Nat) (a : Addr) (f : FCall) : Prop :=
  ∀ (A : Around) (s : Shared) (μ ν : List Addr) (H : List L) (C : List (Option V)) (xs : List Value) (kws : List (Str × Value)) (vs : List V) (kv : Option V) (v : V) (H' : List L), Room φ n A → Rep X φ μ ν H C s → VRs X s.heap μ ν xs vs → KwR X s.heap μ ν kws kv → f vs kv C H = some (v, H') →
    codeAny (model X.prog X.w) A (.call (.ref a) ⟨xs, kws⟩) (RetR X φ μ ν s H' C v) s
/-- the parameters in a row, out of what is given -/
noncomputable abbrev Full := List V → Option V → Option (List V)
noncomputable def BindOk (X : Cx) (a : Addr) (d : Df) (full : Full) : Prop :=
  ∀ (fd : FuncData) (o : Obj), X.h₀.get? a = some o → o.data = .func fd → ∀ (φ : List Env) (s : Shared) (μ ν : List Addr) (H : List L) (C : List (Option V)) (xs : List Value) (kws : List (Str × Value)) (vs : List V) (kv : Option V) (fv : List V), Rep X φ μ ν H C s → VRs X s.heap μ ν xs vs → KwR X s.heap μ ν kws kv →
    full vs kv = some fv → ∃ fxs, VRs X s.heap μ ν fxs fv ∧ fxs.length = d.pars.length ∧ BindsTo s fd ⟨xs, kws⟩ (d.pars.zip fxs)
noncomputable def entry (d : Df) (fv : List V) (C : List (Option V)) (H : List L) : S where
  loc := d.li.map fun o => o.bind fun j => fv[j]?
  cel := (List.range d.ci.length).map (C.length + ·)
  C := C ++ d.ci.map fun o => o.bind fun j => fv[j]?
  H := H
noncomputable def fnSem (d : Df) (full : Full) (κ : Kap) (m : Sm) : FCall := fun vs kv C H => match full vs kv with
  | some fv => (match m (entry d fv C H) with
    | some (.ret v, σ) => expo κ H.length v σ.H
    | some (.next, σ) => expo κ H.length .none σ.H
    | none => none)
  | none => none
theorem mem_cellsFrom {x : Str} : ∀ {names : List (Str × NameKind)} {k : Nat} {acc : List (Str × Addr)}, x ∈ (cellsFrom k names acc).map (·.1) ↔ x ∈ acc.map (·.1) ∨ (x, NameKind.cell) ∈ names
  | [], _, _ => by simp [cellsFrom]
  | (y, kd) :: r, k, acc => by
    unfold cellsFrom
    split
    · rename_i h
      have h' : kd = .cell := by simpa using h
      rw [mem_cellsFrom, List.map_cons, List.mem_cons, List.mem_cons, h']
      constructor
      · rintro ((e | e) | e)
        · exact .inr (.inl (by rw [e]))
        · exact .inl e
        · exact .inr (.inr e)
      · rintro (e | e | e)
        · exact .inl (.inr e)
        · cases e; exact .inl (.inl rfl)
        · exact .inr e
    · rename_i h
      have h' : kd ≠ .cell := by simpa using h
      rw [mem_cellsFrom, List.mem_cons]
      constructor
      · rintro (e | e)
        · exact .inl e
        · exact .inr (.inr e)
      · rintro (e | e | e)
        · exact .inl e
        · cases e; exact absurd rfl h'
        · exact .inr e
theorem look_of_mem_fst {α : Type} {x : Str} : ∀ {l : List (Str × α)}, x ∈ l.map (·.1) → ∃ c, l.lookup x = some c
  | (y, c) :: r, h => by
    rw [List.lookup_cons]
    by_cases e : x = y
    · subst e; exact ⟨c, by simp⟩
    · rw [beq_eq_false_iff_ne.mpr e]
      exact look_of_mem_fst ((List.mem_cons.mp h).resolve_left e)
theorem getElem?_map_some {α β : Type} {f : α → β} {l : List α} {i : Nat} {b : β} (e : (l.map f)[i]? = some b) : ∃ a, l[i]? = some a ∧ f a = b := by
  rw [List.getElem?_map] at e
  cases q : l[i]? with
  | none => rw [q] at e; cases e
  | some a => rw [q] at e; cases e; exact ⟨a, rfl, rfl⟩
theorem mem_zip_fst {α : Type} {ps : List Str} {vs : List α} {y : Str × α} (h : y ∈ ps.zip vs) : y.1 ∈ ps := (List.of_mem_zip (a := y.1) (b := y.2) h).1
theorem zip_fst {α : Type} : ∀ {ps : List Str} {vs : List α}, vs.length = ps.length → (ps.zip vs).map (·.1) = ps
  | [], [], _ => rfl
  | p :: ps, v :: vs, h => by simp [zip_fst (ps := ps) (vs := vs) (by simpa using h)]
noncomputable def retVal : Flow → Value
  | .ret v => v
  | _ => .none
theorem Rep.pushFr {X : Cx} {φ : List Env} {μ ν : List Addr} {H : List L} {C : List (Option V)} {s : Shared} (R : Rep X φ μ ν H C s) {env : Env} {L0 : Addr} (hf : env.frame = some L0) (h0 : X.h₀.get? L0 = none) (hm : ¬ Mut X μ ν L0) (hd : IsDictAt s.heap L0) : Rep X (env :: φ) μ ν H C s := by
  have key : ∀ b ∈ frsOf (env :: φ), X.h₀.get? b = none ∧ ¬ Mut X μ ν b ∧ IsDictAt s.heap b := by
    intro b hb
    unfold frsOf at hb
    rw [List.filterMap_cons, hf] at hb
    rcases List.mem_cons.mp hb with rfl | hb
    · exact ⟨h0, hm, hd⟩
    · exact R.frs b hb
  exact ⟨key, R.same, R.keep, R.lenH, R.lenC, R.nodup, R.fresh, R.lists, R.cells, R.tabs⟩
theorem Rep.popFr {X : Cx} {φ : List Env} {μ ν : List Addr} {H : List L} {C : List (Option V)} {s : Shared} {env : Env} (R : Rep X (env :: φ) μ ν H C s) : Rep X φ μ ν H C s := by
  have key : ∀ b ∈ frsOf φ, X.h₀.get? b = none ∧ ¬ Mut X μ ν b ∧ IsDictAt s.heap b := by
    intro b hb
    refine R.frs b ?_
    unfold frsOf at hb ⊢
    rw [List.filterMap_cons]
    split
    · exact hb
    · exact List.mem_cons_of_mem _ hb
  exact ⟨key, R.same, R.keep, R.lenH, R.lenC, R.nodup, R.fresh, R.lists, R.cells, R.tabs⟩
theorem Aft.popFr {X : Cx} {φ : List Env} {μ ν μ' : List Addr} {H : List L} {C : List (Option V)} {s s' : Shared} {env : Env} {free : Addr → Prop} (a : Aft X (env :: φ) μ ν s H C μ' s' free) : Aft X φ μ ν s H C μ' s' free := ⟨a.pre, a.new, a.rep.popFr, a.keeps, a.alive⟩
theorem FnEnter {X : Cx} (O : XOk X) {n : Nat} {a : Addr} {d : Df} {full : Full} (D : DfOk d) (T : FnAt X a d) (B : BindOk X a d full) {RR : Result → Shared → Prop} {A : Around} {s : Shared} {μ ν : List Addr} {H : List L} {C : List (Option V)} {xs : List Value} {kws : List (Str × Value)} {vs : List V} {kv : Option V} {fv : List V}
    (hA : Room φ (n + 1) A) (R : Rep X φ μ ν H C s) (rxs : VRs X s.heap μ ν xs vs) (rk : KwR X s.heap μ ν kws kv) (efull : full vs kv = some fv)
    (k : ∀ env s1 bs, (∀ b, FrW d.nm env b → s.heap.get? b = none) → (∀ b o, s.heap.get? b = some o → s1.heap.get? b = some o) → env.frame = some env.locals → Room (env :: φ) n (A.deeper env) → FrOk X (env :: φ) d.nm env (entry d fv C H).loc (entry d fv C H).cel μ (ν ++ bs) s1.heap → Rep X (env :: φ) μ (ν ++ bs) (entry d fv C H).H (entry d fv C H).C s1 →
      wpAny (model X.prog X.w) (A.deeper env) (execs d.body env) (fun fl s' => RR (.ok (.ret (match fl with | .ret v => v | _ => .none))) s')
            (fun e s' => wpAny (model X.prog X.w) (A.deeper env) (leaving env e) (fun _ s'' => RR (.error e) s'') (fun e' s'' => RR (.error e') s'') s') s1) :
    codeAny (model X.prog X.w) A (.call (.ref a) ⟨xs, kws⟩) RR s := by
  obtain ⟨o, fd, ho, hd, hq, hpar, hbody, hsc, hgl, hclo, hbui, hcd, hcode⟩ := T.obj
  obtain ⟨fxs, rf, hlen, HB⟩ := B fd o ho hd φ s μ ν H C xs kws vs kv fv R rxs rk efull
  have hos := R.keep _ _ ho
  have hkind : d.scope.kind = .function := D.kind ▸ D.nm.kind
  refine codeAny_call_function (hA.rl) hos hd (by rw [hsc]; exact D.co) (by rw [hsc]; exact D.gen) hbody (by rw [hq]; exact hcd.keeps R.keep) (HB _ _ _ _ ?_)
  rw [hsc, hgl, hclo, hq, hbui]
  have hcn : ∀ k, ((cellsFrom k d.scope.names []).map (·.1)) = ((cellsFrom 0 d.scope.names []).map (·.1)) := fun k => cellsFrom_names _ _ _ _ _ rfl
  have hlk : ∀ {x : Str} {kd : NameKind}, d.scope.names.lookup x = some kd → (x, kd) ∈ d.scope.names := fun e => mem_of_lookup e
  refine wpAny_newFunctionEnv_cells hkind (fun x hx => ?_) fun env he s1 x1 => ?_
  · have hp := D.pars x.1 (mem_zip_fst hx)
    rcases hp with hp | hp
    · exact .inl hp
    · refine .inr ⟨hp, ?_⟩
      obtain ⟨c, hc⟩ := look_of_mem_fst (mem_cellsFrom (k := s.heap.objs.size + 1) (acc := []) |>.mpr (.inr (hlk hp)))
      rw [hc]; rfl
  · have heL : env.locals = s.heap.objs.size := by rw [he]; rfl
    have heC : env.cells = cellsFrom (s.heap.objs.size + 1) d.scope.names [] := by rw [he]; rfl
    have heS : env.scope = d.scope := by rw [he]; rfl
    have hek : ∀ x, env.kindOf x = d.scope.names.lookup x := fun x => by unfold Env.kindOf; rw [heS]
    have keep1 := x1.toInCall.keep
    obtain ⟨h1, tk1, hs1⟩ := x1.toInCall.same
    have npz : ((d.pars.zip fxs).map (·.1)).Nodup := by rw [zip_fst hlen]; exact D.npars
    refine ⟨(O.nolimit.keeps R.keep).keeps keep1, codeAny_func ?_⟩
    -- the cells
    have hlook : ∀ x ∈ d.nm.cel, ∃ c, env.cells.lookup x = some c := fun x hx => by
      rw [heC]
      exact look_of_mem_fst (mem_cellsFrom.mpr (.inr (hlk (D.cel x hx))))
    let bs : List Addr := d.nm.cel.map fun x => (env.cells.lookup x).getD 0
    have hbs : ∀ (i : Nat) (b : Addr), bs[i]? = some b → ∃ x, d.nm.cel[i]? = some x ∧ env.cells.lookup x = some b := fun i b e => by
      obtain ⟨x, e1, e2⟩ := getElem?_map_some e
      obtain ⟨c, hc⟩ := hlook x (List.mem_of_getElem? e1)
      rw [hc] at e2
      exact ⟨x, e1, by rw [hc]; exact congrArg some e2⟩
    have hfresh : ∀ b ∈ bs, s.heap.get? b = none := fun b hb => by
      obtain ⟨i, hi⟩ := List.mem_iff_getElem?.mp hb
      obtain ⟨x, _, e2⟩ := hbs i b hi
      have := x1.above x b (mem_of_lookup e2)
      rw [heL] at this
      exact Heap.get?_none_of_le (Nat.le_of_lt this)
    have R1 : Rep X φ μ ν H C s1 := by
      have := R.grow (h' := h1) (tk := tk1) (by rw [hs1] at keep1; exact keep1)
      rw [hs1]; exact this
    have st1 : Stab s.heap s1.heap := fun b o e _ => keep1 b o e
    have hci : d.ci.length = d.nm.cel.length := by rw [D.ci, List.length_map]
    have hval : ∀ (x : Str) (j : Nat) (w : V), idxS x d.pars = some j → fv[j]? = some w → ∃ w', (d.pars.zip fxs).lookup x = some w' ∧ VR X s1.heap μ ν w' w := fun x j w e1 e2 => by
      obtain ⟨w', e3, r3⟩ := rf.get e2
      exact ⟨w', by rw [zip_look e1]; exact e3, r3.mono st1 (List.prefix_refl _) (List.prefix_refl _)⟩
    have R2 : Rep X φ μ (ν ++ bs) H (C ++ d.ci.map fun o => o.bind fun j => fv[j]?) s1 := by
      refine R1.addCells (by simp [bs, hci]) (fun b hb => ?_) ?_ fun i b w e1 e2 => ?_
      · have hn := hfresh b hb
        exact ⟨R.not_mut hn, R.base_none hn⟩
      · refine nodup_map_of D.nm.ncel fun x hx y hy q => ?_
        obtain ⟨c, hc⟩ := hlook x hx
        obtain ⟨c', hc'⟩ := hlook y hy
        rw [hc, hc'] at q
        have q' : c = c' := q
        subst q'
        exact name_of_addr x1.apart (mem_of_lookup hc) (mem_of_lookup hc')
      · obtain ⟨x, p1, p2⟩ := hbs i b e1
        have hcx := x1.cell x b p2
        have hkx : env.kindOf x = some .cell := (hek x).trans (D.cel x (List.mem_of_getElem? p1))
        rw [bindC_look hkx npz] at hcx
        obtain ⟨o', q1, q2⟩ := getElem?_map_some e2
        have q3 : o' = idxS x d.pars := by
          rw [D.ci, List.getElem?_map, p1] at q1
          exact (Option.some.inj q1).symm
        subst q3
        cases q4 : idxS x d.pars with
        | none =>
          rw [q4] at q2
          cases q2
          exact ⟨_, hcx⟩
        | some j =>
          rw [q4] at q2
          cases w with
          | none => exact ⟨_, hcx⟩
          | some w =>
            obtain ⟨w', e3, r3⟩ := hval x j w q4 q2
            rw [e3] at hcx
            exact ⟨w', hcx, r3⟩
    have F1 : FrOk X (env :: φ) d.nm env (entry d fv C H).loc (entry d fv C H).cel μ (ν ++ bs) s1.heap :=
      { top := ⟨env, φ, rfl, rfl⟩
        scope := by rw [heS, T.scope]
        glob := by rw [he]; rfl
        bui := by rw [he]; rfl
        qual := by rw [he]; exact T.qual
        ns := ⟨_, x1.toInCall.ns, fun i x w e1 e2 => by
          obtain ⟨o', q1, q2⟩ := getElem?_map_some e2
          have q3 : o' = idxS x d.pars := by
            rw [D.li, List.getElem?_map, e1] at q1
            exact (Option.some.inj q1).symm
          subst q3
          have hkx : env.kindOf x = some .local := (hek x).trans (by rw [← D.names]; exact (D.nm.loc x (List.mem_of_getElem? e1)).1)
          cases q4 : idxS x d.pars with
          | none => rw [q4] at q2; cases q2
          | some j =>
            rw [q4] at q2
            obtain ⟨w', e3, r3⟩ := hval x j w q4 q2
            refine ⟨w', ?_, r3.mono (Stab.refl _) (List.prefix_refl _) (List.prefix_append _ _)⟩
            rw [bindL_look hkx npz, e3]⟩
        own := by
          have hn : s.heap.get? env.locals = none := by rw [heL]; exact none_at_size _
          refine ⟨fun q => ?_, R.base_none hn⟩
          rcases q with q | q | q
          · exact R.not_mut hn (.inl q)
          · rcases List.mem_append.mp q with q | q
            · exact R.not_mut hn (.inr (.inl q))
            · obtain ⟨i, hi⟩ := List.mem_iff_getElem?.mp q
              obtain ⟨x, _, e2⟩ := hbs i _ hi
              exact Nat.lt_irrefl _ (x1.above x _ (mem_of_lookup e2))
          · exact R.not_mut hn (.inr (.inr q))
        cell := fun i x c e1 e2 => by
          have e2' : ((List.range d.ci.length).map (C.length + ·))[i]? = some c := e2
          obtain ⟨i', q1, q2⟩ := getElem?_map_some e2'
          have hii : i' = i := by
            have h1 := (List.getElem?_eq_some_iff.mp q1).2
            simp at h1; exact h1.symm
          subst hii
          obtain ⟨b, hb⟩ := hlook x (List.mem_of_getElem? e1)
          refine ⟨b, ?_, hb⟩
          rw [← q2, ← R.lenC, List.getElem?_append_right (by omega), Nat.add_sub_cancel_left]
          simp [bs, e1, hb]
        code := fun q e => by rw [he]; exact hcode q e
        ownc := fun x b e f => by
          have hx : x ∈ d.nm.cel := by
            rw [D.names] at e
            exact D.cells (x, .cell) (hlk e) rfl
          obtain ⟨i, hi⟩ := List.mem_iff_getElem?.mp hx
          refine List.mem_append_right _ (List.mem_of_getElem? (i := i) ?_)
          simp [bs, hi, f] }
    have hfrm : env.frame = some env.locals := by rw [he]; rfl
    refine k env s1 bs (fun b q => ?_) keep1 hfrm (hA.deeper env ⟨by rw [heS, hkind]; decide, _, hfrm⟩) F1 (R2.pushFr hfrm F1.own.2 F1.own.1 (let ⟨_, ⟨o, es, ep, e, d, _⟩, _⟩ := F1.ns; ⟨o, es, ep, e, d⟩))
    rcases q with q | ⟨x, q, q'⟩
    · rw [q, heL]; exact none_at_size _
    · have := x1.above x b (mem_of_lookup q')
      rw [heL] at this
      exact Heap.get?_none_of_le (Nat.le_of_lt this)
theorem Aft.leave {X : Cx} {φ : List Env} {nm : Nm} {env : Env} {μ ν bs μ2 : List Addr} {H H2 ls : List L} {C C2 : List (Option V)} {s s1 s2 : Shared} {κ : List Nat} (R : Rep X φ μ ν H C s) (hW : ∀ b, FrW nm env b → s.heap.get? b = none) (keep1 : ∀ b o, s.heap.get? b = some o → s1.heap.get? b = some o)
    (a2 : Aft X (env :: φ) μ (ν ++ bs) s1 H2 C2 μ2 s2 (FrW nm env)) (hk : κ.Nodup) (hlo : ∀ i ∈ κ, H.length ≤ i) (hls : expLs H.length H2 κ [] = some ls) :
    Aft X φ μ ν s (H2.take H.length ++ ls) C (keptAt μ2 H.length κ) s2 NoFree ∧ H.length ≤ μ2.length := by
  have hn : H.length ≤ μ2.length := by rw [← R.lenH]; exact a2.pre.length_le
  have hold : ∀ b o, s.heap.get? b = some o → ¬ Chg X μ b → Kept s2.heap b o := fun b o e hc => a2.keeps b o (fun q => q.elim hc fun q => by rw [hW b q] at e; cases e) (keep1 b o e)
  have hnew : ∀ b, b ∈ keptAt μ2 H.length κ → b ∈ μ2 := fun b hb => by
    rcases List.mem_append.mp hb with hb | hb
    · exact List.mem_of_mem_take hb
    · obtain ⟨i, hi, rfl⟩ := List.mem_map.mp hb
      obtain ⟨j, hj⟩ := List.mem_iff_getElem?.mp hi
      obtain ⟨e1, e2⟩ := expLs_get hls
      have hjl : j < ls.length := by rw [e1]; exact (List.getElem?_eq_some_iff.mp hj).1
      obtain ⟨i', l, q1, q2, _⟩ := e2 j _ (List.getElem?_eq_getElem hjl)
      rw [hj] at q1; cases q1
      have : i < μ2.length := by rw [a2.rep.lenH]; exact (List.getElem?_eq_some_iff.mp q2).1
      rw [List.getD_eq_getElem?_getD, List.getElem?_eq_getElem this]
      exact List.getElem_mem _
  have hpre : μ <+: keptAt μ2 H.length κ := by
    have : μ2.take H.length = μ := by
      obtain ⟨r, hr⟩ := a2.pre
      rw [← hr, ← R.lenH, List.take_append_of_le_length (Nat.le_refl _), List.take_length]
    unfold keptAt
    rw [this]
    exact List.prefix_append _ _
  have R3 := a2.rep.export (ν0 := ν) (C0 := C) hn hk hlo hls (List.prefix_append _ _) R.lenC fun i b w' e1 e2 => by
    have hbm : b ∈ ν := List.mem_of_getElem? e1
    refine (R.cells i b w' e1 e2).mono (fun c o e sb => (hold c o e fun q => R.not_stable q.mut e sb).nd sb.nd) hpre (List.prefix_refl _) fun o e => (hold b o e fun q => ?_).nd (fun es ep d => by
      obtain ⟨cv, hcv⟩ := R.cell_at hbm
      have := IsCell_data hcv e
      rw [d] at this; cases this)
    have nd := List.nodup_append.mp R.nodup
    rcases q with q | q
    · exact nd.2.2 b q b hbm rfl
    · exact (R.fresh b (.inr hbm)).2 q
  refine ⟨⟨hpre, fun b hb => ?_, R3.popFr, fun b o q e => hold b o e fun z => q (.inl z), fun b o e => ?_⟩, hn⟩
  · rcases a2.new b (hnew b hb) with z | z
    · exact .inl z
    · cases q : s.heap.get? b with
      | none => exact .inr rfl
      | some o => rw [keep1 b o q] at z; cases z
  · exact a2.alive b o (keep1 b o e)
theorem FnOk {X : Cx} (O : XOk X) {n : Nat} {a : Addr} {d : Df} {full : Full} {κ : Kap} {m : Sm} (D : DfOk d) (T : FnAt X a d) (B : BindOk X a d full) (hb : ∀ env, RSs X (env :: φ) n d.nm d.body m) : CallOk X φ (n + 1) a (fnSem d full κ m) := fun A s μ ν H C xs kws vs kv v H' hA R rxs rk em => by
  unfold fnSem at em
  split at em
  · rename_i fv efull
    refine FnEnter O D T B hA R rxs rk efull fun env s1 bs hW keep1 hfrm hA1 F1 R1 => ?_
    have fin : ∀ (w : V) (σ1 : S) (f : Fl), m (entry d fv C H) = some (f, σ1) → (f = .ret w ∨ (f = .next ∧ w = .none)) → expo κ H.length w σ1.H = some (v, H') →
        wpAny (model X.prog X.w) (A.deeper env) (execs d.body env) (fun fl s' => RetR X φ μ ν s H' C v (.ok (.ret (match fl with | .ret v => v | _ => .none))) s')
          (fun e s' => wpAny (model X.prog X.w) (A.deeper env) (leaving env e) (fun _ s'' => RetR X φ μ ν s H' C v (.error e) s'') (fun e' s'' => RetR X φ μ ν s H' C v (.error e') s'') s') s1 := by
      intro w σ1 f ef hf hexp
      refine wpAny_mono (hb env (A.deeper env) env (entry d fv C H) s1 μ (ν ++ bs) f σ1 hA1 F1 R1 ef) (fun fl s2 ⟨μ2, a2, F2, q2⟩ => ?_) fun _ _ h => h.elim
      have hw : ∃ v', retVal fl = v' ∧ VR X s2.heap μ2 (ν ++ bs) v' w := by
        rcases hf with rfl | ⟨rfl, rfl⟩
        · cases fl with
          | ret y => exact ⟨y, rfl, q2⟩
          | _ => exact q2.elim
        · cases fl with
          | next => exact ⟨_, rfl, .none⟩
          | _ => exact q2.elim
      obtain ⟨v', ev', rv'⟩ := hw
      unfold expo at hexp
      split at hexp
      · rename_i hk
        split at hexp
        · rename_i v2 hv2
          split at hexp
          · rename_i ls hls
            cases hexp
            obtain ⟨a3, hn⟩ := Aft.leave R hW keep1 a2 hk.1 hk.2 hls
            exact ⟨v', by rw [← ev']; cases fl <;> rfl, _, a3, renV_ok (kept_h1 hn) (kept_h2 hn) rv' hv2⟩
          · cases hexp
        · cases hexp
      · cases hexp
    split at em
    · rename_i w σ1 e1
      exact fin w σ1 _ e1 (.inl rfl) em
    · rename_i σ1 e1
      exact fin .none σ1 _ e1 (.inr ⟨rfl, rfl⟩) em
    · cases em
  · cases em
end Mine
namespace Mine
section
variable {X : Cx} {n : Nat} {nm : Nm}
noncomputable def aNil : Xms := fun σ => some ([], σ.H)
noncomputable def aCons (a : Xm) (b : Xms) : Xms := fun σ => match a σ with
  | some (v, H) => (match b { σ with H := H } with
    | some (vs, H') => some (v :: vs, H')
    | none => none)
  | none => none
theorem RXs_nil : RXs X φ n nm [] aNil := fun A env σ s μ ν vs H' pos hA F R em => by
  cases em
  exact wpAny_items_nil ⟨μ, .refl R, .nil⟩
theorem RXs_cons {e : PySem.Expr} {rest : List PySem.Expr} {a : Xm} {b : Xms} (ra : RX X φ n nm e a) (rb : RXs X φ n nm rest b) (he : ∀ env, starEach (e :: rest) env = (false, eval e env) :: starEach rest env := by intro _; rfl) : RXs X φ n nm (e :: rest) (aCons a b) := fun A env σ s μ ν vs H' pos hA F R em => by
  unfold aCons at em
  split at em
  · rename_i v H1 e1
    split at em
    · rename_i us H2 e2
      cases em
      refine wpAny_items_cons (ra.use hA F R e1 fun x' s1 μ1 a1 F1 r1 => rb.use (σ := { σ with H := H1 }) hA F1 a1.rep e2 fun xs s2 μ2 a2 F2 r2 => ?_) (he env)
      exact ⟨μ2, a1.trans a2, .cons (r1.aft a1.rep a2) r2⟩
    · cases em
  · cases em
noncomputable def toInts : List V → Option (List Int)
  | [] => some []
  | .int i :: r => (match toInts r with
    | some xs => some (i :: xs)
    | none => none)
  | _ :: _ => none
mutual
noncomputable def V.still : V → Bool
  | .clo _ _ => false
  | .tup vs => stills vs
  | _ => true
noncomputable def stills : List V → Bool
  | [] => true
  | v :: r => v.still && stills r
end
noncomputable def mkL (vs : List V) : L := match toInts vs with
  | some xs => .ints xs
  | none => .vals vs
theorem toInts_eq : ∀ {vs : List V} {xs : List Int}, toInts vs = some xs → vs = xs.map .int
  | [], xs, e => by cases e; rfl
  | v :: r, xs, e => by
    cases v with
    | int i =>
      unfold toInts at e
      split at e
      · rename_i ys h; cases e; rw [toInts_eq h]; rfl
      · cases e
    | _ => cases e
theorem mkL_vs (vs : List V) : (mkL vs).vs = vs := by
  unfold mkL
  split
  · rename_i xs h; exact (toInts_eq h).symm
  · rfl
theorem VRs.still {h : Heap} {μ ν ν' : List Addr} {xs : List Value} {vs : List V} (r : VRs X h μ ν xs vs) : stills vs = true → VRs X h μ ν' xs vs := fun e =>
  VRs.rec (X := X) (h := h) (motive_1 := fun μ ν x v _ => ∀ ν' : List Addr, v.still = true → VR X h μ ν' x v) (motive_2 := fun μ ν x v _ => ∀ ν' : List Addr, stills v = true → VRs X h μ ν' x v)
    (fun _ _ => .none) (fun b _ _ => .bool b) (fun i t _ _ => .int i t) (fun s t _ _ => .str s t) (fun q _ _ => .ref q) (fun q _ ih ν' e => .tup q (ih ν' (by rw [V.still] at e; exact e))) (fun q _ _ => .rng q) (fun q _ _ => .fn q)
    (fun _ _ _ _ _ _ e => by rw [V.still] at e; cases e) (fun q r z _ _ _ => .frz q r z) (fun _ _ => .nil) (fun _ _ iha ihb ν' e => by rw [stills, Bool.and_eq_true] at e; exact .cons (iha ν' e.1) (ihb ν' e.2)) r ν' e
theorem stills_ints : ∀ xs : List Int, stills (xs.map .int) = true
  | [] => rfl
  | x :: xs => by simp only [List.map_cons, stills, V.still, Bool.true_and]; exact stills_ints xs
noncomputable def mList (a : Xms) : Xm := fun σ => match a σ with
  | some (vs, H) => if vs.length ≤ 1048576 && stills vs then some (.ref H.length, H ++ [mkL vs]) else none
  | none => none
theorem pre_take_self {μ : List Addr} {H : List L} (e : μ.length = H.length) (a : Addr) : (μ ++ [a])[H.length]? = some a := by
  rw [← e, List.getElem?_append_right (Nat.le_refl _), Nat.sub_self]; rfl
theorem sizeLine_val : sizeLine = 16777216 := by rw [sizeLine_eq]
/-- a new list out of values -/
theorem new_list {s : Shared} {μ ν : List Addr} {H : List L} {C : List (Option V)} {xs : List Value} {vs : List V} {tk : Nat} (R : Rep X φ μ ν H C s) (r : VRs X s.heap μ ν xs vs) (hz : vs.length ≤ 1048576) (hs : stills vs = true) :
    Aft X φ μ ν s (H ++ [mkL vs]) C (μ ++ [s.heap.objs.size]) { s with heap := s.heap.push { cls := .type "list", data := .seq xs.toArray }, toks := tk } NoFree ∧ VR X (s.heap.push { cls := .type "list", data := .seq xs.toArray }) (μ ++ [s.heap.objs.size]) ν (.ref s.heap.objs.size) (.ref H.length) :=
  ⟨.pushList R (by rw [r.length]; exact hz) (by rw [mkL_vs]; exact r.still hs), .ref (pre_take_self R.lenH _)⟩
theorem RX_list {es : List PySem.Expr} {pos : Pos} {a : Xms} (r : RXs X φ n nm es a) : RX X φ n nm (.List es pos) (mList a) := fun A env σ s μ ν v H' hA F R em => by
  unfold mList at em
  split at em
  · rename_i vs H1 e1
    split at em
    · rename_i hc
      cases em
      simp only [Bool.and_eq_true, decide_eq_true_eq] at hc
      refine wpAny_List (r.use hA F R e1 fun xs s1 μ1 a1 F1 r1 => ⟨by rw [r1.length, sizeLine_val]; omega, ?_⟩)
      obtain ⟨a2, r2⟩ := new_list (tk := s1.toks) a1.rep r1 hc.1 hc.2
      exact ⟨_, a1.trans a2, r2⟩
    · cases em
  · cases em
noncomputable def mTup (a : Xms) : Xm := fun σ => match a σ with
  | some (vs, H) => if vs.length ≤ 1048576 then some (.tup vs, H) else none
  | none => none
theorem RX_tup {es : List PySem.Expr} {k : Nat} {pos : Pos} {a : Xms} (r : RXs X φ n nm es a) : RX X φ n nm (.Tuple es k pos) (mTup a) := fun A env σ s μ ν v H' hA F R em => by
  unfold mTup at em
  split at em
  · rename_i vs H1 e1
    split at em
    · rename_i hc
      cases em
      refine wpAny_Tuple (r.use hA F R e1 fun xs s1 μ1 a1 F1 r1 => ⟨by rw [r1.length, sizeLine_val]; omega, ?_⟩)
      have a2 : Aft X φ μ1 ν s1 H' σ.C μ1 { s1 with heap := s1.heap.push { cls := .type "tuple", data := .seq xs.toArray } } NoFree := .push a1.rep _
      exact ⟨_, a1.trans a2, .tup (Heap.get?_push_size _ rfl) (r1.aft a1.rep a2)⟩
    · cases em
  · cases em
structure CallV (X : Cx) (φ : List Env) (n : Nat) (v : V) (f : FCall) : Prop where
  code : ∀ (A : Around) (s : Shared) (μ ν : List Addr) (H : List L) (C : List (Option V)) (x : Value) (xs : List Value) (kws : List (Str × Value)) (vs : List V) (kv : Option V) (r : V) (H' : List L), Room φ n A → Rep X φ μ ν H C s → VR X s.heap μ ν x v → VRs X s.heap μ ν xs vs → KwR X s.heap μ ν kws kv → f vs kv C H = some (r, H') →
    codeAny (model X.prog X.w) A (.call x ⟨xs, kws⟩) (RetR X φ μ ν s H' C r) s
  obj : ∀ (s : Shared) (μ ν : List Addr) (H : List L) (C : List (Option V)) (x : Value), Rep X φ μ ν H C s → VR X s.heap μ ν x v → ∃ a o fd, x = .ref a ∧ s.heap.get? a = some o ∧ o.data = .func fd
theorem CallV.of_fn {k : Nat} {a : Addr} {d : Df} {f : FCall} (hk : X.fn k = some a) (T : FnAt X a d) (c : CallOk X φ n a f) : CallV X φ n (.fn k) f where
  code := fun A s μ ν H C x xs kws vs kv r H' hA R rx rxs rk e => by
    refine rx.fn_e fun b hb => ?_
    rw [hk] at hb; cases hb
    exact c A s μ ν H C xs kws vs kv r H' hA R rxs rk e
  obj := fun s μ ν H C x R rx => by
    refine rx.fn_e fun b hb => ?_
    rw [hk] at hb; cases hb
    obtain ⟨o, fd, ho, hd, _⟩ := T.obj
    exact ⟨_, o, fd, rfl, R.keep _ _ ho, hd⟩
theorem CallV.call {v : V} {f : FCall} (c : CallV X φ n v f) {A : Around} {s : Shared} {μ ν : List Addr} {H : List L} {C : List (Option V)} {x : Value} {xs : List Value} {kws : List (Str × Value)} {vs : List V} {kv : Option V} {r : V} {H' : List L} {Q E : Value → Shared → Prop}
    (hA : Room φ n A) (R : Rep X φ μ ν H C s) (rx : VR X s.heap μ ν x v) (rxs : VRs X s.heap μ ν xs vs) (rk : KwR X s.heap μ ν kws kv) (e : f vs kv C H = some (r, H')) (k : ∀ v' s' μ', Aft X φ μ ν s H' C μ' s' NoFree → VR X s'.heap μ' ν v' r → Q v' s') :
    wpAny (model X.prog X.w) A (PySem.call x xs kws) Q E s :=
  wpAny_call (codeAny_mono (c.code A s μ ν H C x xs kws vs kv r H' hA R rx rxs rk e) fun r' s' ⟨v', hr, μ', a, q⟩ => by subst hr; exact k v' s' μ' a q)
theorem looks_keeper {M : Model} {h : Heap} {a : Addr} {o : Obj} {fd : FuncData} (e : h.get? a = some o) (d : o.data = .func fd) : Looks M h (keeperOf (.ref a)) .frame := by
  obtain ⟨c, dd, dt, sl⟩ := o
  cases d
  exact (Looks.ld (part := none) e).andThen .now
/-- the callee, then its arguments -/
noncomputable def mCall (fm : Xm) (disp : V → Option FCall) (args : Xms) : Xm := fun σ => match fm σ with
  | some (fv, H0) => (match disp fv with
    | some f => (match args { σ with H := H0 } with
      | some (vs, H1) => f vs none σ.C H1
      | none => none)
    | none => none)
  | none => none
noncomputable def mCallK (fm : Xm) (disp : V → Option FCall) (args : Xms) (km : Xm) : Xm := fun σ => match fm σ with
  | some (fv, H0) => (match disp fv with
    | some f => (match args { σ with H := H0 } with
      | some (vs, H1) => (match km { σ with H := H1 } with
        | some (kv, H2) => f vs (some kv) σ.C H2
        | none => none)
      | none => none)
    | none => none)
  | none => none
theorem RX_call {x : Str} {np pos : Pos} {e : PySem.Expr} {rest : List PySem.Expr} {fm : Xm} {disp : V → Option FCall} {args : Xms} (rf : RX X φ n nm (.Name x np) fm) (hd : ∀ v f, disp v = some f → CallV X φ n v f) (ra : RXs X φ n nm (e :: rest) args)
    (he : ∀ env, starEach (e :: rest) env = (false, eval e env) :: starEach rest env := by intro _; rfl) (hplain : ∀ env, (backTo pos (starEach rest env)).any (·.1) = false := by intro _; rfl) :
    RX X φ n nm (.Call (.Name x np) (e :: rest) [] pos) (mCall fm disp args) := fun A env σ s μ ν v H' hA F R em => by
  unfold mCall at em
  split at em
  · rename_i fv H0 e0
    split at em
    · rename_i f ef
      split at em
      · rename_i vs H1 e1
        refine wpAny_Call_ofName (rf.use hA F R e0 fun x' s1 μ1 a1 F1 r1 => ?_)
        have cv := hd fv f ef
        obtain ⟨a, o, fd, rfl, ho, hdd⟩ := cv.obj s1 μ1 ν H0 σ.C x' a1.rep r1
        show wpAny _ A (callWith pos (.ref a) [] (backTo pos (starEach (e :: rest) env)) []) _ _ s1
        refine callWith_of (P := fun h => ∃ o fd, h.get? a = some o ∧ o.data = .func fd) (by rw [he env]; show ((false || (backTo pos (starEach rest env)).any (·.1)) || false) = false; rw [hplain env]; rfl)
          (fun h ⟨o, fd, e1, e2⟩ => ⟨.frame, .inl rfl, looks_keeper e1 e2⟩) ?_
        have harg := ra.use (σ := { σ with H := H0 }) (pos := pos) hA F1 a1.rep e1 (Q := fun vs' s' => (∃ o fd, s'.heap.get? a = some o ∧ o.data = .func fd) ∧ wpAny (model X.prog X.w) A (PySem.call (.ref a) ([] ++ vs') []) (QX X φ μ ν s H' σ.C v) (fun _ _ => False) s') (E := fun _ _ => False)
          fun xs s2 μ2 a2 F2 r2 => ⟨?_, cv.call (kv := none) hA a2.rep (r1.aft a1.rep a2) r2 rfl em fun v' s3 μ3 a3 r3 => ⟨μ3, (a1.trans a2).trans a3, r3⟩⟩
        · rw [he env] at harg ⊢
          exact Calls.evalArgs_plain harg
        · exact ⟨o, fd, (a2.keeps a o (fun q => q.elim (fun q => a1.rep.not_stable q.mut ho (.inr (.inr ⟨fd, hdd⟩))) False.elim) ho).nd (fun _ _ d => by rw [hdd] at d; cases d), hdd⟩
      · cases em
    · cases em
  · cases em
theorem RX_callK {x : Str} {np pos kp : Pos} {e ke : PySem.Expr} {rest : List PySem.Expr} {fm km : Xm} {disp : V → Option FCall} {args : Xms} (rf : RX X φ n nm (.Name x np) fm) (hd : ∀ v f, disp v = some f → CallV X φ n v f) (ra : RXs X φ n nm (e :: rest) args) (rk : RX X φ n nm ke km)
    (he : ∀ env, starEach (e :: rest) env = (false, eval e env) :: starEach rest env := by intro _; rfl) (hplain : ∀ env, (backTo pos (starEach rest env)).any (·.1) = false := by intro _; rfl) :
    RX X φ n nm (.Call (.Name x np) (e :: rest) [⟨some "key", ke, kp⟩] pos) (mCallK fm disp args km) := fun A env σ s μ ν v H' hA F R em => by
  unfold mCallK at em
  split at em
  · rename_i fv H0 e0
    split at em
    · rename_i f ef
      split at em
      · rename_i vs H1 e1
        split at em
        · rename_i kv H2 e2
          refine wpAny_Call_ofName (rf.use hA F R e0 fun x' s1 μ1 a1 F1 r1 => ?_)
          have cv := hd fv f ef
          obtain ⟨a, o, fd, rfl, ho, hdd⟩ := cv.obj s1 μ1 ν H0 σ.C x' a1.rep r1
          refine callWith_of (P := fun h => ∃ o fd, h.get? a = some o ∧ o.data = .func fd) (by rw [he env]; show ((false || (backTo pos (starEach rest env)).any (·.1)) || false) = false; rw [hplain env]; rfl)
            (fun h ⟨o, fd, e1, e2⟩ => ⟨.frame, .inl rfl, looks_keeper e1 e2⟩) ?_
          refine evalArgs_kw2 rfl (ra.use (σ := { σ with H := H0 }) (pos := pos) hA F1 a1.rep e1 fun xs s2 μ2 a2 F2 r2 => ?_) (he env)
          show wpAny _ A (evalAll [do let v ← eval ke env; standAt pos; pure v]) _ _ s2
          refine wpAny_evalAll_cons (wpAny_bind (rk.use (σ := { σ with H := H1 }) hA F2 a2.rep e2 fun k' s3 μ3 a3 F3 r3 => wpAny_bind (wpAny_standAt (wpAny_pure (wpAny_evalAll_nil ?_)))))
          have a23 := a2.trans a3
          refine ⟨⟨o, fd, (a23.keeps a o (fun q => q.elim (fun q => a1.rep.not_stable q.mut ho (.inr (.inr ⟨fd, hdd⟩))) False.elim) ho).nd (fun _ _ d => by rw [hdd] at d; cases d), hdd⟩, ?_⟩
          exact cv.call (kws := [(("key" : Str), k')]) (kv := some kv) hA a3.rep (r1.aft a1.rep a23) (r2.aft a2.rep a3) ⟨k', rfl, r3⟩ em fun v' s4 μ4 a4 r4 => ⟨μ4, (a1.trans a23).trans a4, r4⟩
        · cases em
      · cases em
    · cases em
  · cases em
structure LamOk (X : Cx) (n k : Nat) (l : Lam) (nm : Nm) (p : Str) (m : Xm) : Prop where
  at_ : X.lams k = some l
  names : NmOk nm
  loc : nm.loc = [p]
  cel : nm.cel = l.names
  scope : nm.scope = l.scope
  qual : l.qual ++ ".<locals>." = nm.qual
  tab : X.tabs[nm.tab]? = none
  co : l.scope.isCoroutine = false
  gen : l.scope.isGenerator = false
  nocell : ∀ x ∈ l.scope.names, x.2 ≠ .cell
  bind : ∀ (cl : List (Str × Addr)) (pm cd ct x : Value), bindArgs (lamFd l cl pm cd ct) ⟨[x], []⟩ = pure [(p, x)]
  body : ∀ φ, RX X φ n nm l.body m
noncomputable def loSem (m : Xm) (cs : List Nat) : FCall := fun vs kv C H => match vs, kv with
  | [v], none => m { loc := [some v], cel := cs, C := C, H := H }
  | _, _ => none
theorem lookup_zip_idx {cl : List (Str × Addr)} (nd : (cl.map (·.1)).Nodup) {i : Nat} {x : Str} {a : Addr} (e1 : (cl.map (·.1))[i]? = some x) (e2 : (cl.map (·.2))[i]? = some a) : cl.lookup x = some a := by
  obtain ⟨p, q1, q2⟩ := getElem?_map_some e1
  obtain ⟨p', q3, q4⟩ := getElem?_map_some e2
  rw [q1] at q3; cases q3
  exact lookup_of_mem_nodup nd (by rw [← q2, ← q4]; exact List.mem_of_getElem? q1)
theorem CallV.of_lam (O : XOk X) {k : Nat} {l : Lam} {nm : Nm} {p : Str} {m : Xm} (Lk : LamOk X n k l nm p m) (cs : List Nat) : CallV X φ (n + 1) (.clo k cs) (loSem m cs) where
  obj := fun s μ ν H C x R rx => by
    refine rx.clo_e fun a l cl pm cd ct e hl hc hn ha => ?_
    exact ⟨_, _, _, rfl, e, rfl⟩
  code := fun A s μ ν H C x xs kws vs kv r H' hA R rx rxs rk em => by
    unfold loSem at em
    split at em
    · rename_i v
      refine rx.clo_e fun a l' cl pm cd ct e hl hc hn ha => ?_
      rw [Lk.at_] at hl; cases hl
      refine rxs.e1 fun x' rv => ?_
      cases rk
      refine kla_callFunE hA.rl e rfl Lk.co Lk.gen rfl hc.rec ?_
      rw [Lk.bind]
      have hkind : l.scope.kind = .function := Lk.scope ▸ Lk.names.kind
      refine wpAny_pure (wpAny_newFunctionEnv Lk.nocell (fun y hy => ?_) (fun h' hns hsb => ?_) hkind)
      · simp at hy; subst hy
        have := (Lk.names.loc p (by rw [Lk.loc]; simp)).1
        rw [Lk.scope] at this
        exact this
      · have keep1 : ∀ b o, s.heap.get? b = some o → h'.get? b = some o := fun b o eb => hsb.extBut b o (Nat.ne_of_lt (Heap.lt_size eb)) (Heap.get?_push_of_some _ eb)
        have R1 : Rep X φ μ ν H C { s with heap := h', toks := s.toks + 1 } := R.grow keep1
        have a1 : Aft X φ μ ν s H C μ { s with heap := h', toks := s.toks + 1 } NoFree := .grow R keep1
        have hnone : s.heap.get? s.heap.objs.size = none := none_at_size _
        refine ⟨(O.nolimit.keeps R.keep).keeps keep1, kla_codeExpr ?_⟩
        have ndn : (cl.map (·.1)).Nodup := by rw [hn, ← Lk.cel]; exact Lk.names.ncel
        have F1 : FrOk X (newEnv l.scope s.heap.objs.size mainGlobals cl (l.qual ++ ".<locals>.") (some a) cd none builtinsNs :: φ) nm (newEnv l.scope s.heap.objs.size mainGlobals cl (l.qual ++ ".<locals>.") (some a) cd none builtinsNs) [some v] cs μ ν h' :=
          { top := ⟨_, _, rfl, rfl⟩
            scope := Lk.scope.symm
            glob := rfl
            bui := rfl
            qual := Lk.qual
            ns := ⟨_, hns, fun i y w e1 e2 => by
              rw [Lk.loc] at e1
              cases i with
              | zero =>
                simp at e1 e2
                subst e1 e2
                exact ⟨x', by simp, rv.aft R a1⟩
              | succ i => simp at e1⟩
            own := ⟨R.not_mut hnone, R.base_none hnone⟩
            cell := fun i y c e1 e2 => by
              have hclen : cs.length = cl.length := by have := congrArg List.length ha; simpa using this
              have hi : i < cl.length := by rw [← hclen]; exact (List.getElem?_eq_some_iff.mp e2).1
              have h1 : (cs.map fun c => ν[c]?)[i]? = some (ν[c]?) := by rw [List.getElem?_map, e2]; rfl
              rw [ha, List.getElem?_map, List.getElem?_eq_getElem hi] at h1
              have h2 : ν[c]? = some cl[i].2 := (Option.some.inj h1).symm
              refine ⟨cl[i].2, h2, lookup_zip_idx ndn (i := i) ?_ ?_⟩
              · rw [hn, ← Lk.cel]; exact e1
              · rw [List.getElem?_map, List.getElem?_eq_getElem hi]; rfl
            code := fun q eq => by rw [Lk.tab] at eq; cases eq
            ownc := fun y b e1 e2 => by
              rw [Lk.scope] at e1
              exact absurd rfl (Lk.nocell (y, .cell) (mem_of_lookup e1)) }
        refine (Lk.body _).use (σ := { loc := [some v], cel := cs, C := C, H := H }) (hA.deeper _ ⟨?_, _, rfl⟩) F1 (R1.pushFr rfl F1.own.2 F1.own.1 (let ⟨_, ⟨o, es, ep, e, d, _⟩, _⟩ := F1.ns; ⟨o, es, ep, e, d⟩)) em fun v' s2 μ2 a2 F2 r2 => ⟨v', rfl, μ2, a1.trans a2.popFr, r2⟩
        show l.scope.kind ≠ .module
        rw [hkind]; decide
    · cases em
end
end Mine
namespace Mine
noncomputable def freeRev : List (Str × NameKind) → List Str → List Str
  | [], acc => acc
  | (x, k) :: r, acc => if k == .free then freeRev r (x :: acc) else freeRev r acc
noncomputable def closAcc (cells : List (Str × Addr)) : List (Str × NameKind) → List (Str × Addr) → List (Str × Addr)
  | [], acc => acc
  | (x, k) :: r, acc => if k == .free then closAcc cells r ((x, (cells.lookup x).getD 0) :: acc) else closAcc cells r acc
theorem closAcc_fst (cells : List (Str × Addr)) : ∀ (names : List (Str × NameKind)) (acc : List (Str × Addr)), (closAcc cells names acc).map (·.1) = freeRev names (acc.map (·.1))
  | [], _ => rfl
  | (x, k) :: r, acc => by
    unfold closAcc freeRev
    split
    · rw [closAcc_fst cells r]; rfl
    · rw [closAcc_fst cells r]
theorem closAcc_snd (cells : List (Str × Addr)) : ∀ (names : List (Str × NameKind)) (acc : List (Str × Addr)), (∀ y ∈ acc, y.2 = (cells.lookup y.1).getD 0) → ∀ y ∈ closAcc cells names acc, y.2 = (cells.lookup y.1).getD 0
  | [], _, h, y, hy => h y hy
  | (x, k) :: r, acc, h, y, hy => by
    unfold closAcc at hy
    split at hy
    · exact closAcc_snd cells r _ (fun z hz => by
        rcases List.mem_cons.mp hz with rfl | hz
        · rfl
        · exact h z hz) y hy
    · exact closAcc_snd cells r acc h y hy
theorem closureFor_eq {scope : Scope} {env : Env} (h : ∀ x ∈ scope.names, x.2 = .free → ∃ c, env.cells.lookup x.1 = some c) : closureFor scope env = pure (closAcc env.cells scope.names []) := by
  have key : ∀ (names : List (Str × NameKind)) (acc : List (Str × Addr)), (∀ x ∈ names, x.2 = .free → ∃ c, env.cells.lookup x.1 = some c) →
      (forIn names acc (fun (x : Str × NameKind) (r : List (Str × Addr)) => if (x.2 == NameKind.free) = true then (do let c ← cellOf env x.1; pure (ForInStep.yield ((x.1, c) :: r))) else pure (ForInStep.yield r)) : Sem (List (Str × Addr))) = pure (closAcc env.cells names acc) := by
    intro names
    induction names with
    | nil => intro acc _; rfl
    | cons x r ih =>
      intro acc hx
      obtain ⟨y, k⟩ := x
      rw [List.forIn_cons]
      unfold closAcc
      by_cases hk : (k == NameKind.free) = true
      · obtain ⟨c, hc⟩ := hx (y, k) List.mem_cons_self (by simpa using hk)
        have hcell : cellOf env y = pure c := by unfold cellOf; rw [show env.cells.lookup y = some c from hc]
        simp only [hk, if_true, hcell, pure_bind]
        rw [show env.cells.lookup y = some c from hc]
        exact ih _ fun z hz => hx z (List.mem_cons_of_mem _ hz)
      · simp only [hk, Bool.false_eq_true, if_false, pure_bind]
        exact ih _ fun z hz => hx z (List.mem_cons_of_mem _ hz)
  simp only [closureFor]
  rw [key scope.names [] h, pure_bind]
theorem codeAmong_app {pos : Pos} {a b : Int} {c cv : Value} (l : List Value) (h : TriplesOk l) : codeAmong pos (l ++ [rawInt a, rawInt b, c]) = some cv → codeAmong pos l = some cv ∨ cv = c := by
  fun_induction TriplesOk l with
  | case1 =>
    intro e
    simp only [List.nil_append, rawInt, codeAmong] at e
    split at e
    · cases e; exact .inr rfl
    · cases e
  | case2 a' t b' u x rest ih =>
    intro e
    simp only [List.cons_append, codeAmong] at e ⊢
    split at e
    · rename_i hc; rw [if_pos hc]; exact .inl e
    · rename_i hc; rw [if_neg hc]; exact ih h e
  | case3 l h1 h2 => exact h.elim
section
variable {X : Cx} {n : Nat} {nm : Nm}
/-- the table of codes grows -/
theorem Rep.tabGrow {μ ν : List Addr} {H : List L} {C : List (Option V)} {s : Shared} (R : Rep X φ μ ν H C s) (nd : X.ptabs.Nodup) {q : Addr × Addr × Str} (hb : X.h₀.get? q.2.1 = none) (hq : q ∈ X.tabs) {h' : Heap} {tk : Nat} (k : Heap.ExtBut q.2.1 s.heap h') {ps' : Array Value}
    (e : h'.get? q.2.1 = some (tabObj ps')) (ht : TriplesOk ps'.toList) (hc : ∀ pos cv, codeAmong pos ps'.toList = some cv → CodeC h' cv q.2.2) : Rep X φ μ ν H C { s with heap := h', toks := tk } := by
  have hP : q.2.1 ∈ X.ptabs := List.mem_map_of_mem hq
  obtain ⟨ps0, e0⟩ := R.tab_at hP
  have st : Stab s.heap h' := fun b o eb sb => k b o (fun z => by subst z; exact R.not_stable (.inr (.inr hP)) eb sb) eb
  exact
  { frs := fun L hL => let ⟨f1, f2, f3⟩ := R.frs L hL; ⟨f1, f2, f3.keeps fun o e => k L o (fun z => f2 (z ▸ .inr (.inr hP))) e⟩
    same := let ⟨_, _, e⟩ := R.same; ⟨h', tk, by rw [e]⟩
    keep := fun b o eb => k b o (fun z => by
      subst z
      rw [hb] at eb; cases eb) (R.keep b o eb)
    lenH := R.lenH
    lenC := R.lenC
    nodup := R.nodup
    fresh := R.fresh
    lists := fun j b l' e1 e2 => by
      obtain ⟨its', n', e', hz', r⟩ := R.lists j b l' e1 e2
      exact ⟨its', n', k b _ (fun z => (R.fresh b (.inl (List.mem_of_getElem? e1))).2 (z ▸ hP)) e', hz', r.mono st (List.prefix_refl _) (List.prefix_refl _)⟩
    cells := fun j b w e1 e2 => (R.cells j b w e1 e2).mono st (List.prefix_refl _) (List.prefix_refl _) fun o eo => k b o (fun z => (R.fresh b (.inr (List.mem_of_getElem? e1))).2 (z ▸ hP)) eo
    tabs := fun q' hq' => by
      by_cases z : q'.2.1 = q.2.1
      · have : q' = q := by
          obtain ⟨i, hi⟩ := List.mem_iff_getElem?.mp hq'
          obtain ⟨j, hj⟩ := List.mem_iff_getElem?.mp hq
          have h1 : X.ptabs[i]? = some q'.2.1 := by unfold Cx.ptabs; rw [List.getElem?_map, hi]; rfl
          have h2 : X.ptabs[j]? = some q.2.1 := by unfold Cx.ptabs; rw [List.getElem?_map, hj]; rfl
          rw [z] at h1
          have := nodup_idx nd h1 h2
          subst this
          rw [hi] at hj; exact Option.some.inj hj
        subst this
        exact ⟨ps', e, ht, hc⟩
      · obtain ⟨ps, eq, ht', hc'⟩ := R.tabs q' hq'
        exact ⟨ps, k _ _ z eq, ht', fun pos cv ec => (hc' pos cv ec).stab st⟩ }
/-- a lambda of a def's own frame -/
structure LamAt (X : Cx) (nm : Nm) (k : Nat) (l : Lam) (params : Arguments) (body : PySem.Expr) (scope : Scope) (is : List Nat) : Prop where
  at_ : X.lams k = some l
  params : l.params = params
  body : l.body = body
  scp : l.scope = scope
  qual : nm.qual ++ "<lambda>" = l.qual
  names : l.names = freeRev scope.names []
  nodup : l.names.Nodup
  slots : is.map (fun i => nm.cel[i]?) = l.names.map some
  tab : ∃ q, X.tabs[nm.tab]? = some q ∧ q.2.2 = l.qual
noncomputable def mLam (k : Nat) (is : List Nat) : Xm := fun σ => if is.all (fun i => i < σ.cel.length) then some (.clo k (is.map fun i => σ.cel.getD i 0), σ.H) else none
theorem freeRev_mem {x : Str} : ∀ {names : List (Str × NameKind)} {acc : List Str}, x ∈ freeRev names acc ↔ x ∈ acc ∨ (x, NameKind.free) ∈ names
  | [], _ => by simp [freeRev]
  | (y, kd) :: r, acc => by
    unfold freeRev
    split
    · rename_i h
      have h' : kd = .free := by simpa using h
      rw [freeRev_mem, List.mem_cons, List.mem_cons, h']
      constructor
      · rintro ((e | e) | e)
        · exact .inr (.inl (by rw [e]))
        · exact .inl e
        · exact .inr (.inr e)
      · rintro (e | e | e)
        · exact .inl (.inr e)
        · cases e; exact .inl (.inl rfl)
        · exact .inr e
    · rename_i h
      have h' : kd ≠ .free := by simpa using h
      rw [freeRev_mem, List.mem_cons]
      constructor
      · rintro (e | e)
        · exact .inl e
        · exact .inr (.inr e)
      · rintro (e | e | e)
        · exact .inl e
        · cases e; exact absurd rfl h'
        · exact .inr e
structure XTab (X : Cx) : Prop where
  nodup : X.ptabs.Nodup
  hidden : ∀ P ∈ X.ptabs, X.h₀.get? P = none
theorem RX_lam (O : XOk X) (OT : XTab X) {k : Nat} {l : Lam} {params : Arguments} {body : PySem.Expr} {scope : Scope} {pos : Pos} {is : List Nat} (Lk : LamAt X nm k l params body scope is) (hdef : ∀ env, defaultsOf params env = ([], []) := by intro _; rfl) :
    RX X φ n nm (.Lambda params body scope pos) (mLam k is) := fun A env σ s μ ν v H' hA F R em => by
  unfold mLam at em
  split at em
  · rename_i hall
    cases em
    obtain ⟨hat, rfl, rfl, rfl, hqual, hnames, hnd, hslots, q, hq, hqq⟩ := Lk
    refine kla_eval (hdef env) ?_
    rw [F.qual, hqual]
    have hqm : q ∈ X.tabs := List.mem_of_getElem? hq
    have hP : q.2.1 ∈ X.ptabs := List.mem_map_of_mem hqm
    obtain ⟨ps, eP, ht, hcs⟩ := R.tabs q hqm
    have hcode := F.code q hq
    have CH : CodeHd s.heap q.1 q.2.1 := (O.codes q hqm).keeps R.keep
    -- the slots
    have hcelLen : ∀ i ∈ is, i < σ.cel.length := fun i hi => by
      have := List.all_eq_true.mp hall i hi
      simpa using this
    have hfree : ∀ x ∈ l.scope.names, x.2 = .free → ∃ c, env.cells.lookup x.1 = some c := fun x hx e => by
      have hxl : x.1 ∈ l.names := by rw [hnames]; exact freeRev_mem.mpr (.inr (by rw [← e]; exact hx))
      obtain ⟨j, hj⟩ := List.mem_iff_getElem?.mp hxl
      have h1 : (is.map fun i => nm.cel[i]?)[j]? = some (some x.1) := by rw [hslots, List.getElem?_map, hj]; rfl
      obtain ⟨i, p1, p2⟩ := getElem?_map_some h1
      have hlt := hcelLen i (List.mem_of_getElem? p1)
      obtain ⟨a, _, ha⟩ := F.cell i x.1 _ p2 (List.getElem?_eq_getElem hlt)
      exact ⟨a, ha⟩
    let cl := closAcc env.cells l.scope.names []
    have hcl : closureFor l.scope env = pure cl := closureFor_eq hfree
    have hclf : cl.map (·.1) = l.names := by rw [hnames]; exact closAcc_fst _ _ _
    have hcls : (is.map fun i => σ.cel.getD i 0).map (fun c => ν[c]?) = cl.map (fun x => some x.2) := by
      apply List.ext_getElem?
      intro j
      rw [List.getElem?_map, List.getElem?_map, List.getElem?_map]
      have hlen : is.length = cl.length := by
        have h1 := congrArg List.length hslots
        have h2 := congrArg List.length hclf
        simp only [List.length_map] at h1 h2
        omega
      cases hj : is[j]? with
      | none =>
        have : cl[j]? = none := by rw [List.getElem?_eq_none_iff] at hj ⊢; omega
        rw [this]; rfl
      | some i =>
        have hjl : j < cl.length := by rw [← hlen]; exact (List.getElem?_eq_some_iff.mp hj).1
        rw [List.getElem?_eq_getElem hjl]
        have hx : l.names[j]? = some cl[j].1 := by rw [← hclf, List.getElem?_map, List.getElem?_eq_getElem hjl]; rfl
        have h1 : (is.map fun i => nm.cel[i]?)[j]? = some (some cl[j].1) := by rw [hslots, List.getElem?_map, hx]; rfl
        rw [List.getElem?_map, hj] at h1
        have p2 := Option.some.inj h1
        have hlt := hcelLen i (List.mem_of_getElem? hj)
        obtain ⟨a, ha1, ha2⟩ := F.cell i _ _ p2 (List.getElem?_eq_getElem hlt)
        have h2 := closAcc_snd env.cells l.scope.names [] (fun _ h => nomatch h) cl[j] (List.getElem_mem hjl)
        rw [ha2] at h2
        have h2' : cl[j].2 = a := h2
        simp only [Option.map_some]
        rw [h2', List.getD_eq_getElem?_getD, List.getElem?_eq_getElem hlt]
        simpa using ha1
    obtain ⟨bm, ob, hbm, hne0, hbo, hbc, hbd, hbdat⟩ := O.bmain
    -- the last steps, once the code is there
    have last : ∀ (s1 : Shared) (cd : Value) (ctv : Value), Aft X φ μ ν s σ.H σ.C μ s1 NoFree → CodeC s1.heap cd l.qual →
        wpAny (model X.prog X.w) A (do
          let b ← builtinsFor env.globals env.builtins
          let m ← nsGet env.globals "__name__"
          newObj (.type "function") (.func { lamFd l cl (m.getD .none) cd ctv with builtins := b })) (QX X φ μ ν s σ.H σ.C (.clo k (is.map fun i => σ.cel.getD i 0))) (fun _ _ => False) s1 := by
      intro s1 cd ctv a1 hc1
      refine wpAny_bind (wpAny_builtinsFor (by rw [F.glob]; exact O.g.keeps a1.rep.keep) hbm hne0 (a1.rep.keep _ _ hbo) hbc hbd hbdat ?_)
      refine wpAny_bind (wpAny_nsGet (by rw [F.glob]; exact O.g.keeps a1.rep.keep) ?_)
      refine wpAny_newObj_type ?_ (by size_fits)
      have a2 : Aft X φ μ ν s1 σ.H σ.C μ { s1 with heap := s1.heap.push { cls := .type "function", data := .func (lamFd l cl ((X.mg "__name__").getD .none) cd ctv) } } NoFree := .push a1.rep _
      exact ⟨μ, a1.trans a2, .clo (Heap.get?_push_size _ rfl) hat (hc1.stab (a2.stab a1.rep)) hclf hcls⟩
    -- the code
    have mid : ∀ (s1 : Shared) (ctv : Value), (∀ b o, s.heap.get? b = some o → s1.heap.get? b = some o) → Aft X φ μ ν s σ.H σ.C μ s1 NoFree →
        wpAny (model X.prog X.w) A (do
          let c ← functionCode env pos pos.line "<lambda>" l.qual l.params l.scope (.expr l.body)
          let b ← builtinsFor env.globals env.builtins
          let m ← nsGet env.globals "__name__"
          newObj (.type "function") (.func { lamFd l cl (m.getD .none) c ctv with builtins := b })) (QX X φ μ ν s σ.H σ.C (.clo k (is.map fun i => σ.cel.getD i 0))) (fun _ _ => False) s1 := by
      intro s1 ctv hk1 a1
      cases hca : codeAmong pos ps.toList with
      | some cv =>
        refine wpAny_bind (wpAny_functionCode_hit hcode ((CH.keeps hk1).code (hk1 _ _ eP) ht) hca ?_)
        have hcv := hcs pos cv hca
        rw [hqq] at hcv
        exact last s1 cv ctv a1 (hcv.stab fun b o e _ => hk1 b o e)
      | none =>
        refine wpAny_bind (wpAny_functionCodeX hcode ((CH.keeps hk1).code (hk1 _ _ eP) ht) ((CH.keeps hk1).tab (hk1 _ _ eP)) hca fun c' h' tk hx hge hlt hic hrec htb hcc => ?_)
        have hcodec : CodeC h' (.ref c') l.qual := by
          obtain ⟨P', _, _, ⟨o, vs, g1, g2, g3, _⟩, _⟩ := hcc
          obtain ⟨c2, o2, vs2, t2, e2, g4, g5, g6⟩ := hrec
          cases e2
          rw [g1] at g4; cases g4
          exact ⟨c', o, vs2, t2, rfl, g1, g2, g5, g6⟩
        have st1 : Stab s1.heap h' := fun b o e sb => hx b o (fun z => by subst z; exact a1.rep.not_stable (.inr (.inr hP)) e sb) e
        have R2 : Rep X φ μ ν σ.H σ.C { s1 with heap := h', toks := tk } := a1.rep.tabGrow OT.nodup (OT.hidden _ hP) hqm hx htb.2 (by
            rw [show (ps ++ #[rawInt pos.line, rawInt pos.col, Value.ref c']).toList = ps.toList ++ [rawInt pos.line, rawInt pos.col, .ref c'] by simp]
            exact TriplesOk_snoc _ _ _ _ ht) fun pos' cv e => by
          rw [show (ps ++ #[rawInt pos.line, rawInt pos.col, Value.ref c']).toList = ps.toList ++ [rawInt pos.line, rawInt pos.col, .ref c'] by simp] at e
          rcases codeAmong_app _ ht e with e | e
          · exact (hcs pos' cv e).stab fun b o eb sb => st1 b o (hk1 b o eb) sb
          · rw [e, hqq]; exact hcodec
        have a2 : Aft X φ μ ν s1 σ.H σ.C μ { s1 with heap := h', toks := tk } NoFree := ⟨List.prefix_refl _, fun _ z => .inl z, R2, fun b o z e => .inl (hx b o (fun y => z (.inl (.inr (y ▸ hP)))) e), fun b o e => by
          by_cases z : b = q.2.1
          · subst z; exact ⟨_, htb.2⟩
          · exact ⟨o, hx b o z e⟩⟩
        exact last _ (.ref c') ctv (a1.trans a2) hcodec
    rw [makeFunction_eq]
    simp only [List.zip_nil_right, List.filterMap_nil, List.isEmpty_nil, if_true, pure_bind]
    unfold makeTail
    rw [hcl]
    refine wpAny_bind (wpAny_pure ?_)
    by_cases hemp : cl.isEmpty = true
    · simp only [hemp, if_true, pure_bind]
      have := mid s .none (fun _ _ e => e) (.refl R)
      rw [F.glob] at this ⊢
      exact this
    · simp only [hemp, Bool.false_eq_true, if_false]
      refine wpAny_bind (wpAny_newTextTuple ?_)
      have := mid _ (.ref s.heap.objs.size) (fun _ _ e => Heap.get?_push_of_some _ e) (.push (tk := s.toks) R { cls := .type "tuple", data := .seq ((cl.mergeSort fun a b => a.1.cps.toList ≤ b.1.cps.toList).map (.ref ·.2)).toArray })
      rw [F.glob] at this ⊢
      exact this
  · cases em
end
end Mine
namespace Mine
section
variable {X : Cx} {n : Nat} {nm : Nm}
noncomputable def pyIdx (k : Int) (len : Nat) : Option Nat := if 0 ≤ k then (if k < len then some k.toNat else none) else if -(len : Int) ≤ k then some (k + len).toNat else none
theorem pyIdx_seq {k : Int} {len j : Nat} (e : pyIdx k len = some j) : seqIndex? k len = some j := by
  unfold pyIdx at e
  unfold seqIndex?
  by_cases hk : k < 0
  · rw [if_neg (by omega)] at e
    split at e
    · simp only [if_pos hk]
      rw [if_pos (by simp only [Bool.and_eq_true, decide_eq_true_eq]; omega)]
      exact e
    · cases e
  · rw [if_pos (by omega)] at e
    split at e
    · simp only [if_neg hk]
      rw [if_pos (by simp only [Bool.and_eq_true, decide_eq_true_eq]; omega)]
      exact e
    · cases e
noncomputable def fItem : F2 := fun v w H => match v, w with
  | .ref i, .int k => (match H[i]? with
    | some l => (match pyIdx k l.vs.length with
      | some j => (match l.vs[j]? with
        | some r => some (r, H)
        | none => none)
      | none => none)
    | none => none)
  | .tup vs, .int k => (match pyIdx k vs.length with
    | some j => (match vs[j]? with
      | some r => if vs.length ≤ 1048576 then some (r, H) else none
      | none => none)
    | none => none)
  | _, _ => none
theorem getItem_list_any {A : Around} {s : Shared} {l : Addr} {its : List Value} {m : Nat} {k : Int} {t : Tok} {j : Nat} {x : Value} {Q E : Value → Shared → Prop} (e : s.heap.get? l = some { cls := .type "list", data := .seq its.toArray m }) (hz : its.length ≤ 1048576)
    (hj : pyIdx k its.length = some j) (hx : its[j]? = some x) (h : Q x s) : wpAny (model X.prog X.w) A (getItem (.ref l) (.int k t)) Q E s := by
  have hl : s.heap.IsList l its.toArray := ⟨_, e, rfl, m, rfl⟩
  unfold pyIdx at hj
  split at hj
  · split at hj
    · cases hj
      exact wpAny_getItem_list hl (by omega) (by omega) (by simpa using hx) h
    · cases hj
  · split at hj
    · cases hj
      exact wpAny_getItem_list_neg hl (by omega) (by rw [List.size_toArray]; omega) (by omega) (by rw [List.size_toArray]; simpa using hx) h
    · cases hj
theorem tail_item {A : Around} {s : Shared} {μ ν : List Addr} {H : List L} {C : List (Option V)} {value slice : PySem.Expr} {x y : Value} {v w r : V} {H' : List L} {Q E : Value → Shared → Prop} (R : Rep X φ μ ν H C s) (rx : VR X s.heap μ ν x v) (ry : VR X s.heap μ ν y w) (em : fItem v w H = some (r, H'))
    (hs : ∀ x y, subscripted slice false x y = operate [x, y] (getItem x y)) (h : ∀ z, H' = H → VR X s.heap μ ν z r → Q z s) : wpAny (model X.prog X.w) A (subscriptTail value slice x y) Q E s := by
  unfold fItem at em
  split at em
  · split at em
    · rename_i l hl
      split at em
      · rename_i j hj
        split at em
        · rename_i u hu
          cases em; refine rx.ref_e fun a ha => ry.int_e fun t => ?_
          obtain ⟨its, m, e, hz, rv⟩ := R.lists _ a l ha hl
          obtain ⟨z, hz', rz⟩ := rv.get hu
          exact tail_any (s := s) ⟨_, e, rfl⟩ slot_list_getitem.lookup (getItem_list_any e hz (by rw [rv.length]; exact hj) hz' (h z rfl (rz.mono (Stab.refl _) (List.take_prefix _ _) (List.nil_prefix)))) (hs _ _)
        · cases em
      · cases em
    · cases em
  · split at em
    · rename_i j hj
      split at em
      · rename_i u hu
        split at em
        · rename_i hsz
          cases em; refine rx.tup_e fun a its m e rv => ry.int_e fun t => ?_
          obtain ⟨z, hz', rz⟩ := rv.get hu
          have ht : IsTup s.heap a its.toArray := ⟨_, e, rfl, m, rfl⟩
          have hlen := rv.length
          refine tail_any (s := s) ⟨_, e, rfl⟩ slot_tuple_getitem.lookup (PyProof.Rows.getItem_tuple ht (j := j) ?_ ?_ ?_ (by simpa using hz') (h z rfl rz)) (hs _ _)
          · unfold pyIdx at hj; split at hj <;> split at hj <;> first | omega | cases hj
          · unfold pyIdx at hj; split at hj <;> split at hj <;> first | omega | cases hj
          · rw [List.size_toArray, hlen]; exact pyIdx_seq hj
        · cases em
      · cases em
    · cases em
  · cases em
theorem RX_item {e i : PySem.Expr} {pos : Pos} {a b : Xm} (ra : RX X φ n nm e a) (rb : RX X φ n nm i b) (hs : ∀ x y, subscripted i false x y = operate [x, y] (getItem x y) := by intro _ _; rfl) : RX X φ n nm (.Subscript e i pos) (mBin fItem a b) := fun A env σ s μ ν v H' hA F R em => by
  unfold mBin at em
  split at em
  · rename_i x H1 e1
    split at em
    · rename_i y H2 e2
      refine Subscript_ (ra.use hA F R e1 fun x' s1 μ1 a1 F1 r1 => rb.use (σ := { σ with H := H1 }) hA F1 a1.rep e2 fun y' s2 μ2 a2 F2 r2 => ?_)
      exact tail_item a2.rep (r1.aft a1.rep a2) r2 em hs fun z eH rz => ⟨μ2, by subst eH; exact a1.trans a2, rz⟩
    · cases em
  · cases em
noncomputable def pick {α : Type} (l : List α) (lo hi st : Option Int) : List α := (sliceRange (sliceBounds lo hi st l.length).1 (sliceBounds lo hi st l.length).2.1 (sliceBounds lo hi st l.length).2.2).filterMap fun i => l[i]?
theorem pick_map {α β : Type} (f : α → β) (l : List α) (lo hi st : Option Int) : pick (l.map f) lo hi st = (pick l lo hi st).map f := by
  unfold pick
  rw [List.length_map]
  generalize sliceRange _ _ _ = r
  induction r with
  | nil => rfl
  | cons i r ih =>
    rw [List.filterMap_cons, List.filterMap_cons, List.getElem?_map]
    cases l[i]? with
    | none => simpa using ih
    | some y => simpa using ih
noncomputable def L.pick (l : L) (lo hi st : Option Int) : L := match l with
  | .ints xs => .ints (Mine.pick xs lo hi st)
  | .vals vs => .vals (Mine.pick vs lo hi st)
theorem L.pick_vs (l : L) (lo hi st : Option Int) : (l.pick lo hi st).vs = Mine.pick l.vs lo hi st := by
  rcases l with xs | vs
  · exact (pick_map _ _ _ _ _).symm
  · rfl
theorem VRs.pickIdx {h : Heap} {μ ν : List Addr} {xs : List Value} {vs : List V} (r : VRs X h μ ν xs vs) : ∀ is : List Nat, VRs X h μ ν (is.filterMap fun i => xs[i]?) (is.filterMap fun i => vs[i]?)
  | [] => .nil
  | i :: is => by
    rw [List.filterMap_cons, List.filterMap_cons]
    cases e : vs[i]? with
    | none => rw [r.getNone e]; exact VRs.pickIdx r is
    | some v =>
      obtain ⟨x, hx, rx⟩ := r.get e
      rw [hx]
      exact .cons rx (VRs.pickIdx r is)
theorem VRs.pick {h : Heap} {μ ν : List Addr} {xs : List Value} {vs : List V} (r : VRs X h μ ν xs vs) (lo hi st : Option Int) : VRs X h μ ν (Mine.pick xs lo hi st) (Mine.pick vs lo hi st) := by
  unfold Mine.pick
  rw [r.length]
  exact r.pickIdx _
theorem slicePick_eq (xs : List Value) (lo hi st : Option Int) : slicePick xs.toArray lo hi st = (pick xs lo hi st).toArray := by
  unfold slicePick pick
  rw [List.size_toArray]
  congr 1
  simp
noncomputable def partOf : V → Option (Option Int)
  | .none => some none
  | .int i => some (some i)
  | _ => none
theorem IsPart_of {h : Heap} {μ ν : List Addr} {x : Value} {v : V} {p : Option Int} (r : VR X h μ ν x v) (e : partOf v = some p) : IsPart x p := by
  cases r <;> cases e
  · exact .none
  · exact .int _ _
/-- a part of a slice: not written, or an expression -/
noncomputable def RP (X : Cx) (φ : List Env) (n : Nat) (nm : Nm) : Option PySem.Expr → Xm → Prop
  | none, m => m = mNone
  | some e, m => RX X φ n nm e m
theorem RP.use {o : Option PySem.Expr} {m : Xm} (r : RP X φ n nm o m) {env : Env} {A : Around} {σ : S} {s : Shared} {μ ν : List Addr} {H' : List L} {Q E : Value → Shared → Prop} (hA : Room φ n A) (F : FrOk X φ nm env σ.loc σ.cel μ ν s.heap) (R : Rep X φ μ ν σ.H σ.C s) {v : V} (em : m σ = some (v, H'))
    (k : ∀ v' s' μ', Aft X φ μ ν s H' σ.C μ' s' NoFree → FrOk X φ nm env σ.loc σ.cel μ' ν s'.heap → VR X s'.heap μ' ν v' v → Q v' s') : wpAny (model X.prog X.w) A (evalPart o env) Q E s := by
  cases o with
  | none =>
    have : m = mNone := r
    subst this
    cases em
    exact wpAny_evalPart_none (k _ _ μ (.refl R) F .none)
  | some e => exact wpAny_evalPart_some (RX.use r hA F R em k)
noncomputable def mSlice (a lo hi st : Xm) : Xm := fun σ => match a σ with
  | some (v, H1) => (match lo { σ with H := H1 } with
    | some (vl, H2) => (match hi { σ with H := H2 } with
      | some (vh, H3) => (match st { σ with H := H3 } with
        | some (vs, H4) => (match partOf vl, partOf vh, partOf vs with
          | some l, some h, some t => if t = some 0 then none else (match v with
            | .ref i => (match H4[i]? with
              | some x => if (x.pick l h t).vs.length ≤ 1048576 && stills (x.pick l h t).vs then some (.ref H4.length, H4 ++ [x.pick l h t]) else none
              | none => none)
            | .frz xs => if (pick xs l h t).length ≤ 1048576 then some (.ref H4.length, H4 ++ [.ints (pick xs l h t)]) else none
            | _ => none)
          | _, _, _ => none)
        | none => none)
      | none => none)
    | none => none)
  | none => none
theorem RX_slice {e : PySem.Expr} {lo hi st : Option PySem.Expr} {p pos : Pos} {a ml mh ms : Xm} (ra : RX X φ n nm e a) (rl : RP X φ n nm lo ml) (rh : RP X φ n nm hi mh) (rs : RP X φ n nm st ms)
    (hs : ∀ o i, ∃ ops, subscripted (.Slice lo hi st p) false o i = operate ops (getItem o i) := by intro _ _; exact ⟨_, rfl⟩) : RX X φ n nm (.Subscript e (.Slice lo hi st p) pos) (mSlice a ml mh ms) := fun A env σ s μ ν v H' hA F R em => by
  unfold mSlice at em
  split at em
  · rename_i w H1 e1
    split at em
    · rename_i vl H2 e2
      split at em
      · rename_i vh H3 e3
        split at em
        · rename_i vs H4 e4
          split at em
          · rename_i l h t q1 q2 q3
            split at em
            · cases em
            · rename_i ht0
              refine Subscript_ (ra.use hA F R e1 fun x' s1 μ1 a1 F1 r1 => wpAny_Slice (rl.use (σ := { σ with H := H1 }) hA F1 a1.rep e2 fun xl s2 μ2 a2 F2 r2 =>
                rh.use (σ := { σ with H := H2 }) hA F2 a2.rep e3 fun xh s3 μ3 a3 F3 r3 => rs.use (σ := { σ with H := H3 }) hA F3 a3.rep e4 fun xs s4 μ4 a4 F4 r4 => ?_))
              have a24 := a2.trans (a3.trans a4)
              have r1' := r1.aft a1.rep a24
              have p1 : IsPart xl l := IsPart_of r2 q1
              have p2 : IsPart xh h := IsPart_of r3 q2
              have p3 : IsPart xs t := IsPart_of r4 q3
              have a5 : Aft X φ μ4 ν s4 H4 σ.C μ4 { s4 with heap := s4.heap.push { cls := .type "slice", data := .fields #[xl, xh, xs] } } NoFree := .push a4.rep _
              have tot := (a1.trans a24).trans a5
              split at em
              · rename_i i
                split at em
                · rename_i x hx
                  split at em
                  · rename_i hc
                    cases em
                    simp only [Bool.and_eq_true, decide_eq_true_eq] at hc
                    refine r1'.ref_e fun ad ha => ?_
                    obtain ⟨ops, hops⟩ := hs (.ref ad) (.ref s4.heap.objs.size)
                    obtain ⟨its, m, eo, hz, rv⟩ := a4.rep.lists _ ad x ha hx
                    have eo' := Heap.get?_push_of_some { cls := .type "slice", data := .fields #[xl, xh, xs] } eo
                    have hl : (s4.heap.push { cls := .type "slice", data := .fields #[xl, xh, xs] }).IsList ad its.toArray := ⟨_, eo', rfl, m, rfl⟩
                    refine tail_any (s := { s4 with heap := s4.heap.push { cls := .type "slice", data := .fields #[xl, xh, xs] } }) hl.typeIs slot_list_getitem.lookup (wpAny_getItem_list_slice hl (Heap.IsSliceOf.new ..) p1 p2 p3 ht0 ?_ (by rw [List.size_toArray, sizeLine_val]; omega)) hops
                    rw [slicePick_eq]
                    have rp : VRs X (s4.heap.push { cls := .type "slice", data := .fields #[xl, xh, xs] }) μ4 [] (pick its l h t) (x.pick l h t).vs := by
                      rw [L.pick_vs]
                      exact (rv.pick l h t).mono (fun b o eb _ => Heap.get?_push_of_some _ eb) (List.take_prefix _ _) (List.prefix_refl _)
                    exact ⟨_, tot.trans (.pushList a5.rep (tk := s4.toks) (by rw [rp.length]; exact hc.1) rp), .ref (pre_take_self a5.rep.lenH _)⟩
                  · cases em
                · cases em
              · rename_i xs0
                split at em
                · rename_i hc
                  cases em
                  refine r1'.frz_e fun ad its eo rv hz => ?_
                  obtain ⟨ops, hops⟩ := hs (.ref ad) (.ref s4.heap.objs.size)
                  have hl : (s4.heap.push { cls := .type "slice", data := .fields #[xl, xh, xs] }).IsList ad its.toArray := let ⟨o, eo, c, d⟩ := eo; ⟨o, a5.rep.keep _ _ eo, c, d⟩
                  refine tail_any (s := { s4 with heap := s4.heap.push { cls := .type "slice", data := .fields #[xl, xh, xs] } }) hl.typeIs slot_list_getitem.lookup (wpAny_getItem_list_slice hl (Heap.IsSliceOf.new ..) p1 p2 p3 ht0 ?_ (by rw [List.size_toArray, sizeLine_val]; omega)) hops
                  rw [slicePick_eq]
                  have rp : VRs X (s4.heap.push { cls := .type "slice", data := .fields #[xl, xh, xs] }) μ4 [] (pick its l h t) ((pick xs0 l h t).map .int) := by
                    have := rv.pick l h t
                    rw [pick_map] at this
                    exact ints_any (this.mono (fun b o eb _ => Heap.get?_push_of_some _ eb) (List.prefix_refl _) (List.prefix_refl _))
                  exact ⟨_, tot.trans (.pushList (l := .ints (pick xs0 l h t)) a5.rep (tk := s4.toks) (by rw [rp.length, List.length_map]; exact hc) rp), .ref (pre_take_self a5.rep.lenH _)⟩
                · cases em
              · cases em
          · cases em
        · cases em
      · cases em
    · cases em
  · cases em
end
end Mine
namespace Mine
section
variable {X : Cx} {n : Nat} {nm : Nm}
mutual
noncomputable def V.flat : V → Bool
  | .clo _ _ => false
  | .ref _ => false
  | .tup vs => flats vs
  | _ => true
noncomputable def flats : List V → Bool
  | [] => true
  | v :: r => v.flat && flats r
end
theorem VR.flat {h : Heap} {μ ν μ' ν' : List Addr} {x : Value} {v : V} (r : VR X h μ ν x v) : v.flat = true → VR X h μ' ν' x v := fun e =>
  VR.rec (X := X) (h := h) (motive_1 := fun μ ν x v _ => ∀ μ' ν' : List Addr, v.flat = true → VR X h μ' ν' x v) (motive_2 := fun μ ν x v _ => ∀ μ' ν' : List Addr, flats v = true → VRs X h μ' ν' x v)
    (fun _ _ _ => .none) (fun b _ _ _ => .bool b) (fun i t _ _ _ => .int i t) (fun s t _ _ _ => .str s t) (fun _ _ _ e => by rw [V.flat] at e; cases e) (fun q _ ih μ' ν' e => .tup q (ih μ' ν' (by rw [V.flat] at e; exact e))) (fun q _ _ _ => .rng q) (fun q _ _ _ => .fn q)
    (fun _ _ _ _ _ _ _ e => by rw [V.flat] at e; cases e) (fun q r z _ _ _ _ => .frz q r z) (fun _ _ _ => .nil) (fun _ _ iha ihb μ' ν' e => by rw [flats, Bool.and_eq_true] at e; exact .cons (iha μ' ν' e.1) (ihb μ' ν' e.2)) r μ' ν' e
theorem VRs.flat {h : Heap} {μ ν μ' ν' : List Addr} {xs : List Value} {vs : List V} (r : VRs X h μ ν xs vs) : flats vs = true → VRs X h μ' ν' xs vs :=
  VRs.ind (P := fun xs vs => flats vs = true → VRs X h μ' ν' xs vs) (fun _ => .nil) (fun _ _ _ _ a _ ih e => by
    rw [flats, Bool.and_eq_true] at e
    exact .cons (a.flat e.1) (ih e.2)) r
noncomputable def insL {α : Type} (l : List α) (k : Int) (x : α) : List α := l.take (if k < 0 then (k + (l.length : Int)).toNat else min k.toNat l.length) ++ x :: l.drop (if k < 0 then (k + (l.length : Int)).toNat else min k.toNat l.length)
noncomputable def L.ins (l : L) (k : Int) (v : V) : L := match l, v with
  | .ints xs, .int x => .ints (insL xs k x)
  | l, v => .vals (insL l.vs k v)
theorem insL_map {α β : Type} (f : α → β) (l : List α) (k : Int) (x : α) : insL (l.map f) k (f x) = (insL l k x).map f := by
  unfold insL
  simp only [List.length_map, List.map_append, List.map_cons, List.map_take, List.map_drop]
theorem L.ins_vs (l : L) (k : Int) (v : V) : (l.ins k v).vs = insL l.vs k v := by
  rcases l with xs | vs
  · cases v <;> first | rfl | exact (insL_map V.int xs k _).symm
  · rfl
theorem VRs.insL {h : Heap} {μ ν : List Addr} {xs : List Value} {vs : List V} (r : VRs X h μ ν xs vs) {x : Value} {v : V} (rx : VR X h μ ν x v) (k : Int) : VRs X h μ ν (Mine.insL xs k x) (Mine.insL vs k v) := by
  unfold Mine.insL
  rw [r.length]
  exact (r.take _).append (.cons rx (r.drop _))
theorem insL_length {α : Type} (l : List α) (k : Int) (x : α) : (insL l k x).length = l.length + 1 := by
  unfold insL
  rw [List.length_append, List.length_cons, List.length_take, List.length_drop]
  omega
/-- what turns a tracked list, and hands back a value that is flat or None -/
theorem list_turns {s : Shared} {μ ν : List Addr} {H : List L} {C : List (Option V)} {i : Nat} {a : Addr} {its its' : List Value} {m : Nat} {l' : L} (R : Rep X φ μ ν H C s) (ha : μ[i]? = some a) (e : s.heap.get? a = some { cls := .type "list", data := .seq its.toArray m })
    (f : Array Value → Array Value) (hf : f its.toArray = its'.toArray) (hz : its'.length ≤ 1048576) (hv : VRs X s.heap (μ.take i) [] its' l'.vs) {tk : Nat} : Aft X φ μ ν s (H.set i l') C μ { s with heap := s.heap.update a (Obj.mapSeq f), toks := tk } NoFree := by
  have h1 := PySem.IsL.update (n := m) e f
  rw [hf] at h1
  exact .setList R ha (Heap.SameBut.update ..).extBut h1 hz hv
noncomputable def fInsert : FN := fun vs H => match vs with
  | [.ref i, .int k, v] => (match H[i]? with
    | some l => if v.flat && decide (l.vs.length < 1048576) && Builtin.List.listFitsIndex k then some (.none, H.set i (l.ins k v)) else none
    | none => none)
  | _ => none
theorem OpN_insert : OpN X φ n (fun xs => call (.builtin "list.insert") xs) fInsert := fun A s μ ν H C xs vs H' r hA R rx em => by
  unfold fInsert at em
  split at em
  · rename_i i0 k0 v0
    split at em
    · rename_i l hl
      split at em
      · rename_i hc
        cases em
        simp only [Bool.and_eq_true, decide_eq_true_eq] at hc
        refine rx.e3 fun x1 x2 x3 r1 q2 q3 => r1.ref_e fun a ha => q2.int_e fun t => ?_
        obtain ⟨its, m, e, hz, rv⟩ := R.lists _ a l ha hl
        refine call_meets PySem.F.slot_list_insert ⟨_, e, rfl⟩ PySem.F.entry_list_insert (PySem.F.args_list_insert_3 _ _ _) (PySem.AutoSeq1.list_insert_list_int_val_1 a its.toArray m _ t x3 (by simp [hc.2]) (by rw [List.size_toArray, sizeLine_val]; omega)) ⟨e, ?_⟩
        refine ⟨μ, list_turns (its' := insL its k0 x3) R ha e _ ?_ ?_ ?_, .none⟩
        · simp only [List.size_toArray]
          exact kl_ins_eq its _ x3
        · rw [insL_length, rv.length]; omega
        · rw [L.ins_vs]
          exact rv.insL (q3.flat hc.1.1) _
      · cases em
    · cases em
  · cases em
noncomputable def L.push (l : L) (v : V) : L := match l, v with
  | .ints xs, .int x => .ints (xs ++ [x])
  | l, v => .vals (l.vs ++ [v])
noncomputable def L.cat (l l2 : L) : L := match l, l2 with
  | .ints xs, .ints ys => .ints (xs ++ ys)
  | l, l2 => .vals (l.vs ++ l2.vs)
theorem L.cat_vs (l l2 : L) : (l.cat l2).vs = l.vs ++ l2.vs := by
  rcases l with xs | vs <;> rcases l2 with ys | us <;> simp [L.cat, L.vs]
noncomputable def fExtend : FN := fun vs H => match vs with
  | [.ref i, .ref j] => (match H[i]?, H[j]? with
    | some l, some l2 => if flats l2.vs && decide (l.vs.length + l2.vs.length ≤ 1048576) then some (.none, H.set i (l.cat l2)) else none
    | _, _ => none)
  | _ => none
theorem OpN_extend : OpN X φ n (fun xs => call (.builtin "list.extend") xs) fExtend := fun A s μ ν H C xs vs H' r hA R rx em => by
  unfold fExtend at em
  split at em
  · split at em
    · rename_i l l2 hl hl2
      split at em
      · rename_i hc
        cases em
        simp only [Bool.and_eq_true, decide_eq_true_eq] at hc
        refine rx.e2 fun x1 x2 r1 q2 => r1.ref_e fun a ha => q2.ref_e fun b hb => ?_
        obtain ⟨its, m, e, hz, rv⟩ := R.lists _ a l ha hl
        obtain ⟨its2, m2, e2, hz2, rv2⟩ := R.lists _ b l2 hb hl2
        have n1 := rv.length
        have n2 := rv2.length
        refine call_meets PySem.F.slot_list_extend ⟨_, e, rfl⟩ PySem.F.entry_list_extend (PySem.F.args_list_extend_2 _ _) (PySem.AutoSeq1.list_extend_list_list_0 a its.toArray m b its2.toArray m2 ?_ (by rw [List.size_toArray, sizeLine_val]; omega) (by simp only [List.size_toArray, sizeLine_val]; omega)) ⟨e, e2, ?_⟩
        · simp only [List.size_toArray, Builtin.List.listTooLong, sizeLine_val, Bool.and_eq_true, decide_eq_true_eq]
          omega
        · refine ⟨μ, list_turns (its' := its ++ its2) R ha e _ ?_ ?_ ?_, .none⟩
          · simp
          · rw [List.length_append]; omega
          · rw [L.cat_vs]
            exact rv.append (rv2.flat hc.1)
      · cases em
    · cases em
  · cases em
theorem VRs.ints {h : Heap} {μ ν : List Addr} {P : List Value → List Int → Prop} (h0 : P [] []) (h1 : ∀ i t xs ns, P xs ns → P (.int i t :: xs) (i :: ns)) : ∀ {ns : List Int} {xs : List Value}, VRs X h μ ν xs (ns.map V.int) → P xs ns := fun {ns} => by
  induction ns with
  | nil => exact fun r => r.nil_e h0
  | cons n ns ih => exact fun r => r.cons_e fun x ys rx rs => rx.int_e fun t => h1 n t ys ns (ih rs)
structure ListMeth (name : Str) (id : String) : Prop where
  slot : Slot "list" name id
  ty : typeOf (.builtin id) = pure (.type "method_descriptor")
noncomputable def mMeth (f : FN) (a : Xm) (args : Xms) : Xm := fun σ => match a σ with
  | some (v, H1) => (match v with
    | .ref i => if i < H1.length then (match args { σ with H := H1 } with
      | some (vs, H2) => f (.ref i :: vs) H2
      | none => none) else none
    | _ => none)
  | none => none
theorem RX_meth {name : Str} {id : String} {x : Str} {np apos pos : Pos} {e : PySem.Expr} {rest : List PySem.Expr} {a : Xm} {args : Xms} {f : FN} {pl : Env → Sem Bool} (M : ListMeth name id) (ra : RX X φ n nm (.Name x np) a) (rs : RXs X φ n nm (e :: rest) args) (hf : OpN X φ n (fun xs => call (.builtin id) xs) f)
    (he : ∀ env, eval (.Call (.Attribute (.Name x np) name apos) (e :: rest) [] pos) env = (do
      let ov ← eval (.Name x np) env
      standAt apos.atName
      let (f, first) ← holding [ov] (getMethod ov name (pl env))
      callWith pos f first (backTo pos (starEach (e :: rest) env)) (backToKw pos (keywordEach [] env))) := by intro _; rfl)
    (hst : ∀ env, starEach (e :: rest) env = (false, eval e env) :: starEach rest env := by intro _; rfl) (hplain : ∀ env, (backTo pos (starEach rest env)).any (·.1) = false := by intro _; rfl) :
    RX X φ n nm (.Call (.Attribute (.Name x np) name apos) (e :: rest) [] pos) (mMeth f a args) := fun A env σ s μ ν v H' hA F R em => by
  unfold mMeth at em
  split at em
  · rename_i v1 H1 e1
    split at em
    · rename_i i
      split at em
      · rename_i hlt
        split at em
        · rename_i vs H2 e2
          refine methodCall_KW (pl := pl env) (ra.use hA F R e1 fun x' s1 μ1 a1 F1 r1 => ?_) (he env)
          refine r1.ref_e fun ad ha => ?_
          obtain ⟨its, m, eo, hz, rv⟩ := a1.rep.lists _ ad _ ha (List.getElem?_eq_getElem hlt)
          refine getMethod_list_of (items := its.toArray) M.slot M.ty ⟨_, eo, rfl, m, rfl⟩ ⟨_, eo, rfl⟩ ?_
          show wpAny _ A (callWith pos (.builtin id) [.ref ad] (backTo pos (starEach (e :: rest) env)) []) _ _ s1
          refine Calls.callWith_builtin (by rw [hst env]; show (false || (backTo pos (starEach rest env)).any (·.1)) = false; rw [hplain env]; rfl) ?_
          have harg := rs.use (σ := { σ with H := H1 }) (pos := pos) hA F1 a1.rep e2 (Q := fun vs' s' => wpAny (model X.prog X.w) A (PySem.call (.builtin id) ([.ref ad] ++ vs') []) (QX X φ μ ν s H' σ.C v) (fun _ _ => False) s') (E := fun _ _ => False)
            fun xs s2 μ2 a2 F2 r2 => wpAny_mono (hf A s2 μ2 ν H2 σ.C (.ref ad :: xs) (.ref i :: vs) H' v hA a2.rep (.cons (.ref (getElem?_pre a2.pre ha)) r2) em) (fun z s3 ⟨μ3, a3, r3⟩ => ⟨μ3, (a1.trans a2).trans a3, r3⟩) fun _ _ h => h
          rw [hst env] at harg ⊢
          exact Calls.evalArgs_plain harg
        · cases em
      · cases em
    · cases em
  · cases em
theorem LM_insert : ListMeth "insert" "list.insert" := ⟨PySem.F.slot_list_insert, by show builtinType _ = _; rw [builtinType_eq_fast]; kernel_rfl⟩
theorem LM_extend : ListMeth "extend" "list.extend" := ⟨PySem.F.slot_list_extend, by show builtinType _ = _; rw [builtinType_eq_fast]; kernel_rfl⟩
end
end Mine
namespace Mine
section
variable {X : Cx} {n : Nat} {nm : Nm}
noncomputable abbrev Put := V → S → Option S
noncomputable def RT (X : Cx) (φ : List Env) (nm : Nm) (e : PySem.Expr) (put : Put) : Prop :=
  ∀ (A : Around) (env : Env) (σ σ' : S) (s : Shared) (μ ν : List Addr) (v' : Value) (v : V), A.handled = none → FrOk X φ nm env σ.loc σ.cel μ ν s.heap → Rep X φ μ ν σ.H σ.C s → VR X s.heap μ ν v' v → put v σ = some σ' →
    wpAny (model X.prog X.w) A (assign e env v') (fun _ s' => Aft X φ μ ν s σ'.H σ'.C μ s' (FrW nm env) ∧ FrOk X φ nm env σ'.loc σ'.cel μ ν s'.heap) (fun _ _ => False) s
noncomputable def putAll : List Tgt → List V → S → Option S
  | [], [], σ => some σ
  | t :: ts, v :: vs, σ => (match t.put v σ with
    | some σ' => putAll ts vs σ'
    | none => none)
  | _, _, _ => none
theorem putAll_len : ∀ {ts : List Tgt} {vs : List V} {σ σ' : S}, putAll ts vs σ = some σ' → vs.length = ts.length
  | [], [], _, _, _ => rfl
  | [], _ :: _, _, _, e => by cases e
  | _ :: _, [], _, _, e => by cases e
  | t :: ts, v :: vs, σ, σ', e => by
    unfold putAll at e
    split at e
    · simp [putAll_len e]
    · cases e
inductive Tgts (nm : Nm) : List Str → List Tgt → Prop
  | nil : Tgts nm [] []
  | cons {x : Str} {t : Tgt} {xs : List Str} {ts : List Tgt} (h : t.At nm x) (r : Tgts nm xs ts) : Tgts nm (x :: xs) (t :: ts)
theorem stores_in_order (N : NmOk nm) {A : Around} {env : Env} {μ ν : List Addr} (f : Str → Value → Sem Unit) (hf : ∀ x v' (Q : Unit → Shared → Prop) s, wpAny (model X.prog X.w) A (storeName env x v') Q (fun _ _ => False) s → wpAny (model X.prog X.w) A (f x v') Q (fun _ _ => False) s) :
    ∀ {xs : List Str} {ts : List Tgt} {vs' : List Value} {vs : List V} {σ σ' : S} {s : Shared}, Tgts nm xs ts → FrOk X φ nm env σ.loc σ.cel μ ν s.heap → Rep X φ μ ν σ.H σ.C s → VRs X s.heap μ ν vs' vs → putAll ts vs σ = some σ' →
      wpAny (model X.prog X.w) A (assignInOrder (xs.map f) vs') (fun _ s' => Aft X φ μ ν s σ'.H σ'.C μ s' (FrW nm env) ∧ FrOk X φ nm env σ'.loc σ'.cel μ ν s'.heap) (fun _ _ => False) s := by
  intro xs ts vs' vs σ σ' s T
  induction T generalizing vs' vs σ s with
  | nil =>
    intro F R r e
    cases vs with
    | nil => cases e; exact assignInOrder_nil ⟨.refl R, F⟩
    | cons v vs => cases e
  | cons h T ih =>
    intro F R r e
    cases vs with
    | nil => cases e
    | cons v vs =>
      unfold putAll at e
      split at e
      · rename_i σ1 e1
        cases r with
        | cons a b =>
          refine assignInOrder_cons (hf _ _ _ _ (store_tgt N F R h e1 a fun s1 a1 F1 => ?_))
          have hb := b.mono (F.stabW R a1.keeps) (List.prefix_refl _) (List.prefix_refl _)
          exact wpAny_mono (ih F1 a1.rep hb e) (fun _ s2 ⟨a2, F2⟩ => ⟨a1.trans a2, F2⟩) fun _ _ h => h
      · cases e
theorem assignEach_names (env : Env) : ∀ (xs : List (Str × Pos)), assignEach (xs.map fun x => .Name x.1 x.2) env = xs.map fun x => (false, assign (.Name x.1 x.2) env)
  | [] => rfl
  | x :: xs => by
    show (false, _) :: assignEach (xs.map _) env = _
    rw [assignEach_names env xs]; rfl
noncomputable def putTup (ts : List Tgt) : Put := fun v σ => match v with
  | .tup vs => putAll ts vs σ
  | _ => none
theorem findIdx_none_map {α : Type} (f : α → Value → Sem Unit) : ∀ xs : List α, (xs.map fun x => (false, f x)).findIdx? (·.1) = none
  | [] => rfl
  | x :: xs => by
    rw [List.map_cons, List.findIdx?_cons]
    simp only [Bool.false_eq_true, if_false]
    rw [findIdx_none_map f xs]; rfl
theorem stores_pos (N : NmOk nm) {A : Around} {env : Env} {μ ν : List Addr} :
    ∀ {xs : List (Str × Pos)} {ts : List Tgt} {vs' : List Value} {vs : List V} {σ σ' : S} {s : Shared}, Tgts nm (xs.map (·.1)) ts → FrOk X φ nm env σ.loc σ.cel μ ν s.heap → Rep X φ μ ν σ.H σ.C s → VRs X s.heap μ ν vs' vs → putAll ts vs σ = some σ' →
      wpAny (model X.prog X.w) A (assignInOrder (xs.map fun x => assign (.Name x.1 x.2) env) vs') (fun _ s' => Aft X φ μ ν s σ'.H σ'.C μ s' (FrW nm env) ∧ FrOk X φ nm env σ'.loc σ'.cel μ ν s'.heap) (fun _ _ => False) s
  | [], ts, vs', vs, σ, σ', s, T, F, R, r, e => by
    cases T
    cases vs with
    | nil => cases e; exact assignInOrder_nil ⟨.refl R, F⟩
    | cons v vs => cases e
  | x :: xs, ts, vs', vs, σ, σ', s, T, F, R, r, e => by
    cases T
    rename_i t ts h T
    cases vs with
    | nil => cases e
    | cons v vs =>
      unfold putAll at e
      split at e
      · rename_i σ1 e1
        cases r with
        | cons a b =>
          refine assignInOrder_cons (wpAny_assign_Name (store_tgt N F R h e1 a fun s1 a1 F1 => ?_))
          have hb := b.mono (F.stabW R a1.keeps) (List.prefix_refl _) (List.prefix_refl _)
          exact wpAny_mono (stores_pos N T F1 a1.rep hb e) (fun _ s2 ⟨a2, F2⟩ => ⟨a1.trans a2, F2⟩) fun _ _ h => h
      · cases e
theorem ext_size {h h' : Heap} (k : Heap.ExtBut h.objs.size h h') : ∀ b o, h.get? b = some o → h'.get? b = some o := fun b o e => k b o (Nat.ne_of_lt (Heap.lt_size e)) e
theorem RT_tup (N : NmOk nm) {xs : List (Str × Pos)} {k : Nat} {pos : Pos} {ts : List Tgt} (T : Tgts nm (xs.map (·.1)) ts) : RT X φ nm (.Tuple (xs.map fun x => .Name x.1 x.2) k pos) (putTup ts) := fun A env σ σ' s μ ν v' v hA F R r e => by
  unfold putTup at e
  split at e
  · rename_i vs
    cases r
    rename_i a its m eo rv
    have hl : ts.length = xs.length := by
      have := putAll_len e
      clear e rv
      generalize hys : xs.map (·.1) = ys at T
      have hl : ys.length = xs.length := by rw [← hys]; simp
      rw [← hl]
      clear hys hl this
      induction T with
      | nil => rfl
      | cons h r ih => simp [ih]
    refine wpAny_assign_Tuple (items := its.toArray) hA ⟨_, eo, rfl, m, rfl⟩ ?_ ?_ fun h' hs => ?_
    · rw [assignEach_names]; simp [rv.length, putAll_len e, hl]
    · rw [assignEach_names]; exact findIdx_none_map (fun x => assign (.Name x.1 x.2) env) xs
    · rw [assignEach_names, List.map_map]
      have hk := ext_size hs
      have st : Stab s.heap h' := fun b o e _ => hk b o e
      have a1 : Aft X φ μ ν s σ.H σ.C μ { s with heap := h' } (FrW nm env) := .grow R hk
      have F1 : FrOk X φ nm env σ.loc σ.cel μ ν h' := F.mono st (List.prefix_refl _) (List.prefix_refl _) (fun o e => hk _ o e) F.own.1
      exact wpAny_mono (stores_pos N (A := A) T F1 a1.rep (rv.mono st (List.prefix_refl _) (List.prefix_refl _)) e) (fun _ s2 ⟨a2, F2⟩ => ⟨a1.trans a2, F2⟩) fun _ _ h => h
  · cases e
noncomputable def sUnpack (put : Put) (m : Xm) : Sm := fun σ => match m σ with
  | some (v, H) => (match put v { σ with H := H } with
    | some σ' => some (.next, σ')
    | none => none)
  | none => none
theorem RS_unpack {elts : List PySem.Expr} {k : Nat} {tpos pos : Pos} {e : PySem.Expr} {m : Xm} {put : Put} (r : RX X φ n nm e m) (ht : RT X φ nm (.Tuple elts k tpos) put)
    (hw : ∀ env : Env, env.scope = nm.scope → swappedStores [.Tuple elts k tpos] e env = pure none := by rintro ⟨⟩ rfl; rfl) (hs : ∀ env, swapsWithSole [.Tuple elts k tpos] e pos.line env = pure false := by intro _; rfl) :
    RS X φ n nm (.Assign [.Tuple elts k tpos] e pos) (sUnpack put m) := fun A env σ s μ ν f σ' hA F R em => by
  unfold sUnpack at em
  split at em
  · rename_i v H1 e1
    split at em
    · rename_i σ1 e2
      cases em
      refine Assign_Tuple (r.use hA F R e1 fun x' s1 μ1 a1 F1 r1 => ?_) (hs env) (hw env F.scope)
      exact wpAny_mono (ht A env { σ with H := H1 } σ' s1 μ1 ν x' v hA.handled F1 a1.rep r1 e2) (fun _ s2 ⟨a2, F2⟩ => ⟨μ1, a1.toFr.trans a2, F2, trivial⟩) fun _ _ h => h.elim
    · cases em
  · cases em
/-- both on one line, both local: the machine stores them from the last -/
noncomputable def sSwap (ts : List Tgt) (m : Xm) : Sm := fun σ => match m σ with
  | some (.tup vs, H) => (match putAll ts.reverse vs.reverse { σ with H := H } with
    | some σ' => some (.next, σ')
    | none => none)
  | _ => none
theorem VRs.reverse {h : Heap} {μ ν : List Addr} {xs : List Value} {vs : List V} (r : VRs X h μ ν xs vs) : VRs X h μ ν xs.reverse vs.reverse :=
  VRs.ind (P := fun xs vs => VRs X h μ ν xs.reverse vs.reverse) .nil (fun _ _ _ _ a _ ih => by
    rw [List.reverse_cons, List.reverse_cons]
    exact ih.append (.cons a .nil)) r
theorem Tgts.append {xs ys : List Str} {ts us : List Tgt} (a : Tgts nm xs ts) (b : Tgts nm ys us) : Tgts nm (xs ++ ys) (ts ++ us) := by
  induction a with
  | nil => exact b
  | cons h _ ih => exact .cons h ih
theorem Tgts.reverse {xs : List Str} {ts : List Tgt} (a : Tgts nm xs ts) : Tgts nm xs.reverse ts.reverse := by
  induction a with
  | nil => exact .nil
  | cons h _ ih => rw [List.reverse_cons, List.reverse_cons]; exact ih.append (.cons h .nil)
theorem Tgts.length {xs : List Str} {ts : List Tgt} (a : Tgts nm xs ts) : ts.length = xs.length := by
  induction a with
  | nil => rfl
  | cons h _ ih => simp [ih]
theorem RS_swap (N : NmOk nm) {elts : List PySem.Expr} {k : Nat} {tpos pos : Pos} {e : PySem.Expr} {m : Xm} {xs : List Str} {ts : List Tgt} (r : RX X φ n nm e m) (T : Tgts nm xs ts)
    (hw : ∀ env : Env, env.scope = nm.scope → swappedStores [.Tuple elts k tpos] e env = pure (some xs)) (hs : ∀ env, swapsWithSole [.Tuple elts k tpos] e pos.line env = pure false := by intro _; rfl) :
    RS X φ n nm (.Assign [.Tuple elts k tpos] e pos) (sSwap ts m) := fun A env σ s μ ν f σ' hA F R em => by
  unfold sSwap at em
  split at em
  · rename_i vs H1 e1
    split at em
    · rename_i σ1 e2
      cases em
      refine Assign_Tuple_swapped (r.use hA F R e1 fun x' s1 μ1 a1 F1 r1 => ?_) (hs env) (hw env F.scope)
      refine r1.tup_e fun a its mm eo rv => ?_
      have hl : xs.length = its.toArray.size := by
        have h1 := putAll_len e2
        have h2 := T.length
        have h3 := rv.length
        simp only [List.length_reverse] at h1
        simp only [List.size_toArray]
        omega
      rw [hl]
      refine wpAny_unpackItems_tuple (items := its.toArray) hA.handled ⟨_, eo, rfl, mm, rfl⟩ fun h' hs' => ?_
      have hk := ext_size hs'
      have st : Stab s1.heap h' := fun b o e _ => hk b o e
      have a2 : Aft X φ μ1 ν s1 H1 σ.C μ1 { s1 with heap := h' } (FrW nm env) := .grow a1.rep hk
      have F2 : FrOk X φ nm env σ.loc σ.cel μ1 ν h' := F1.mono st (List.prefix_refl _) (List.prefix_refl _) (fun o e => hk _ o e) F1.own.1
      have rv2 := (rv.mono st (List.prefix_refl _) (List.prefix_refl _)).reverse
      exact wpAny_mono (stores_in_order N (A := A) (fun n => bindName env n) (fun x v' Q s h => bindName_ h) (σ := { σ with H := H1 }) T.reverse F2 a2.rep rv2 e2) (fun _ s2 ⟨a3, F3⟩ => ⟨μ1, (a1.toFr.trans a2).trans a3, F3, trivial⟩) fun _ _ h => h.elim
    · cases em
  · cases em
end
end Mine
namespace Mine
section
variable {X : Cx} {n : Nat} {nm : Nm}
/-- only the locals of a frame turn -/
noncomputable def LocF (env : Env) (b : Addr) : Prop := b = env.locals
theorem store_locL (N : NmOk nm) {A : Around} {env : Env} {loc : List (Option V)} {cel : List Nat} {s : Shared} {μ ν : List Addr} {H : List L} {C : List (Option V)} {i : Nat} {x : Str} {v' : Value} {v : V} {Q : Unit → Shared → Prop} {E : Value → Shared → Prop}
    (F : FrOk X φ nm env loc cel μ ν s.heap) (R : Rep X φ μ ν H C s) (hi : nm.loc[i]? = some x) (r : VR X s.heap μ ν v' v)
    (h : ∀ s', Aft X φ μ ν s H C μ s' (LocF env) → FrOk X φ nm env (loc.set i (some v)) cel μ ν s'.heap → Q () s') : wpAny (model X.prog X.w) A (storeName env x v') Q E s := by
  obtain ⟨m, hn, hm⟩ := F.ns
  obtain ⟨oL, es, ep, hL, hLd, _⟩ := hn
  refine wpAny_storeName_local (F.kindLoc N hi) F.ns.choose_spec.1 (fun h' hn' hs' => ?_) (F.notModule N)
  have hext := hs'.extBut
  have R' : Rep X φ μ ν H C { s with heap := h', toks := s.toks + 1 } := R.upd hext hL (not_stable_dict hLd) F.own.1 F.own.2 (.inr (.inl (let ⟨o, es, ep, e, d, _⟩ := hn'; ⟨o, es, ep, e, d⟩)))
  have st : Stab s.heap h' := fun b o e sb => hext b o (fun z => by subst z; rw [hL] at e; cases e; exact not_stable_dict hLd sb) e
  obtain ⟨oL', es', ep', hL', r'⟩ := id hn'
  refine h _ ⟨List.prefix_refl _, fun _ q => .inl q, R', fun b o q e => .inl (hext b o (fun z => q (.inr z)) e), fun b o e => ?_⟩ ?_
  · by_cases z : b = env.locals
    · subst z; exact ⟨_, hL'⟩
    · exact ⟨o, hext b o z e⟩
  · exact
    { top := F.top, scope := F.scope, glob := F.glob, bui := F.bui, qual := F.qual, own := F.own, cell := F.cell, code := F.code, ownc := F.ownc
      ns := ⟨_, hn', fun j y w e1 e2 => by
        rw [List.getElem?_set] at e2
        split at e2
        · rename_i hij
          subst hij
          split at e2
          · cases e2
            rw [hi] at e1; cases e1
            exact ⟨v', by simp, r.mono st (List.prefix_refl _) (List.prefix_refl _)⟩
          · cases e2
        · rename_i hij
          obtain ⟨w', e, q⟩ := F.ns.choose_spec.2 j y w e1 e2
          have hne : y ≠ x := fun z => hij (by
            subst z
            exact (List.getElem?_inj (List.getElem?_eq_some_iff.mp hi).1 N.nloc).mp (hi.trans e1.symm))
          exact ⟨w', by simp only [hne, if_false]; exact e, q.mono st (List.prefix_refl _) (List.prefix_refl _)⟩⟩ }
theorem FrOk.stabL {env : Env} {loc : List (Option V)} {cel : List Nat} {μ ν : List Addr} {H : List L} {C : List (Option V)} {s : Shared} {h' : Heap} (F : FrOk X φ nm env loc cel μ ν s.heap) (R : Rep X φ μ ν H C s)
    (k : Keeps (fun b => Chg X μ b ∨ LocF env b) s.heap h') : Stab s.heap h' := F.stabW R (k.weaken fun b q => q.imp id .inl)
/-- a comprehension's target: local names -/
noncomputable def RTL (X : Cx) (φ : List Env) (nm : Nm) (e : PySem.Expr) (put : Put) : Prop :=
  ∀ (A : Around) (env : Env) (σ σ' : S) (s : Shared) (μ ν : List Addr) (v' : Value) (v : V), A.handled = none → FrOk X φ nm env σ.loc σ.cel μ ν s.heap → Rep X φ μ ν σ.H σ.C s → VR X s.heap μ ν v' v → put v σ = some σ' →
    wpAny (model X.prog X.w) A (assign e env v') (fun _ s' => Aft X φ μ ν s σ.H σ.C μ s' (LocF env) ∧ FrOk X φ nm env σ'.loc σ.cel μ ν s'.heap ∧ σ'.H = σ.H ∧ σ'.C = σ.C ∧ σ'.cel = σ.cel) (fun _ _ => False) s
noncomputable def putL (i : Nat) : Put := fun v σ => some { σ with loc := σ.loc.set i (some v) }
theorem RTL_name (N : NmOk nm) {x : Str} {p : Pos} {i : Nat} (hi : nm.loc[i]? = some x) : RTL X φ nm (.Name x p) (putL i) := fun A env σ σ' s μ ν v' v hA F R r e => by
  cases e
  exact wpAny_assign_Name (store_locL N F R hi r fun s' a F' => ⟨a, F', rfl, rfl, rfl⟩)
/-- a private list -/
noncomputable def PrivL (X : Cx) (h : Heap) (μ ν : List Addr) (D : Addr) (vs : List V) : Prop := ∃ its m, h.get? D = some { cls := .type "list", data := .seq its.toArray m } ∧ VRs X h μ ν its vs
theorem PrivL.nd {h : Heap} {μ ν : List Addr} {D : Addr} {vs : List V} (p : PrivL X h μ ν D vs) {o : Obj} (e : h.get? D = some o) : ∀ es ep, o.data ≠ .dict es ep := by
  obtain ⟨its, m, e', _⟩ := p
  rw [e] at e'; cases e'; intro _ _ z; cases z
theorem PrivL.mono {h h' : Heap} {μ μ' ν : List Addr} {D : Addr} {vs : List V} (p : PrivL X h μ ν D vs) (st : Stab h h') (hp : μ <+: μ') (k : ∀ o, h.get? D = some o → h'.get? D = some o) : PrivL X h' μ' ν D vs :=
  let ⟨its, m, e, r⟩ := p; ⟨its, m, k _ e, r.mono st hp (List.prefix_refl _)⟩
/-- the private list goes onto the ledger -/
theorem Rep.adopt {μ ν : List Addr} {H : List L} {C : List (Option V)} {s : Shared} {D : Addr} {vs : List V} {l : L} (R : Rep X φ μ ν H C s) (p : PrivL X s.heap μ ν D vs) (hm : ¬ Mut X μ ν D) (hb : X.h₀.get? D = none) (hz : vs.length ≤ 1048576) (hs : stills vs = true) (hl : l.vs = vs) :
    Rep X φ (μ ++ [D]) ν (H ++ [l]) C s where
  frs := fun L hL => let ⟨f1, f2, f3⟩ := R.frs L hL; ⟨f1, fun q => by
    rcases q with q | q | q
    · rcases List.mem_append.mp q with q | q
      · exact f2 (.inl q)
      · simp at q; subst q
        obtain ⟨its, m, e, _⟩ := p
        obtain ⟨es, ep, d⟩ := f3.not_stable e
        cases d
    · exact f2 (.inr (.inl q))
    · exact f2 (.inr (.inr q)), f3⟩
  same := R.same
  keep := R.keep
  lenH := by simp [R.lenH]
  lenC := R.lenC
  nodup := by
    have h1 : D ∉ μ := fun q => hm (.inl q)
    have h2 : D ∉ ν := fun q => hm (.inr (.inl q))
    have nd := R.nodup
    rw [List.nodup_append] at nd ⊢
    refine ⟨?_, nd.2.1, ?_⟩
    · rw [List.nodup_append]
      exact ⟨nd.1, by simp, fun a ha b hb' => by simp at hb'; subst hb'; exact fun q => h1 (q ▸ ha)⟩
    · intro a ha b hb'
      rcases List.mem_append.mp ha with ha | ha
      · exact nd.2.2 a ha b hb'
      · simp at ha; subst ha; exact fun q => h2 (q ▸ hb')
  fresh := fun a ha => by
    rcases ha with ha | ha
    · rcases List.mem_append.mp ha with ha | ha
      · exact R.fresh a (.inl ha)
      · simp at ha; subst ha
        exact ⟨hb, fun q => hm (.inr (.inr q))⟩
    · exact R.fresh a (.inr ha)
  lists := fun i a l' e1 e2 => by
    by_cases hi : i < μ.length
    · rw [List.getElem?_append_left hi] at e1
      rw [List.getElem?_append_left (by rw [← R.lenH]; exact hi)] at e2
      obtain ⟨its, m, e, z, r⟩ := R.lists i a l' e1 e2
      refine ⟨its, m, e, z, ?_⟩
      rw [List.take_append_of_le_length (Nat.le_of_lt hi)]
      exact r
    · have h1 := (List.getElem?_eq_some_iff.mp e1).1
      simp only [List.length_append, List.length_cons, List.length_nil] at h1
      have hi' : i = μ.length := by omega
      subst hi'
      rw [List.getElem?_append_right (Nat.le_refl _), Nat.sub_self] at e1
      rw [R.lenH, List.getElem?_append_right (Nat.le_refl _), Nat.sub_self] at e2
      cases e1; cases e2
      obtain ⟨its, m, e, r⟩ := p
      refine ⟨its, m, e, by rw [r.length]; exact hz, ?_⟩
      rw [List.take_append_of_le_length (Nat.le_refl _), List.take_length, hl]
      exact r.still hs
  cells := fun i a v e1 e2 => (R.cells i a v e1 e2).mono (fun _ _ e _ => e) (prefix_snoc _ _) (List.prefix_refl _) fun _ e => e
  tabs := R.tabs
noncomputable def compOk (ifs : List PySem.Expr) (env : Env) : Sem Bool := forIn ifs true fun c r => if r = true then do let ok ← isTrue c env (eval c env); pure (ForInStep.yield ok) else pure (ForInStep.yield r)
noncomputable def RIf (X : Cx) (φ : List Env) (n : Nat) (nm : Nm) (ifs : List PySem.Expr) (m : Bm) : Prop :=
  ∀ (A : Around) (env : Env) (σ : S) (s : Shared) (μ ν : List Addr) (v : Bool) (H' : List L), Room φ n A → FrOk X φ nm env σ.loc σ.cel μ ν s.heap → Rep X φ μ ν σ.H σ.C s → m σ = some (v, H') →
    wpAny (model X.prog X.w) A (compOk ifs env) (QB X φ μ ν s H' σ.C v) (fun _ _ => False) s
theorem RIf_nil : RIf X φ n nm [] (mConst true) := fun A env σ s μ ν v H' hA F R em => by
  cases em
  exact wpAny_tests_nil ⟨rfl, μ, .refl R⟩
theorem RIf_one {c : PySem.Expr} {m : Bm} (r : RB X φ n nm c m) : RIf X φ n nm [c] m := fun A env σ s μ ν v H' hA F R em =>
  wpAny_tests_one (r A env σ s μ ν v H' hA F R em)
noncomputable abbrev Cm := List V → S → Option (List V × S)
noncomputable def bodyAt (elt : PySem.Expr) (gens : List Comprehension) (scope : Scope) (pos : Pos) (d : Nat) (acc : Value) (env : Env) : Sem Unit := match gens[d + 1]? with
  | some g' => do
    let x ← eval g'.iter env
    standAt g'.iter.pos
    let x ← if g'.is_async != 0 then foldedIterable g'.iter x else foldedSetIterable g'.iter env x
    let _ ← runOwn (.compStart (.ListComp elt gens scope pos) (d + 1) (← holding [x] (if g'.is_async != 0 then asyncIter x else pyIter x)) acc env) env
  | none => do let _ ← call (.builtin "list.append") [acc, ← eval elt env]
theorem compTurn_at {elt : PySem.Expr} {gens : List Comprehension} {scope : Scope} {pos : Pos} {d : Nat} {it acc : Value} {env : Env} {target iter : PySem.Expr} {ifs : List PySem.Expr} (hg : gens[d]? = some ⟨target, iter, ifs, 0⟩) (hz : ∀ g ∈ gens, g.is_async = 0) :
    compTurn (.ListComp elt gens scope pos) d it acc env = (do
      standAt iter.pos
      match ← pyNext it with
      | none => pure (.done .next)
      | some v =>
        letOwnedTupleGo target it v
        assign target env v
        let ok ← compOk ifs env
        if ok then bodyAt elt gens scope pos d acc env
        again (.compLoop (.ListComp elt gens scope pos) d it acc env)) := by
  unfold compTurn
  simp only [hg, bne_self_eq_false, Bool.false_eq_true, if_false]
  unfold bodyAt
  cases hd : gens[d + 1]? with
  | none => rfl
  | some g' =>
    have h0 := hz g' (List.mem_of_getElem? hd)
    obtain ⟨t', i', f', a'⟩ := g'
    have h0' : a' = 0 := h0
    subst h0'
    simp only [bne_self_eq_false, Bool.false_eq_true, if_false, bind_assoc, pure_bind]
    rfl
/-- what else a comprehension turns: its own locals, the list it makes -/
noncomputable def CompF (env : Env) (D : Addr) (b : Addr) : Prop := b = env.locals ∨ b = D
noncomputable abbrev QC (X : Cx) (φ : List Env) (nm : Nm) (env : Env) (μ ν : List Addr) (s : Shared) (σ σ' : S) (D : Addr) (vs' : List V) : Unit → Shared → Prop :=
  fun _ s' => ∃ μ', Aft X φ μ ν s σ'.H σ.C μ' s' (CompF env D) ∧ FrOk X φ nm env σ'.loc σ.cel μ' ν s'.heap ∧ PrivL X s'.heap μ' ν D vs' ∧ σ'.C = σ.C ∧ σ'.cel = σ.cel
noncomputable def RCm (X : Cx) (φ : List Env) (n : Nat) (nm : Nm) (elt : PySem.Expr) (gens : List Comprehension) (scope : Scope) (pos : Pos) (d : Nat) (c : Cm) : Prop :=
  ∀ (A : Around) (env : Env) (σ σ' : S) (s : Shared) (μ ν : List Addr) (D : Addr) (vs vs' : List V), Room φ n A → FrOk X φ nm env σ.loc σ.cel μ ν s.heap → Rep X φ μ ν σ.H σ.C s → PrivL X s.heap μ ν D vs → ¬ Mut X μ ν D → X.h₀.get? D = none → D ≠ env.locals → c vs σ = some (vs', σ') →
    wpAny (model X.prog X.w) A (bodyAt elt gens scope pos d (.ref D) env) (QC X φ nm env μ ν s σ σ' D vs') (fun _ _ => False) s
noncomputable def cElt (m : Xm) : Cm := fun vs σ => match m σ with
  | some (v, H) => if vs.length < 1048576 then some (vs ++ [v], { σ with H := H }) else none
  | none => none
theorem RCm_elt {elt : PySem.Expr} {gens : List Comprehension} {scope : Scope} {pos : Pos} {d : Nat} {m : Xm} (r : RX X φ n nm elt m) (hd : gens[d + 1]? = none) : RCm X φ n nm elt gens scope pos d (cElt m) := fun A env σ σ' s μ ν D vs vs' hA F R P hm hb hne em => by
  unfold cElt at em
  split at em
  · rename_i v H1 e1
    split at em
    · rename_i hlt
      cases em
      unfold bodyAt
      rw [hd]
      refine wpAny_bind (r.use hA F R e1 fun x' s1 μ1 a1 F1 r1 => ?_)
      obtain ⟨its0, m0, eD0, rD0⟩ := id P
      have hD1 : s1.heap.get? D = some { cls := .type "list", data := .seq its0.toArray m0 } := (a1.keeps D _ (fun q => q.elim (fun q => hm q.mut) False.elim) eD0).nd fun _ _ z => by cases z
      obtain ⟨its, mm, eD, rD⟩ := P.mono (a1.stab R) a1.pre (fun o e => (a1.keeps D o (fun q => q.elim (fun q => hm q.mut) False.elim) e).nd (P.nd e))
      have hm1 : ¬ Mut X μ1 ν D := a1.mut eD0 hm
      have hz : its.length < 1048576 := by rw [rD.length]; exact hlt
      refine wpAny_bind (call_meets PySem.F.slot_list_append ⟨_, eD, rfl⟩ PySem.F.entry_list_append (PySem.F.args_list_append_2 _ _) (PySem.list_append D its.toArray mm x' (by rw [List.size_toArray, sizeLine_val]; omega)) ⟨eD, ?_⟩)
      have h1 := PySem.IsL.update (n := mm) eD (fun xs => xs.push x')
      have hsb : Heap.ExtBut D s1.heap (s1.heap.update D (Obj.mapSeq fun xs => xs.push x')) := (Heap.SameBut.update ..).extBut
      have R2 := a1.rep.upd (tk := s1.toks) hsb eD not_stable_list hm1 hb (.inl fun _ _ z => by cases z)
      have st : Stab s1.heap (s1.heap.update D (Obj.mapSeq fun xs => xs.push x')) := fun b o e sb => hsb b o (fun z => by subst z; rw [eD] at e; cases e; exact not_stable_list sb) e
      refine wpAny_pure ⟨μ1, ?_, ?_, ?_, rfl, rfl⟩
      · refine ⟨a1.pre, a1.new, R2, fun b o q e => (a1.keeps b o (fun q' => q'.elim (fun q' => q (.inl q')) False.elim) e).step fun o' e' => hsb b o' (fun z => q (.inr (.inr z))) e', fun b o e => ?_⟩
        obtain ⟨o', e'⟩ := a1.alive b o e
        by_cases z : b = D
        · subst z; exact ⟨_, h1⟩
        · exact ⟨o', hsb b o' z e'⟩
      · exact F1.mono st (List.prefix_refl _) (List.prefix_refl _) (fun o e => hsb _ o (fun z => hne z.symm) e) F1.own.1
      · refine ⟨its ++ [x'], _, by rw [h1]; simp; rfl, ?_⟩
        exact (rD.append (.cons r1 .nil)).mono st (List.prefix_refl _) (List.prefix_refl _)
    · cases em
  · cases em
end
end Mine
namespace Mine
section
variable {X : Cx} {n : Nat} {nm : Nm}
theorem letOwned_other {M : Model} {A : Around} {s : Shared} {E : Value → Shared → Prop} {target : PySem.Expr} {it : Addr} {o : Obj} {T : String} {v : Value} {Q : Unit → Shared → Prop} (ho : s.heap.get? it = some o) (hc : o.cls = .type T)
    (hT : ["enumerate", "zip", "dict_itemiterator", "dict_reverseitemiterator", "odict_iterator", "itertools.zip_longest", "itertools.pairwise"].contains T = false) (h : Q () s) : wpAny M A (letOwnedTupleGo target (.ref it) v) Q E s := by
  have key : ∀ a : Addr, wpAny M A (do
      let o ← load it
      match o.cls, o.data with
      | .type n, .fields vs =>
        if ["enumerate", "zip", "dict_itemiterator", "dict_reverseitemiterator", "odict_iterator", "itertools.zip_longest", "itertools.pairwise"].contains n && vs[0]? == some (rawInt a) then
          rule "for.unpacks-the-owned-tuple"
          updateField it 0 .none
      | _, _ => pure ()) Q E s := fun a => by
    refine wpAny_bind (wpAny_load ho ?_)
    obtain ⟨c, d, dt, sl⟩ := o
    have hc' : c = .type T := hc
    subst hc'
    cases dt with
    | fields vs =>
      dsimp only
      rw [hT]
      exact wpAny_pure h
    | _ => exact wpAny_pure h
  unfold letOwnedTupleGo
  cases target with
  | Tuple elts k pos => cases v with
    | ref a => exact key a
    | _ => exact wpAny_pure h
  | List elts pos => cases v with
    | ref a => exact key a
    | _ => exact wpAny_pure h
  | _ => exact wpAny_pure h
theorem letOwned_it {A : Around} {s : Shared} {μ ν : List Addr} {E : Value → Shared → Prop} {target : PySem.Expr} {it : Addr} {k : Nat} {src : V} {v : Value} {Q : Unit → Shared → Prop} (I : ItAt X s.heap μ ν it k src) (h : Q () s) : wpAny (model X.prog X.w) A (letOwnedTupleGo target (.ref it) v) Q E s := by
  cases src with
  | ref i => obtain ⟨a, _, o, e, c, d⟩ := I; exact letOwned_other e c (by decide) h
  | tup vs => obtain ⟨a, its, m, _, _, o, e, c, d⟩ := I; exact letOwned_other e c (by decide) h
  | rng a b c => exact letOwned_other I.2 rfl (by decide) h
  | _ => exact I.elim
theorem iter_self {A : Around} {s : Shared} {μ ν : List Addr} {E : Value → Shared → Prop} {it : Addr} {k : Nat} {src : V} {Q : Value → Shared → Prop} (I : ItAt X s.heap μ ν it k src) (h : Q (.ref it) s) : wpAny (model X.prog X.w) A (pyIter (.ref it)) Q E s := by
  cases src with
  | ref i => obtain ⟨a, _, e⟩ := I; exact wpAny_pyIter_listiter e h
  | tup vs => obtain ⟨a, its, m, _, _, e⟩ := I; exact wpAny_pyIter_tupleiter e h
  | rng a b c => exact wpAny_pyIter_rangeiter I.2 h
  | _ => exact I.elim
theorem compStart_at {A : Around} {s : Shared} {R : Result → Shared → Prop} {elt : PySem.Expr} {gens : List Comprehension} {scope : Scope} {pos : Pos} {d : Nat} {it acc : Value} {env : Env} {target iter : PySem.Expr} {ifs : List PySem.Expr} (hg : gens[d]? = some ⟨target, iter, ifs, 0⟩)
    (h0 : codeAny (model X.prog X.w) A (.compLoop (.ListComp elt gens scope pos) d it acc env) R s)
    (h : wpAny (model X.prog X.w) A (pyIter it) (fun it' s' => codeAny (model X.prog X.w) A (.compLoop (.ListComp elt gens scope pos) d it' acc env) R s') (fun _ _ => False) s) :
    codeAny (model X.prog X.w) A (.compStart (.ListComp elt gens scope pos) d it acc env) R s := by
  refine codeAny_of_tree ?_
  show wpAny _ _ ((compStart (.ListComp elt gens scope pos) d it acc env).onRaise (fun x => do noteFrame x env; standAt theWindowsPlace)) _ _ s
  refine wpAny_notedAt ?_
  unfold compStart
  have hcl : (clausesOf (.ListComp elt gens scope pos))[d]? = some ⟨target, iter, ifs, 0⟩ := hg
  rw [hcl]
  show wpAny _ _ (ask >>= _) _ _ s
  refine wpAny_bind (wpAny_askSetting (wpAny_ite ?_))
  split
  · first
      | exact wpAny_bind (wpAny_pure (wpAny_pure (And.intro rfl h0)))
      | exact wpAny_pure (And.intro rfl h0)
  · first
      | exact wpAny_bind (wpAny_rule (wpAny_bind (wpAny_standAt (wpAny_bind (wpAny_mono h (fun it' s' h' => wpAny_pure (And.intro rfl h')) fun _ _ x => x.elim)))))
      | (refine wpAny_bind (wpAny_rule ?_); show wpAny _ _ (standAt iter.pos >>= _) _ _ s; exact wpAny_bind (wpAny_standAt (wpAny_bind (wpAny_mono h (fun it' s' h' => wpAny_pure (And.intro rfl h')) fun _ _ x => x.elim))))
noncomputable def compGo (src : V) (put : Put) (t : Bm) (c : Cm) : Nat → Nat → Cm
  | 0, _ => fun _ _ => none
  | g + 1, k => fun vs σ => match itemAt src σ.H k with
    | some none => some (vs, σ)
    | some (some v) => (match put v σ with
      | some σ1 => (match t σ1 with
        | some (true, H) => (match c vs { σ1 with H := H } with
          | some (vs2, σ2) => compGo src put t c g (k + 1) vs2 σ2
          | none => none)
        | some (false, H) => compGo src put t c g (k + 1) vs { σ1 with H := H }
        | none => none)
      | none => none)
    | none => none
noncomputable def CompG (env : Env) (D it : Addr) (b : Addr) : Prop := b = env.locals ∨ b = D ∨ b = it
/-- all that a comprehension's loop turns is not stable -/
theorem comp_stab {env : Env} {σ : S} {μ ν μ' : List Addr} {s : Shared} {H' : List L} {C : List (Option V)} {s' : Shared} {D : Addr} {vs : List V} (F : FrOk X φ nm env σ.loc σ.cel μ ν s.heap) (R : Rep X φ μ ν σ.H σ.C s) (P : PrivL X s.heap μ ν D vs)
    (k : Keeps (fun b => Chg X μ b ∨ CompF env D b) s.heap s'.heap) : Stab s.heap s'.heap := fun b o e sb => (k b o (fun q => by
  rcases q with q | q | q
  · exact R.not_stable q.mut e sb
  · obtain ⟨m0, ⟨oL, es, ep, hL, hLd, _⟩, _⟩ := F.ns
    subst q; rw [hL] at e; cases e; exact not_stable_dict hLd sb
  · obtain ⟨its, m, eD, _⟩ := P
    subst q; rw [eD] at e; cases e; exact not_stable_list sb) e).nd sb.nd
theorem comp_loop {elt : PySem.Expr} {gens : List Comprehension} {scope : Scope} {pos : Pos} {d : Nat} {target iter : PySem.Expr} {ifs : List PySem.Expr} {put : Put} {t : Bm} {c : Cm} (hg : gens[d]? = some ⟨target, iter, ifs, 0⟩) (hz : ∀ g ∈ gens, g.is_async = 0)
    (rt : RTL X φ nm target put) (ri : RIf X φ n nm ifs t) (rc : RCm X φ n nm elt gens scope pos d c)
    {A : Around} {env : Env} {σ σ' : S} {s : Shared} {μ ν : List Addr} {D it : Addr} {vs vs' : List V} {fuel k : Nat} {src : V} {RR : Result → Shared → Prop} (hA : Room φ n A) (F : FrOk X φ nm env σ.loc σ.cel μ ν s.heap) (R : Rep X φ μ ν σ.H σ.C s)
    (P : PrivL X s.heap μ ν D vs) (hm : ¬ Mut X μ ν D) (hb : X.h₀.get? D = none) (hne : D ≠ env.locals) (I : ItAt X s.heap μ ν it k src) (hmi : ¬ Mut X μ ν it) (hbi : X.h₀.get? it = none) (hiL : it ≠ env.locals) (hiD : it ≠ D)
    {μB : List Addr} {sB : Shared} (aB : Aft X φ μB ν sB σ.H σ.C μ s (CompG env D it)) (hBi : sB.heap.get? it = none)
    (em : compGo src put t c fuel k vs σ = some (vs', σ'))
    (hR : ∀ s' μ', Aft X φ μB ν sB σ'.H σ.C μ' s' (CompG env D it) → FrOk X φ nm env σ'.loc σ.cel μ' ν s'.heap → PrivL X s'.heap μ' ν D vs' → ¬ Mut X μ' ν D → σ'.C = σ.C → σ'.cel = σ.cel → RR (.ok .next) s') :
    codeAny (model X.prog X.w) A (.compLoop (.ListComp elt gens scope pos) d (.ref it) (.ref D) env) RR s := by
  obtain ⟨itsD, mD, eD0, _⟩ := id P
  obtain ⟨oi0, ei0, _⟩ := I.notStable
  refine codeAny_loop rfl (fun g s3 => ∃ k μ3 σ3 vs3, Aft X φ μB ν sB σ3.H σ.C μ3 s3 (CompG env D it) ∧ FrOk X φ nm env σ3.loc σ.cel μ3 ν s3.heap ∧ PrivL X s3.heap μ3 ν D vs3 ∧ ¬ Mut X μ3 ν D ∧ ItAt X s3.heap μ3 ν it k src ∧ ¬ Mut X μ3 ν it ∧ σ3.C = σ.C ∧ σ3.cel = σ.cel ∧
    compGo src put t c g k vs3 σ3 = some (vs', σ')) (fun g s3 hI => ?_) fuel ⟨k, μ, σ, vs, aB, F, P, hm, I, hmi, rfl, rfl, em⟩
  obtain ⟨k3, μ3, σ3, vs3, a3, F3, P3, hm3, I3, hmi3, hC3, hcel3, e3⟩ := hI
  show wpAny _ A ((compTurn (.ListComp elt gens scope pos) d (.ref it) (.ref D) env).onRaise (fun x => do noteFrame x env; theTreesLotGoes x)) _ _ s3
  refine wpAny_noted ?_
  rw [compTurn_at hg hz]
  refine wpAny_bind (wpAny_standAt (wpAny_bind ?_))
  cases g with
  | zero => cases e3
  | succ g =>
    unfold compGo at e3
    split at e3
    · rename_i hend
      cases e3
      refine next_end hA.handled a3.rep I3 hmi3 hbi hend fun s4 R4 x4 => wpAny_pure ?_
      have st4 : Stab s3.heap s4.heap := fun b o eo sb => x4 b o (fun z => by
        subst z
        obtain ⟨oi, ei, ni⟩ := I3.notStable
        rw [ei] at eo; cases eo; exact ni sb) eo
      refine hR s4 μ3 ⟨a3.pre, a3.new, R4, fun b o q eo => (a3.keeps b o q eo).step fun o' e' => x4 b o' (fun z => q (.inr (.inr (.inr z)))) e', fun b o eo => ?_⟩ ?_ ?_ hm3 hC3 hcel3
      · by_cases z : b = it
        · subst z
          obtain ⟨o', eo'⟩ := a3.alive b o eo
          rw [hBi] at eo; cases eo
        · obtain ⟨o', eo'⟩ := a3.alive b o eo
          exact ⟨o', x4 b o' z eo'⟩
      · exact F3.mono st4 (List.prefix_refl _) (List.prefix_refl _) (fun o eo => x4 _ o (fun z => hiL z.symm) eo) F3.own.1
      · exact P3.mono st4 (List.prefix_refl _) fun o eo => x4 _ o (fun z => hiD z.symm) eo
    · rename_i v hitem
      split at e3
      · rename_i σ4 e4
        refine next_item a3.rep I3 hmi3 hbi hitem fun x4 s4 R4 x4b I4 r4 => ?_
        have st4 : Stab s3.heap s4.heap := fun b o eo sb => x4b.extBut b o (fun z => by
          subst z
          obtain ⟨oi, ei, ni⟩ := I3.notStable
          rw [ei] at eo; cases eo; exact ni sb) eo
        have a4 : Aft X φ μB ν sB σ3.H σ.C μ3 s4 (CompG env D it) := ⟨a3.pre, a3.new, R4, fun b o q eo => (a3.keeps b o q eo).step fun o' e' => x4b.extBut b o' (fun z => q (.inr (.inr (.inr z)))) e', fun b o eo => by
          obtain ⟨o', eo'⟩ := a3.alive b o eo
          by_cases z : b = it
          · subst z
            obtain ⟨oi, ei, _⟩ := I4.notStable
            exact ⟨oi, ei⟩
          · exact ⟨o', x4b.extBut b o' z eo'⟩⟩
        have F4 : FrOk X φ nm env σ3.loc σ3.cel μ3 ν s4.heap := by
          rw [hcel3]
          exact F3.mono st4 (List.prefix_refl _) (List.prefix_refl _) (fun o eo => x4b.extBut _ o (fun z => hiL z.symm) eo) F3.own.1
        have P4 := P3.mono st4 (List.prefix_refl _) fun o eo => x4b.extBut _ o (fun z => hiD z.symm) eo
        refine wpAny_bind (letOwned_it I4 ?_)
        refine wpAny_bind (wpAny_mono (rt A env σ3 σ4 s4 μ3 ν x4 v hA.handled F4 (by rw [hC3]; exact R4) r4 e4) (fun _ s5 h5 => ?_) fun _ _ h => h.elim)
        obtain ⟨a5, F5, hH5, hC5, hcel5⟩ := h5
        have st5 : Stab s4.heap s5.heap := F4.stabL R4 a5.keeps
        have nLD : ¬ (Chg X μ3 D ∨ LocF env D) := fun q => q.elim (fun q => hm3 q.mut) hne
        have nLi : ¬ (Chg X μ3 it ∨ LocF env it) := fun q => q.elim (fun q => hmi3 q.mut) hiL
        have P5 := P4.mono st5 (List.prefix_refl _) fun o eo => (a5.keeps _ o nLD eo).nd (P4.nd eo)
        have I5 : ItAt X s5.heap μ3 ν it (k3 + 1) src := I4.mono st5 (List.prefix_refl _) fun o eo => (a5.keeps _ o nLi eo).nd (I4.fields eo)
        have a5' : Aft X φ μB ν sB σ3.H σ.C μ3 s5 (CompG env D it) := a4.trans (by rw [← hC3]; exact a5.weaken fun b q => .inl q)
        have F5' : FrOk X φ nm env σ4.loc σ4.cel μ3 ν s5.heap := by rw [hcel5]; exact F5
        have R5 : Rep X φ μ3 ν σ4.H σ4.C s5 := by rw [hH5, hC5]; exact a5.rep
        have tests : ∀ (b : Bool) (H6 : List L), t σ4 = some (b, H6) → ∀ (Q : Bool → Shared → Prop) (E : Value → Shared → Prop), (∀ s6 μ6, Aft X φ μB ν sB H6 σ.C μ6 s6 (CompG env D it) → FrOk X φ nm env σ4.loc σ4.cel μ6 ν s6.heap → PrivL X s6.heap μ6 ν D vs3 → ¬ Mut X μ6 ν D → ItAt X s6.heap μ6 ν it (k3 + 1) src → ¬ Mut X μ6 ν it → Q b s6) →
            wpAny (model X.prog X.w) A (compOk ifs env) Q E s5 := fun b H6 e6 Q E hQ => by
          refine wpAny_mono (ri A env σ4 s5 μ3 ν b H6 hA F5' R5 e6) (fun b' s6 ⟨eb, μ6, a6⟩ => ?_) fun _ _ h => h.elim
          subst eb
          have nD : ¬ (Chg X μ3 D ∨ NoFree D) := fun q => q.elim (fun q => hm3 q.mut) False.elim
          have ni' : ¬ (Chg X μ3 it ∨ NoFree it) := fun q => q.elim (fun q => hmi3 q.mut) False.elim
          obtain ⟨itsD5, mD5, eD5, _⟩ := id P5
          obtain ⟨oi5, ei5, _⟩ := I5.notStable
          have a6' : Aft X φ μ3 ν s5 H6 σ.C μ6 s6 (CompG env D it) := by
            have : σ4.C = σ.C := hC5.trans hC3
            rw [← this]; exact a6.weaken fun b q => q.elim
          exact hQ s6 μ6 (a5'.trans a6') (F5'.aft R5 a6) (P5.mono (a6.stab R5) a6.pre fun o eo => (a6.keeps _ o nD eo).nd (P5.nd eo)) (a6.mut eD5 hm3) (I5.mono (a6.stab R5) a6.pre fun o eo => (a6.keeps _ o ni' eo).nd (I5.fields eo)) (a6.mut ei5 hmi3)
        split at e3
        · rename_i H6 e6
          split at e3
          · rename_i vs7 σ7 e7
            refine wpAny_bind (tests true H6 e6 _ _ fun s6 μ6 a6 F6 P6 hm6 I6 hmi6 => ?_)
            simp only [if_true]
            have hC4 : σ4.C = σ.C := hC5.trans hC3
            have hcel4 : σ4.cel = σ.cel := hcel5.trans hcel3
            refine wpAny_bind (wpAny_mono (rc A env { σ4 with H := H6 } σ7 s6 μ6 ν D vs3 vs7 hA F6 (by show Rep X φ μ6 ν H6 σ4.C s6; rw [hC4]; exact a6.rep) P6 hm6 hb hne e7) (fun _ s7 h7 => ?_) fun _ _ h => h.elim)
            obtain ⟨μ7, a7, F7, P7, hC7, hcel7⟩ := h7
            have a7' : Aft X φ μ6 ν s6 σ7.H σ.C μ7 s7 (CompF env D) := by
              have h' : Aft X φ μ6 ν s6 σ7.H σ4.C μ7 s7 (CompF env D) := a7
              rw [hC4] at h'; exact h'
            have R6 : Rep X φ μ6 ν H6 σ4.C s6 := by rw [hC4]; exact a6.rep
            have st7 : Stab s6.heap s7.heap := comp_stab (σ := { σ4 with H := H6 }) (C := σ.C) (H' := σ7.H) (μ' := μ7) F6 R6 P6 a7'.keeps
            have ni7 : ¬ (Chg X μ6 it ∨ CompF env D it) := fun q => q.elim (fun q => hmi6 q.mut) fun q => q.elim hiL hiD
            obtain ⟨itsD6, mD6, eD6, _⟩ := id P6
            obtain ⟨oi6, ei6, _⟩ := I6.notStable
            refine wpAny_pure ⟨rfl, g, Nat.lt_succ_self g, k3 + 1, μ7, σ7, vs7, a6.trans (a7'.weaken fun b q => q.imp id .inl), ?_, P7, a7'.mut eD6 hm6, I6.mono st7 a7'.pre fun o eo => (a7'.keeps _ o ni7 eo).nd (I6.fields eo), a7'.mut ei6 hmi6, hC7.trans hC4, hcel7.trans hcel4, e3⟩
            have F7' : FrOk X φ nm env σ7.loc σ4.cel μ7 ν s7.heap := F7
            rw [hcel4] at F7'; exact F7'
          · cases e3
        · rename_i H6 e6
          refine wpAny_bind (tests false H6 e6 _ _ fun s6 μ6 a6 F6 P6 hm6 I6 hmi6 => ?_)
          simp only [Bool.false_eq_true, if_false]
          have hcel4 : σ4.cel = σ.cel := hcel5.trans hcel3
          refine wpAny_pure ⟨rfl, g, Nat.lt_succ_self g, k3 + 1, μ6, { σ4 with H := H6 }, vs3, a6, ?_, P6, hm6, I6, hmi6, hC5.trans hC3, hcel4, e3⟩
          show FrOk X φ nm env σ4.loc σ.cel μ6 ν s6.heap
          rw [← hcel4]; exact F6
        · cases e3
      · cases e3
    · cases e3
end
end Mine
namespace Mine
section
variable {X : Cx} {n : Nat} {nm nmc : Nm}
noncomputable def cFor (fuel : Nat) (put : Put) (m : Xm) (t : Bm) (c : Cm) : Cm := fun vs σ => match m σ with
  | some (src, H) => compGo src put t c fuel 0 vs { σ with H := H }
  | none => none
theorem compGo_iter {src : V} {put : Put} {t : Bm} {c : Cm} {fuel k : Nat} {vs : List V} {σ : S} {r : List V × S} (e : compGo src put t c fuel k vs σ = some r) : ∃ r0, itemAt src σ.H k = some r0 := by
  cases fuel with
  | zero => cases e
  | succ g =>
    unfold compGo at e
    split at e
    · exact ⟨_, ‹_›⟩
    · exact ⟨_, ‹_›⟩
    · cases e
theorem RCm_for {elt : PySem.Expr} {gens : List Comprehension} {scope : Scope} {pos : Pos} {d fuel : Nat} {target iter : PySem.Expr} {ifs : List PySem.Expr} {put : Put} {m : Xm} {t : Bm} {c : Cm} (hg : gens[d + 1]? = some ⟨target, iter, ifs, 0⟩) (hz : ∀ g ∈ gens, g.is_async = 0)
    (rm : RX X φ n nm iter m) (rt : RTL X φ nm target put) (ri : RIf X φ n nm ifs t) (rc : RCm X φ n nm elt gens scope pos (d + 1) c) (hs : ∀ env x, foldedSetIterable iter env x = pure x := by intro _ _; rfl) :
    RCm X φ n nm elt gens scope pos d (cFor fuel put m t c) := fun A env σ σ' s μ ν D vs vs' hA F R P hm hb hne em => by
  unfold cFor at em
  split at em
  · rename_i src H1 e1
    unfold bodyAt
    rw [hg]
    simp only [bne_self_eq_false, Bool.false_eq_true, if_false]
    refine wpAny_bind (rm.use hA F R e1 fun x' s1 μ1 a1 F1 r1 => ?_)
    refine wpAny_bind (wpAny_standAt (wpAny_bind (wpAny_of_eq (hs env x') (wpAny_bind (wpAny_holding ?_)))))
    obtain ⟨r0, hi0⟩ := compGo_iter em
    have nD : ¬ (Chg X μ D ∨ NoFree D) := fun q => q.elim (fun q => hm q.mut) False.elim
    obtain ⟨its0, m0, eD0, _⟩ := id P
    have P1 := P.mono (a1.stab R) a1.pre fun o e => (a1.keeps _ o nD e).nd (P.nd e)
    have hm1 := a1.mut eD0 hm
    refine iter_src a1.rep r1 hi0 fun it s2 a2 hnone I2 => ?_
    have F2 := F1.aft a1.rep a2
    have nD1 : ¬ (Chg X μ1 D ∨ NoFree D) := fun q => q.elim (fun q => hm1 q.mut) False.elim
    have P2 := P1.mono (a2.stab a1.rep) (List.prefix_refl _) fun o e => (a2.keeps _ o nD1 e).nd (P1.nd e)
    obtain ⟨its1, m1, eD1, _⟩ := id P1
    have hiL : it ≠ env.locals := fun z => by
      obtain ⟨m0, hn, _⟩ := F1.ns
      obtain ⟨o, eo⟩ := Ns_alive hn
      rw [z, eo] at hnone; cases hnone
    have hiD : it ≠ D := fun z => by rw [z, eD1] at hnone; cases hnone
    refine wpAny_bind (wpAny_runOwn ?_)
    show codeAny _ A _ _ _
    have L := comp_loop (fuel := fuel) (k := 0) (σ := { σ with H := H1 }) (RR := fun r s' => match r with
        | .ok f => wpAny (model X.prog X.w) A (pure () : Sem Unit) (QC X φ nm env μ ν s σ σ' D vs') (fun _ _ => False) s'
        | .error e => cameBackBy (model X.prog X.w) A env (fun _ _ => False) e s') (pos := pos) (scope := scope) hg hz rt ri rc hA F2 a2.rep P2 hm1 hb hne I2 (a1.rep.not_mut hnone) (a1.rep.base_none hnone) hiL hiD (a2.weaken fun _ q => q.elim) hnone em
      (fun s' μ' a3 F3 P3 _ h1 h2 => wpAny_pure ⟨μ', a1.weaken (fun _ q => q.elim) |>.trans ⟨a3.pre, a3.new, a3.rep, fun b o q e => a3.keeps b o (fun z => z.elim (fun z => q (.inl z)) fun z => by
        rcases z with z | z | z
        · exact q (.inr (.inl z))
        · exact q (.inr (.inr z))
        · rw [z, hnone] at e; cases e) e, a3.alive⟩, F3, P3, h1, h2⟩)
    exact compStart_at hg L (iter_self I2 L)
  · cases em
noncomputable def relabelS (scope psc : Scope) : Scope :=
  { scope with names := scope.names.map fun (n, k) => if (k == .free && psc.kind == .function && psc.names.lookup n == some .cell) then (n, .cell) else (n, k) }
structure CompAt (nm nmc : Nm) (scope : Scope) (is : List Nat) : Prop where
  scp : nmc.scope = relabelS scope nm.scope
  qual : nmc.qual = nm.qual
  tab : nmc.tab = nm.tab
  cel : nmc.cel = freeRev scope.names []
  slots : is.map (fun i => nm.cel[i]?) = nmc.cel.map some
  ncell : ∀ x ∈ scope.names, x.2 ≠ .cell
  kind : scope.kind = .function
  names : ∀ x ∈ scope.names, x.2 = .local → scope.names.lookup x.1 = some .local
theorem clos_facts {env : Env} {loc : List (Option V)} {cel : List Nat} {μ ν : List Addr} {h : Heap} (F : FrOk X φ nm env loc cel μ ν h) {names : List (Str × NameKind)} {nms : List Str} {is : List Nat} (hnames : nms = freeRev names []) (hslots : is.map (fun i => nm.cel[i]?) = nms.map some) (hcelLen : ∀ i ∈ is, i < cel.length) :
    (∀ x ∈ names, x.2 = .free → ∃ c, env.cells.lookup x.1 = some c) ∧ (closAcc env.cells names []).map (·.1) = nms ∧ (is.map fun i => cel.getD i 0).map (fun c => ν[c]?) = (closAcc env.cells names []).map (fun x => some x.2) := by
  have hclf : (closAcc env.cells names []).map (·.1) = nms := by rw [hnames]; exact closAcc_fst _ _ _
  refine ⟨fun x hx e => ?_, hclf, ?_⟩
  · have hxl : x.1 ∈ nms := by rw [hnames]; exact freeRev_mem.mpr (.inr (by rw [← e]; exact hx))
    obtain ⟨j, hj⟩ := List.mem_iff_getElem?.mp hxl
    have h1 : (is.map fun i => nm.cel[i]?)[j]? = some (some x.1) := by rw [hslots, List.getElem?_map, hj]; rfl
    obtain ⟨i, p1, p2⟩ := getElem?_map_some h1
    have hlt := hcelLen i (List.mem_of_getElem? p1)
    obtain ⟨a, _, ha⟩ := F.cell i x.1 _ p2 (List.getElem?_eq_getElem hlt)
    exact ⟨a, ha⟩
  · generalize hcl : closAcc env.cells names [] = cl at hclf
    apply List.ext_getElem?
    intro j
    rw [List.getElem?_map, List.getElem?_map, List.getElem?_map]
    have hlen : is.length = cl.length := by
      have h1 := congrArg List.length hslots
      have h2 := congrArg List.length hclf
      simp only [List.length_map] at h1 h2
      omega
    cases hj : is[j]? with
    | none =>
      have : cl[j]? = none := by rw [List.getElem?_eq_none_iff] at hj ⊢; omega
      rw [this]; rfl
    | some i =>
      have hjl : j < cl.length := by rw [← hlen]; exact (List.getElem?_eq_some_iff.mp hj).1
      rw [List.getElem?_eq_getElem hjl]
      have hx : nms[j]? = some cl[j].1 := by rw [← hclf, List.getElem?_map, List.getElem?_eq_getElem hjl]; rfl
      have h1 : (is.map fun i => nm.cel[i]?)[j]? = some (some cl[j].1) := by rw [hslots, List.getElem?_map, hx]; rfl
      rw [List.getElem?_map, hj] at h1
      have p2 := Option.some.inj h1
      have hlt := hcelLen i (List.mem_of_getElem? hj)
      obtain ⟨a, ha1, ha2⟩ := F.cell i _ _ p2 (List.getElem?_eq_getElem hlt)
      have h2 := closAcc_snd env.cells names [] (fun _ h => nomatch h) cl[j] (by rw [hcl]; exact List.getElem_mem hjl)
      rw [ha2] at h2
      have h2' : cl[j].2 = a := h2
      simp only [Option.map_some]
      rw [h2', List.getD_eq_getElem?_getD, List.getElem?_eq_getElem hlt]
      simpa using ha1
theorem mem_of_look {α : Type} {x : Str} {b : α} : ∀ {l : List (Str × α)}, l.lookup x = some b → (x, b) ∈ l
  | [], e => by cases e
  | (y, c) :: l, e => by
    rw [List.lookup_cons] at e
    cases q : x == y with
    | true =>
      rw [q] at e
      cases e
      have : x = y := by simpa using q
      rw [this]; exact List.mem_cons_self
    | false =>
      rw [q] at e
      exact List.mem_cons_of_mem _ (mem_of_look e)
theorem relabel_eq {env : Env} {scope : Scope} (h : env.scope = nm.scope) : relabel scope env = relabelS scope nm.scope := by
  unfold relabel relabelS Env.kindOf
  rw [h]
/-- a comprehension's frame, as it is made -/
theorem comp_frame {scope : Scope} {is : List Nat} (K : CompAt nm nmc scope is) (N : NmOk nmc) {env : Env} {σ : S} {μ ν : List Addr} {s : Shared} {nl : Nat} (F : FrOk X φ nm env σ.loc σ.cel μ ν s.heap) {CA : Addr} {h' : Heap} {m : Str → Option Value} (hn : h'.Ns CA m) (hm : ¬ Mut X μ ν CA) (hb : X.h₀.get? CA = none) (hlen : ∀ i ∈ is, i < σ.cel.length) :
    FrOk X φ nmc (compEnvC scope (closAcc env.cells scope.names []) CA env) (List.replicate nl none) (is.map fun i => σ.cel.getD i 0) μ ν h' := by
  obtain ⟨_, h2, h3⟩ := clos_facts F K.cel K.slots hlen
  have hnd : ((closAcc env.cells scope.names []).map (·.1)).Nodup := by rw [h2]; exact N.ncel
  exact
  { top := F.top
    scope := by rw [K.scp]; exact relabel_eq F.scope
    glob := F.glob
    bui := F.bui
    qual := by rw [K.qual]; exact F.qual
    ns := ⟨m, hn, fun i x v _ e => by
      rw [List.getElem?_replicate] at e
      split at e <;> cases e⟩
    own := ⟨hm, hb⟩
    cell := fun i x c e1 e2 => by
      have h4 : ((is.map fun i => σ.cel.getD i 0).map (fun c => ν[c]?))[i]? = some (ν[c]?) := by rw [List.getElem?_map, e2]; rfl
      rw [h3, List.getElem?_map] at h4
      cases hcl : (closAcc env.cells scope.names [])[i]? with
      | none => rw [hcl] at h4; cases h4
      | some y =>
        rw [hcl] at h4
        have h5 : some y.2 = ν[c]? := by simpa using h4
        refine ⟨y.2, h5.symm, lookup_zip_idx hnd (i := i) ?_ ?_⟩
        · rw [h2]; exact e1
        · rw [List.getElem?_map, hcl]; rfl
    code := fun q e => F.code q (by rw [← K.tab]; exact e)
    ownc := fun x b _ e => by
      have hmem : (x, b) ∈ closAcc env.cells scope.names [] := mem_of_look e
      obtain ⟨j, hj⟩ := List.mem_iff_getElem?.mp hmem
      have h4 : ((closAcc env.cells scope.names []).map (fun x => some x.2))[j]? = some (some b) := by rw [List.getElem?_map, hj]; rfl
      rw [← h3, List.getElem?_map] at h4
      cases hc : (is.map fun i => σ.cel.getD i 0)[j]? with
      | none => rw [hc] at h4; cases h4
      | some c =>
        rw [hc] at h4
        have h5 : ν[c]? = some b := by simpa using h4
        exact List.mem_of_getElem? h5 }
noncomputable def mComp (fuel nl : Nat) (is : List Nat) (put : Put) (m : Xm) (t : Bm) (c : Cm) : Xm := fun σ => match m σ with
  | some (src, H) => if is.all (fun i => i < σ.cel.length) then
      (match compGo src put t c fuel 0 [] { loc := List.replicate nl none, cel := is.map fun i => σ.cel.getD i 0, C := σ.C, H := H } with
      | some (vs, τ) => if stills vs && decide (vs.length ≤ 1048576) then some (.ref τ.H.length, τ.H ++ [mkL vs]) else none
      | none => none) else none
  | none => none
/-- what a comprehension leaves behind, up to its own locals -/
theorem comp_run {elt : PySem.Expr} {target iter : PySem.Expr} {ifs : List PySem.Expr} {rest : List Comprehension} {scope : Scope} {pos : Pos} {is : List Nat} {fuel nl : Nat} {put : Put} {m : Xm} {t : Bm} {c : Cm} (hz : ∀ g ∈ (⟨target, iter, ifs, 0⟩ :: rest : List Comprehension), g.is_async = 0)
    (K : CompAt nm nmc scope is) (N : NmOk nmc) (rm : RX X φ n nm iter m) (rt : RTL X φ nmc target put) (ri : RIf X φ n nmc ifs t) (rc : RCm X φ n nmc elt (⟨target, iter, ifs, 0⟩ :: rest) scope pos 0 c)
    {A : Around} {env : Env} {σ : S} {s : Shared} {μ ν : List Addr} {v : V} {H' : List L} {E : Value → Shared → Prop} (hA : Room φ n A) (F : FrOk X φ nm env σ.loc σ.cel μ ν s.heap) (R : Rep X φ μ ν σ.H σ.C s) (em : mComp fuel nl is put m t c σ = some (v, H')) {use : Option (Value → Sem Unit)} {Q : Value → Shared → Prop}
    (hq : ∀ s' μ' D CA mC, Aft X φ μ ν s H' σ.C μ' s' NoFree → VR X s'.heap μ' ν (.ref D) v → s'.heap.Ns CA mC → ¬ Mut X μ' ν CA → X.h₀.get? CA = none → s.heap.get? CA = none → compPost (model X.prog X.w) A E use Q (.ref D) CA (.ok .next) s')
    (hs : ∀ env x, foldedSetIterable iter env x = pure x) :
    wpAny (model X.prog X.w) A (comprehension (.ListComp elt (⟨target, iter, ifs, 0⟩ :: rest) scope pos) scope env (firstIterPos (⟨target, iter, ifs, 0⟩ :: rest) pos) (newList []) false (eval iter env) use) Q E s := by
  unfold mComp at em
  split at em
  · rename_i src H1 e1
    split at em
    · rename_i hall
      split at em
      · rename_i vs τ e2
        split at em
        · rename_i hc
          cases em
          simp only [Bool.and_eq_true, decide_eq_true_eq] at hc
          have hlen : ∀ i ∈ is, i < σ.cel.length := fun i hi => by
            have := List.all_eq_true.mp hall i hi
            simpa using this
          obtain ⟨hcf, _, _⟩ := clos_facts F K.cel K.slots hlen
          refine wpAny_comprehension_free rfl (hs env) (closureFor_eq hcf) K.kind K.names ?_
          refine rm.use hA F R e1 fun x' s1 μ1 a1 F1 r1 => ?_
          obtain ⟨r0, hi0⟩ := compGo_iter e2
          refine iter_src a1.rep r1 hi0 fun it s2 a2 hnone I2 => ?_
          have F2 := F1.aft a1.rep a2
          refine wpAny_newObj_type (wpAny_newFunctionEnv K.ncell (by intro y hy; simp at hy) (fun h₁ hns₁ hsb₁ => ?_) K.kind)
          dsimp only at hns₁ hsb₁ ⊢
          generalize hH2 : s2.heap.push { cls := .type "list", dict := none, data := .seq ([] : List Value).toArray } = H2 at hns₁ hsb₁ ⊢
          have hCA : H2.objs.size = s2.heap.objs.size + 1 := by rw [← hH2, Heap.size_push]
          have hDC : s2.heap.objs.size ≠ H2.objs.size := by omega
          have hCle : s2.heap.objs.size ≤ H2.objs.size := by omega
          have old : ∀ b o, s2.heap.get? b = some o → h₁.get? b = some o := fun b o e => hsb₁.extBut b o (Nat.ne_of_lt (Nat.lt_of_lt_of_le (Heap.lt_size e) hCle)) (Heap.get?_push_of_some _ (hH2 ▸ Heap.get?_push_of_some _ e))
          have hD1 : h₁.get? s2.heap.objs.size = some { cls := .type "list", data := .seq ([] : List Value).toArray } := hsb₁.extBut _ _ hDC (Heap.get?_push_of_some _ (hH2 ▸ Heap.get?_push_size _ rfl))
          have noneD : s2.heap.get? s2.heap.objs.size = none := none_at_size _
          have noneC : s2.heap.get? H2.objs.size = none := Heap.get?_none_of_le (by omega)
          have a3 : Aft X φ μ1 ν s2 H1 σ.C μ1 { s2 with heap := h₁, toks := s2.toks + 0 } NoFree := .grow a2.rep old
          have R2 := a2.rep
          have F4 := comp_frame (nl := nl) K N F2 hns₁ (R2.not_mut noneC) (R2.base_none noneC) hlen
          have st2 : Stab s2.heap h₁ := fun b o e _ => old b o e
          obtain ⟨oi, ei, _⟩ := I2.notStable
          have hlti := Heap.lt_size ei
          have L := comp_loop (fuel := fuel) (k := 0) (scope := scope) (pos := pos) (d := 0) (vs := []) (σ := { loc := List.replicate nl none, cel := is.map fun i => σ.cel.getD i 0, C := σ.C, H := H1 }) (RR := compPost (model X.prog X.w) A E use Q (.ref s2.heap.objs.size) H2.objs.size) rfl hz rt ri rc hA F4 a3.rep ⟨[], 0, hD1, .nil⟩
            (R2.not_mut noneD) (R2.base_none noneD) hDC (I2.mono st2 (List.prefix_refl _) fun o e => old _ o e) (a1.rep.not_mut hnone) (a1.rep.base_none hnone) (Nat.ne_of_lt (Nat.lt_of_lt_of_le hlti hCle)) (Nat.ne_of_lt hlti)
            ((a2.trans a3).weaken fun _ q => q.elim) hnone e2 (fun s' μ' a5 F5 P5 hm5 hC5 _ => by
              have none1 : ∀ b, s2.heap.get? b = none → s1.heap.get? b = none := fun b hb => by
                cases q : s1.heap.get? b with
                | none => rfl
                | some o => obtain ⟨o', e'⟩ := a2.alive b o q; rw [hb] at e'; cases e'
              have none0 : ∀ b, s1.heap.get? b = none → s.heap.get? b = none := fun b hb => by
                cases q : s.heap.get? b with
                | none => rfl
                | some o => obtain ⟨o', e'⟩ := a1.alive b o q; rw [hb] at e'; cases e'
              have a6 : Aft X φ μ1 ν s1 τ.H σ.C μ' s' NoFree := ⟨a5.pre, a5.new, a5.rep, fun b o q e => a5.keeps b o (fun z => z.elim (fun z => q (.inl z)) fun z => by
                rcases z with z | z | z
                · have : s1.heap.get? b = none := none1 b (by rw [z]; exact noneC)
                  rw [this] at e; cases e
                · have : s1.heap.get? b = none := none1 b (by rw [z]; exact noneD)
                  rw [this] at e; cases e
                · rw [z, hnone] at e; cases e) e, a5.alive⟩
              obtain ⟨itsD, mD, eD, rD⟩ := id P5
              have R6 := a5.rep.adopt P5 hm5 (R2.base_none noneD) hc.2 hc.1 (mkL_vs vs)
              have a16 := a1.trans a6
              have a8 : Aft X φ μ ν s (τ.H ++ [mkL vs]) σ.C (μ' ++ [s2.heap.objs.size]) s' NoFree := ⟨List.IsPrefix.trans a16.pre (prefix_snoc _ _), fun a ha => by
                rcases List.mem_append.mp ha with ha | ha
                · exact a16.new a ha
                · simp at ha; subst ha; exact .inr (none0 _ (none1 _ noneD)), R6, a16.keeps, a16.alive⟩
              obtain ⟨mC, hnC, _⟩ := F5.ns
              refine hq s' _ _ _ mC a8 (.ref (pre_take_self a5.rep.lenH _)) hnC (fun z => ?_) F5.own.2 (none0 _ (none1 _ noneC))
              rcases z with z | z | z
              · rcases List.mem_append.mp z with z | z
                · exact F5.own.1 (.inl z)
                · exact hDC (List.mem_singleton.mp z).symm
              · exact F5.own.1 (.inr (.inl z))
              · exact F5.own.1 (.inr (.inr z)))
          exact compStart_at rfl L (iter_self (I2.mono st2 (List.prefix_refl _) fun o e => old _ o e) L)
        · cases em
      · cases em
    · cases em
  · cases em
theorem Rep.notFr {μ ν : List Addr} {H : List L} {C : List (Option V)} {s : Shared} {b : Addr} (R : Rep X φ μ ν H C s) (h0 : s.heap.get? b = none) : b ∉ frsOf φ := fun q => by
  obtain ⟨o, _, _, e, _⟩ := (R.frs b q).2.2
  rw [h0] at e; cases e
theorem Rep.dropNs {μ ν : List Addr} {H : List L} {C : List (Option V)} {s : Shared} {CA : Addr} {mC : Str → Option Value} {h' : Heap} (R : Rep X φ μ ν H C s) (hn : s.heap.Ns CA mC) (hm : ¬ Mut X μ ν CA) (hb : X.h₀.get? CA = none) (k : Heap.SameBut CA s.heap h') (hd' : CA ∉ frsOf φ) : Rep X φ μ ν H C { s with heap := h' } ∧ Stab s.heap h' := by
  obtain ⟨o, es, ep, e, d, _⟩ := hn
  exact ⟨R.upd (tk := s.toks) k.extBut e (not_stable_dict d) hm hb (.inr (.inr hd')), fun b o' eo sb => k.extBut b o' (fun z => by subst z; rw [e] at eo; cases eo; exact not_stable_dict d sb) eo⟩
theorem RX_comp {elt : PySem.Expr} {target iter : PySem.Expr} {ifs : List PySem.Expr} {rest : List Comprehension} {scope : Scope} {pos : Pos} {is : List Nat} {fuel nl : Nat} {put : Put} {m : Xm} {t : Bm} {c : Cm} (hz : ∀ g ∈ (⟨target, iter, ifs, 0⟩ :: rest : List Comprehension), g.is_async = 0)
    (K : CompAt nm nmc scope is) (N : NmOk nmc) (rm : RX X φ n nm iter m) (rt : RTL X φ nmc target put) (ri : RIf X φ n nmc ifs t) (rc : RCm X φ n nmc elt (⟨target, iter, ifs, 0⟩ :: rest) scope pos 0 c) (hs : ∀ env x, foldedSetIterable iter env x = pure x := by intro _ _; rfl) :
    RX X φ n nm (.ListComp elt (⟨target, iter, ifs, 0⟩ :: rest) scope pos) (mComp fuel nl is put m t c) := fun A env σ s μ ν v H' hA F R em => by
  rw [eval_ListComp]
  refine comp_run hz K N rm rt ri rc hA F R em (fun s' μ' D CA mC a r hn hm hb h0 => ?_) hs
  refine ⟨mC, hn, fun h' hs' => ⟨μ', ?_, ?_⟩⟩
  · obtain ⟨R', st⟩ := a.rep.dropNs hn hm hb hs' (R.notFr h0)
    exact ⟨a.pre, a.new, R', fun b o q (e : s.heap.get? b = some o) => (a.keeps b o q e).step fun o' e' => hs'.extBut b o' (fun z => by rw [z, h0] at e; cases e) e', fun b o (e : s.heap.get? b = some o) => by
      obtain ⟨o', e'⟩ := a.alive b o e
      exact ⟨o', hs'.extBut b o' (fun z => by rw [z, h0] at e; cases e) e'⟩⟩
  · exact r.mono (a.rep.dropNs hn hm hb hs' (R.notFr h0)).2 (List.prefix_refl _) (List.prefix_refl _)
/-- a local takes what a comprehension makes -/
theorem RS_assign_comp (N : NmOk nm) {x : Str} {p spos : Pos} {i : Nat} (hi : nm.loc[i]? = some x) {elt : PySem.Expr} {target iter : PySem.Expr} {ifs : List PySem.Expr} {rest : List Comprehension} {scope : Scope} {pos : Pos} {is : List Nat} {fuel nl : Nat} {put : Put} {m : Xm} {t : Bm} {c : Cm} (hz : ∀ g ∈ (⟨target, iter, ifs, 0⟩ :: rest : List Comprehension), g.is_async = 0)
    (K : CompAt nm nmc scope is) (Nc : NmOk nmc) (rm : RX X φ n nm iter m) (rt : RTL X φ nmc target put) (ri : RIf X φ n nmc ifs t) (rc : RCm X φ n nmc elt (⟨target, iter, ifs, 0⟩ :: rest) scope pos 0 c)
    (hsw : ∀ env : Env, env.scope = nm.scope → swapsWith (.ListComp elt (⟨target, iter, ifs, 0⟩ :: rest) scope pos) (some (.Name x p)) spos.line env = pure true) (hs : ∀ env x, foldedSetIterable iter env x = pure x := by intro _ _; rfl) :
    RS X φ n nm (.Assign [.Name x p] (.ListComp elt (⟨target, iter, ifs, 0⟩ :: rest) scope pos) spos) (sAssign (.loc i) (mComp fuel nl is put m t c)) := fun A env σ s μ ν f σ' hA F R em => by
  unfold sAssign at em
  split at em
  · rename_i v H1 e1
    cases em
    rw [exec_Assign_Name_used _ _ _ _ (hsw env F.scope)]
    refine wpAny_bind (wpAny_standAt (wpAny_bind ?_))
    show wpAny _ A (do let _ ← comprehension (.ListComp elt (⟨target, iter, ifs, 0⟩ :: rest) scope pos) scope env (firstIterPos (⟨target, iter, ifs, 0⟩ :: rest) pos) (newList []) false (eval iter env) (some (assign (.Name x p) env))) _ _ s
    refine wpAny_bind (comp_run hz K Nc rm rt ri rc hA F R e1 (use := some (assign (.Name x p) env)) (fun s' μ' D CA mC a r hn hm hb h0 => ?_) hs)
    have F' := F.aft R a
    refine wpAny_assign_Name (store_locL N F' a.rep hi r fun s2 a2 F2 => ?_)
    have hCL : CA ≠ env.locals := fun z => by
      obtain ⟨m0, hn0, _⟩ := F.ns
      obtain ⟨o, eo⟩ := Ns_alive hn0
      rw [z, eo] at h0; cases h0
    have nC : ¬ (Chg X μ' CA ∨ LocF env CA) := fun q => q.elim (fun q => hm q.mut) hCL
    have hn2 : s2.heap.Ns CA mC := Kept.ns hn fun o e => a2.keeps _ o nC e
    refine ⟨mC, hn2, fun h' hs' => wpAny_pure (wpAny_pure ⟨μ', ?_, ?_, trivial⟩)⟩
    · obtain ⟨R', st⟩ := a2.rep.dropNs hn2 hm hb hs' (R.notFr h0)
      have a3 := a.toFr (nm := nm) (env := env) |>.trans (a2.weaken fun _ q => .inl q)
      exact ⟨a3.pre, a3.new, R', fun b o q (e : s.heap.get? b = some o) => (a3.keeps b o q e).step fun o' e' => hs'.extBut b o' (fun z => by rw [z, h0] at e; cases e) e', fun b o e => by
        obtain ⟨o', e'⟩ := a3.alive b o e
        exact ⟨o', hs'.extBut b o' (fun z => by rw [z, h0] at e; cases e) e'⟩⟩
    · exact F2.mono (a2.rep.dropNs hn2 hm hb hs' (R.notFr h0)).2 (List.prefix_refl _) (List.prefix_refl _) (fun o e => hs'.extBut _ o (fun z => hCL z.symm) e) F2.own.1
  · cases em
end
end Mine
namespace Mine
section
variable {X : Cx} {n : Nat} {nm : Nm}
noncomputable def mArgs (f : FN) (a : Xms) : Xm := fun σ => match a σ with
  | some (vs, H) => f vs H
  | none => none
theorem RX_bi (O : XOk X) (N : NmOk nm) {x : Str} {np pos : Pos} {i : Nat} {id : String} {e : PySem.Expr} {rest : List PySem.Expr} {args : Xms} {f : FN} (hi : nm.glb[i]? = some x) (hg : X.mg x = none) (hb : bootBuiltins x = some (.builtin id)) (ra : RXs X φ n nm (e :: rest) args) (hf : OpN X φ n (fun xs => call (.builtin id) xs) f)
    (he : ∀ env, starEach (e :: rest) env = (false, eval e env) :: starEach rest env := by intro _; rfl) (hplain : ∀ env, (backTo pos (starEach rest env)).any (·.1) = false := by intro _; rfl) :
    RX X φ n nm (.Call (.Name x np) (e :: rest) [] pos) (mArgs f args) := fun A env σ s μ ν v H' hA F R em => by
  unfold mArgs at em
  split at em
  · rename_i vs H1 e1
    refine wpAny_Call_ofName (name_builtin O N hi hg hb F R ?_)
    show wpAny _ A (callWith pos (.builtin id) [] (backTo pos (starEach (e :: rest) env)) []) _ _ s
    refine Calls.callWith_builtin (by rw [he env]; show (false || (backTo pos (starEach rest env)).any (·.1)) = false; rw [hplain env]; rfl) ?_
    have harg := ra.use (pos := pos) hA F R e1 (Q := fun vs' s' => wpAny (model X.prog X.w) A (PySem.call (.builtin id) ([] ++ vs') []) (QX X φ μ ν s H' σ.C v) (fun _ _ => False) s') (E := fun _ _ => False)
      fun xs s2 μ2 a2 F2 r2 => wpAny_mono (hf A s2 μ2 ν H1 σ.C xs vs H' v hA a2.rep r2 em) (fun z s3 ⟨μ3, a3, r3⟩ => ⟨μ3, a2.trans a3, r3⟩) fun _ _ h => h
    rw [he env] at harg ⊢
    exact Calls.evalArgs_plain harg
  · cases em
theorem RX_ty (O : XOk X) (N : NmOk nm) {x : Str} {np pos : Pos} {i : Nat} {T : String} {e : PySem.Expr} {rest : List PySem.Expr} {args : Xms} {f : FN} (hi : nm.glb[i]? = some x) (hg : X.mg x = none) (hb : bootBuiltins x = some (.type T)) (ra : RXs X φ n nm (e :: rest) args) (hf : OpN X φ n (fun xs => call (.type T) xs) f)
    (he : ∀ env, starEach (e :: rest) env = (false, eval e env) :: starEach rest env := by intro _; rfl) (hplain : ∀ env, (backTo pos (starEach rest env)).any (·.1) = false := by intro _; rfl) :
    RX X φ n nm (.Call (.Name x np) (e :: rest) [] pos) (mArgs f args) := fun A env σ s μ ν v H' hA F R em => by
  unfold mArgs at em
  split at em
  · rename_i vs H1 e1
    refine wpAny_Call_ofName (name_builtin O N hi hg hb F R ?_)
    show wpAny _ A (callWith pos (.type T) [] (backTo pos (starEach (e :: rest) env)) []) _ _ s
    refine callWith_excType (by rw [he env]; show (false || (backTo pos (starEach rest env)).any (·.1)) = false; rw [hplain env]; rfl) ?_
    have harg := ra.use (pos := pos) hA F R e1 (Q := fun vs' s' => wpAny (model X.prog X.w) A (PySem.call (.type T) ([] ++ vs') []) (QX X φ μ ν s H' σ.C v) (fun _ _ => False) s') (E := fun _ _ => False)
      fun xs s2 μ2 a2 F2 r2 => wpAny_mono (hf A s2 μ2 ν H1 σ.C xs vs H' v hA a2.rep r2 em) (fun z s3 ⟨μ3, a3, r3⟩ => ⟨μ3, a2.trans a3, r3⟩) fun _ _ h => h
    rw [he env] at harg ⊢
    exact Calls.evalArgs_plain harg
  · cases em
/-- what is only grown -/
theorem Op_grown {s : Shared} {μ ν : List Addr} {H : List L} {C : List (Option V)} {h' : Heap} {tk : Nat} {z : Value} {r : V} (R : Rep X φ μ ν H C s) (k : ∀ b o, s.heap.get? b = some o → h'.get? b = some o) (q : VR X h' μ ν z r) :
    ∃ μ', Aft X φ μ ν s H C μ' { s with heap := h', toks := tk } NoFree ∧ VR X ({ s with heap := h', toks := tk } : Shared).heap μ' ν z r := ⟨μ, .grow R k, q⟩
noncomputable def fLen : FN := fun vs H => match vs with
  | [.ref i] => (match H[i]? with
    | some l => some (.int l.vs.length, H)
    | none => none)
  | _ => none
theorem OpN_len : OpN X φ n (fun xs => call (.builtin "len") xs) fLen := fun A s μ ν H C xs vs H' r hA R rx em => by
  unfold fLen at em
  split at em
  · split at em
    · rename_i l hl
      cases em
      refine rx.e1 fun x r1 => r1.ref_e fun a ha => ?_
      obtain ⟨its, m, e, hz, rv⟩ := R.lists _ _ l ha hl
      refine Calls.call_len_list (items := its.toArray) ⟨_, e, rfl, m, rfl⟩ (by simp only [List.size_toArray]; omega) ?_
      rw [List.size_toArray, rv.length]
      exact Op_grown R (fun _ _ e => e) (.int _ _)
    · cases em
  · cases em
noncomputable def fMin2 : FN := fun vs H => match vs with
  | [.int a, .int b] => some (.int (if b < a then b else a), H)
  | _ => none
theorem OpN_min2 : OpN X φ n (fun xs => call (.builtin "min") xs) fMin2 := fun A s μ ν H C xs vs H' r hA R rx em => by
  unfold fMin2 at em
  split at em
  · cases em
    refine rx.e2 fun x y r1 r2 => r1.int_e fun t => r2.int_e fun t2 => ?_
    refine min_two_ints hA.handled fun h' tk hk => ?_
    refine Op_grown R hk ?_
    split <;> exact .int _ _
  · cases em
noncomputable def fMax2 : FN := fun vs H => match vs with
  | [.int a, .int b] => some (.int (if a < b then b else a), H)
  | _ => none
theorem OpN_max2 : OpN X φ n (fun xs => call (.builtin "max") xs) fMax2 := fun A s μ ν H C xs vs H' r hA R rx em => by
  unfold fMax2 at em
  split at em
  · rename_i a b
    cases em
    refine rx.e2 fun x y r1 r2 => r1.int_e fun t => r2.int_e fun t2 => ?_
    refine max_two_ints hA.handled fun h' tk hk => ?_
    refine Op_grown R hk ?_
    show VR X _ μ ν (if a < b then _ else _) (.int (if a < b then b else a))
    split <;> exact .int _ _
  · cases em
noncomputable def fRange : FN := fun vs H => match vs with
  | [.int b] => some (.rng 0 b 1, H)
  | [.int a, .int b] => some (.rng a b 1, H)
  | _ => none
theorem OpN_range : OpN X φ n (fun xs => call (.type "range") xs) fRange := fun A s μ ν H C xs vs H' r hA R rx em => by
  unfold fRange at em
  split at em
  · cases em
    refine rx.e1 fun x r1 => r1.int_e fun t => ?_
    exact call_range_1 (Op_grown R (fun _ _ e => Heap.get?_push_of_some _ e) (.rng (IsRange.new ..)))
  · cases em
    refine rx.e2 fun x y r1 r2 => r1.int_e fun t => r2.int_e fun t2 => ?_
    exact call_range_2 (Op_grown R (fun _ _ e => Heap.get?_push_of_some _ e) (.rng (IsRange.new ..)))
  · cases em
/-- a fresh list that something has made -/
theorem fresh_list {s : Shared} {μ ν : List Addr} {H : List L} {C : List (Option V)} {h' : Heap} {tk : Nat} {D : Addr} {its : List Value} {m : Nat} {l : L} (R : Rep X φ μ ν H C s) (k : ∀ b o, s.heap.get? b = some o → h'.get? b = some o) (hD : s.heap.get? D = none)
    (e : h'.get? D = some { cls := .type "list", data := .seq its.toArray m }) (r : VRs X h' μ ν its l.vs) (hz : l.vs.length ≤ 1048576) (hs : stills l.vs = true) :
    ∃ μ', Aft X φ μ ν s (H ++ [l]) C μ' { s with heap := h', toks := tk } NoFree ∧ VR X ({ s with heap := h', toks := tk } : Shared).heap μ' ν (.ref D) (.ref H.length) := by
  have a1 : Aft X φ μ ν s H C μ { s with heap := h', toks := tk } NoFree := .grow R k
  have R2 := a1.rep.adopt (D := D) (vs := l.vs) (l := l) ⟨its, m, e, r⟩ (R.not_mut hD) (R.base_none hD) hz hs rfl
  refine ⟨μ ++ [D], ⟨prefix_snoc _ _, fun a ha => ?_, R2, a1.keeps, a1.alive⟩, .ref (pre_take_self R.lenH _)⟩
  rcases List.mem_append.mp ha with ha | ha
  · exact .inl ha
  · simp at ha; subst ha; exact .inr hD
noncomputable def fListL : FN := fun vs H => match vs with
  | [.ref i] => (match H[i]? with
    | some l => if stills l.vs && decide (l.vs.length ≤ 1048576) then some (.ref H.length, H ++ [l]) else none
    | none => none)
  | _ => none
theorem OpN_list : OpN X φ n (fun xs => call (.type "list") xs) fListL := fun A s μ ν H C xs vs H' r hA R rx em => by
  unfold fListL at em
  split at em
  · split at em
    · rename_i l hl
      split at em
      · rename_i hc
        cases em
        simp only [Bool.and_eq_true, decide_eq_true_eq] at hc
        refine rx.e1 fun x r1 => r1.ref_e fun a ha => ?_
        obtain ⟨its, m, e, hz, rv⟩ := R.lists _ _ l ha hl
        refine call_list_seq (items := its.toArray) _ (.inl rfl) e rfl rfl (fun h' c' hk he => ?_) (by rw [List.size_toArray, sizeLine_val]; omega)
        refine fresh_list R hk (none_at_size _) he ?_ hc.2 hc.1
        exact (rv.mono (fun b o e _ => hk b o e) (List.take_prefix _ _) (List.nil_prefix))
      · cases em
    · cases em
  · cases em
theorem preSum_take (xs : List Int) : ∀ j, preSum (fun i => xs.getD i 0) j = (xs.take j).sum
  | 0 => by simp [preSum]
  | j + 1 => by
    rw [preSum, preSum_take xs j, List.take_add_one, List.sum_append, List.getD_eq_getElem?_getD]
    cases xs[j]? <;> simp
theorem intsAt {h : Heap} {μ ν : List Addr} {its : List Value} {ns : List Int} (r : VRs X h μ ν its (ns.map V.int)) {i : Nat} {v : Value} (e : its.toArray[i]? = some v) : ∃ t, v = .int (ns.getD i 0) t := by
  have e' : its[i]? = some v := by simpa using e
  have hlt : i < ns.length := by
    have := (List.getElem?_eq_some_iff.mp e').1
    have h2 := r.length
    simp only [List.length_map] at h2
    omega
  have h3 : (ns.map V.int)[i]? = some (.int (ns.getD i 0)) := by
    rw [List.getElem?_map, List.getElem?_eq_getElem hlt, List.getD_eq_getElem?_getD, List.getElem?_eq_getElem hlt]; rfl
  obtain ⟨x, hx, rx⟩ := r.get h3
  rw [e'] at hx; cases hx
  exact rx.int_e fun t => ⟨_, rfl⟩
noncomputable def fSum : FN := fun vs H => match vs with
  | [.ref i] => (match H[i]? with
    | some (.ints xs) => some (.int xs.sum, H)
    | _ => none)
  | _ => none
theorem iter_list {A : Around} {E : Value → Shared → Prop} {s : Shared} {l : Addr} {its : Array Value} {m : Nat} {Q : Value → Shared → Prop} (e : s.heap.get? l = some { cls := .type "list", data := .seq its m })
    (h : ∀ s₂ : Shared, s₂ = { s with heap := s.heap.push { cls := .type "list_iterator", data := .fields #[.ref l, .int 0 0] } } →
      (s₂.heap.IsListIter s.heap.objs.size l 0 ∧ s₂.heap.IsList l its) → (∀ b ∈ [s.heap.objs.size, l], b < s₂.heap.objs.size) → l ≠ s.heap.objs.size → Q (.ref s.heap.objs.size) s₂) :
    wpAny (model X.prog X.w) A (pyIter (.ref l)) Q E s := by
  have hlt : l < s.heap.objs.size := Heap.lt_size e
  have hl : s.heap.IsList l its := ⟨_, e, rfl, m, rfl⟩
  refine wpAny_pyIter_list hl (h _ rfl ⟨⟨_, Heap.get?_push_size _ rfl, rfl, rfl⟩, hl.push _⟩ (fun b hb => ?_) (Nat.ne_of_lt hlt))
  show b < (s.heap.push _).objs.size
  rw [Heap.size_push]
  rcases List.mem_cons.mp hb with rfl | hb
  · exact Nat.lt_succ_self _
  · rcases List.mem_cons.mp hb with rfl | hb
    · exact Nat.lt_succ_of_lt hlt
    · cases hb
theorem OpN_sum : OpN X φ n (fun xs => call (.builtin "sum") xs) fSum := fun A s μ ν H C xs vs H' r hA R rx em => by
  unfold fSum at em
  split at em
  · split at em
    · rename_i ns hl
      cases em
      refine rx.e1 fun x r1 => r1.ref_e fun a ha => ?_
      obtain ⟨its, m, e, hz, rv⟩ := R.lists _ _ _ ha hl
      refine call_sum_walkG (iter_list e fun s₂ e₂ st hfp hlI => ?_)
      subst e₂
      refine ⟨_, _, _, _, _, _, fun i => ns.getD i 0, rfl, Walks.list (A := A.in1) hA.handled _ _ hlI its.toArray, st, hfp, (fun i v e => intsAt rv e), fun h' tk t' hk => ?_⟩
      refine Op_grown R (old_kept hk) ?_
      have hlen : its.length = ns.length := by rw [rv.length]; exact List.length_map ..
      rw [preSum_take, List.size_toArray, hlen, List.take_length]
      exact .int _ _
    · cases em
  · cases em
end
end Mine
namespace Mine
section
variable {X : Cx} {n : Nat} {nm : Nm}
noncomputable def allSome {α : Type} : List (Option α) → Option (List α)
  | [] => some []
  | some x :: r => (match allSome r with
    | some xs => some (x :: xs)
    | none => none)
  | none :: _ => none
noncomputable def datOf (H : List L) : Nat → V → Option PyData
  | _, .none => some .none
  | _, .bool b => some (.bool b)
  | _, .int i => some (.int i)
  | _, .str s => some (.str s)
  | f + 1, .ref i => (match H[i]? with
    | some (.ints xs) => some (.list (xs.map .int))
    | some (.vals vs) => (match allSome (vs.map (datOf H f)) with
      | some ds => some (.list ds)
      | none => none)
    | none => none)
  | f + 1, .tup vs => (match allSome (vs.map (datOf H f)) with
    | some ds => some (.tuple ds)
    | none => none)
  | _, _ => none
theorem readsAll_ints {h : Heap} {μ ν : List Addr} {xs : List Value} {ns : List Int} (r : VRs X h μ ν xs (ns.map V.int)) : ReadsAll h xs (ns.map .int) [] :=
  VRs.ints (P := fun xs ns => ReadsAll h xs (ns.map .int) []) .nil (fun i t _ _ ih => .cons (as := []) (.int i t) ih) r
theorem allSome_cons {α : Type} {o : Option α} {l : List (Option α)} {ds : List α} (e : allSome (o :: l) = some ds) : ∃ x xs, o = some x ∧ allSome l = some xs ∧ ds = x :: xs := by
  cases o with
  | none => cases e
  | some x =>
    unfold allSome at e
    cases h : allSome l with
    | none => rw [h] at e; cases e
    | some xs => rw [h] at e; cases e; exact ⟨x, xs, rfl, rfl, rfl⟩
theorem readsAll_of {h : Heap} {μ ν : List Addr} {g : V → Option PyData} (k : ∀ v x d, VR X h μ ν x v → g v = some d → ∃ as, Reads h x d as) {xs : List Value} {vs : List V} (r : VRs X h μ ν xs vs) : ∀ {ds : List PyData}, allSome (vs.map g) = some ds → ∃ as, ReadsAll h xs ds as :=
  VRs.ind (P := fun xs vs => ∀ {ds : List PyData}, allSome (vs.map g) = some ds → ∃ as, ReadsAll h xs ds as) (fun e => by cases e; exact ⟨_, .nil⟩) (fun x v xs vs a _ ih ds e => by
    obtain ⟨y, ys, h1, h2, h3⟩ := allSome_cons e
    obtain ⟨as, ra⟩ := k _ _ _ a h1
    obtain ⟨bs, rb⟩ := ih h2
    subst h3
    exact ⟨_, .cons ra rb⟩) r
theorem reads_of {s : Shared} {μ ν : List Addr} {H : List L} {C : List (Option V)} (R : Rep X φ μ ν H C s) : ∀ (f : Nat) (v : V) (x : Value) (d : PyData), VR X s.heap μ ν x v → datOf H f v = some d → ∃ as, Reads s.heap x d as := by
  intro f
  induction f with
  | zero =>
    intro v x d r e
    cases v with
    | none => exact r.none_e (by cases e; exact ⟨_, .none⟩)
    | bool b => exact r.bool_e (by cases e; exact ⟨_, .bool _⟩)
    | int i => exact r.int_e fun t => by cases e; exact ⟨_, .int _ _⟩
    | str i => exact r.str_e fun t => by cases e; exact ⟨_, .str _ _⟩
    | _ => cases e
  | succ f ih =>
    intro v x d r e
    cases v with
    | none => exact r.none_e (by cases e; exact ⟨_, .none⟩)
    | bool b => exact r.bool_e (by cases e; exact ⟨_, .bool _⟩)
    | int i => exact r.int_e fun t => by cases e; exact ⟨_, .int _ _⟩
    | str i => exact r.str_e fun t => by cases e; exact ⟨_, .str _ _⟩
    | ref i =>
      refine r.ref_e fun a ha => ?_
      unfold datOf at e
      split at e
      · rename_i xs hl
        cases e
        obtain ⟨its, m, eo, hz, rv⟩ := R.lists i a _ ha hl
        exact ⟨_, .list eo rfl rfl (by simpa using readsAll_ints rv)⟩
      · rename_i vs hl
        split at e
        · rename_i ds hds
          cases e
          obtain ⟨its, m, eo, hz, rv⟩ := R.lists i a _ ha hl
          obtain ⟨as, ra⟩ := readsAll_of (fun v x d r e => ih v x d r e) (rv.mono (fun _ _ e _ => e) (List.take_prefix _ _) (List.nil_prefix)) hds
          exact ⟨_, .list eo rfl rfl (by simpa using ra)⟩
        · cases e
      · cases e
    | tup vs =>
      refine r.tup_e fun a its m eo rv => ?_
      unfold datOf at e
      split at e
      · rename_i ds hds
        cases e
        obtain ⟨as, ra⟩ := readsAll_of (fun v x d r e => ih v x d r e) rv hds
        exact ⟨_, .tuple eo rfl rfl (by simpa using ra)⟩
      · cases e
    | _ => cases e
noncomputable def fEq : F2 := fun v w H => match datOf H 8 v, datOf H 8 w with
  | some d, some e => if SeqAt.shaped d && SeqAt.shaped e then some (.bool (PyData.eqv d e), H) else none
  | _, _ => none
noncomputable def fNe : F2 := fun v w H => match datOf H 8 v, datOf H 8 w with
  | some d, some e => if SeqAt.shaped d && SeqAt.shaped e then some (.bool (!PyData.eqv d e), H) else none
  | _, _ => none
theorem Room.u64 {A : Around} (r : Room φ n A) : A.units + 64 < cLine := by show A.units + 64 < 9900; have := r.units; omega
theorem Op2_eq : Op2 X φ n (compareOp .Eq) fEq := fun A s μ ν H C x y v u H' r hA R rx ry em => by
  unfold fEq at em
  split at em
  · rename_i d e hd he
    split at em
    · rename_i hs
      cases em
      simp only [Bool.and_eq_true] at hs
      obtain ⟨as, ra⟩ := reads_of R 8 v x d rx hd
      obtain ⟨bs, rb⟩ := reads_of R 8 u y e ry he
      exact SeqAt.compareEq_shaped ra rb hs.1 hs.2 hA.u64 ⟨μ, .refl R, .bool _⟩
    · cases em
  · cases em
theorem Op2_ne : Op2 X φ n (compareOp .NotEq) fNe := fun A s μ ν H C x y v u H' r hA R rx ry em => by
  unfold fNe at em
  split at em
  · rename_i d e hd he
    split at em
    · rename_i hs
      cases em
      simp only [Bool.and_eq_true] at hs
      obtain ⟨as, ra⟩ := reads_of R 8 v x d rx hd
      obtain ⟨bs, rb⟩ := reads_of R 8 u y e ry he
      exact SeqAt.compareNe_shaped ra rb hs.1 hs.2 hA.u64 ⟨μ, .refl R, .bool _⟩
    · cases em
  · cases em
theorem eqv_ints : ∀ (xs ys : List Int), PyData.eqvAll (xs.map .int) (ys.map .int) = decide (xs = ys)
  | [], [] => by simp [PyData.eqvAll]
  | [], _ :: _ => by simp [PyData.eqvAll]
  | _ :: _, [] => by simp [PyData.eqvAll]
  | a :: r, b :: t => by
    simp only [List.map_cons, PyData.eqvAll, PyData.eqv, eqv_ints r t]
    by_cases h : a = b <;> by_cases h' : r = t <;> simp [h, h']
theorem fEq_ints {H : List L} {i j : Nat} {xs ys : List Int} (h1 : H[i]? = some (.ints xs)) (h2 : H[j]? = some (.ints ys)) : fEq (.ref i) (.ref j) H = some (.bool (decide (xs = ys)), H) := by
  unfold fEq datOf
  rw [h1, h2]
  simp only [ke_shaped_ints, Bool.and_self, if_true, PyData.eqv, eqv_ints]
theorem fNe_ints {H : List L} {i j : Nat} {xs ys : List Int} (h1 : H[i]? = some (.ints xs)) (h2 : H[j]? = some (.ints ys)) : fNe (.ref i) (.ref j) H = some (.bool (!decide (xs = ys)), H) := by
  unfold fNe datOf
  rw [h1, h2]
  simp only [ke_shaped_ints, Bool.and_self, if_true, PyData.eqv, eqv_ints]
end
end Mine
namespace Mine
section
variable {X : Cx} {n : Nat} {nm : Nm}
section
variable {prog : Program} {w : World} {A : Around} {E : Value → Shared → Prop} {s : Shared}
theorem collect_range {r : Addr} {a b c : Int} {t u v : Tok} {n : Nat} {Q : List Value → Shared → Prop} (hh : A.handled = none) (hr : IsRange s.heap r a b c t u v) (hsmall : Builtin.Range.small a b c = true)
    (hn : Builtin.Range.rangeSize a b c = n) (hlen : n ≤ 2 ^ 24)
    (hQ : ∀ h' tk (acc : Array Value), (∀ b o, s.heap.get? b = some o → h'.get? b = some o) → ItemsOf (fun i v => ∃ t, v = .int (a + i * c) t) acc n → Q acc.toList { s with heap := h', toks := tk }) :
    wpAny (model prog w) A (collect (.ref r)) Q E s := by
  unfold collect
  refine wpAny_bind (wpAny_runValue (codeAny_builtin F.entry_proto_collect ?_))
  rw [Around.under_plainId F.plain_proto_collect _]
  show wpAny _ A.in1 (newList [] >>= fun l => again (.builtin "list.__iadd__" ⟨[l, .ref r], []⟩)) _ _ s
  refine wpAny_bind (wpAny_newObj_type ?_)
  refine wpAny_pure ⟨plainId_quiet F.plain_list_iadd _, codeAny_builtin F.entry_list_iadd ?_⟩
  rw [Around.under_plainId F.plain_list_iadd _]
  have hS₁ : (s.heap.push { cls := .type "list", data := .seq ([] : List Value).toArray }).get? s.heap.objs.size = some { cls := .type "list", data := .seq ([] : List Value).toArray } := Heap.get?_push_size _ rfl
  show wpAny _ A.in1 (Builtin.List.listExtendWith (.ref s.heap.objs.size) (.ref r) (.ref s.heap.objs.size)) _ _ _
  refine wpAny_extend_range (R := fun r s' => match r with
    | .ok (.ret v) => wpAny (model prog w) A (match v with
      | .ref a => (do
        let o ← load a
        match o.data with
        | .seq xs _ => pure xs.toList
        | _ => unsupported "internal:collect")
      | _ => unsupported "internal:collect") Q E s'
    | .ok _ => False
    | .error e => E e s') (s := { s with heap := s.heap.push { cls := .type "list", data := .seq ([] : List Value).toArray } }) hh (Heap.get?_push_of_some _ hr) hsmall hn hlen s.heap.objs.size (.ref s.heap.objs.size) 0 hS₁ fun h' tk acc' c' hk hS' hacc => ?_
  show wpAny _ A (load s.heap.objs.size >>= _) _ _ _
  refine wpAny_bind (wpAny_load hS' ?_)
  exact wpAny_pure (hQ h' tk acc' (fun b o e => hk b o (Nat.ne_of_lt (Heap.lt_size e)) (Heap.get?_push_of_some _ e)) hacc)
theorem ks_tail {a kS : Addr} {vs : List Value} {kz : List Int} {keys : Array Value} {e e1 : Nat} {P : PySem.Fin → Shared → Prop} {st : SortSt} (hk0 : s.heap.get? kS = some (seqObj "list" keys e)) (ha0 : s.heap.get? a = some (seqObj "list" #[] e1)) (hka : kS ≠ a)
    (hk : IntsAre keys.toList kz) (hlen : kz.length = vs.length) (h64 : vs.length < 64) (hp : (arrOf st).Perm (keys.zip vs.toArray)) (hs : SortedTo (arrOf st) (arrOf st).size) (hfl : failedOf st = none)
    (h : ∀ h' out c k', (∀ b o, b ≠ kS → b ≠ a → s.heap.get? b = some o → h'.get? b = some o) → h'.get? a = some (seqObj "list" out c) → h'.get? kS = some (seqObj "list" #[] k') → KskOut false kz vs out.toList → P (.done (.ret .none)) { s with heap := h' }) :
    wpAny (model prog w) A (ksk_tail a false e1 (.ref kS) st) P E s := by
  have hsz : keys.size = vs.length := by
    have h1 := hk.length
    rw [Array.length_toList] at h1
    omega
  have hsz2 : (arrOf st).size = vs.length := by rw [hp.size_eq, Array.size_zip, hsz, List.size_toArray, Nat.min_self]
  have hout : ((arrOf st).map (·.2)).size = vs.length := by rw [Array.size_map]; exact hsz2
  have s1 := Heap.SameBut.update s.heap kS (Obj.mapSeq fun _ => (#[] : Array Value))
  have na1 : (s.heap.update kS (Obj.mapSeq fun _ => (#[] : Array Value))).get? a = some (seqObj "list" #[] e1) := (s1.2 a hka.symm).trans ha0
  have nk1 : ∃ k', (s.heap.update kS (Obj.mapSeq fun _ => (#[] : Array Value))).get? kS = some (seqObj "list" #[] k') := ⟨_, get?_update_seq hk0 fun _ => #[]⟩
  obtain ⟨k', nk1⟩ := nk1
  have s2 := Heap.SameBut.update (s.heap.update kS (Obj.mapSeq fun _ => (#[] : Array Value))) a (Obj.mapSeq fun _ => (arrOf st).map (·.2))
  obtain ⟨c2, hc2⟩ : ∃ c2, ((s.heap.update kS (Obj.mapSeq fun _ => (#[] : Array Value))).update a (Obj.mapSeq fun _ => (arrOf st).map (·.2))).get? a = some (seqObj "list" ((arrOf st).map (·.2)) c2) :=
    ⟨_, get?_update_seq na1 fun _ => (arrOf st).map (·.2)⟩
  unfold ksk_tail
  try dsimp only
  refine wpAny_bind (listUpdate_at hk0 rfl ?_ (by rw [hsz, sizeLine_eq]; omega) (Nat.zero_le _))
  refine wpAny_bind (wpAny_letGo ?_)
  refine wpAny_bind (seqEpoch_at na1 rfl ?_)
  refine wpAny_bind (listUpdate_at na1 rfl ?_ (Nat.zero_le _) (Nat.le_trans (Nat.le_of_eq hout) (by rw [sizeLine_eq]; omega)))
  rw [hfl]
  simp only [bne_self_eq_false, Bool.false_eq_true, if_false]
  refine wpAny_pure (h _ _ c2 k' (fun b o h1 h2 eb => s2.extBut b o h2 (s1.extBut b o h1 eb)) hc2 ((s2.2 kS hka).trans nk1) ?_)
  have := ksk_out (b := false) hk hp hs
  simpa using this
theorem ks_end {a kS : Addr} {vs : List Value} {kz : List Int} {keys : Array Value} {e e1 : Nat} {P : PySem.Fin → Shared → Prop} (hk0 : s.heap.get? kS = some (seqObj "list" keys e)) (ha0 : s.heap.get? a = some (seqObj "list" #[] e1)) (hka : kS ≠ a)
    (hk : IntsAre keys.toList kz) (hlen : kz.length = vs.length) (h64 : vs.length < 64)
    (h : ∀ h' out c k', (∀ b o, b ≠ kS → b ≠ a → s.heap.get? b = some o → h'.get? b = some o) → h'.get? a = some (seqObj "list" out c) → h'.get? kS = some (seqObj "list" #[] k') → KskOut false kz vs out.toList → P (.done (.ret .none)) { s with heap := h' }) :
    wpAny (model prog w) A (ksk_end a false vs.toArray e1 (.ref kS) keys) P E s := by
  have hsz : keys.size = vs.length := by
    have h1 := hk.length
    rw [Array.length_toList] at h1
    omega
  have hzs : (keys.zip vs.toArray).size = vs.length := by rw [Array.size_zip, hsz, List.size_toArray, Nat.min_self]
  unfold ksk_end
  simp only [Bool.false_eq_true, if_false]
  by_cases h2 : vs.toArray.size < 2
  · rw [if_pos h2, if_pos h2]
    refine wpAny_bind (wpAny_pure ?_)
    rw [StateT.run_pure]
    refine wpAny_bind (wpAny_pure ?_)
    try dsimp only
    refine ks_tail (st := SortSt.mk' general' (keys.zip vs.toArray) #[] 7 none) hk0 ha0 hka hk hlen h64 (Array.Perm.refl _) ?_ rfl h
    intro i j hij hj
    have hj2 : j < (keys.zip vs.toArray).size := hj
    rw [hzs] at hj2
    rw [List.size_toArray] at h2
    have : i = j := by omega
    subst this
    exact Int.le_refl _
  · rw [if_neg h2, if_neg h2]
    rw [List.size_toArray] at h2
    rw [ksk_kind hk (by rw [hsz]; omega)]
    refine wpAny_bind (wpAny_pure ?_)
    refine wpAny_bind (wpAny_mono (wpS_sortRuns (a₀ := keys.zip vs.toArray) (st := SortSt.mk' oneType' (keys.zip vs.toArray) #[] 7 none)
      (Q := fun _ st' => (arrOf st').Perm (keys.zip vs.toArray) ∧ failedOf st' = none ∧ SortedTo (arrOf st') (keys.zip vs.toArray).size)
      (ksk_intKeys hk) ⟨Array.Perm.refl _, rfl, rfl, rfl⟩ (by rw [hzs]; omega) (by rw [hzs]; exact h64) fun st' a1 a2 a3 => ⟨a1, a2, a3⟩) ?_ fun _ _ e => e)
    rintro ⟨⟨⟩, st'⟩ s' ⟨rfl, hp, hf, hs⟩
    try dsimp only
    exact ks_tail hk0 ha0 hka hk hlen h64 hp (by rw [hp.size_eq]; exact hs) hf h
end
noncomputable def keysBy (f : FCall) (C : List (Option V)) : List V → List L → Option (List Int × List L)
  | [], H => some ([], H)
  | v :: vs, H => (match f [v] none C H with
    | some (.int k, H1) => (match keysBy f C vs H1 with
      | some (ks, H2) => some (k :: ks, H2)
      | none => none)
    | _ => none)
noncomputable def sortedBy (ks : List Int) (vs : List V) : Option (List V) := if ks.Nodup then allSome ((ks.mergeSort (fun a b => decide (a ≤ b))).map fun k => (ks.zip vs).lookup k) else none
theorem keysBy_len {f : FCall} {C : List (Option V)} : ∀ {vs : List V} {H : List L} {ks : List Int} {H' : List L}, keysBy f C vs H = some (ks, H') → ks.length = vs.length
  | [], _, _, _, e => by cases e; rfl
  | v :: vs, H, ks, H', e => by
    unfold keysBy at e
    split at e
    · split at e
      · rename_i h2
        cases e
        simp [keysBy_len h2]
      · cases e
    · cases e
theorem sorted_perm_eq : ∀ {xs ys : List Int}, xs.Perm ys → xs.Pairwise (· ≤ ·) → ys.Pairwise (· ≤ ·) → xs = ys
  | [], ys, p, _, _ => by rw [List.nil_perm.mp p]
  | x :: xs, [], p, _, _ => absurd p.length_eq (by simp)
  | x :: xs, y :: ys, p, hx, hy => by
    rw [List.pairwise_cons] at hx hy
    have h1 : y ≤ x := by
      rcases List.mem_cons.mp (p.mem_iff.mp List.mem_cons_self) with e | m
      · omega
      · exact hy.1 x m
    have h2 : x ≤ y := by
      rcases List.mem_cons.mp (p.mem_iff.mpr List.mem_cons_self) with e | m
      · omega
      · exact hx.1 y m
    have e : x = y := by omega
    subst e
    rw [sorted_perm_eq (List.Perm.cons_inv p) hx.2 hy.2]
theorem mergeSort_sorted (ks : List Int) : (ks.mergeSort (fun a b => decide (a ≤ b))).Pairwise (· ≤ ·) := by
  have := List.pairwise_mergeSort (le := fun a b : Int => decide (a ≤ b)) (fun a b c h1 h2 => by simp at *; omega) (fun a b => by simp; omega) ks
  exact this.imp fun h => by simpa using h
theorem lookup_zip_nodup {α β : Type} [BEq α] [LawfulBEq α] : ∀ {ks : List α} {vs : List β} {j : Nat} {k : α} {v : β}, ks.Nodup → ks[j]? = some k → vs[j]? = some v → (ks.zip vs).lookup k = some v
  | [], _, _, _, _, _, e, _ => by cases e
  | _ :: _, [], _, _, _, _, _, e => by cases e
  | x :: ks, u :: vs, 0, k, v, _, e1, e2 => by
    cases e1; cases e2
    simp [List.zip_cons_cons, List.lookup_cons]
  | x :: ks, u :: vs, j + 1, k, v, nd, e1, e2 => by
    rw [List.getElem?_cons_succ] at e1 e2
    rw [List.nodup_cons] at nd
    have hne : (k == x) = false := beq_eq_false_iff_ne.mpr fun z => nd.1 (z ▸ List.mem_of_getElem? e1)
    rw [List.zip_cons_cons, List.lookup_cons, hne]
    exact lookup_zip_nodup nd.2 e1 e2
theorem vrs_sorted {h : Heap} {μ ν : List Addr} {its : List Value} {vs : List V} {ks : List Int} {out : List Value} {us : List V} (r : VRs X h μ ν its vs) (hlen : ks.length = its.length) (ho : KskOut false ks its out) (e : sortedBy ks vs = some us) : VRs X h μ ν out us := by
  unfold sortedBy at e
  split at e
  · rename_i nd
    obtain ⟨ps, hp, rfl, hs⟩ := ho
    simp only [Bool.false_eq_true, if_false] at hs
    have hk : ps.map Prod.fst = ks.mergeSort (fun a b => decide (a ≤ b)) := by
      refine sorted_perm_eq ?_ ?_ (mergeSort_sorted ks)
      · have h1 := hp.map Prod.fst
        rw [List.map_fst_zip (by omega)] at h1
        exact h1.trans (List.mergeSort_perm ks _).symm
      · rw [List.pairwise_map]; exact hs
    rw [← hk, List.map_map] at e
    have hall : ∀ p ∈ ps, ∃ v, (ks.zip vs).lookup p.1 = some v ∧ VR X h μ ν p.2 v := fun p hpm => by
      have hm := hp.mem_iff.mp hpm
      obtain ⟨j, hj⟩ := List.mem_iff_getElem?.mp hm
      rw [List.getElem?_zip_eq_some] at hj
      have hjv : j < vs.length := by rw [← r.length]; exact (List.getElem?_eq_some_iff.mp hj.2).1
      obtain ⟨x, hx, rx⟩ := r.get (List.getElem?_eq_getElem hjv)
      rw [hj.2] at hx; cases hx
      exact ⟨_, lookup_zip_nodup nd hj.1 (List.getElem?_eq_getElem hjv), rx⟩
    clear hs hk hp
    induction ps generalizing us with
    | nil => cases e; exact .nil
    | cons p ps ih =>
      rw [List.map_cons] at e
      obtain ⟨v, hv, rv⟩ := hall p List.mem_cons_self
      have hv' : ((fun k => (ks.zip vs).lookup k) ∘ Prod.fst) p = some v := hv
      rw [hv'] at e
      unfold allSome at e
      split at e
      · rename_i xs hx
        cases e
        exact .cons rv (ih hx fun q hq => hall q (List.mem_cons_of_mem _ hq))
      · cases e
  · cases e
end
end Mine
namespace Mine
section
variable {X : Cx} {n : Nat} {nm : Nm}
noncomputable def srcItems (v : V) (H : List L) : Option (List V) := match v with
  | .ref i => (match H[i]? with
    | some l => some l.vs
    | none => none)
  | .rng a b c => if Builtin.Range.small a b c then some ((List.range (Builtin.Range.rangeSize a b c).toNat).map fun (k : Nat) => .int (a + k * c)) else none
  | _ => none
/-- what a walk over a source brings together -/
theorem collect_src {A : Around} {s : Shared} {μ ν : List Addr} {H : List L} {C : List (Option V)} {x : Value} {src : V} {vs : List V} {Q : List Value → Shared → Prop} {E : Value → Shared → Prop} (hh : A.handled = none) (R : Rep X φ μ ν H C s) (rx : VR X s.heap μ ν x src) (e : srcItems src H = some vs) (hz : vs.length ≤ 1048576) (h0 : ∀ a b c, src = .rng a b c → 0 ≤ Builtin.Range.rangeSize a b c)
    (h : ∀ its s', Aft X φ μ ν s H C μ s' NoFree → VRs X s'.heap μ ν its vs → Q its s') : wpAny (model X.prog X.w) A (collect x) Q E s := by
  unfold srcItems at e
  split at e
  · split at e
    · rename_i l hl
      cases e
      refine rx.ref_e fun a ha => ?_
      obtain ⟨its, m, eo, hzz, rv⟩ := R.lists _ a l ha hl
      refine collect_list (vs := its) ⟨_, eo, rfl, m, rfl⟩ ?_ (by rw [sizeLine_val]; omega)
      have hk : ∀ b o, s.heap.get? b = some o → ((s.heap.push (seqObj "list" #[] 0)).update s.heap.objs.size (Obj.mapSeq (· ++ its.toArray))).get? b = some o := fun b o eb => by
        have hne : b ≠ s.heap.objs.size := Nat.ne_of_lt (Heap.lt_size eb)
        rw [Heap.get?_update_ne _ _ _ _ hne, Heap.get?_push_ne _ _ _ hne]; exact eb
      exact h its _ (.grow (tk := s.toks) R hk) (rv.mono (fun b o eb _ => hk b o eb) (List.take_prefix _ _) (List.nil_prefix))
    · cases e
  · rename_i a b c
    split at e
    · rename_i hs
      cases e
      refine rx.rng_e fun r t u v er => ?_
      have hn := h0 a b c rfl
      simp only [List.length_map, List.length_range] at hz
      refine collect_range (n := (Builtin.Range.rangeSize a b c).toNat) hh er hs (by omega) (by omega) fun h' tk acc hk hacc => ?_
      refine h _ _ (.grow (tk := tk) R hk) (VRs.of_get ?_ fun i y w e1 e2 => ?_)
      · simp only [Array.length_toList, List.length_map, List.length_range]
        exact hacc.1
      · have hi : i < (Builtin.Range.rangeSize a b c).toNat := by
          have := (List.getElem?_eq_some_iff.mp e2).1
          simpa using this
        rw [List.getElem?_map, List.getElem?_range hi] at e2
        cases e2
        obtain ⟨t', ht'⟩ := hacc.2 i y (by simpa using e1)
        subst ht'
        exact .int _ _
    · cases e
  · cases e
noncomputable def srcOk : V → Bool
  | .rng a b c => decide (0 ≤ Builtin.Range.rangeSize a b c)
  | _ => true
noncomputable def fSortK (f : FCall) (src : V) (C : List (Option V)) (H : List L) : Option (V × List L) := match srcItems src H with
  | some vs => if vs.length < 64 && srcOk src then (match keysBy f C vs H with
    | some (ks, H1) => (match sortedBy ks vs with
      | some us => if stills us && decide (us.length ≤ 1048576) then some (.ref H1.length, H1 ++ [mkL us]) else none
      | none => none)
    | none => none) else none
  | none => none
theorem sortK_tree {A : Around} {f : FCall} {fv : V} (cv : CallV X φ n fv f) {s0 s : Shared} {μ0 μ ν : List Addr} {H H1 : List L} {C : List (Option V)} {fx : Value} {its : List Value} {vs us : List V} {ks : List Int} {D : Addr} {dn : Nat} {P : PySem.Fin → Shared → Prop} {E : Value → Shared → Prop} (hA : Room φ n A)
    (a0 : Aft X φ μ0 ν s0 H C μ s NoFree) (rf : VR X s.heap μ ν fx fv) (rv : VRs X s.heap μ ν its vs) (hD : s.heap.get? D = some (seqObj "list" its.toArray dn)) (hDn : s0.heap.get? D = none) (hmD : ¬ Mut X μ ν D) (hbD : X.h₀.get? D = none) (h64 : its.length < 64) (ek : keysBy f C vs H = some (ks, H1)) (es : sortedBy ks vs = some us)
    (h : ∀ s' μ' out c, Aft X φ μ0 ν s0 H1 C μ' s' NoFree → s'.heap.get? D = some (seqObj "list" out c) → VRs X s'.heap μ' ν out.toList us → ¬ Mut X μ' ν D → P (.done (.ret .none)) s') :
    wpAny (model X.prog X.w) A (ksk_tree D fx false) P E s := by
  have R := a0.rep
  have hlenV := rv.length
  have hlenK := keysBy_len ek
  have s1 := Heap.SameBut.update s.heap D (Obj.mapSeq fun _ => (#[] : Array Value))
  obtain ⟨e1, hD1⟩ : ∃ e1, (s.heap.update D (Obj.mapSeq fun _ => (#[] : Array Value))).get? D = some (seqObj "list" #[] e1) := ⟨_, get?_update_seq hD fun _ => #[]⟩
  -- a private thing turns
  have priv : ∀ {H' : List L} {μ' : List Addr} {s' : Shared} {B : Addr} {o o2 : Obj} {h' : Heap}, Aft X φ μ0 ν s0 H' C μ' s' NoFree → s'.heap.get? B = some o → (∀ es ep, o.data ≠ .dict es ep) → ¬ Stable o → ¬ Mut X μ' ν B → X.h₀.get? B = none → s0.heap.get? B = none → Heap.ExtBut B s'.heap h' → h'.get? B = some o2 → Aft X φ μ0 ν s0 H' C μ' { s' with heap := h' } NoFree ∧ Stab s'.heap h' := by
    intro H' μ' s' B o o2 h' a ho hdd hst hm hb h0 k h2
    refine ⟨⟨a.pre, a.new, a.rep.upd (tk := s'.toks) k ho hst hm hb (.inl hdd), fun b o q e => (a.keeps b o q e).step fun o' e' => k b o' (fun z => by rw [z, h0] at e; cases e) e', fun b o e => ?_⟩, fun b o' e sb => k b o' (fun z => by subst z; rw [ho] at e; cases e; exact hst sb) e⟩
    obtain ⟨o', e'⟩ := a.alive b o e
    exact ⟨o', k b o' (fun z => by rw [z, h0] at e; cases e) e'⟩
  obtain ⟨a1, st1⟩ := priv a0 hD (fun _ _ z => by cases z) not_stable_list hmD hbD hDn s1.extBut hD1
  unfold ksk_tree
  refine wpAny_bind (listItems_at hD rfl ?_)
  refine wpAny_bind (listUpdate_at hD rfl ?_ (by rw [List.size_toArray, sizeLine_eq]; omega) (Nat.zero_le _))
  refine wpAny_bind (seqEpoch_at hD1 rfl ?_)
  refine wpAny_bind (wpAny_newTuple ?_ (by show its.length ≤ _; rw [sizeLine_eq]; omega))
  refine wpAny_bind (wpAny_newList ?_ (Nat.zero_le _))
  refine wpAny_holding ?_
  -- the state at the loop's head
  generalize hH2 : (s.heap.update D (Obj.mapSeq fun _ => (#[] : Array Value))).push (seqObj "tuple" its.toArray 0) = H2
  have hk2 : ∀ b o, (s.heap.update D (Obj.mapSeq fun _ => (#[] : Array Value))).get? b = some o → (H2.push (seqObj "list" #[] 0)).get? b = some o := fun b o e => Heap.get?_push_of_some _ (hH2 ▸ Heap.get?_push_of_some _ e)
  have a2 : Aft X φ μ0 ν s0 H C μ { s with heap := H2.push (seqObj "list" #[] 0) } NoFree := a1.trans (.grow (tk := s.toks) a1.rep hk2)
  have hD2 := hk2 _ _ hD1
  have hS2 : (H2.push (seqObj "list" #[] 0)).get? H2.objs.size = some (seqObj "list" #[] 0) := Heap.get?_push_size _ rfl
  have noneS1 : (s.heap.update D (Obj.mapSeq fun _ => (#[] : Array Value))).get? H2.objs.size = none := by
    cases q : (s.heap.update D (Obj.mapSeq fun _ => (#[] : Array Value))).get? H2.objs.size with
    | none => rfl
    | some o =>
      have := hH2 ▸ Heap.get?_push_of_some (seqObj "tuple" its.toArray 0) q
      exact absurd (Heap.lt_size this) (Nat.lt_irrefl _)
  have hmS : ¬ Mut X μ ν H2.objs.size := a1.rep.not_mut noneS1
  have hbS : X.h₀.get? H2.objs.size = none := a1.rep.base_none noneS1
  have h0S : s0.heap.get? H2.objs.size = none := by
    cases q : s0.heap.get? H2.objs.size with
    | none => rfl
    | some o =>
      obtain ⟨o', e'⟩ := a1.alive _ o q
      have e2 : (s.heap.update D (Obj.mapSeq fun _ => (#[] : Array Value))).get? H2.objs.size = some o' := e'
      rw [noneS1] at e2; cases e2
  have hSD : H2.objs.size ≠ D := fun z => by rw [z, hD1] at noneS1; cases noneS1
  have st2 : Stab s.heap (H2.push (seqObj "list" #[] 0)) := st1.trans fun b o e _ => hk2 b o e
  have rv2 := rv.mono st2 (List.prefix_refl μ) (List.prefix_refl ν)
  have rf2 := rf.mono st2 (List.prefix_refl μ) (List.prefix_refl ν)
  unfold ksk_rest
  refine wpAny_bind (wpAny_rule ?_)
  rw [List.forIn_toArray]
  refine wpAny_bind (ksk_fold (fun i s' => ∃ μ' H' kA e, Aft X φ μ0 ν s0 H' C μ' s' NoFree ∧ μ <+: μ' ∧ keysBy f C (vs.drop i) H' = some (ks.drop i, H1) ∧ s'.heap.get? H2.objs.size = some (seqObj "list" kA e) ∧ IntsAre kA.toList (ks.take i) ∧ s'.heap.get? D = some (seqObj "list" #[] e1) ∧
      ¬ Mut X μ' ν H2.objs.size ∧ ¬ Mut X μ' ν D ∧ VRs X s'.heap μ' ν its vs ∧ VR X s'.heap μ' ν fx fv) its 0 _
    ⟨μ, H, #[], 0, a2, List.prefix_refl _, by simpa using ek, hS2, by simpa using IntsAre.nil, hD2, hmS, hmD, rv2, rf2⟩ ?step ?done)
  case step =>
    rintro j x s' hx ⟨μ', H', kA, e, a3, hp3, ek3, hS3, hk3, hD3, hmS3, hmD3, rv3, rf3⟩
    simp only [Nat.zero_add] at ek3 hk3 ⊢
    have hj : j < its.length := (List.getElem?_eq_some_iff.mp hx).1
    have hjv : j < vs.length := by omega
    have hjk : j < ks.length := by omega
    rw [List.drop_eq_getElem_cons hjv, List.drop_eq_getElem_cons hjk] at ek3
    unfold keysBy at ek3
    split at ek3
    · rename_i k Hn ef
      split at ek3
      · rename_i ks' H2' ek4
        simp only [Option.some.injEq, Prod.mk.injEq, List.cons.injEq] at ek3
        obtain ⟨⟨hkk, hks⟩, hHH⟩ := ek3
        subst hks hHH
        obtain ⟨x', hx', rx'⟩ := rv3.get (List.getElem?_eq_getElem hjv)
        rw [hx] at hx'; cases hx'
        refine wpAny_bind (wpAny_attempt (cv.call (kws := []) (kv := none) hA a3.rep rf3 (.cons rx' .nil) rfl ef fun v' s4 μ4 a4 r4 => ?_))
        refine r4.int_e fun t => ?_
        have nS : ¬ (Chg X μ' H2.objs.size ∨ NoFree H2.objs.size) := fun q => q.elim (fun q => hmS3 q.mut) False.elim
        have nD : ¬ (Chg X μ' D ∨ NoFree D) := fun q => q.elim (fun q => hmD3 q.mut) False.elim
        have hS4 := (a4.keeps _ _ nS hS3).nd fun _ _ z => by cases z
        have hD4 := (a4.keeps _ _ nD hD3).nd fun _ _ z => by cases z
        have hmS4 := a4.mut hS3 hmS3
        have hmD4 := a4.mut hD3 hmD3
        have rv4 := rv3.aft a3.rep a4
        have rf4 := rf3.aft a3.rep a4
        have a34 := a3.trans a4
        have hz : kA.size ≤ its.length := by
          have h1 := hk3.length
          rw [Array.length_toList, List.length_take] at h1
          omega
        have s5 := Heap.SameBut.update s4.heap H2.objs.size (Obj.mapSeq (·.push (.int k t)))
        obtain ⟨c2, hc2⟩ : ∃ c2, (s4.heap.update H2.objs.size (Obj.mapSeq (·.push (.int k t)))).get? H2.objs.size = some (seqObj "list" (kA.push (.int k t)) c2) := ⟨_, get?_update_seq hS4 (·.push (.int k t))⟩
        obtain ⟨a5, st5⟩ := priv a34 hS4 (fun _ _ z => by cases z) not_stable_list hmS4 hbS h0S s5.extBut hc2
        refine wpAny_bind (listUpdate_at hS4 rfl ?_ (by rw [sizeLine_eq]; omega) (Nat.le_trans (Nat.le_of_eq (Array.size_push ..)) (by rw [sizeLine_eq]; omega)))
        have ek5 : ks.take (j + 1) = ks.take j ++ [k] := by rw [List.take_add_one, List.getElem?_eq_getElem hjk, hkk]; simp
        have ea : (kA.push (Value.int k t)).toList = kA.toList ++ [Value.int k t] := by simp
        exact wpAny_pure ⟨rfl, μ4, Hn, kA.push (.int k t), c2, a5, List.IsPrefix.trans hp3 a4.pre, ek4, hc2, by rw [ea, ek5]; exact ksk_snoc hk3, (s5.2 D hSD.symm).trans hD4, hmS4, hmD4, rv4.mono st5 (List.prefix_refl _) (List.prefix_refl _), rf4.mono st5 (List.prefix_refl _) (List.prefix_refl _)⟩
      · cases ek3
    · cases ek3
  case done =>
    rintro s' ⟨μ', H', kA, e, a3, hp3, ek3, hS3, hk3, hD3, hmS3, hmD3, rv3, rf3⟩
    have hfull : ks.take (0 + its.length) = ks := List.take_of_length_le (by omega)
    rw [hfull] at hk3
    have hdr : vs.drop (0 + its.length) = [] := List.drop_eq_nil_of_le (by omega)
    rw [hdr] at ek3
    have hH1 : H' = H1 := by
      unfold keysBy at ek3
      simp only [Option.some.injEq, Prod.mk.injEq] at ek3
      exact ek3.2
    subst hH1
    refine wpAny_bind (listItems_at hS3 rfl ?_)
    refine ks_end (kz := ks) hS3 hD3 hSD hk3 (by omega) h64 fun h' out c k' hk hDo hSo ho => ?_
    have keep2 : ∀ b o, s0.heap.get? b = some o → ∀ o', s'.heap.get? b = some o' → h'.get? b = some o' := fun b o e o' e' => hk b o' (fun z => by rw [z, h0S] at e; cases e) (fun z => by rw [z, hDn] at e; cases e) e'
    have st : Stab s'.heap h' := fun b o e sb => hk b o (fun z => by subst z; rw [hS3] at e; cases e; exact not_stable_list sb) (fun z => by subst z; rw [hD3] at e; cases e; exact not_stable_list sb) e
    have R' : Rep X φ μ' ν H' C { s' with heap := h' } := a3.rep.ext (tk := s'.toks) (fun L hL x => x.keeps fun o e => hk L o (fun z => by subst z; obtain ⟨_, _, d⟩ := x.not_stable hS3; cases d) (fun z => by subst z; obtain ⟨_, _, d⟩ := x.not_stable hD3; cases d) e) (fun b o q e => hk b o (fun z => by subst z; rcases q with q | q; rw [hbS] at q; cases q; exact hmS3 q) (fun z => by subst z; rcases q with q | q; rw [hbD] at q; cases q; exact hmD3 q) e) st
    refine h { s' with heap := h' } μ' out c ⟨a3.pre, a3.new, R', fun b o q e => (a3.keeps b o q e).step fun o' e' => keep2 b o e o' e', fun b o e => ?_⟩ hDo ?_ hmD3
    · obtain ⟨o', e'⟩ := a3.alive b o e
      exact ⟨o', keep2 b o e o' e'⟩
    · exact (vrs_sorted rv3 (by omega) ho es).mono st (List.prefix_refl _) (List.prefix_refl _)
end
end Mine
namespace Mine
section
variable {X : Cx} {n : Nat} {nm : Nm}
theorem call_sortK {A : Around} {f : FCall} {fv : V} (cv : CallV X φ n fv f) {s : Shared} {μ ν : List Addr} {H H' : List L} {C : List (Option V)} {x fx : Value} {src r : V} (hA : Room φ (n + 2) A) (R : Rep X φ μ ν H C s) (rx : VR X s.heap μ ν x src) (rf : VR X s.heap μ ν fx fv) (hq : ∃ q, fx = .ref q) (e : fSortK f src C H = some (r, H')) :
    wpAny (model X.prog X.w) A (call (.builtin "sorted") [x] [(("key" : Str), fx)]) (QX X φ μ ν s H' C r) (fun _ _ => False) s := by
  unfold fSortK at e
  split at e
  · rename_i vs hvs
    split at e
    · rename_i hc
      simp only [Bool.and_eq_true, decide_eq_true_eq] at hc
      split at e
      · rename_i ks H1 ek
        split at e
        · rename_i us es
          split at e
          · rename_i hc2
            cases e
            simp only [Bool.and_eq_true, decide_eq_true_eq] at hc2
            obtain ⟨q, rfl⟩ := hq
            refine call_function_entry_kw kind_sorted plain_sorted entry_sorted (ksk_s1 _ _) ?_
            unfold Builtin.«sorted»
            refine wpAny_bind (m := checkCount "sorted" 1 1 _) (wpAny_pure ?_)
            have hA1 : Room φ (n + 1) A.in1 := hA.in1
            refine wpAny_bind (collect_src hA1.handled R rx hvs (by omega) (fun a b c z => by subst z; simpa [srcOk] using hc.2) fun its s1 a1 rv1 => ?_)
            have hlen := rv1.length
            refine wpAny_bind (wpAny_newList ?_ (by rw [sizeLine_eq]; omega))
            have R1 := a1.rep
            have a2 : Aft X φ μ ν s H C μ { s1 with heap := s1.heap.push (seqObj "list" its.toArray 0) } NoFree := a1.trans (.push (tk := s1.toks) R1 _)
            have noneD : s1.heap.get? s1.heap.objs.size = none := none_at_size _
            have h0D : s.heap.get? s1.heap.objs.size = none := by
              cases q : s.heap.get? s1.heap.objs.size with
              | none => rfl
              | some o => obtain ⟨o', e'⟩ := a1.alive _ o q; rw [noneD] at e'; cases e'
            have hD : (s1.heap.push (seqObj "list" its.toArray 0)).get? s1.heap.objs.size = some (seqObj "list" its.toArray 0) := Heap.get?_push_size _ rfl
            have st : Stab s1.heap (s1.heap.push (seqObj "list" its.toArray 0)) := fun b o e _ => Heap.get?_push_of_some _ e
            refine wpAny_bind (wpAny_holding (wpAny_call_entry_kw slot_list_sort ⟨_, hD, rfl⟩ entry_list_sort ?body (ksk_l1 _ _)))
            case body =>
              show wpAny (model X.prog X.w) A.in1.in1 (Builtin.«list.sort» ⟨[.ref s1.heap.objs.size], [(Str.ofString "key", .ref q)]⟩) _ _ _
              rw [ksk_t1]
              have rf2 : VR X (s1.heap.push (seqObj "list" its.toArray 0)) μ ν (.ref q) fv := (rf.aft R a2)
              refine sortK_tree (n := n) cv hA1.in1 a2 rf2 (rv1.mono st (List.prefix_refl _) (List.prefix_refl _)) hD h0D (R1.not_mut noneD) (R1.base_none noneD) (by omega) ek es fun s' μ' out c a3 hD3 rv3 hm3 => ⟨_, rfl, ?_⟩
              refine wpAny_pure ⟨_, rfl, ?_⟩
              have P3 : PrivL X s'.heap μ' ν s1.heap.objs.size us := ⟨out.toList, c, by simpa using hD3, rv3⟩
              have R4 := a3.rep.adopt P3 hm3 (R1.base_none noneD) hc2.2 hc2.1 (mkL_vs us)
              refine ⟨μ' ++ [s1.heap.objs.size], ⟨List.IsPrefix.trans a3.pre (prefix_snoc _ _), fun a ha => ?_, R4, a3.keeps, a3.alive⟩, .ref (pre_take_self a3.rep.lenH _)⟩
              rcases List.mem_append.mp ha with ha | ha
              · exact a3.new a ha
              · simp at ha; subst ha; exact .inr h0D
          · cases e
        · cases e
      · cases e
    · cases e
  · cases e
noncomputable def mSortK (a fm : Xm) (disp : V → Option FCall) : Xm := fun σ => match a σ with
  | some (src, H1) => (match fm { σ with H := H1 } with
    | some (fv, H2) => (match disp fv with
      | some f => fSortK f src σ.C H2
      | none => none)
    | none => none)
  | none => none
theorem RX_sortK (O : XOk X) (N : NmOk nm) {x : Str} {np pos kp : Pos} {i : Nat} {e ke : PySem.Expr} {a km : Xm} {disp : V → Option FCall} (hi : nm.glb[i]? = some x) (hg : X.mg x = none) (hb : bootBuiltins x = some (.builtin "sorted")) (ra : RX X φ (n + 2) nm e a) (rk : RX X φ (n + 2) nm ke km) (hd : ∀ v f, disp v = some f → CallV X φ n v f)
    (he : ∀ env, starEach [e] env = (false, eval e env) :: starEach [] env := by intro _; rfl) :
    RX X φ (n + 2) nm (.Call (.Name x np) [e] [⟨some "key", ke, kp⟩] pos) (mSortK a km disp) := fun A env σ s μ ν v H' hA F R em => by
  unfold mSortK at em
  split at em
  · rename_i src H1 e1
    split at em
    · rename_i fv H2 e2
      split at em
      · rename_i f ef
        refine wpAny_Call_ofName (name_builtin O N hi hg hb F R ?_)
        have cv := hd fv f ef
        refine callWith_builtin_kwB (by rw [he env]; rfl) rfl ?_
        refine evalArgs_kw2 rfl ?_ (he env)
        have ras : RXs X φ (n + 2) nm [e] (aCons a aNil) := RXs_cons ra RXs_nil he
        have e1' : (aCons a aNil) σ = some ([src], H1) := by unfold aCons aNil; rw [e1]
        refine ras.use hA F R e1' fun xs s2 μ2 a2 F2 r2 => ?_
        show wpAny _ A (evalAll [do let v ← eval ke env; standAt pos; pure v]) _ _ s2
        refine wpAny_evalAll_cons (wpAny_bind (rk.use (σ := { σ with H := H1 }) hA F2 a2.rep e2 fun k' s3 μ3 a3 F3 r3 => wpAny_bind (wpAny_standAt (wpAny_pure (wpAny_evalAll_nil ?_)))))
        refine r2.e1 fun x q1 => ?_
        obtain ⟨qa, _, _, hqa, _, _⟩ := cv.obj s3 μ3 ν H2 σ.C k' a3.rep r3
        exact wpAny_mono (call_sortK cv hA a3.rep (q1.aft a2.rep a3) r3 ⟨qa, hqa⟩ em) (fun z s4 ⟨μ4, a4, r4⟩ => ⟨μ4, (a2.trans a3).trans a4, r4⟩) fun _ _ h => h
      · cases em
    · cases em
  · cases em
end
end Mine
namespace Mine
section
variable {X : Cx} {n : Nat} {nm : Nm}
theorem Rep.funFrames {φ : List Env} {μ ν : List Addr} {H : List L} {C : List (Option V)} {s : Shared} (R : Rep X φ μ ν H C s) (hk : ∀ e ∈ φ, e.scope.kind ≠ .module ∧ ∃ L, e.frame = some L) : s.heap.FunFrames X.h₀ φ := by
  have R' := R.frs
  clear R
  induction φ with
  | nil => trivial
  | cons env φ ih =>
    obtain ⟨hm, L0, hL⟩ := hk env List.mem_cons_self
    have hmem : L0 ∈ frsOf (env :: φ) := by unfold frsOf; rw [List.filterMap_cons, hL]; exact List.mem_cons_self
    obtain ⟨f1, f2, o, es, ep, e, d⟩ := R' L0 hmem
    refine ⟨hm, ⟨L0, o, hL, f1, e, fun vs z => by rw [d] at z; cases z⟩, ih (fun e he => hk e (List.mem_cons_of_mem _ he)) fun b hb => R' b ?_⟩
    unfold frsOf at hb ⊢
    rw [List.filterMap_cons, hL]
    exact List.mem_cons_of_mem _ hb
structure Flies (X : Cx) (φ : List Env) (μ ν : List Addr) (s0 : Shared) (H : List L) (C : List (Option V)) (μ' : List Addr) (s' : Shared) (free : Addr → Prop) (e : Addr) (msg : Str) (tb : Option Addr) : Prop where
  aft : Aft X φ μ ν s0 H C μ' s' free
  base : ∀ b o, X.h₀.get? b = some o → s0.heap.get? b = some o
  fresh : s0.heap.get? e = none
  exc : ∃ oe vs t, s'.heap.get? e = some oe ∧ oe.cls = .type "ValueError" ∧ oe.data = .fields vs ∧ vs[0]? = some (.ref t) ∧ VR X s'.heap μ' ν (.ref t) (.tup [.str msg]) ∧
    (match tb with
    | none => vs[1]? = some .none
    | some T => vs[1]? = some (.ref T) ∧ s0.heap.get? T = none ∧ T ≠ e ∧ ∃ oT ts, s'.heap.get? T = some oT ∧ oT.cls = .type "traceback" ∧ oT.data = .fields ts ∧ ts[3]? = some .none)
/-- one step of it: what an exception turns -/
structure ExStep (φ : List Env) (e : Addr) (tb : Option Addr) (h h' : Heap) : Prop where
  keep : ∀ b o, b ∉ frsOf φ → b ≠ e → (∀ T, tb = some T → b ≠ T) → h.get? b = some o → h'.get? b = some o
  slots : ∀ b ∈ frsOf φ, ∀ o, h.get? b = some o → ∃ sl, h'.get? b = some { o with slots := sl }
theorem not_mut_fields {φ : List Env} {μ ν : List Addr} {H : List L} {C : List (Option V)} {s : Shared} (R : Rep X φ μ ν H C s) {b : Addr} {o : Obj} {vs : Array Value} {T : String} (e : s.heap.get? b = some o) (hc : o.cls = .type T) (hd : o.data = .fields vs) (hT : ∀ ps, (tabObj ps).cls ≠ .type T) : ¬ Mut X μ ν b := fun q => by
  rcases q with q | q | q
  · obtain ⟨its, n, e'⟩ := R.list_at q
    rw [e] at e'; cases e'; cases hd
  · obtain ⟨v, hv⟩ := R.cell_at q
    have := IsCell_data hv e
    rw [hd] at this; cases this
  · obtain ⟨ps, e'⟩ := R.tab_at q
    rw [e] at e'; cases e'
    exact hT _ hc
theorem not_stable_exc {o : Obj} {vs : Array Value} {T : String} (hc : o.cls = .type T) (hd : o.data = .fields vs) (h1 : T ≠ "range") (h2 : T ≠ "code") : ¬ Stable o := not_stable_fields hd hc h1 h2
/-- an entry of the traceback is made -/
theorem entry_new {M : Model} {A : Around} {E : Value → Shared → Prop} {φ : List Env} {env : Env} {L0 e : Addr} {oe : Obj} {vs : Array Value} {head : Value} {hadNext : Bool} {base : Heap} {s : Shared} {Q : Unit → Shared → Prop}
    (hfr : A.frames = some (env :: φ)) (hl : s.heap.FunFrames base (env :: φ)) (hf : env.frame = some L0) (he : s.heap.get? e = some oe) (hd : oe.data = .fields vs) (hsz : 1 < vs.size)
    (h : ∀ h' T oT ts, (∀ b o, b ∉ frsOf (env :: φ) → b ≠ e → s.heap.get? b = some o → h'.get? b = some o) → (∀ b ∈ frsOf (env :: φ), ∀ o, s.heap.get? b = some o → ∃ sl, h'.get? b = some { o with slots := sl }) → s.heap.get? T = none → T ≠ e →
      h'.get? e = some (oe.mapFields (·.setIfInBounds 1 (.ref T))) → h'.get? T = some oT → oT.cls = .type "traceback" → oT.data = .fields ts → 3 < ts.size → Q () { s with heap := h' }) :
    wpAny M A (do let a ← frameOf env; let pl ← entryPlaceOf L0 hadNext; let b ← EntryCells.newEntry head a .none (rawInt L0) .none pl; setField (.ref e) 1 b) Q E s := by
  have hene : e ∉ frsOf (env :: φ) := fun hm => by
    obtain ⟨_, o, ho, hnf⟩ := hl.mem hm
    rw [he] at ho; injection ho with ho; subst ho; exact hnf vs hd
  refine wpAny_bind (wpAny_frameOf_fun hfr hl hf fun h₁ hs₁ => ?_)
  refine wpAny_bind (wpAny_entryPlaceOf fun pl hpl => ?_)
  unfold EntryCells.newEntry newFields
  refine wpAny_bind (wpAny_newObj_type ?_ (hpl.sizeOk5 _ _ _ _ _))
  have he₁ : h₁.get? e = some oe := (hs₁.2.1 e hene).trans he
  have he₂ := Heap.get?_push_of_some (h := h₁) { cls := .type "traceback", dict := none, data := .fields ([head, .ref L0, .none, rawInt L0, .none] ++ (if pl.isEmpty then List.replicate 6 Value.none else pl)).toArray } he₁
  have hTe : h₁.objs.size ≠ e := Nat.ne_of_gt (Heap.lt_size he₁)
  have hd₃ := Obj.data_mapFields hd (·.setIfInBounds 1 (Value.ref h₁.objs.size))
  have he₃ := Heap.get?_update_self (Obj.mapFields (·.setIfInBounds 1 (Value.ref h₁.objs.size))) he₂ (Obj.isFreed_of_fields hd₃)
  have hT₃ := (Heap.get?_update_other (h₁.push { cls := .type "traceback", dict := none, data := .fields ([head, .ref L0, .none, rawInt L0, .none] ++ (if pl.isEmpty then List.replicate 6 Value.none else pl)).toArray })
    (Obj.mapFields (·.setIfInBounds 1 (Value.ref h₁.objs.size))) (Ne.symm hTe)).trans (Heap.get?_push_size h₁ rfl)
  have keep : ∀ b o, b ≠ e → h₁.get? b = some o →
      ((h₁.push { cls := .type "traceback", dict := none, data := .fields ([head, .ref L0, .none, rawInt L0, .none] ++ (if pl.isEmpty then List.replicate 6 Value.none else pl)).toArray }).update e (Obj.mapFields (·.setIfInBounds 1 (Value.ref h₁.objs.size)))).get? b = some o :=
    fun b o hbe hb => by
      rw [Heap.get?_update_other _ _ (Ne.symm hbe)]
      exact Heap.get?_push_of_some _ hb
  refine wpAny_setField he₂ hd hsz (h _ h₁.objs.size _ _ (fun b o hb hbe eb => keep b o hbe ((hs₁.2.1 b hb).trans eb)) (fun b hb o eb => ?_) (Heap.get?_none_of_le (by rw [hs₁.1]; exact Nat.le_refl _)) hTe he₃ hT₃ rfl rfl ?_)
  · obtain ⟨sl, hs⟩ := hs₁.2.2 b o eb
    exact ⟨sl, keep b _ (fun z => hene (z ▸ hb)) hs⟩
  · first | (simp; done) | (rcases hpl with rfl | ⟨_, _, _, _, _, _, _, rfl⟩ <;> simp)
/-- a flight goes on, a step on -/
theorem Flies.step {φ : List Env} {μ ν μ' : List Addr} {s0 s' : Shared} {H : List L} {C : List (Option V)} {free : Addr → Prop} {e : Addr} {msg : Str} {tb : Option Addr} (Fl : Flies X φ μ ν s0 H C μ' s' free e msg tb) {h' : Heap} (st : ExStep φ e tb s'.heap h') :
    Aft X φ μ ν s0 H C μ' { s' with heap := h' } free ∧ Stab s'.heap h' := by
  obtain ⟨a, hbase, hfr, oe, vs, t, he, hc, hd, h0, ht, htb⟩ := Fl
  have R := a.rep
  have hTf : ∀ T, tb = some T → s0.heap.get? T = none ∧ ∃ oT ts, s'.heap.get? T = some oT ∧ oT.cls = .type "traceback" ∧ oT.data = .fields ts := fun T z => by
    subst z
    obtain ⟨_, f1, _, oT, ts, f2, f3, f4, _⟩ := htb
    exact ⟨f1, oT, ts, f2, f3, f4⟩
  have hst : Stab s'.heap h' := fun b o eb sb => st.keep b o (fun q => by
    obtain ⟨es, ep, d⟩ := (R.frs b q).2.2.not_stable eb
    exact sb.nd es ep d) (fun z => by subst z; rw [he] at eb; cases eb; exact not_stable_exc hc hd (by decide) (by decide) sb) (fun T z q => by
      subst q
      obtain ⟨_, oT, ts, f2, f3, f4⟩ := hTf b z
      rw [f2] at eb; cases eb
      exact not_stable_exc f3 f4 (by decide) (by decide) sb) eb
  have hme : ¬ Mut X μ' ν e := not_mut_fields R he hc hd (by intro ps z; cases z)
  have hmT : ∀ T, tb = some T → ¬ Mut X μ' ν T := fun T z => by
    obtain ⟨_, oT, ts, f2, f3, f4⟩ := hTf T z
    exact not_mut_fields R f2 f3 f4 (by intro ps z; cases z)
  refine ⟨⟨a.pre, a.new, R.ext (tk := s'.toks) (fun L hL x => ?_) (fun b o q eb => st.keep b o (fun z => ?_) (fun z => ?_) (fun T z y => ?_) eb) hst, fun b o q eb => (a.keeps b o q eb).trans fun o' e' => ?_, fun b o eb => ?_⟩, hst⟩
  · obtain ⟨o, es, ep, eo, d⟩ := x
    obtain ⟨sl, e'⟩ := st.slots L hL o eo
    exact ⟨_, es, ep, e', d⟩
  · rcases q with q | q
    · rw [(R.frs b z).1] at q; cases q
    · exact (R.frs b z).2.1 q
  · rcases q with q | q
    · have := hbase b o q
      rw [z, hfr] at this; cases this
    · exact hme (z ▸ q)
  · rcases q with q | q
    · have := hbase b o q
      rw [y, (hTf T z).1] at this; cases this
    · exact hmT T z (y ▸ q)
  · by_cases hb : b ∈ frsOf φ
    · obtain ⟨es, ep, d⟩ := (R.frs b hb).2.2.not_stable e'
      exact .inr ⟨⟨es, ep, d⟩, st.slots b hb o' e'⟩
    · exact .inl (st.keep b o' hb (fun z => by rw [z, hfr] at eb; cases eb) (fun T z y => by rw [y, (hTf T z).1] at eb; cases eb) e')
  · obtain ⟨o', e'⟩ := a.alive b o eb
    by_cases hb : b ∈ frsOf φ
    · obtain ⟨sl, e2⟩ := st.slots b hb o' e'
      exact ⟨_, e2⟩
    · exact ⟨o', st.keep b o' hb (fun z => by rw [z, hfr] at eb; cases eb) (fun T z y => by rw [y, (hTf T z).1] at eb; cases eb) e'⟩
/-- a frame is noted, and let go of -/
theorem Flies.noted {φ : List Env} {A : Around} {env : Env} {L0 : Addr} {μ ν μ' : List Addr} {s0 s' : Shared} {H : List L} {C : List (Option V)} {free : Addr → Prop} {e : Addr} {msg : Str} {tb : Option Addr} {Q : Unit → Shared → Prop} {E : Value → Shared → Prop}
    (Fl : Flies X (env :: φ) μ ν s0 H C μ' s' free e msg tb) (hfr : A.frames = some (env :: φ)) (hk : ∀ e ∈ env :: φ, e.scope.kind ≠ .module ∧ ∃ L, e.frame = some L) (hf : env.frame = some L0)
    (h : ∀ s'' T, Flies X (env :: φ) μ ν s0 H C μ' s'' free e msg (some T) → Stab s'.heap s''.heap → (∀ m, s'.heap.Ns L0 m → s''.heap.Ns L0 m) → Q () s'') :
    wpAny (model X.prog X.w) A (noteFrame (.ref e) env) (fun _ s1 => wpAny (model X.prog X.w) A (setFlight (.ref e) none) Q E s1) E s' := by
  have hl := Fl.aft.rep.funFrames hk
  have Fl0 := Fl
  obtain ⟨a, hbase, hfresh, oe, vs, t, he, hc, hd, h0, ht, htb⟩ := Fl
  have hsz0 : 0 < vs.size := (Array.getElem?_eq_some_iff.mp h0).1
  have hLm : L0 ∈ frsOf (env :: φ) := by unfold frsOf; rw [List.filterMap_cons, hf]; exact List.mem_cons_self
  -- the entry, from a heap h1 that differs from s' in the old traceback alone
  have fin : ∀ (h1 : Heap) (head : Value) (hadNext : Bool), 1 < vs.size → (∀ b o, (∀ T, tb = some T → b ≠ T) → s'.heap.get? b = some o → h1.get? b = some o) → h1.FunFrames X.h₀ (env :: φ) →
      wpAny (model X.prog X.w) A (do let a ← frameOf env; let pl ← entryPlaceOf L0 hadNext; let b ← EntryCells.newEntry head a .none (rawInt L0) .none pl; setField (.ref e) 1 b) (fun _ s1 => wpAny (model X.prog X.w) A (setFlight (.ref e) none) Q E s1) E { s' with heap := h1 } := by
    intro h1 head hadNext hsz hk1 hl1
    have heT : ∀ T, tb = some T → e ≠ T := fun T z => by
      subst z
      exact fun q => htb.2.2.1 q.symm
    have he1 : h1.get? e = some oe := hk1 e oe heT he
    refine entry_new (s := { s' with heap := h1 }) hfr hl1 hf he1 hd hsz fun h2 T oT ts k1 k2 hT0 hTe he2 hT2 hTc hTd hTs => ?_
    have hd2 := Obj.data_mapFields hd (·.setIfInBounds 1 (Value.ref T))
    unfold setFlight
    refine wpAny_bind (wpAny_field he2 hd2 (x := .ref T) (by simp [hsz]) ?_)
    rw [if_pos (show (Value.ref T != Value.none) = true from by simp)]
    refine wpAny_setField hT2 hTd hTs ?_
    have s3 := Heap.SameBut.update h2 T (Obj.mapFields (·.setIfInBounds 3 ((none : Option Addr).elim Value.none fun f => rawInt f)))
    have hd3 := Obj.data_mapFields hTd (·.setIfInBounds 3 ((none : Option Addr).elim Value.none fun f => rawInt f))
    have hT3 := Heap.get?_update_self (Obj.mapFields (·.setIfInBounds 3 ((none : Option Addr).elim Value.none fun f => rawInt f))) hT2 (Obj.isFreed_of_fields hd3)
    have heT3 := (s3.2 e (Ne.symm hTe)).trans he2
    generalize h2.update T (Obj.mapFields (·.setIfInBounds 3 ((none : Option Addr).elim Value.none fun f => rawInt f))) = h3 at s3 hT3 heT3 ⊢
    have hTn : ∀ b o, s'.heap.get? b = some o → (∀ T', tb = some T' → b ≠ T') → b ≠ T := fun b o eb hb z => by
      have := hk1 b o hb eb
      rw [z, hT0] at this; cases this
    have frT : ∀ b ∈ frsOf (env :: φ), ∀ T', tb = some T' → b ≠ T' := fun b hb T' z q => by
      subst z
      obtain ⟨_, _, _, oT', ts', f2, f3, f4, _⟩ := htb
      obtain ⟨es, ep, d⟩ := (a.rep.frs b hb).2.2.not_stable (q ▸ f2)
      rw [f4] at d; cases d
    have step : ExStep (env :: φ) e tb s'.heap h3 := ⟨fun b o hb hbe hbT eb => (s3.2 b (hTn b o eb hbT)).trans (k1 b o hb hbe (hk1 b o hbT eb)), fun b hb o eb => by
      obtain ⟨sl, e2⟩ := k2 b hb o (hk1 b o (frT b hb) eb)
      exact ⟨sl, (s3.2 b (hTn b o eb (frT b hb))).trans e2⟩⟩
    obtain ⟨a3, st3⟩ := Fl0.step step
    have hT0' : s0.heap.get? T = none := by
      cases q : s0.heap.get? T with
      | none => rfl
      | some o =>
        obtain ⟨o', e'⟩ := a.alive T o q
        have : ∀ T', tb = some T' → T ≠ T' := fun T' z y => by
          subst z
          rw [y, htb.2.1] at q; cases q
        have := hk1 T o' this e'
        rw [hT0] at this; cases this
    refine h { s' with heap := h3 } T ⟨a3, hbase, hfresh, _, _, t, heT3, ?_, hd2, ?_, ht.mono st3 (List.prefix_refl _) (List.prefix_refl _), ?_, hT0', hTe, _, _, hT3, ?_, hd3, ?_⟩ st3 fun m hn => ?_
    · rw [Obj.cls_mapFields]; exact hc
    · rw [Array.getElem?_setIfInBounds_ne (by decide)]; exact h0
    · simp [hsz]
    · rw [Obj.cls_mapFields]; exact hTc
    · simp [hTs]
    · obtain ⟨o, es, ep, eo, d, r⟩ := hn
      obtain ⟨sl, e2⟩ := step.slots L0 hLm o eo
      exact ⟨_, es, ep, e2, d, r⟩
  unfold noteFrame
  simp only [hf]
  cases tb with
  | none =>
    have h1 : vs[1]? = some .none := htb
    refine wpAny_bind (wpAny_field he hd h1 ?_)
    rw [if_neg (by decide)]
    exact fin s'.heap _ _ (Array.getElem?_eq_some_iff.mp h1).1 (fun _ _ _ e => e) hl
  | some T =>
    obtain ⟨h1, f1, f2, oT, ts, f3, f4, f5, f6⟩ := htb
    refine wpAny_bind (wpAny_field he hd h1 ?_)
    rw [if_pos (show (Value.ref T != Value.none) = true from by simp)]
    refine wpAny_bind (wpAny_field f3 f5 f6 ?_)
    rw [if_neg (show ¬ ((Value.none == rawInt L0) = true) from by simp [rawInt])]
    refine wpAny_bind (wpAny_setField f3 f5 (Array.getElem?_eq_some_iff.mp f6).1 ?_)
    have other : ∀ b, b ≠ T → (s'.heap.update T (Obj.mapFields (·.setIfInBounds 3 Value.none))).get? b = s'.heap.get? b := fun b hb => Heap.get?_update_other _ _ (Ne.symm hb)
    have noRecord : ∀ b o, s'.heap.get? b = some o → (∀ vs, o.data ≠ .fields vs) → b ≠ T := fun b o hb hnf q => by
      rw [q, f3] at hb; injection hb with hb; subst hb; exact hnf ts f5
    exact fin _ _ _ (Array.getElem?_eq_some_iff.mp h1).1 (fun b o hb eb => (other b (hb T rfl)).trans eb) (hl.of_keeps fun b o hb hnf => ⟨o, (other b (noRecord b o hb hnf)).trans hb, rfl⟩)
theorem Flies.leave {φ : List Env} {A : Around} {env : Env} {L0 : Addr} {μ ν μ' : List Addr} {s0 s' : Shared} {H : List L} {C : List (Option V)} {free : Addr → Prop} {e : Addr} {msg : Str} {tb : Option Addr} {Q : Unit → Shared → Prop} {E : Value → Shared → Prop}
    (Fl : Flies X (env :: φ) μ ν s0 H C μ' s' free e msg tb) (hfr : A.frames = some (env :: φ)) (hk : ∀ e ∈ env :: φ, e.scope.kind ≠ .module ∧ ∃ L, e.frame = some L) (hf : env.frame = some L0)
    (h : ∀ s'' T, Flies X (env :: φ) μ ν s0 H C μ' s'' free e msg (some T) → Q () s'') : wpAny (model X.prog X.w) A (leaving env (.ref e)) Q E s' := by
  unfold leaving
  exact wpAny_bind (Fl.noted hfr hk hf fun s'' T F _ _ => h s'' T F)
end
end Mine
namespace Mine
section
variable {X : Cx} {n : Nat} {nm : Nm}
noncomputable abbrev Em := S → Option (Str × List L)
noncomputable def RaisedBy (X : Cx) (φ : List Env) (μ ν : List Addr) (s : Shared) (H' : List L) (C : List (Option V)) (free : Addr → Prop) (msg : Str) : Value → Shared → Prop := fun e s' => ∃ ea μ' tb, e = .ref ea ∧ Flies X φ μ ν s H' C μ' s' free ea msg tb
noncomputable def RXE (X : Cx) (φ : List Env) (n : Nat) (nm : Nm) (e : PySem.Expr) (m : Em) : Prop :=
  ∀ (A : Around) (env : Env) (σ : S) (s : Shared) (μ ν : List Addr) (msg : Str) (H' : List L), Room φ n A → FrOk X φ nm env σ.loc σ.cel μ ν s.heap → Rep X φ μ ν σ.H σ.C s → m σ = some (msg, H') →
    wpAny (model X.prog X.w) A (eval e env) (fun _ _ => False) (RaisedBy X φ μ ν s H' σ.C NoFree msg) s
noncomputable def RSE (X : Cx) (φ : List Env) (n : Nat) (nm : Nm) (st : Stmt) (m : Em) : Prop :=
  ∀ (A : Around) (env : Env) (σ : S) (s : Shared) (μ ν : List Addr) (msg : Str) (H' : List L), Room φ n A → FrOk X φ nm env σ.loc σ.cel μ ν s.heap → Rep X φ μ ν σ.H σ.C s → m σ = some (msg, H') →
    wpAny (model X.prog X.w) A (exec st env) (fun _ _ => False) (RaisedBy X φ μ ν s H' σ.C NoFree msg) s
noncomputable def RSsE (X : Cx) (φ : List Env) (n : Nat) (nm : Nm) (st : List Stmt) (m : Em) : Prop :=
  ∀ (A : Around) (env : Env) (σ : S) (s : Shared) (μ ν : List Addr) (msg : Str) (H' : List L), Room φ n A → FrOk X φ nm env σ.loc σ.cel μ ν s.heap → Rep X φ μ ν σ.H σ.C s → m σ = some (msg, H') →
    wpAny (model X.prog X.w) A (execs st env) (fun _ _ => False) (RaisedBy X φ μ ν s H' σ.C NoFree msg) s
noncomputable abbrev FCallE := List V → Option V → List (Option V) → List L → Option (Str × List L)
noncomputable def RetE (X : Cx) (φ : List Env) (μ ν : List Addr) (s : Shared) (H' : List L) (C : List (Option V)) (msg : Str) : Result → Shared → Prop := fun r s' => ∃ ea μ' T, r = .error (.ref ea) ∧ Flies X φ μ ν s H' C μ' s' NoFree ea msg (some T)
noncomputable def CallE (X : Cx) (φ : List Env) (n : Nat) (a : Addr) (f : FCallE) : Prop :=
  ∀ (A : Around) (s : Shared) (μ ν : List Addr) (H : List L) (C : List (Option V)) (xs : List Value) (kws : List (Str × Value)) (vs : List V) (kv : Option V) (msg : Str) (H' : List L), Room φ n A → Rep X φ μ ν H C s → VRs X s.heap μ ν xs vs → KwR X s.heap μ ν kws kv → f vs kv C H = some (msg, H') →
    codeAny (model X.prog X.w) A (.call (.ref a) ⟨xs, kws⟩) (RetE X φ μ ν s H' C msg) s
theorem Flies.after {φ : List Env} {μ ν μ1 μ' : List Addr} {s s1 s' : Shared} {H0 H1 H : List L} {C0 C C1 : List (Option V)} {free : Addr → Prop} {e : Addr} {msg : Str} {tb : Option Addr} (R : Rep X φ μ ν H0 C0 s) (a : Aft X φ μ ν s H1 C1 μ1 s1 free) (Fl : Flies X φ μ1 ν s1 H C μ' s' free e msg tb) : Flies X φ μ ν s H C μ' s' free e msg tb := by
  obtain ⟨a2, hb, hf, oe, vs, t, he, hc, hd, h0, ht, htb⟩ := Fl
  have low : ∀ b, s1.heap.get? b = none → s.heap.get? b = none := fun b hb => by
    cases q : s.heap.get? b with
    | none => rfl
    | some o => obtain ⟨o', e'⟩ := a.alive b o q; rw [hb] at e'; cases e'
  refine ⟨a.trans a2, R.keep, low _ hf, oe, vs, t, he, hc, hd, h0, ht, ?_⟩
  cases tb with
  | none => exact htb
  | some T => exact ⟨htb.1, low _ htb.2.1, htb.2.2⟩
theorem RaisedBy.after {φ : List Env} {μ ν μ1 : List Addr} {s s1 : Shared} {H0 H1 H : List L} {C0 C C1 : List (Option V)} {free : Addr → Prop} {msg : Str} (R : Rep X φ μ ν H0 C0 s) (a : Aft X φ μ ν s H1 C1 μ1 s1 free) {e : Value} {s' : Shared} (Fl : RaisedBy X φ μ1 ν s1 H C free msg e s') : RaisedBy X φ μ ν s H C free msg e s' :=
  let ⟨ea, μ', tb, h1, h2⟩ := Fl; ⟨ea, μ', tb, h1, h2.after R a⟩
noncomputable def eIf (t : Bm) (a b : Em) : Em := fun σ => match t σ with
  | some (true, H) => a { σ with H := H }
  | some (false, H) => b { σ with H := H }
  | none => none
noncomputable def eNo : Em := fun _ => none
theorem RSsE_nil : RSsE X φ n nm [] eNo := fun A env σ s μ ν msg H' hA F R em => by cases em
theorem RSsE_head {st : Stmt} {rest : List Stmt} {m : Em} (r : RSE X φ n nm st m) : RSsE X φ n nm (st :: rest) m := fun A env σ s μ ν msg H' hA F R em => by
  refine wpAny_execs_cons ?_
  exact wpAny_mono (r A env σ s μ ν msg H' hA F R em) (fun _ _ h => h.elim) fun _ _ h => h
theorem RSE_if {t : PySem.Expr} {body orelse : List Stmt} {pos : Pos} {m : Bm} {a b : Em} (rt : RB X φ n nm t m) (ra : RSsE X φ n nm body a) (rb : RSsE X φ n nm orelse b) : RSE X φ n nm (.If t body orelse pos) (eIf m a b) := fun A env σ s μ ν msg H' hA F R em => by
  unfold eIf at em
  split at em
  · rename_i H1 e1
    refine wpAny_If (rt.use hA F R e1 fun s1 μ1 a1 F1 => ?_)
    simp only [if_true]
    exact wpAny_mono (ra A env { σ with H := H1 } s1 μ1 ν msg H' hA F1 a1.rep em) (fun _ _ h => h) fun _ _ h => h.after R a1
  · rename_i H1 e1
    refine wpAny_If (rt.use hA F R e1 fun s1 μ1 a1 F1 => ?_)
    simp only [Bool.false_eq_true, if_false]
    exact wpAny_mono (rb A env { σ with H := H1 } s1 μ1 ν msg H' hA F1 a1.rep em) (fun _ _ h => h) fun _ _ h => h.after R a1
  · cases em
noncomputable def eRaise (msg : Str) : Em := fun σ => some (msg, σ.H)
theorem RSE_raise (O : XOk X) (N : NmOk nm) {x : Str} {i : Nat} {np cpos cp pos : Pos} {k : Nat} {msg : Str} (hx : x = "ValueError") (hi : nm.glb[i]? = some x) (hg : X.mg x = none) : RSE X φ n nm (.Raise (some (.Call (.Name x np) [.Constant (.str msg) k cp] [] cpos)) none pos) (eRaise msg) := fun A env σ s μ ν msg' H' hA F R em => by
  cases em
  subst hx
  refine wpAny_Raise_call PySem.F.excCall_ValueError PySem.F.excRaise_ValueError hA.handled rfl (name_builtin (b := .type "ValueError") O N hi hg PyProof.Rows.Boot.«ValueError» F R ⟨rfl, ?_⟩)
  refine Calls.evalArgs_plain ((RXs_cons RX_str RXs_nil).use hA F R rfl fun xs s1 μ1 a1 F1 r1 => ?_)
  refine r1.e1 fun x q1 => ?_
  refine ⟨rfl, by rw [sizeLine_val]; show 1 ≤ 16777216; omega, fun h' e hm => ?_⟩
  obtain ⟨t, ht, htn, htt⟩ := hm.there
  have a2 : Aft X φ μ1 ν s1 σ.H σ.C μ1 { s1 with heap := h' } NoFree := .grow (tk := s1.toks) a1.rep hm.keeps
  have st : Stab s1.heap h' := fun b o eb _ => hm.keeps b o eb
  have F3 : Flies X φ μ1 ν s1 σ.H σ.C μ1 { s1 with heap := h' } NoFree e msg none := ⟨a2, a1.rep.keep, hm.new, _, _, t, ht, rfl, rfl, rfl, .tup htt (.cons (q1.mono st (List.prefix_refl _) (List.prefix_refl _)) .nil), rfl⟩
  exact ⟨e, μ1, none, rfl, F3.after R a1⟩
theorem RSE_expr {e : PySem.Expr} {pos : Pos} {m : Em} (N : NmOk nm) (r : RXE X φ n nm e m) (hs : ∀ env, swapsWith e none pos.line env = pure false := by intro _; rfl) : RSE X φ n nm (.Expr e pos) m := fun A env σ s μ ν msg H' hA F R em => by
  refine wpAny_Expr_any (wpAny_mono (r A env σ s μ ν msg H' hA F R em) (fun _ _ h => h.elim) fun _ _ h => h) ?_ (hs env)
  unfold interactive
  rw [F.scope, N.kind]
  rfl
theorem RSE_assign {x : Str} {p pos : Pos} {e : PySem.Expr} {m : Em} (r : RXE X φ n nm e m) (hs : ∀ env, swapsWith e (some (.Name x p)) pos.line env = pure false := by intro _; rfl) :
    RSE X φ n nm (.Assign [.Name x p] e pos) m := fun A env σ s μ ν msg H' hA F R em =>
  wpAny_Assign_Name (wpAny_mono (r A env σ s μ ν msg H' hA F R em) (fun _ _ h => h.elim) fun _ _ h => h) (hs env)
/-- a function's value whose call raises -/
structure CallVE (X : Cx) (φ : List Env) (n : Nat) (v : V) (f : FCallE) : Prop where
  code : ∀ (A : Around) (s : Shared) (μ ν : List Addr) (H : List L) (C : List (Option V)) (x : Value) (xs : List Value) (kws : List (Str × Value)) (vs : List V) (kv : Option V) (msg : Str) (H' : List L), Room φ n A → Rep X φ μ ν H C s → VR X s.heap μ ν x v → VRs X s.heap μ ν xs vs → KwR X s.heap μ ν kws kv → f vs kv C H = some (msg, H') →
    codeAny (model X.prog X.w) A (.call x ⟨xs, kws⟩) (RetE X φ μ ν s H' C msg) s
  obj : ∀ (s : Shared) (μ ν : List Addr) (H : List L) (C : List (Option V)) (x : Value), Rep X φ μ ν H C s → VR X s.heap μ ν x v → ∃ a o fd, x = .ref a ∧ s.heap.get? a = some o ∧ o.data = .func fd
theorem CallVE.of_fn {k : Nat} {a : Addr} {d : Df} {f : FCallE} (hk : X.fn k = some a) (T : FnAt X a d) (c : CallE X φ n a f) : CallVE X φ n (.fn k) f where
  code := fun A s μ ν H C x xs kws vs kv r H' hA R rx rxs rk e => by
    refine rx.fn_e fun b hb => ?_
    rw [hk] at hb; cases hb
    exact c A s μ ν H C xs kws vs kv r H' hA R rxs rk e
  obj := fun s μ ν H C x R rx => by
    refine rx.fn_e fun b hb => ?_
    rw [hk] at hb; cases hb
    obtain ⟨o, fd, ho, hd, _⟩ := T.obj
    exact ⟨_, o, fd, rfl, R.keep _ _ ho, hd⟩
theorem CallVE.call {v : V} {f : FCallE} (c : CallVE X φ n v f) {A : Around} {s : Shared} {μ ν : List Addr} {H : List L} {C : List (Option V)} {x : Value} {xs : List Value} {kws : List (Str × Value)} {vs : List V} {kv : Option V} {msg : Str} {H' : List L} {Q : Value → Shared → Prop}
    (hA : Room φ n A) (R : Rep X φ μ ν H C s) (rx : VR X s.heap μ ν x v) (rxs : VRs X s.heap μ ν xs vs) (rk : KwR X s.heap μ ν kws kv) (e : f vs kv C H = some (msg, H')) :
    wpAny (model X.prog X.w) A (PySem.call x xs kws) Q (RaisedBy X φ μ ν s H' C NoFree msg) s :=
  wpAny_call (codeAny_mono (c.code A s μ ν H C x xs kws vs kv msg H' hA R rx rxs rk e) fun r' s' ⟨ea, μ', T, hr, q⟩ => by subst hr; exact ⟨ea, μ', some T, rfl, q⟩)
noncomputable def eCall (fm : Xm) (disp : V → Option FCallE) (args : Xms) : Em := fun σ => match fm σ with
  | some (fv, H0) => (match disp fv with
    | some f => (match args { σ with H := H0 } with
      | some (vs, H1) => f vs none σ.C H1
      | none => none)
    | none => none)
  | none => none
noncomputable def eCallK (fm : Xm) (disp : V → Option FCallE) (args : Xms) (km : Xm) : Em := fun σ => match fm σ with
  | some (fv, H0) => (match disp fv with
    | some f => (match args { σ with H := H0 } with
      | some (vs, H1) => (match km { σ with H := H1 } with
        | some (kv, H2) => f vs (some kv) σ.C H2
        | none => none)
      | none => none)
    | none => none)
  | none => none
theorem RXE_call {x : Str} {np pos : Pos} {e : PySem.Expr} {rest : List PySem.Expr} {fm : Xm} {disp : V → Option FCallE} {args : Xms} (rf : RX X φ n nm (.Name x np) fm) (hd : ∀ v f, disp v = some f → CallVE X φ n v f) (ra : RXs X φ n nm (e :: rest) args)
    (he : ∀ env, starEach (e :: rest) env = (false, eval e env) :: starEach rest env := by intro _; rfl) (hplain : ∀ env, (backTo pos (starEach rest env)).any (·.1) = false := by intro _; rfl) :
    RXE X φ n nm (.Call (.Name x np) (e :: rest) [] pos) (eCall fm disp args) := fun A env σ s μ ν msg H' hA F R em => by
  unfold eCall at em
  split at em
  · rename_i fv H0 e0
    split at em
    · rename_i f ef
      split at em
      · rename_i vs H1 e1
        refine wpAny_Call_ofName (rf.use hA F R e0 fun x' s1 μ1 a1 F1 r1 => ?_)
        have cv := hd fv f ef
        obtain ⟨a, o, fd, rfl, ho, hdd⟩ := cv.obj s1 μ1 ν H0 σ.C x' a1.rep r1
        show wpAny _ A (callWith pos (.ref a) [] (backTo pos (starEach (e :: rest) env)) []) _ _ s1
        refine callWith_of (P := fun h => ∃ o fd, h.get? a = some o ∧ o.data = .func fd) (by rw [he env]; show ((false || (backTo pos (starEach rest env)).any (·.1)) || false) = false; rw [hplain env]; rfl)
          (fun h ⟨o, fd, e1, e2⟩ => ⟨.frame, .inl rfl, looks_keeper e1 e2⟩) ?_
        have harg := ra.use (σ := { σ with H := H0 }) (pos := pos) hA F1 a1.rep e1 (Q := fun vs' s' => (∃ o fd, s'.heap.get? a = some o ∧ o.data = .func fd) ∧ wpAny (model X.prog X.w) A (PySem.call (.ref a) ([] ++ vs') []) (fun _ _ => False) (RaisedBy X φ μ ν s H' σ.C NoFree msg) s') (E := RaisedBy X φ μ ν s H' σ.C NoFree msg)
          fun xs s2 μ2 a2 F2 r2 => ⟨?_, wpAny_mono (cv.call (kv := none) (Q := fun _ _ => False) hA a2.rep (r1.aft a1.rep a2) r2 rfl em) (fun _ _ h => h) fun _ _ h => h.after R (a1.trans a2)⟩
        · rw [he env] at harg ⊢
          exact Calls.evalArgs_plain harg
        · exact ⟨o, fd, (a2.keeps a o (fun q => q.elim (fun q => a1.rep.not_stable q.mut ho (.inr (.inr ⟨fd, hdd⟩))) False.elim) ho).nd (fun _ _ d => by rw [hdd] at d; cases d), hdd⟩
      · cases em
    · cases em
  · cases em
theorem RXE_callK {x : Str} {np pos kp : Pos} {e ke : PySem.Expr} {rest : List PySem.Expr} {fm km : Xm} {disp : V → Option FCallE} {args : Xms} (rf : RX X φ n nm (.Name x np) fm) (hd : ∀ v f, disp v = some f → CallVE X φ n v f) (ra : RXs X φ n nm (e :: rest) args) (rk : RX X φ n nm ke km)
    (he : ∀ env, starEach (e :: rest) env = (false, eval e env) :: starEach rest env := by intro _; rfl) (hplain : ∀ env, (backTo pos (starEach rest env)).any (·.1) = false := by intro _; rfl) :
    RXE X φ n nm (.Call (.Name x np) (e :: rest) [⟨some "key", ke, kp⟩] pos) (eCallK fm disp args km) := fun A env σ s μ ν msg H' hA F R em => by
  unfold eCallK at em
  split at em
  · rename_i fv H0 e0
    split at em
    · rename_i f ef
      split at em
      · rename_i vs H1 e1
        split at em
        · rename_i kv H2 e2
          refine wpAny_Call_ofName (rf.use hA F R e0 fun x' s1 μ1 a1 F1 r1 => ?_)
          have cv := hd fv f ef
          obtain ⟨a, o, fd, rfl, ho, hdd⟩ := cv.obj s1 μ1 ν H0 σ.C x' a1.rep r1
          refine callWith_of (P := fun h => ∃ o fd, h.get? a = some o ∧ o.data = .func fd) (by rw [he env]; show ((false || (backTo pos (starEach rest env)).any (·.1)) || false) = false; rw [hplain env]; rfl)
            (fun h ⟨o, fd, e1, e2⟩ => ⟨.frame, .inl rfl, looks_keeper e1 e2⟩) ?_
          refine evalArgs_kw2 rfl (ra.use (σ := { σ with H := H0 }) (pos := pos) hA F1 a1.rep e1 fun xs s2 μ2 a2 F2 r2 => ?_) (he env)
          show wpAny _ A (evalAll [do let v ← eval ke env; standAt pos; pure v]) _ _ s2
          refine wpAny_evalAll_cons (wpAny_bind (rk.use (σ := { σ with H := H1 }) hA F2 a2.rep e2 fun k' s3 μ3 a3 F3 r3 => wpAny_bind (wpAny_standAt (wpAny_pure (wpAny_evalAll_nil ?_)))))
          have a23 := a2.trans a3
          refine ⟨⟨o, fd, (a23.keeps a o (fun q => q.elim (fun q => a1.rep.not_stable q.mut ho (.inr (.inr ⟨fd, hdd⟩))) False.elim) ho).nd (fun _ _ d => by rw [hdd] at d; cases d), hdd⟩, ?_⟩
          exact wpAny_mono (cv.call (kws := [(("key" : Str), k')]) (kv := some kv) (Q := fun _ _ => False) hA a3.rep (r1.aft a1.rep a23) (r2.aft a2.rep a3) ⟨k', rfl, r3⟩ em) (fun _ _ h => h.elim) fun _ _ h => h.after R (a1.trans a23)
        · cases em
      · cases em
    · cases em
  · cases em
/-- a def whose body raises -/
noncomputable def fnSemE (d : Df) (full : Full) (m : Em) : FCallE := fun vs kv C H => match full vs kv with
  | some fv => (match m (entry d fv C H) with
    | some (msg, H2) => some (msg, H2.take H.length)
    | none => none)
  | none => none
theorem FnOkE (O : XOk X) {a : Addr} {d : Df} {full : Full} {m : Em} (D : DfOk d) (T : FnAt X a d) (B : BindOk X a d full) (hb : ∀ env, RSsE X (env :: φ) n d.nm d.body m) : CallE X φ (n + 1) a (fnSemE d full m) := fun A s μ ν H C xs kws vs kv msg H' hA R rxs rk em => by
  unfold fnSemE at em
  split at em
  · rename_i fv efull
    split at em
    · rename_i msg' H2 e2
      cases em
      refine FnEnter O D T B hA R rxs rk efull fun env s1 bs hW keep1 hfrm hA1 F1 R1 => ?_
      refine wpAny_mono (hb env (A.deeper env) env (entry d fv C H) s1 μ (ν ++ bs) msg H2 hA1 F1 R1 e2) (fun _ _ h => h.elim) fun x s2 hx => ?_
      obtain ⟨ea, μ2, tb, rfl, Fl⟩ := hx
      refine Fl.leave hA1.frames hA1.kinds hfrm fun s3 T F3 => ?_
      obtain ⟨a3, hbase, hfr, oe, vs', t, he, hc, hd, h0, ht, htb⟩ := F3
      obtain ⟨a4, hn⟩ := Aft.leave (κ := []) (ls := []) R hW keep1 (a3.weaken fun _ q => q.elim) List.nodup_nil (fun _ h => nomatch h) rfl
      have low : ∀ b, s1.heap.get? b = none → s.heap.get? b = none := fun b hb => by
        cases q : s.heap.get? b with
        | none => rfl
        | some o => rw [keep1 b o q] at hb; cases hb
      refine ⟨ea, _, T, rfl, ⟨by simpa using a4, R.keep, low _ hfr, oe, vs', t, he, hc, hd, h0, ?_, htb.1, low _ htb.2.1, htb.2.2⟩⟩
      cases ht
      rename_i its m' e' r'
      exact .tup e' (VRs.flat r' rfl)
    · cases em
  · cases em
end
end Mine
namespace Mine
section
variable {X : Cx} {n : Nat} {nm : Nm}
theorem Flies.flight0 {φ : List Env} {A : Around} {μ ν μ' : List Addr} {s0 s' : Shared} {H : List L} {C : List (Option V)} {free : Addr → Prop} {e T : Addr} {msg : Str} {Q : Unit → Shared → Prop} {E : Value → Shared → Prop}
    (Fl : Flies X φ μ ν s0 H C μ' s' free e msg (some T)) (h : ∀ s'', Flies X φ μ ν s0 H C μ' s'' free e msg (some T) → Q () s'') : wpAny (model X.prog X.w) A (setFlight (.ref e) none) Q E s' := by
  have Fl0 := Fl
  obtain ⟨a, hbase, hfresh, oe, vs, t, he, hc, hd, h0, ht, h1, hT0, hTe, oT, ts, f3, f4, f5, f6⟩ := Fl
  have hsz3 : 3 < ts.size := (Array.getElem?_eq_some_iff.mp f6).1
  unfold setFlight
  refine wpAny_bind (wpAny_field he hd h1 ?_)
  rw [if_pos (show (Value.ref T != Value.none) = true from by simp)]
  refine wpAny_setField f3 f5 hsz3 ?_
  have s3 := Heap.SameBut.update s'.heap T (Obj.mapFields (·.setIfInBounds 3 ((none : Option Addr).elim Value.none fun f => rawInt f)))
  have hd3 := Obj.data_mapFields f5 (·.setIfInBounds 3 ((none : Option Addr).elim Value.none fun f => rawInt f))
  have hT3 := Heap.get?_update_self (Obj.mapFields (·.setIfInBounds 3 ((none : Option Addr).elim Value.none fun f => rawInt f))) f3 (Obj.isFreed_of_fields hd3)
  generalize s'.heap.update T (Obj.mapFields (·.setIfInBounds 3 ((none : Option Addr).elim Value.none fun f => rawInt f))) = h3 at s3 hT3 ⊢
  have nT : ∀ b ∈ frsOf φ, b ≠ T := fun b hb z => by
    obtain ⟨es, ep, d⟩ := (a.rep.frs b hb).2.2.not_stable (z ▸ f3)
    rw [f5] at d; cases d
  have step : ExStep φ e (some T) s'.heap h3 := ⟨fun b o hb hbe hbT eb => (s3.2 b (hbT T rfl)).trans eb, fun b hb o eb => ⟨o.slots, (s3.2 b (nT b hb)).trans eb⟩⟩
  obtain ⟨a3, st3⟩ := Fl0.step step
  refine h { s' with heap := h3 } ⟨a3, hbase, hfresh, _, _, t, (s3.2 e (Ne.symm hTe)).trans he, hc, hd, h0, ht.mono st3 (List.prefix_refl _) (List.prefix_refl _), h1, hT0, hTe, _, _, hT3, ?_, hd3, ?_⟩
  · rw [Obj.cls_mapFields]; exact f4
  · simp [hsz3]
/-- a local name that is not followed -/
theorem store_other (N : NmOk nm) {φ : List Env} {A : Around} {env : Env} {loc : List (Option V)} {cel : List Nat} {s : Shared} {μ ν : List Addr} {H : List L} {C : List (Option V)} {x : Str} {v' : Value} {Q : Unit → Shared → Prop} {E : Value → Shared → Prop}
    (F : FrOk X φ nm env loc cel μ ν s.heap) (R : Rep X φ μ ν H C s) (hx : x ∉ nm.loc) (hl : nm.scope.names.lookup x = some .local)
    (h : ∀ s' m', Aft X φ μ ν s H C μ s' (LocF env) → FrOk X φ nm env loc cel μ ν s'.heap → s'.heap.Ns env.locals m' → m' x = some v' → (∀ b, b ≠ env.locals → s'.heap.get? b = s.heap.get? b) → Q () s') : wpAny (model X.prog X.w) A (storeName env x v') Q E s := by
  obtain ⟨m, hn, hm⟩ := F.ns
  have hn0 := hn
  obtain ⟨oL, es, ep, hL, hLd, _⟩ := hn
  refine wpAny_storeName_local ((F.kindOf x).trans hl) hn0 (fun h' hn' hs' => ?_) (F.notModule N)
  have hext := hs'.extBut
  have R' : Rep X φ μ ν H C { s with heap := h', toks := s.toks + 1 } := R.upd hext hL (not_stable_dict hLd) F.own.1 F.own.2 (.inr (.inl (let ⟨o, es, ep, e, d, _⟩ := hn'; ⟨o, es, ep, e, d⟩)))
  have st : Stab s.heap h' := fun b o e sb => hext b o (fun z => by subst z; rw [hL] at e; cases e; exact not_stable_dict hLd sb) e
  obtain ⟨oL', es', ep', hL', r'⟩ := id hn'
  refine h _ _ ⟨List.prefix_refl _, fun _ q => .inl q, R', fun b o q e => .inl (hext b o (fun z => q (.inr z)) e), fun b o e => ?_⟩ ?_ hn' (by simp) fun b hb => hs'.2 b hb
  · by_cases z : b = env.locals
    · subst z; exact ⟨_, hL'⟩
    · exact ⟨o, hext b o z e⟩
  · exact
    { top := F.top, scope := F.scope, glob := F.glob, bui := F.bui, qual := F.qual, own := F.own, cell := F.cell, code := F.code, ownc := F.ownc
      ns := ⟨_, hn', fun j y w e1 e2 => by
        obtain ⟨w', e, q⟩ := hm j y w e1 e2
        have hne : y ≠ x := fun z => hx (z ▸ List.mem_of_getElem? e1)
        exact ⟨w', by simp only [hne, if_false]; exact e, q.mono st (List.prefix_refl _) (List.prefix_refl _)⟩⟩ }
/-- the name goes, behind the clause -/
theorem name_goes (N : NmOk nm) {φ : List Env} {A : Around} {env : Env} {loc : List (Option V)} {cel : List Nat} {s : Shared} {μ ν : List Addr} {H : List L} {C : List (Option V)} {x : Str} {pos : Pos} {Q : Unit → Shared → Prop} {E : Value → Shared → Prop}
    (F : FrOk X φ nm env loc cel μ ν s.heap) (R : Rep X φ μ ν H C s) (hx : x ∉ nm.loc) (hl : nm.scope.names.lookup x = some .local)
    (h : ∀ s', Aft X φ μ ν s H C μ s' (LocF env) → FrOk X φ nm env loc cel μ ν s'.heap → Q () s') : wpAny (model X.prog X.w) A (do bindName env x .none; unbindBehindTheSuite env x pos) Q E s := by
  have hk : env.kindOf x = some .local := (F.kindOf x).trans hl
  have hp := F.notModule N
  refine wpAny_bind (wpAny_bindName (store_other (E := E) N F R hx hl fun s1 m1 a1 F1 hn1 hm1 _ => ?_))
  unfold unbindBehindTheSuite
  refine wpAny_onRaise ?_
  unfold unbindName
  refine wpAny_bind (wpAny_point (wpAny_bind ?_))
  unfold deleteName
  simp only [hk, hp]
  rw [if_neg (by decide)]
  obtain ⟨m, hnm, hm⟩ := F1.ns
  have hnm0 := hnm
  obtain ⟨oL, es, ep, hL, hLd, _⟩ := hnm
  refine wpAny_bind (wpAny_nsDel_keeps hnm0 fun h' v hn' hs' => ?_)
  have hsome : (m x).isSome = true := by
    have : m x = m1 x := by
      obtain ⟨o, es1, ep1, e1, d1, _, r1⟩ := hn1
      obtain ⟨o2, es2, ep2, e2, d2, _, r2⟩ := hnm0
      rw [e1] at e2; cases e2
      rw [d1] at d2; cases d2
      rw [← r1 x, ← r2 x]
    rw [this, hm1]; rfl
  rw [hsome]
  simp only [if_true, Bool.not_true, Bool.false_eq_true, if_false]
  have hext := hs'.extBut
  have R1 := a1.rep
  have R' : Rep X φ μ ν H C { s1 with heap := h' } := R1.upd (tk := s1.toks) hext hL (not_stable_dict hLd) F1.own.1 F1.own.2 (.inr (.inl (let ⟨o, es, ep, e, d, _⟩ := hn'; ⟨o, es, ep, e, d⟩)))
  have st : Stab s1.heap h' := fun b o e sb => hext b o (fun z => by subst z; rw [hL] at e; cases e; exact not_stable_dict hLd sb) e
  obtain ⟨oL', es', ep', hL', r'⟩ := id hn'
  have a2 : Aft X φ μ ν s1 H C μ { s1 with heap := h' } (LocF env) := ⟨List.prefix_refl _, fun _ q => .inl q, R', fun b o q e => .inl (hext b o (fun z => q (.inr z)) e), fun b o e => by
    by_cases z : b = env.locals
    · subst z; exact ⟨_, hL'⟩
    · exact ⟨o, hext b o z e⟩⟩
  refine wpAny_pure (wpAny_point (h _ (a1.trans a2) ?_))
  exact
    { top := F1.top, scope := F1.scope, glob := F1.glob, bui := F1.bui, qual := F1.qual, own := F1.own, cell := F1.cell, code := F1.code, ownc := F1.ownc
      ns := ⟨_, hn', fun j y w e1 e2 => by
        obtain ⟨w', e, q⟩ := hm j y w e1 e2
        have hne : y ≠ x := fun z => hx (z ▸ List.mem_of_getElem? e1)
        exact ⟨w', by simp only [hne, if_false]; exact e, q.mono st (List.prefix_refl _) (List.prefix_refl _)⟩⟩ }
/-- an except clause's suite, the exception under its name: it stores no local -/
noncomputable def RH (X : Cx) (φ : List Env) (n : Nat) (nm : Nm) (x : Str) (suite : List Stmt) (msg : Str) (g : Sm) : Prop :=
  ∀ (A : Around) (env : Env) (σ : S) (s : Shared) (μ ν : List Addr) (ea t : Addr) (m : Str → Option Value) (f : Fl) (σ' : S), A.units + 64 < cLine → A.frames = some φ → FrOk X φ nm env σ.loc σ.cel μ ν s.heap → Rep X φ μ ν σ.H σ.C s →
    s.heap.ExcAt ea "ValueError" (.ref t) → VR X s.heap μ ν (.ref t) (.tup [.str msg]) → s.heap.Ns env.locals m → m x = some (.ref ea) → g σ = some (f, σ') →
    wpAny (model X.prog X.w) A (execs suite env) (fun f' s' => ∃ μ', Aft X φ μ ν s σ'.H σ.C μ' s' NoFree ∧ FlR X s'.heap μ' ν f' f ∧ σ'.loc = σ.loc ∧ σ'.cel = σ.cel ∧ σ'.C = σ.C) (fun _ _ => False) s
noncomputable def sTry (m : Em) (g : Str → Sm) : Sm := fun σ => match m σ with
  | some (msg, H) => g msg { σ with H := H }
  | none => none
theorem note_env {e0 env : Env} (h : e0.frame = env.frame) (e : Value) : noteFrame e env = noteFrame e e0 := by
  unfold noteFrame PySem.frameOf
  rw [h]
theorem RS_try (O : XOk X) (N : NmOk nm) {φ : List Env} {x : Str} {i : Nat} {body suite : List Stmt} {b₀ : Stmt} {tp hpos pos : Pos} {m : Em} {g : Str → Sm} (hx : x ∉ nm.loc) (hl : nm.scope.names.lookup x = some .local) (hi : nm.glb[i]? = some "ValueError") (hg : X.mg "ValueError" = none)
    (rb : RSsE X φ n nm body m) (rh : ∀ msg, RH X φ n nm x (b₀ :: suite) msg (g msg)) : RS X φ n nm (.Try body [.ExceptHandler (some (.Name "ValueError" tp)) (some x) (b₀ :: suite) hpos] [] [] pos) (sTry m g) := fun A env σ s μ ν f σ' hA F R em => by
  unfold sTry at em
  split at em
  · rename_i msg H1 e1
    refine wpAny_Try_except (wpAny_mono (rb A env σ s μ ν msg H1 hA F R e1) (fun _ _ h => h.elim) fun e s1 hr => ?_)
    obtain ⟨ea, μ1, tb, rfl, Fl⟩ := hr
    obtain ⟨e0, φ0, rfl, hfe⟩ := F.top
    obtain ⟨_, L0, hL0⟩ := hA.kinds e0 List.mem_cons_self
    rw [note_env hfe]
    refine Fl.noted hA.frames hA.kinds hL0 fun s2 T Fl2 _ _ => ?_
    refine wpAny_handleBy_builtin_as (X := "ValueError") (T := "ValueError") (b := true) PySem.F.isExc_ValueError (by first | (rw [isSubtype_type]; kernel_rfl) | decide) PySem.F.self_ValueError ?_
    have F2 := F.aft R Fl2.aft
    refine name_builtin (b := .type "ValueError") O N hi hg PyProof.Rows.Boot.«ValueError» F2 Fl2.aft.rep ⟨rfl, ?_, ?_⟩
    · obtain ⟨oe, vs, t, he, hc, _⟩ := Fl2.exc
      exact ⟨oe, he, hc⟩
    simp only [if_true]
    refine Fl2.flight0 fun s3 Fl3 => ?_
    have F3 := F.aft R Fl3.aft
    obtain ⟨oe, vs, t, he, hc, hd, h0, ht, _⟩ := id Fl3.exc
    have hea : ea ≠ env.locals := fun z => by
      obtain ⟨m0, ⟨oL, es, ep, hL, hLd, _⟩, _⟩ := F3.ns
      rw [← z, he] at hL; cases hL
      rw [hd] at hLd; cases hLd
    refine store_other N F3 Fl3.aft.rep hx hl fun s4 m4 a4 F4 hn4 hm4 hk4 => ?_
    have st4 : Stab s3.heap s4.heap := F3.stabL Fl3.aft.rep a4.keeps
    refine wpAny_mono (rh msg (A.mark (some (.ref ea))) env { σ with H := H1 } s4 μ1 ν ea t m4 f σ' hA.u64 hA.frames F4 a4.rep ⟨oe, vs, (hk4 ea hea).trans he, hc, hd, h0⟩ (ht.mono st4 (List.prefix_refl _) (List.prefix_refl _)) hn4 hm4 em) (fun f5 s5 h5 => ?_) fun _ _ h => h.elim
    obtain ⟨μ5, a5, q5, hl5, hc5, hC5⟩ := h5
    have F5 := F4.aft a4.rep a5
    refine name_goes (E := fun _ _ => False) N F5 a5.rep hx hl fun s6 a6 F6 => ?_
    have st6 : Stab s5.heap s6.heap := F5.stabL a5.rep a6.keeps
    refine ⟨μ5, ?_, ?_, ?_⟩
    · have a34 : Aft X (e0 :: φ0) μ ν s H1 σ.C μ1 s4 (FrW nm env) := (Fl3.aft.weaken fun _ q => q.elim).trans (a4.weaken fun _ q => .inl q)
      rw [hC5]
      exact (a34.trans (a5.weaken fun _ q => q.elim)).trans (a6.weaken fun _ q => .inl q)
    · rw [hl5, hc5]; exact F6
    · cases f5 <;> cases f <;> first | exact q5 | exact q5.mono st6 (List.prefix_refl _) (List.prefix_refl _) | exact q5.elim
  · cases em
end
end Mine
namespace Mine
section
variable {X : Cx} {n : Nat} {nm : Nm}
/-- a name, and what it holds -/
noncomputable abbrev Acc := S → Option V
noncomputable def accLoc (i : Nat) : Acc := fun σ => match σ.loc[i]? with
  | some (some v) => some v
  | _ => none
noncomputable def RX0 (X : Cx) (φ : List Env) (nm : Nm) (e : PySem.Expr) (g : Acc) : Prop :=
  ∀ (A : Around) (env : Env) (σ : S) (s : Shared) (μ ν : List Addr) (v : V) (Q E : Value → Shared → Prop), FrOk X φ nm env σ.loc σ.cel μ ν s.heap → Rep X φ μ ν σ.H σ.C s → g σ = some v →
    (∀ v', VR X s.heap μ ν v' v → Q v' s) → wpAny (model X.prog X.w) A (eval e env) Q E s
theorem RX0_loc (N : NmOk nm) {φ : List Env} {x : Str} {pos : Pos} {i : Nat} (hi : nm.loc[i]? = some x) : RX0 X φ nm (.Name x pos) (accLoc i) := fun A env σ s μ ν v Q E F R em h => by
  unfold accLoc at em
  split at em
  · rename_i v0 hv
    cases em
    obtain ⟨m, hn, hm⟩ := F.ns
    obtain ⟨v', e, r⟩ := hm i x _ hi hv
    have q := N.loc x (List.mem_of_getElem? hi)
    exact wpAny_Name (wpAny_loadName_local (by rw [F.scope]; exact N.kind) ((F.kindOf x).trans q.1) hn e (h _ r)) (plainName_debug q.2)
  · cases em
/-- two names, equal or not -/
noncomputable def eqAcc (a b : Acc) : S → Option Bool := fun σ => match a σ, b σ with
  | some x, some y => (match datOf σ.H 8 x, datOf σ.H 8 y with
    | some d, some e => if SeqAt.shaped d && SeqAt.shaped e then some (PyData.eqv d e) else none
    | _, _ => none)
  | _, _ => none
theorem cmp0 {φ : List Env} {A : Around} {env : Env} {σ : S} {s : Shared} {μ ν : List Addr} {l r : PySem.Expr} {op : CmpOp} {a b : Acc} {q res : Bool} {Q : Value → Shared → Prop} {E : Value → Shared → Prop} (hu : A.units + 64 < cLine) (F : FrOk X φ nm env σ.loc σ.cel μ ν s.heap) (R : Rep X φ μ ν σ.H σ.C s)
    (ra : RX0 X φ nm l a) (rb : RX0 X φ nm r b) (eq : eqAcc a b σ = some q) (hop : (op = .Eq ∧ res = q) ∨ (op = .NotEq ∧ res = !q))
    (h : Q (.bool res) s) : wpAny (model X.prog X.w) A (eval l env) (fun x1 s1 => wpAny (model X.prog X.w) A (eval r env) (fun x2 s2 => wpAny (model X.prog X.w) A (compareOp op x1 x2) Q E s2) E s1) E s := by
  unfold eqAcc at eq
  split at eq
  · rename_i x y ea eb
    split at eq
    · rename_i d e hd he
      split at eq
      · rename_i hs
        cases eq
        simp only [Bool.and_eq_true] at hs
        refine (ra A env σ s μ ν x _ _ F R ea fun x' r1 => rb A env σ s μ ν y _ _ F R eb fun y' r2 => ?_)
        obtain ⟨as, q1⟩ := reads_of R 8 x x' d r1 hd
        obtain ⟨bs, q2⟩ := reads_of R 8 y y' e r2 he
        rcases hop with ⟨rfl, rfl⟩ | ⟨rfl, rfl⟩
        · exact SeqAt.compareEq_shaped q1 q2 hs.1 hs.2 hu h
        · exact SeqAt.compareNe_shaped q1 q2 hs.1 hs.2 hu h
      · cases eq
    · cases eq
  · cases eq
/-- what the exception's text is, against a written one -/
theorem cmp_error (O : XOk X) (N : NmOk nm) {φ : List Env} {A : Around} {env : Env} {σ : S} {s : Shared} {μ ν : List Addr} {x : Str} {i k : Nat} {np xp cp kp : Pos} {msg : Str} {op : CmpOp} {res : Bool} {ea t : Addr} {m : Str → Option Value} {Q : Value → Shared → Prop} {E : Value → Shared → Prop}
    (hu : A.units + 64 < cLine) (F : FrOk X φ nm env σ.loc σ.cel μ ν s.heap) (R : Rep X φ μ ν σ.H σ.C s) (hl : nm.scope.names.lookup x = some .local) (hdb : (x == ("__debug__" : Str)) = false) (hi : nm.glb[i]? = some "str") (hg : X.mg "str" = none)
    (hx : s.heap.ExcAt ea "ValueError" (.ref t)) (ht : VR X s.heap μ ν (.ref t) (.tup [.str msg])) (hn : s.heap.Ns env.locals m) (hm : m x = some (.ref ea)) (hok : SeqAt.shaped (.str msg) = true) (hop : (op = .Eq ∧ res = true) ∨ (op = .NotEq ∧ res = false))
    (h : ∀ tk, Q (.bool res) { s with toks := tk }) : wpAny (model X.prog X.w) A (eval (.Call (.Name "str" np) [.Name x xp] [] cp) env) (fun x1 s1 => wpAny (model X.prog X.w) A (eval (.Constant (.str msg) k kp) env) (fun x2 s2 => wpAny (model X.prog X.w) A (compareOp op x1 x2) Q E s2) E s1) E s := by
  refine wpAny_Call_ofName (name_builtin (b := .type "str") O N hi hg PyProof.Rows.Boot.str F R ?_)
  refine callWith_excType rfl (Calls.evalArgs_plain (wpAny_items_cons (wpAny_Name (wpAny_loadName_local (by rw [F.scope]; exact N.kind) ((F.kindOf x).trans hl) hn hm (wpAny_items_nil ?_)) hdb) rfl))
  cases ht
  rename_i its m' e' r'
  rcases r' with _ | ⟨q1, q2⟩
  rcases q2 with _ | _
  cases q1
  rename_i tk
  show wpAny _ A (call (.type "str") [.ref ea]) _ _ s
  refine P.str_of_exc_one PySem.F.excStr_ValueError (by omega) hx (tk := tk) ⟨_, m', e', rfl, rfl⟩ ?_
  refine Calls.Constant_str ?_
  have hself : PyData.eqv (.str msg) (.str msg) = true := by simp [PyData.eqv]
  rcases hop with ⟨rfl, rfl⟩ | ⟨rfl, rfl⟩
  · refine SeqAt.compareEq_shaped (.str msg _) (.str msg _) hok hok hu ?_
    rw [hself]; exact h _
  · refine SeqAt.compareNe_shaped (.str msg _) (.str msg _) hok hok hu ?_
    rw [hself]; exact h _
/-- return str(error) == '..' and a == b -/
noncomputable def gRetAnd (lit : Str) (a b : Acc) : Str → Sm := fun msg σ => if msg = lit then (match eqAcc a b σ with
  | some q => some (.ret (.bool q), σ)
  | none => none) else none
theorem RH_retAnd (O : XOk X) (N : NmOk nm) {φ : List Env} {x : Str} {i k : Nat} {np xp cp kp p1 p2 bp rp : Pos} {lit : Str} {l r : PySem.Expr} {a b : Acc} (hl : nm.scope.names.lookup x = some .local) (hdb : (x == ("__debug__" : Str)) = false) (hi : nm.glb[i]? = some "str") (hg : X.mg "str" = none) (hok : SeqAt.shaped (.str lit) = true)
    (ra : RX0 X φ nm l a) (rb : RX0 X φ nm r b) (hm1 : behindInMarks .Eq (.Constant (.str lit) k kp) = false := by with_unfolding_all rfl) (hm2 : behindInMarks .Eq r = false := by with_unfolding_all rfl) (msg : Str) :
    RH X φ n nm x [.Return (some (.BoolOp .And [.Compare (.Call (.Name "str" np) [.Name x xp] [] cp) [.Eq] [.Constant (.str lit) k kp] p1, .Compare l [.Eq] [r] p2] bp)) rp] msg (gRetAnd lit a b msg) := fun A env σ s μ ν ea t m f σ' hu hfr F R hx ht hn hm em => by
  unfold gRetAnd at em
  split at em
  · rename_i hmsg
    subst hmsg
    split at em
    · rename_i q eq
      cases em
      refine wpAny_execs_cons (wpAny_Return_some (BoolOp_and (wpAny_Compare1 (cmp_error O N hu F R hl hdb hi hg hx ht hn hm hok (.inl ⟨rfl, rfl⟩) fun tk => ?_) hm1)))
      refine wpAny_truthy_bool ?_
      have a1 : Aft X φ μ ν s σ.H σ.C μ { s with toks := tk } NoFree := .tok R tk
      have F1 := F.aft R a1
      rw [if_pos rfl]
      exact BoolOp_one (wpAny_Compare1 (cmp0 (σ := σ) hu F1 a1.rep ra rb eq (.inl ⟨rfl, rfl⟩) ⟨μ, a1, .bool q, rfl, rfl, rfl⟩) hm2)
    · cases em
  · cases em
end
end Mine
namespace Mine
noncomputable def fnBody (p : Program) (i : Nat) : List Stmt := match p.main.body[i]? with
  | some (.FunctionDef _ _ b _ _ _ _ _ _ _) => b
  | _ => []
noncomputable def fnArgs (p : Program) (i : Nat) : Arguments := match p.main.body[i]? with
  | some (.FunctionDef _ a _ _ _ _ _ _ _ _) => a
  | _ => default
noncomputable def fnScope (p : Program) (i : Nat) : Scope := match p.main.body[i]? with
  | some (.FunctionDef _ _ _ _ _ _ s _ _ _) => s
  | _ => default
noncomputable def noE : PySem.Expr := .Constant .none 0 ⟨0, 0, 0, 0⟩
noncomputable def xNth (i : Nat) (l : List PySem.Expr) : PySem.Expr := match l[i]? with
  | some x => x
  | none => noE
noncomputable def xSt (i : Nat) (l : List Stmt) : Stmt := match l[i]? with
  | some x => x
  | none => .Pass ⟨0, 0, 0, 0⟩
noncomputable def sValue : Stmt → PySem.Expr
  | .Assign _ v _ => v
  | .Expr v _ => v
  | .Return (some v) _ => v
  | .AugAssign _ _ v _ => v
  | _ => noE
noncomputable def sTest : Stmt → PySem.Expr
  | .If t _ _ _ => t
  | .While t _ _ _ => t
  | _ => noE
noncomputable def sBody : Stmt → List Stmt
  | .If _ b _ _ => b
  | .While _ b _ _ => b
  | .For _ _ b _ _ => b
  | .Try b _ _ _ _ => b
  | _ => []
noncomputable def cLeft : PySem.Expr → PySem.Expr
  | .Compare l _ _ _ => l
  | _ => noE
noncomputable def cRight : PySem.Expr → PySem.Expr
  | .Compare _ _ rs _ => xNth 0 rs
  | _ => noE
noncomputable def tElts : PySem.Expr → List PySem.Expr
  | .Tuple es _ _ => es
  | .List es _ => es
  | _ => []
noncomputable def kArgs : PySem.Expr → List PySem.Expr
  | .Call _ as _ _ => as
  | _ => []
noncomputable def lamArgs : PySem.Expr → Arguments
  | .Lambda a _ _ _ => a
  | _ => default
noncomputable def lamBody : PySem.Expr → PySem.Expr
  | .Lambda _ b _ _ => b
  | _ => noE
noncomputable def lamScope : PySem.Expr → Scope
  | .Lambda _ _ s _ => s
  | _ => default
noncomputable def lcScope : PySem.Expr → Scope
  | .ListComp _ _ s _ => s
  | _ => default
noncomputable def gen (i : Nat) : PySem.Expr → Option Comprehension
  | .ListComp _ gs _ _ => gs[i]?
  | _ => none
section
variable {X : Cx} {φ : List Env} {n : Nat} {nm : Nm}
/-- a statement that is never met -/
noncomputable def sNo : Sm := fun _ => none
theorem RS_no {st : Stmt} : RS X φ n nm st sNo := fun A env σ s μ ν f σ' hA F R em => by cases em
/-- one def as a callee -/
noncomputable def dFn (k : Nat) (f : FCall) : V → Option FCall := fun v => match v with
  | .fn j => if j = k then some f else none
  | _ => none
theorem dFn_ok {k : Nat} {a : Addr} {d : Df} {f : FCall} (hk : X.fn k = some a) (T : FnAt X a d) (c : CallOk X φ n a f) : ∀ v f', dFn k f v = some f' → CallV X φ n v f' := fun v f' e => by
  unfold dFn at e
  split at e
  · split at e
    · rename_i h; subst h; cases e; exact .of_fn hk T c
    · cases e
  · cases e
noncomputable def dFnE (k : Nat) (f : FCallE) : V → Option FCallE := fun v => match v with
  | .fn j => if j = k then some f else none
  | _ => none
theorem dFnE_ok {k : Nat} {a : Addr} {d : Df} {f : FCallE} (hk : X.fn k = some a) (T : FnAt X a d) (c : CallE X φ n a f) : ∀ v f', dFnE k f v = some f' → CallVE X φ n v f' := fun v f' e => by
  unfold dFnE at e
  split at e
  · split at e
    · rename_i h; subst h; cases e; exact .of_fn hk T c
    · cases e
  · cases e
theorem RX_sortK2 {x : Str} {np pos kp : Pos} {i : Nat} {e ke : PySem.Expr} {a km : Xm} {disp : V → Option FCall} (h : 3 ≤ n) (O : XOk X) (N : NmOk nm) (hi : nm.glb[i]? = some x) (hg : X.mg x = none) (hb : bootBuiltins x = some (.builtin "sorted")) (ra : RX X φ n nm e a) (rk : RX X φ n nm ke km) (hd : ∀ v f, disp v = some f → CallV X φ (n - 2) v f)
    (he : ∀ env, starEach [e] env = (false, eval e env) :: starEach [] env := by intro _; rfl) :
    RX X φ n nm (.Call (.Name x np) [e] [⟨some "key", ke, kp⟩] pos) (mSortK a km disp) := by
  obtain ⟨k, rfl⟩ : ∃ k, n = k + 2 := ⟨n - 2, by omega⟩
  exact RX_sortK O N hi hg hb ra rk hd he
/-- the parameters of the four: a, x, lo, hi, key -/
noncomputable def bisFull : Full := fun vs kv => match vs with
  | [a, x] => some [a, x, .int 0, .none, kv.getD .none]
  | [a, x, lo] => some [a, x, lo, .none, kv.getD .none]
  | [a, x, lo, hi] => some [a, x, lo, hi, kv.getD .none]
  | _ => none
/-- arguments by place alone -/
theorem BindOk.plain {a : Addr} {d : Df} {full : Full} (hf : ∀ vs kv fv, full vs kv = some fv → kv = none ∧ fv = vs ∧ vs.length = d.pars.length)
    (hB : ∀ fd o, X.h₀.get? a = some o → o.data = .func fd → ∀ (s : Shared) (xs : List Value), (∀ b o, X.h₀.get? b = some o → s.heap.get? b = some o) → xs.length = d.pars.length → BindsTo s fd ⟨xs, []⟩ (d.pars.zip xs)) : BindOk X a d full := fun fd o ho hd φ s μ ν H C xs kws vs kv fv R rxs rk ef => by
  obtain ⟨rfl, rfl, hl⟩ := hf vs kv fv ef
  have hk : kws = [] := rk
  subst hk
  have hxl : xs.length = d.pars.length := rxs.length.trans hl
  exact ⟨xs, rxs, hxl, hB fd o ho hd s xs R.keep hxl⟩
noncomputable def fullN (n : Nat) : Full := fun vs kv => match kv with | none => if vs.length = n then some vs else none | some _ => none
theorem fullN_inv {n : Nat} {vs fv : List V} {kv : Option V} (e : fullN n vs kv = some fv) : kv = none ∧ fv = vs ∧ vs.length = n := by
  unfold fullN at e
  split at e
  · split at e
    · cases e; exact ⟨rfl, rfl, by assumption⟩
    · cases e
  · cases e
theorem BindOk.plainN {a : Addr} {d : Df} {full : Full} {n : Nat} (hd : d.pars.length = n) (hf : full = fullN n)
    (hB : ∀ fd o, X.h₀.get? a = some o → o.data = .func fd → ∀ (s : Shared) (xs : List Value), (∀ b o, X.h₀.get? b = some o → s.heap.get? b = some o) → xs.length = n → BindsTo s fd ⟨xs, []⟩ (d.pars.zip xs)) : BindOk X a d full := by
  subst hd hf
  exact BindOk.plain (fun vs kv fv e => fullN_inv e) hB
@[elab_as_elim] theorem len_e0 {α : Type} {P : List α → Prop} {xs : List α} (h : xs.length = 0) (k : P []) : P xs := by
  cases xs with
  | nil => exact k
  | cons x xs => cases h
@[elab_as_elim] theorem len_eS {α : Type} {P : List α → Prop} {xs : List α} {n : Nat} (h : xs.length = n + 1) (k : ∀ x ys, ys.length = n → P (x :: ys)) : P xs := by
  cases xs with
  | nil => cases h
  | cons x xs => exact k x xs (by simpa using h)
/-- the four: lo, hi, key may be left out -/
theorem BindOk.bis {a : Addr} {d : Df} (hp : d.pars = (["a", "x", "lo", "hi", "key"] : List Str))
    (hB : ∀ fd o, X.h₀.get? a = some o → o.data = .func fd → ∀ (s : Shared), (∀ b o, X.h₀.get? b = some o → s.heap.get? b = some o) → ∃ t0,
      (∀ x y, BindsTo s fd ⟨[x, y], []⟩ [("a", x), ("x", y), ("lo", .int 0 t0), ("hi", .none), ("key", .none)]) ∧
      (∀ x y k, BindsTo s fd ⟨[x, y], [("key", k)]⟩ [("a", x), ("x", y), ("lo", .int 0 t0), ("hi", .none), ("key", k)]) ∧
      (∀ x y z, BindsTo s fd ⟨[x, y, z], []⟩ [("a", x), ("x", y), ("lo", z), ("hi", .none), ("key", .none)]) ∧
      (∀ x y z k, BindsTo s fd ⟨[x, y, z], [("key", k)]⟩ [("a", x), ("x", y), ("lo", z), ("hi", .none), ("key", k)]) ∧
      (∀ x y z u, BindsTo s fd ⟨[x, y, z, u], []⟩ [("a", x), ("x", y), ("lo", z), ("hi", u), ("key", .none)]) ∧
      (∀ x y z u k, BindsTo s fd ⟨[x, y, z, u], [("key", k)]⟩ [("a", x), ("x", y), ("lo", z), ("hi", u), ("key", k)])) : BindOk X a d bisFull := fun fd o ho hd φ s μ ν H C xs kws vs kv fv R rxs rk ef => by
  obtain ⟨t0, b1, b2, b3, b4, b5, b6⟩ := hB fd o ho hd s R.keep
  rw [hp]
  have kw : ∀ {kws : List (Str × Value)} {kv : Option V}, KwR X s.heap μ ν kws kv → (kv = none ∧ kws = []) ∨ ∃ v k, kv = some v ∧ kws = [(("key" : Str), k)] ∧ VR X s.heap μ ν k v := fun {kws kv} rk => by
    cases kv with
    | none => exact .inl ⟨rfl, rk⟩
    | some v => obtain ⟨k, e, r⟩ := rk; exact .inr ⟨v, k, rfl, e, r⟩
  unfold bisFull at ef
  split at ef
  · cases ef
    refine rxs.e2 fun x y r1 r2 => ?_
    rcases kw rk with ⟨rfl, rfl⟩ | ⟨v, k, rfl, rfl, rv⟩
    · exact ⟨[_, _, _, _, _], .cons r1 (.cons r2 (.cons (.int 0 t0) (.cons .none (.cons .none .nil)))), rfl, b1 _ _⟩
    · exact ⟨[_, _, _, _, _], .cons r1 (.cons r2 (.cons (.int 0 t0) (.cons .none (.cons rv .nil)))), rfl, b2 _ _ _⟩
  · cases ef
    refine rxs.e3 fun x y z r1 r2 r3 => ?_
    rcases kw rk with ⟨rfl, rfl⟩ | ⟨v, k, rfl, rfl, rv⟩
    · exact ⟨[_, _, _, _, _], .cons r1 (.cons r2 (.cons r3 (.cons .none (.cons .none .nil)))), rfl, b3 _ _ _⟩
    · exact ⟨[_, _, _, _, _], .cons r1 (.cons r2 (.cons r3 (.cons .none (.cons rv .nil)))), rfl, b4 _ _ _ _⟩
  · cases ef
    refine rxs.e4 fun x y z q r1 r2 r3 r4 => ?_
    rcases kw rk with ⟨rfl, rfl⟩ | ⟨v, k, rfl, rfl, rv⟩
    · exact ⟨[_, _, _, _, _], .cons r1 (.cons r2 (.cons r3 (.cons r4 (.cons .none .nil)))), rfl, b5 _ _ _ _⟩
    · exact ⟨[_, _, _, _, _], .cons r1 (.cons r2 (.cons r3 (.cons r4 (.cons rv .nil)))), rfl, b6 _ _ _ _ _⟩
  · cases ef
theorem hidden_get : ∀ (l : List Addr) {h : Heap} {P : Addr}, P ∈ l → (hideAll h l).get? P = none := by
  intro l
  induction l with
  | nil => intro h P hP; cases hP
  | cons a r ih =>
    intro h P hP
    by_cases hr : P ∈ r
    · exact ih hr
    · have : P = a := by
        rcases List.mem_cons.mp hP with e | e
        · exact e
        · exact absurd e hr
      subst this
      cases q : (hideAll h (P :: r)).get? P with
      | none => rfl
      | some o =>
        have h2 := of_hideAll (h := h.hide P) r q
        rw [Heap.hide_self] at h2; cases h2
theorem vrs_of_ints {h : Heap} {μ ν : List Addr} : ∀ {its : List Value} {xs : List Int}, IntsAre its xs → VRs X h μ ν its (xs.map V.int)
  | _, _, .nil => .nil
  | _, _, .cons n t r => .cons (.int n t) (vrs_of_ints r)
/-- the end: True comes back -/
theorem join_end {a : Addr} {f : FCall} {H' : List L} {cw : ClaimW} {cl : Str → Option Addr} {mean : ExcName → Option Value} {args : List WData} {s : Shared} {x : Value} {vs : List V} {tabs : List (Addr × Addr)} (hs : X.s₀ = s) (hh : X.h₀ = ghostOf s.heap tabs) (ht : X.tabs.map (fun q => (q.1, q.2.1)) = tabs) (hT : TabsAt tabs s.heap) (hg : s.gens = #[]) (hn : n ≤ 600)
    (c : CallOk X [] n a f) (rx : VR X s.heap [] [] x (.frz xs)) (ef : f [.frz xs] none [] [] = some (.bool true, H')) (hr : ∀ a x, cw.raises a x = false) (hp : cw.post args (.bool true) args = true) (hu : True)
    (hnt : X.ptabs.Nodup) :
    wpAny (model X.prog X.w) callerA (call (.ref a) [x]) (fun v s' => GoodWG cw cl mean args s (.ok (.ret v)) s') (fun e s' => GoodWG cw cl mean args s (.error e) s') s := by
  have R : Rep X [] [] [] [] [] s :=
    { frs := fun L h => nomatch h
      same := ⟨s.heap, s.toks, by rw [hs]⟩
      keep := fun b o e => of_hideAll _ (hh ▸ e)
      lenH := rfl
      lenC := rfl
      nodup := List.nodup_nil
      fresh := fun a h => by rcases h with h | h <;> cases h
      lists := fun i a l e => by cases e
      cells := fun i a v e => by cases e
      tabs := fun q hq => ⟨#[], (hT (q.1, q.2.1) (by rw [← ht]; exact List.mem_map_of_mem hq)).2, by simp [TriplesOk], fun pos cv e => by simp [codeAmong] at e⟩ }
  refine wpAny_call (codeAny_mono (R := GoodWG cw cl mean args s) (kn_post hT hr (codeAny_mono (c callerA s [] [] [] [] [x] [] [.frz xs] none (.bool true) H' ⟨rfl, ?_, ?_, rfl, fun e h => nomatch h⟩ R (.cons rx .nil) rfl ef) fun r s' hr' => ?_)) fun r s' h => ?_)
  · show 301 + n ≤ 990; omega
  · show 4 + 16 * n ≤ 9800; omega
  · obtain ⟨v', rfl, μ', a', r'⟩ := hr'
    cases r'
    obtain ⟨h2, tk2, hsame⟩ := a'.rep.same
    refine ⟨⟨.inl ⟨.bool true, .bool true, [], rfl, fun cls => hr _ _, ?_, hp, fun _ => ⟨List.nodup_nil, fun a h => nomatch h⟩⟩, fun b o e => a'.rep.keep b o (hh ▸ e), ?_, ?_⟩, ?_⟩
    · exact .bool true
    · rw [hsame, hs]
    · rw [hsame, hs]; exact hg
    · have : ∀ q ∈ X.tabs, GrownAt q.2.1 s'.heap := fun q hq => let ⟨ps, e, _⟩ := a'.rep.tabs q hq; ⟨ps, e⟩
      have key : ∀ l : List (Addr × Addr × Str), (∀ q ∈ l, GrownAt q.2.1 s'.heap) → GrownAll (l.map fun q => (q.1, q.2.1)) s'.heap := fun l => by
        induction l with
        | nil => intro _; trivial
        | cons q l ih => intro h; exact ⟨h q List.mem_cons_self, ih fun p hp => h p (List.mem_cons_of_mem _ hp)⟩
      rw [← ht]; exact key _ this
  · cases r with
    | ok f => cases f <;> first | exact h | (obtain ⟨⟨_, _, _, e, _⟩ | ⟨_, _, _, e, _⟩, _⟩ := h <;> cases e)
    | error e => exact h
end
end Mine
namespace Mine
noncomputable def P3 : Program := PySem.Challenge.pw_wb0001_03
noncomputable def nm3_0 : Nm := { scope := fnScope PySem.Challenge.pw_wb0001_03 1, loc := ["a", "x", "lo", "hi", "key"], cel := [], glb := ["bisect_right"], qual := "insort_right.<locals>.", tab := 1000 }
theorem N3_0 : NmOk nm3_0 := .of (by decide +kernel)
noncomputable def df3_0 : Df := { name := "insort_right", params := fnArgs PySem.Challenge.pw_wb0001_03 1, body := fnBody PySem.Challenge.pw_wb0001_03 1, scope := fnScope PySem.Challenge.pw_wb0001_03 1, nm := nm3_0, pars := ["a", "x", "lo", "hi", "key"], li := [some 0, some 1, some 2, some 3, some 4], ci := [] }
theorem D3_0 : DfOk df3_0 := .of (by decide +kernel)
noncomputable def full3_0 : Full := bisFull
noncomputable def nm3_1 : Nm := { scope := fnScope PySem.Challenge.pw_wb0001_03 2, loc := ["a", "x", "lo", "hi", "key", "mid"], cel := [], glb := ["ValueError", "len"], qual := "bisect_right.<locals>.", tab := 1000 }
theorem N3_1 : NmOk nm3_1 := .of (by decide +kernel)
noncomputable def df3_1 : Df := { name := "bisect_right", params := fnArgs PySem.Challenge.pw_wb0001_03 2, body := fnBody PySem.Challenge.pw_wb0001_03 2, scope := fnScope PySem.Challenge.pw_wb0001_03 2, nm := nm3_1, pars := ["a", "x", "lo", "hi", "key"], li := [some 0, some 1, some 2, some 3, some 4, none], ci := [] }
theorem D3_1 : DfOk df3_1 := .of (by decide +kernel)
noncomputable def full3_1 : Full := bisFull
noncomputable def nm3_2 : Nm := { scope := fnScope PySem.Challenge.pw_wb0001_03 3, loc := ["a", "x", "lo", "hi", "key"], cel := [], glb := ["bisect_left"], qual := "insort_left.<locals>.", tab := 1000 }
theorem N3_2 : NmOk nm3_2 := .of (by decide +kernel)
noncomputable def df3_2 : Df := { name := "insort_left", params := fnArgs PySem.Challenge.pw_wb0001_03 3, body := fnBody PySem.Challenge.pw_wb0001_03 3, scope := fnScope PySem.Challenge.pw_wb0001_03 3, nm := nm3_2, pars := ["a", "x", "lo", "hi", "key"], li := [some 0, some 1, some 2, some 3, some 4], ci := [] }
theorem D3_2 : DfOk df3_2 := .of (by decide +kernel)
noncomputable def full3_2 : Full := bisFull
noncomputable def nm3_3 : Nm := { scope := fnScope PySem.Challenge.pw_wb0001_03 4, loc := ["a", "x", "lo", "hi", "key", "mid"], cel := [], glb := ["ValueError", "len"], qual := "bisect_left.<locals>.", tab := 1000 }
theorem N3_3 : NmOk nm3_3 := .of (by decide +kernel)
noncomputable def df3_3 : Df := { name := "bisect_left", params := fnArgs PySem.Challenge.pw_wb0001_03 4, body := fnBody PySem.Challenge.pw_wb0001_03 4, scope := fnScope PySem.Challenge.pw_wb0001_03 4, nm := nm3_3, pars := ["a", "x", "lo", "hi", "key"], li := [some 0, some 1, some 2, some 3, some 4, none], ci := [] }
theorem D3_3 : DfOk df3_3 := .of (by decide +kernel)
noncomputable def full3_3 : Full := bisFull
noncomputable def nm3_4 : Nm := { scope := fnScope PySem.Challenge.pw_wb0001_03 6, loc := ["one", "two"], cel := [], glb := [], qual := "_law_common.<locals>.", tab := 1000 }
theorem N3_4 : NmOk nm3_4 := .of (by decide +kernel)
noncomputable def df3_4 : Df := { name := "_law_common", params := fnArgs PySem.Challenge.pw_wb0001_03 6, body := fnBody PySem.Challenge.pw_wb0001_03 6, scope := fnScope PySem.Challenge.pw_wb0001_03 6, nm := nm3_4, pars := ["one", "two"], li := [some 0, some 1], ci := [] }
theorem D3_4 : DfOk df3_4 := .of (by decide +kernel)
noncomputable def full3_4 : Full := fun vs kv => match kv with | none => if vs.length = 2 then some vs else none | some _ => none
noncomputable def nm3_5 : Nm := { scope := fnScope PySem.Challenge.pw_wb0001_03 7, loc := ["kind", "row", "key", "kept"], cel := [], glb := ["list", "bisect_left", "bisect_right", "insort_left", "insort_right", "ValueError", "str"], qual := "_law_low_refused.<locals>.", tab := 1000 }
theorem N3_5 : NmOk nm3_5 := .of (by decide +kernel)
noncomputable def df3_5 : Df := { name := "_law_low_refused", params := fnArgs PySem.Challenge.pw_wb0001_03 7, body := fnBody PySem.Challenge.pw_wb0001_03 7, scope := fnScope PySem.Challenge.pw_wb0001_03 7, nm := nm3_5, pars := ["kind", "row", "key"], li := [some 0, some 1, some 2, none], ci := [] }
theorem D3_5 : DfOk df3_5 := .of (by decide +kernel)
noncomputable def full3_5 : Full := fun vs kv => match kv with | none => if vs.length = 3 then some vs else none | some _ => none
noncomputable def nm3_6 : Nm := { scope := fnScope PySem.Challenge.pw_wb0001_03 8, loc := ["peg", "pegs", "second", "last"], cel := [], glb := [], qual := "_law_behind.<locals>.", tab := 1000 }
theorem N3_6 : NmOk nm3_6 := .of (by decide +kernel)
noncomputable def df3_6 : Df := { name := "_law_behind", params := fnArgs PySem.Challenge.pw_wb0001_03 8, body := fnBody PySem.Challenge.pw_wb0001_03 8, scope := fnScope PySem.Challenge.pw_wb0001_03 8, nm := nm3_6, pars := ["peg", "pegs", "second", "last"], li := [some 0, some 1, some 2, some 3], ci := [] }
theorem D3_6 : DfOk df3_6 := .of (by decide +kernel)
noncomputable def full3_6 : Full := fun vs kv => match kv with | none => if vs.length = 4 then some vs else none | some _ => none
noncomputable def nm3_7 : Nm := { scope := fnScope PySem.Challenge.pw_wb0001_03 9, loc := ["row", "what", "fewer", "no_more", "key", "half", "told"], cel := [], glb := ["len", "bisect_left", "bisect_right", "min", "max"], qual := "_law_searched.<locals>.", tab := 1000 }
theorem N3_7 : NmOk nm3_7 := .of (by decide +kernel)
noncomputable def df3_7 : Df := { name := "_law_searched", params := fnArgs PySem.Challenge.pw_wb0001_03 9, body := fnBody PySem.Challenge.pw_wb0001_03 9, scope := fnScope PySem.Challenge.pw_wb0001_03 9, nm := nm3_7, pars := ["row", "what", "fewer", "no_more", "key"], li := [some 0, some 1, some 2, some 3, some 4, none, none], ci := [] }
theorem D3_7 : DfOk df3_7 := .of (by decide +kernel)
noncomputable def full3_7 : Full := fun vs kv => match kv with | none => if vs.length = 5 then some vs else none | some _ => none
noncomputable def nm3_8 : Nm := { scope := fnScope PySem.Challenge.pw_wb0001_03 10, loc := ["script", "most", "pegs", "places", "peg", "told", "turn", "due", "fewer", "no_more"], cel := ["lap", "place", "row", "what", "size", "step"], glb := ["sum", "_law_common", "min", "range", "insort_right", "insort_left", "_law_behind", "sorted", "list", "_law_searched", "len"], qual := "law.<locals>.", tab := 0 }
theorem N3_8 : NmOk nm3_8 := .of (by decide +kernel)
noncomputable def df3_8 : Df := { name := "law", params := fnArgs PySem.Challenge.pw_wb0001_03 10, body := fnBody PySem.Challenge.pw_wb0001_03 10, scope := fnScope PySem.Challenge.pw_wb0001_03 10, nm := nm3_8, pars := ["script"], li := [some 0, none, none, none, none, none, none, none, none, none], ci := [none, none, none, none, none, none] }
theorem D3_8 : DfOk df3_8 := .of (by decide +kernel)
noncomputable def full3_8 : Full := fun vs kv => match kv with | none => if vs.length = 1 then some vs else none | some _ => none
noncomputable def lam3_0 : Lam := { params := lamArgs (sValue (xSt 5 (fnBody PySem.Challenge.pw_wb0001_03 10))), body := lamBody (sValue (xSt 5 (fnBody PySem.Challenge.pw_wb0001_03 10))), scope := lamScope (sValue (xSt 5 (fnBody PySem.Challenge.pw_wb0001_03 10))), qual := "law.<locals>.<lambda>", names := ["step", "size"] }
noncomputable def lnm3_0 : Nm := { scope := lamScope (sValue (xSt 5 (fnBody PySem.Challenge.pw_wb0001_03 10))), loc := ["peg"], cel := ["step", "size"], glb := [], qual := "law.<locals>.<lambda>.<locals>.", tab := 1000 }
theorem lN3_0 : NmOk lnm3_0 := .of (by decide +kernel)
noncomputable def lm3_0 : Xm := mBin fMod (mBin fMul (mLoc 0) (mCel 0)) (mCel 1)
/-- what the walk needs of the top -/
structure G3 (X : Cx) (a : Nat → Addr) : Prop where
  O : XOk X
  OT : XTab X
  mg_0 : X.mg "insort_right" = some (.ref (a 0))
  fn_0 : X.fn 0 = some (a 0)
  at_0 : FnAt X (a 0) df3_0
  bind_0 : BindOk X (a 0) df3_0 full3_0
  mg_1 : X.mg "bisect_right" = some (.ref (a 1))
  fn_1 : X.fn 1 = some (a 1)
  at_1 : FnAt X (a 1) df3_1
  bind_1 : BindOk X (a 1) df3_1 full3_1
  mg_2 : X.mg "insort_left" = some (.ref (a 2))
  fn_2 : X.fn 2 = some (a 2)
  at_2 : FnAt X (a 2) df3_2
  bind_2 : BindOk X (a 2) df3_2 full3_2
  mg_3 : X.mg "bisect_left" = some (.ref (a 3))
  fn_3 : X.fn 3 = some (a 3)
  at_3 : FnAt X (a 3) df3_3
  bind_3 : BindOk X (a 3) df3_3 full3_3
  mg_4 : X.mg "_law_common" = some (.ref (a 4))
  fn_4 : X.fn 4 = some (a 4)
  at_4 : FnAt X (a 4) df3_4
  bind_4 : BindOk X (a 4) df3_4 full3_4
  mg_5 : X.mg "_law_low_refused" = some (.ref (a 5))
  fn_5 : X.fn 5 = some (a 5)
  at_5 : FnAt X (a 5) df3_5
  bind_5 : BindOk X (a 5) df3_5 full3_5
  mg_6 : X.mg "_law_behind" = some (.ref (a 6))
  fn_6 : X.fn 6 = some (a 6)
  at_6 : FnAt X (a 6) df3_6
  bind_6 : BindOk X (a 6) df3_6 full3_6
  mg_7 : X.mg "_law_searched" = some (.ref (a 7))
  fn_7 : X.fn 7 = some (a 7)
  at_7 : FnAt X (a 7) df3_7
  bind_7 : BindOk X (a 7) df3_7 full3_7
  mg_8 : X.mg "law" = some (.ref (a 8))
  fn_8 : X.fn 8 = some (a 8)
  at_8 : FnAt X (a 8) df3_8
  bind_8 : BindOk X (a 8) df3_8 full3_8
  no_ValueError : X.mg "ValueError" = none
  no_len : X.mg "len" = none
  no_list : X.mg "list" = none
  no_max : X.mg "max" = none
  no_min : X.mg "min" = none
  no_range : X.mg "range" = none
  no_sorted : X.mg "sorted" = none
  no_str : X.mg "str" = none
  no_sum : X.mg "sum" = none
  lam_0 : X.lams 0 = some lam3_0
  tabs : X.tabs.length ≤ 1000
  tab_8 : ∃ q, X.tabs[0]? = some q ∧ q.2.2 = ("law.<locals>.<lambda>" : Str)
variable {X : Cx} {φ : List Env} {n : Nat} {a : Nat → Addr}
theorem lamOk3_0 (g : G3 X a) : LamOk X n 0 lam3_0 lnm3_0 "peg" lm3_0 where
  at_ := g.lam_0
  names := lN3_0
  loc := rfl
  cel := rfl
  scope := rfl
  qual := by decide +kernel
  tab := List.getElem?_eq_none (g.tabs)
  co := rfl
  gen := rfl
  nocell := by decide +kernel
  bind := fun _ _ _ _ _ => by rfl
  body := fun φ => RX_bin (RX_bin (RX_loc lN3_0 (i := 0) rfl) (RX_cel lN3_0 (i := 0) rfl) Op2_mul) (RX_cel lN3_0 (i := 1) rfl) Op2_mod
noncomputable def dLam3 : V → Option FCall := fun v => match v with
  | .clo 0 cs => some (loSem lm3_0 cs)
  | _ => none
theorem dLam3_ok (g : G3 X a) (hn : 1 ≤ n) : ∀ v f, dLam3 v = some f → CallV X φ n v f := fun v f e => by
  obtain ⟨m, rfl⟩ : ∃ m, n = m + 1 := ⟨n - 1, by omega⟩
  unfold dLam3 at e
  split at e
  · cases e; exact .of_lam g.O (lamOk3_0 g) _
  · cases e
noncomputable def m3_1_0 : Sm := sIf (mTest (mBin fLt (mLoc 2) (mInt 0))) (sSeq sNo sNil) sNil
theorem s3_1_0 (g : G3 X a) (hn : 1 ≤ n) : RS X φ n nm3_1 (xSt 0 (fnBody PySem.Challenge.pw_wb0001_03 2)) m3_1_0 :=
  RS_if (RB_cmp (RX_loc N3_1 (i := 2) rfl) RX_int Op2_lt) (RSs_cons RS_no RSs_nil) RSs_nil
noncomputable def m3_1_1 : Sm := sIf (mTest (mUn fIsNone (mLoc 3))) (sSeq (sAssign (.loc 3) (mArgs fLen (aCons (mLoc 0) aNil))) sNil) sNil
theorem s3_1_1 (g : G3 X a) (hn : 1 ≤ n) : RS X φ n nm3_1 (xSt 1 (fnBody PySem.Challenge.pw_wb0001_03 2)) m3_1_1 :=
  RS_if (RB_isNone (RX_loc N3_1 (i := 3) rfl)) (RSs_cons (RS_assign N3_1 (t := .loc 3) (RX_bi g.O N3_1 (i := 1) rfl g.no_len Boot.«len» (RXs_cons (RX_loc N3_1 (i := 0) rfl) RXs_nil) OpN_len) rfl) RSs_nil) RSs_nil
noncomputable def m3_1_2 : Sm := sIf (mTest (mUn fIsNone (mLoc 4))) (sSeq (sWhile 1000 (mTest (mBin fLt (mLoc 2) (mLoc 3))) (sSeq (sAssign (.loc 5) (mBin fDiv (mBin fAdd (mLoc 2) (mLoc 3)) (mInt 2))) (sSeq (sIf (mTest (mBin fLt (mLoc 1) (mBin fItem (mLoc 0) (mLoc 5)))) (sSeq (sAssign (.loc 3) (mLoc 5)) sNil) (sSeq (sAssign (.loc 2) (mBin fAdd (mLoc 5) (mInt 1))) sNil)) sNil))) sNil) (sSeq (sWhile 1000 (mTest (mBin fLt (mLoc 2) (mLoc 3))) (sSeq (sAssign (.loc 5) (mBin fDiv (mBin fAdd (mLoc 2) (mLoc 3)) (mInt 2))) (sSeq (sIf (mTest (mBin fLt (mLoc 1) (mCall (mLoc 4) dLam3 (aCons (mBin fItem (mLoc 0) (mLoc 5)) aNil)))) (sSeq (sAssign (.loc 3) (mLoc 5)) sNil) (sSeq (sAssign (.loc 2) (mBin fAdd (mLoc 5) (mInt 1))) sNil)) sNil))) sNil)
theorem s3_1_2 (g : G3 X a) (hn : 1 ≤ n) : RS X φ n nm3_1 (xSt 2 (fnBody PySem.Challenge.pw_wb0001_03 2)) m3_1_2 :=
  RS_if (RB_isNone (RX_loc N3_1 (i := 4) rfl)) (RSs_cons (RS_while (fuel := 1000) (RB_cmp (RX_loc N3_1 (i := 2) rfl) (RX_loc N3_1 (i := 3) rfl) Op2_lt) (RSs_cons (RS_assign N3_1 (t := .loc 5) (RX_bin (RX_bin (RX_loc N3_1 (i := 2) rfl) (RX_loc N3_1 (i := 3) rfl) Op2_add) RX_int Op2_div) rfl) (RSs_cons (RS_if (RB_cmp (RX_loc N3_1 (i := 1) rfl) (RX_item (RX_loc N3_1 (i := 0) rfl) (RX_loc N3_1 (i := 5) rfl)) Op2_lt) (RSs_cons (RS_assign N3_1 (t := .loc 3) (RX_loc N3_1 (i := 5) rfl) rfl) RSs_nil) (RSs_cons (RS_assign N3_1 (t := .loc 2) (RX_bin (RX_loc N3_1 (i := 5) rfl) RX_int Op2_add) rfl) RSs_nil)) RSs_nil))) RSs_nil) (RSs_cons (RS_while (fuel := 1000) (RB_cmp (RX_loc N3_1 (i := 2) rfl) (RX_loc N3_1 (i := 3) rfl) Op2_lt) (RSs_cons (RS_assign N3_1 (t := .loc 5) (RX_bin (RX_bin (RX_loc N3_1 (i := 2) rfl) (RX_loc N3_1 (i := 3) rfl) Op2_add) RX_int Op2_div) rfl) (RSs_cons (RS_if (RB_cmp (RX_loc N3_1 (i := 1) rfl) (RX_call (RX_loc N3_1 (i := 4) rfl) (dLam3_ok g (by omega)) (RXs_cons (RX_item (RX_loc N3_1 (i := 0) rfl) (RX_loc N3_1 (i := 5) rfl)) RXs_nil)) Op2_lt) (RSs_cons (RS_assign N3_1 (t := .loc 3) (RX_loc N3_1 (i := 5) rfl) rfl) RSs_nil) (RSs_cons (RS_assign N3_1 (t := .loc 2) (RX_bin (RX_loc N3_1 (i := 5) rfl) RX_int Op2_add) rfl) RSs_nil)) RSs_nil))) RSs_nil)
noncomputable def m3_1_3 : Sm := sRet (mLoc 2)
theorem s3_1_3 (g : G3 X a) (hn : 1 ≤ n) : RS X φ n nm3_1 (xSt 3 (fnBody PySem.Challenge.pw_wb0001_03 2)) m3_1_3 :=
  RS_ret (RX_loc N3_1 (i := 2) rfl)
noncomputable def body3_1 : Sm := sSeq m3_1_0 (sSeq m3_1_1 (sSeq m3_1_2 (sSeq m3_1_3 sNil)))
theorem walk3_1 (g : G3 X a) (hn : 1 ≤ n) : RSs X φ n nm3_1 (fnBody PySem.Challenge.pw_wb0001_03 2) body3_1 :=
  RSs_cons (s3_1_0 g hn) (RSs_cons (s3_1_1 g hn) (RSs_cons (s3_1_2 g hn) (RSs_cons (s3_1_3 g hn) RSs_nil)))
noncomputable def sem3_1 : FCall := fnSem df3_1 full3_1 kap1 body3_1
theorem call3_1 (g : G3 X a) (hn : 2 ≤ n) : CallOk X φ n (a 1) sem3_1 := by
  obtain ⟨m, rfl⟩ : ∃ m, n = m + 1 := ⟨n - 1, by omega⟩
  exact FnOk g.O D3_1 g.at_1 g.bind_1 fun env => walk3_1 g (by omega)
noncomputable def bodyE3_1 : Em := eIf (mTest (mBin fLt (mLoc 2) (mInt 0))) (eRaise "lo must be non-negative") eNo
theorem walkE3_1 (g : G3 X a) (hn : 1 ≤ n) : RSsE X φ n nm3_1 (fnBody PySem.Challenge.pw_wb0001_03 2) bodyE3_1 :=
  RSsE_head (RSE_if (RB_cmp (RX_loc N3_1 (i := 2) rfl) RX_int Op2_lt) (RSsE_head (RSE_raise g.O N3_1 (i := 0) rfl rfl g.no_ValueError)) RSsE_nil)
noncomputable def semE3_1 : FCallE := fnSemE df3_1 full3_1 bodyE3_1
theorem callE3_1 (g : G3 X a) (hn : 2 ≤ n) : CallE X φ n (a 1) semE3_1 := by
  obtain ⟨m, rfl⟩ : ∃ m, n = m + 1 := ⟨n - 1, by omega⟩
  exact FnOkE g.O D3_1 g.at_1 g.bind_1 fun env => walkE3_1 g (by omega)
noncomputable def m3_0_0 : Sm := sIf (mTest (mUn fIsNone (mLoc 4))) (sSeq (sAssign (.loc 2) (mCall (mFn 1) (dFn 1 sem3_1) (aCons (mLoc 0) (aCons (mLoc 1) (aCons (mLoc 2) (aCons (mLoc 3) aNil)))))) sNil) (sSeq (sAssign (.loc 2) (mCallK (mFn 1) (dFn 1 sem3_1) (aCons (mLoc 0) (aCons (mCall (mLoc 4) dLam3 (aCons (mLoc 1) aNil)) (aCons (mLoc 2) (aCons (mLoc 3) aNil)))) (mLoc 4))) sNil)
theorem s3_0_0 (g : G3 X a) (hn : 2 ≤ n) : RS X φ n nm3_0 (xSt 0 (fnBody PySem.Challenge.pw_wb0001_03 1)) m3_0_0 :=
  RS_if (RB_isNone (RX_loc N3_0 (i := 4) rfl)) (RSs_cons (RS_assign N3_0 (t := .loc 2) (RX_call (RX_fn g.O N3_0 (i := 0) rfl g.mg_1 g.fn_1) (dFn_ok g.fn_1 g.at_1 (call3_1 g (by omega))) (RXs_cons (RX_loc N3_0 (i := 0) rfl) (RXs_cons (RX_loc N3_0 (i := 1) rfl) (RXs_cons (RX_loc N3_0 (i := 2) rfl) (RXs_cons (RX_loc N3_0 (i := 3) rfl) RXs_nil))))) rfl) RSs_nil) (RSs_cons (RS_assign N3_0 (t := .loc 2) (RX_callK (RX_fn g.O N3_0 (i := 0) rfl g.mg_1 g.fn_1) (dFn_ok g.fn_1 g.at_1 (call3_1 g (by omega))) (RXs_cons (RX_loc N3_0 (i := 0) rfl) (RXs_cons (RX_call (RX_loc N3_0 (i := 4) rfl) (dLam3_ok g (by omega)) (RXs_cons (RX_loc N3_0 (i := 1) rfl) RXs_nil)) (RXs_cons (RX_loc N3_0 (i := 2) rfl) (RXs_cons (RX_loc N3_0 (i := 3) rfl) RXs_nil)))) (RX_loc N3_0 (i := 4) rfl)) rfl) RSs_nil)
noncomputable def m3_0_1 : Sm := sExpr (mMeth fInsert (mLoc 0) (aCons (mLoc 2) (aCons (mLoc 1) aNil)))
theorem s3_0_1 (g : G3 X a) (hn : 2 ≤ n) : RS X φ n nm3_0 (xSt 1 (fnBody PySem.Challenge.pw_wb0001_03 1)) m3_0_1 :=
  RS_expr N3_0 (RX_meth LM_insert (RX_loc N3_0 (i := 0) rfl) (RXs_cons (RX_loc N3_0 (i := 2) rfl) (RXs_cons (RX_loc N3_0 (i := 1) rfl) RXs_nil)) OpN_insert)
noncomputable def body3_0 : Sm := sSeq m3_0_0 (sSeq m3_0_1 sNil)
theorem walk3_0 (g : G3 X a) (hn : 2 ≤ n) : RSs X φ n nm3_0 (fnBody PySem.Challenge.pw_wb0001_03 1) body3_0 :=
  RSs_cons (s3_0_0 g hn) (RSs_cons (s3_0_1 g hn) RSs_nil)
noncomputable def sem3_0 : FCall := fnSem df3_0 full3_0 kap1 body3_0
theorem call3_0 (g : G3 X a) (hn : 3 ≤ n) : CallOk X φ n (a 0) sem3_0 := by
  obtain ⟨m, rfl⟩ : ∃ m, n = m + 1 := ⟨n - 1, by omega⟩
  exact FnOk g.O D3_0 g.at_0 g.bind_0 fun env => walk3_0 g (by omega)
noncomputable def bodyE3_0 : Em := eIf (mTest (mUn fIsNone (mLoc 4))) (eCall (mFn 1) (dFnE 1 semE3_1) (aCons (mLoc 0) (aCons (mLoc 1) (aCons (mLoc 2) (aCons (mLoc 3) aNil))))) (eCallK (mFn 1) (dFnE 1 semE3_1) (aCons (mLoc 0) (aCons (mCall (mLoc 4) dLam3 (aCons (mLoc 1) aNil)) (aCons (mLoc 2) (aCons (mLoc 3) aNil)))) (mLoc 4))
theorem walkE3_0 (g : G3 X a) (hn : 2 ≤ n) : RSsE X φ n nm3_0 (fnBody PySem.Challenge.pw_wb0001_03 1) bodyE3_0 :=
  RSsE_head (RSE_if (RB_isNone (RX_loc N3_0 (i := 4) rfl)) (RSsE_head (RSE_assign (RXE_call (RX_fn g.O N3_0 (i := 0) rfl g.mg_1 g.fn_1) (dFnE_ok g.fn_1 g.at_1 (callE3_1 g (by omega))) (RXs_cons (RX_loc N3_0 (i := 0) rfl) (RXs_cons (RX_loc N3_0 (i := 1) rfl) (RXs_cons (RX_loc N3_0 (i := 2) rfl) (RXs_cons (RX_loc N3_0 (i := 3) rfl) RXs_nil))))))) (RSsE_head (RSE_assign (RXE_callK (RX_fn g.O N3_0 (i := 0) rfl g.mg_1 g.fn_1) (dFnE_ok g.fn_1 g.at_1 (callE3_1 g (by omega))) (RXs_cons (RX_loc N3_0 (i := 0) rfl) (RXs_cons (RX_call (RX_loc N3_0 (i := 4) rfl) (dLam3_ok g (by omega)) (RXs_cons (RX_loc N3_0 (i := 1) rfl) RXs_nil)) (RXs_cons (RX_loc N3_0 (i := 2) rfl) (RXs_cons (RX_loc N3_0 (i := 3) rfl) RXs_nil)))) (RX_loc N3_0 (i := 4) rfl)))))
noncomputable def semE3_0 : FCallE := fnSemE df3_0 full3_0 bodyE3_0
theorem callE3_0 (g : G3 X a) (hn : 3 ≤ n) : CallE X φ n (a 0) semE3_0 := by
  obtain ⟨m, rfl⟩ : ∃ m, n = m + 1 := ⟨n - 1, by omega⟩
  exact FnOkE g.O D3_0 g.at_0 g.bind_0 fun env => walkE3_0 g (by omega)
noncomputable def m3_3_0 : Sm := sIf (mTest (mBin fLt (mLoc 2) (mInt 0))) (sSeq sNo sNil) sNil
theorem s3_3_0 (g : G3 X a) (hn : 1 ≤ n) : RS X φ n nm3_3 (xSt 0 (fnBody PySem.Challenge.pw_wb0001_03 4)) m3_3_0 :=
  RS_if (RB_cmp (RX_loc N3_3 (i := 2) rfl) RX_int Op2_lt) (RSs_cons RS_no RSs_nil) RSs_nil
noncomputable def m3_3_1 : Sm := sIf (mTest (mUn fIsNone (mLoc 3))) (sSeq (sAssign (.loc 3) (mArgs fLen (aCons (mLoc 0) aNil))) sNil) sNil
theorem s3_3_1 (g : G3 X a) (hn : 1 ≤ n) : RS X φ n nm3_3 (xSt 1 (fnBody PySem.Challenge.pw_wb0001_03 4)) m3_3_1 :=
  RS_if (RB_isNone (RX_loc N3_3 (i := 3) rfl)) (RSs_cons (RS_assign N3_3 (t := .loc 3) (RX_bi g.O N3_3 (i := 1) rfl g.no_len Boot.«len» (RXs_cons (RX_loc N3_3 (i := 0) rfl) RXs_nil) OpN_len) rfl) RSs_nil) RSs_nil
noncomputable def m3_3_2 : Sm := sIf (mTest (mUn fIsNone (mLoc 4))) (sSeq (sWhile 1000 (mTest (mBin fLt (mLoc 2) (mLoc 3))) (sSeq (sAssign (.loc 5) (mBin fDiv (mBin fAdd (mLoc 2) (mLoc 3)) (mInt 2))) (sSeq (sIf (mTest (mBin fLt (mBin fItem (mLoc 0) (mLoc 5)) (mLoc 1))) (sSeq (sAssign (.loc 2) (mBin fAdd (mLoc 5) (mInt 1))) sNil) (sSeq (sAssign (.loc 3) (mLoc 5)) sNil)) sNil))) sNil) (sSeq (sWhile 1000 (mTest (mBin fLt (mLoc 2) (mLoc 3))) (sSeq (sAssign (.loc 5) (mBin fDiv (mBin fAdd (mLoc 2) (mLoc 3)) (mInt 2))) (sSeq (sIf (mTest (mBin fLt (mCall (mLoc 4) dLam3 (aCons (mBin fItem (mLoc 0) (mLoc 5)) aNil)) (mLoc 1))) (sSeq (sAssign (.loc 2) (mBin fAdd (mLoc 5) (mInt 1))) sNil) (sSeq (sAssign (.loc 3) (mLoc 5)) sNil)) sNil))) sNil)
theorem s3_3_2 (g : G3 X a) (hn : 1 ≤ n) : RS X φ n nm3_3 (xSt 2 (fnBody PySem.Challenge.pw_wb0001_03 4)) m3_3_2 :=
  RS_if (RB_isNone (RX_loc N3_3 (i := 4) rfl)) (RSs_cons (RS_while (fuel := 1000) (RB_cmp (RX_loc N3_3 (i := 2) rfl) (RX_loc N3_3 (i := 3) rfl) Op2_lt) (RSs_cons (RS_assign N3_3 (t := .loc 5) (RX_bin (RX_bin (RX_loc N3_3 (i := 2) rfl) (RX_loc N3_3 (i := 3) rfl) Op2_add) RX_int Op2_div) rfl) (RSs_cons (RS_if (RB_cmp (RX_item (RX_loc N3_3 (i := 0) rfl) (RX_loc N3_3 (i := 5) rfl)) (RX_loc N3_3 (i := 1) rfl) Op2_lt) (RSs_cons (RS_assign N3_3 (t := .loc 2) (RX_bin (RX_loc N3_3 (i := 5) rfl) RX_int Op2_add) rfl) RSs_nil) (RSs_cons (RS_assign N3_3 (t := .loc 3) (RX_loc N3_3 (i := 5) rfl) rfl) RSs_nil)) RSs_nil))) RSs_nil) (RSs_cons (RS_while (fuel := 1000) (RB_cmp (RX_loc N3_3 (i := 2) rfl) (RX_loc N3_3 (i := 3) rfl) Op2_lt) (RSs_cons (RS_assign N3_3 (t := .loc 5) (RX_bin (RX_bin (RX_loc N3_3 (i := 2) rfl) (RX_loc N3_3 (i := 3) rfl) Op2_add) RX_int Op2_div) rfl) (RSs_cons (RS_if (RB_cmp (RX_call (RX_loc N3_3 (i := 4) rfl) (dLam3_ok g (by omega)) (RXs_cons (RX_item (RX_loc N3_3 (i := 0) rfl) (RX_loc N3_3 (i := 5) rfl)) RXs_nil)) (RX_loc N3_3 (i := 1) rfl) Op2_lt) (RSs_cons (RS_assign N3_3 (t := .loc 2) (RX_bin (RX_loc N3_3 (i := 5) rfl) RX_int Op2_add) rfl) RSs_nil) (RSs_cons (RS_assign N3_3 (t := .loc 3) (RX_loc N3_3 (i := 5) rfl) rfl) RSs_nil)) RSs_nil))) RSs_nil)
noncomputable def m3_3_3 : Sm := sRet (mLoc 2)
theorem s3_3_3 (g : G3 X a) (hn : 1 ≤ n) : RS X φ n nm3_3 (xSt 3 (fnBody PySem.Challenge.pw_wb0001_03 4)) m3_3_3 :=
  RS_ret (RX_loc N3_3 (i := 2) rfl)
noncomputable def body3_3 : Sm := sSeq m3_3_0 (sSeq m3_3_1 (sSeq m3_3_2 (sSeq m3_3_3 sNil)))
theorem walk3_3 (g : G3 X a) (hn : 1 ≤ n) : RSs X φ n nm3_3 (fnBody PySem.Challenge.pw_wb0001_03 4) body3_3 :=
  RSs_cons (s3_3_0 g hn) (RSs_cons (s3_3_1 g hn) (RSs_cons (s3_3_2 g hn) (RSs_cons (s3_3_3 g hn) RSs_nil)))
noncomputable def sem3_3 : FCall := fnSem df3_3 full3_3 kap1 body3_3
theorem call3_3 (g : G3 X a) (hn : 2 ≤ n) : CallOk X φ n (a 3) sem3_3 := by
  obtain ⟨m, rfl⟩ : ∃ m, n = m + 1 := ⟨n - 1, by omega⟩
  exact FnOk g.O D3_3 g.at_3 g.bind_3 fun env => walk3_3 g (by omega)
noncomputable def bodyE3_3 : Em := eIf (mTest (mBin fLt (mLoc 2) (mInt 0))) (eRaise "lo must be non-negative") eNo
theorem walkE3_3 (g : G3 X a) (hn : 1 ≤ n) : RSsE X φ n nm3_3 (fnBody PySem.Challenge.pw_wb0001_03 4) bodyE3_3 :=
  RSsE_head (RSE_if (RB_cmp (RX_loc N3_3 (i := 2) rfl) RX_int Op2_lt) (RSsE_head (RSE_raise g.O N3_3 (i := 0) rfl rfl g.no_ValueError)) RSsE_nil)
noncomputable def semE3_3 : FCallE := fnSemE df3_3 full3_3 bodyE3_3
theorem callE3_3 (g : G3 X a) (hn : 2 ≤ n) : CallE X φ n (a 3) semE3_3 := by
  obtain ⟨m, rfl⟩ : ∃ m, n = m + 1 := ⟨n - 1, by omega⟩
  exact FnOkE g.O D3_3 g.at_3 g.bind_3 fun env => walkE3_3 g (by omega)
noncomputable def m3_2_0 : Sm := sIf (mTest (mUn fIsNone (mLoc 4))) (sSeq (sAssign (.loc 2) (mCall (mFn 3) (dFn 3 sem3_3) (aCons (mLoc 0) (aCons (mLoc 1) (aCons (mLoc 2) (aCons (mLoc 3) aNil)))))) sNil) (sSeq (sAssign (.loc 2) (mCallK (mFn 3) (dFn 3 sem3_3) (aCons (mLoc 0) (aCons (mCall (mLoc 4) dLam3 (aCons (mLoc 1) aNil)) (aCons (mLoc 2) (aCons (mLoc 3) aNil)))) (mLoc 4))) sNil)
theorem s3_2_0 (g : G3 X a) (hn : 2 ≤ n) : RS X φ n nm3_2 (xSt 0 (fnBody PySem.Challenge.pw_wb0001_03 3)) m3_2_0 :=
  RS_if (RB_isNone (RX_loc N3_2 (i := 4) rfl)) (RSs_cons (RS_assign N3_2 (t := .loc 2) (RX_call (RX_fn g.O N3_2 (i := 0) rfl g.mg_3 g.fn_3) (dFn_ok g.fn_3 g.at_3 (call3_3 g (by omega))) (RXs_cons (RX_loc N3_2 (i := 0) rfl) (RXs_cons (RX_loc N3_2 (i := 1) rfl) (RXs_cons (RX_loc N3_2 (i := 2) rfl) (RXs_cons (RX_loc N3_2 (i := 3) rfl) RXs_nil))))) rfl) RSs_nil) (RSs_cons (RS_assign N3_2 (t := .loc 2) (RX_callK (RX_fn g.O N3_2 (i := 0) rfl g.mg_3 g.fn_3) (dFn_ok g.fn_3 g.at_3 (call3_3 g (by omega))) (RXs_cons (RX_loc N3_2 (i := 0) rfl) (RXs_cons (RX_call (RX_loc N3_2 (i := 4) rfl) (dLam3_ok g (by omega)) (RXs_cons (RX_loc N3_2 (i := 1) rfl) RXs_nil)) (RXs_cons (RX_loc N3_2 (i := 2) rfl) (RXs_cons (RX_loc N3_2 (i := 3) rfl) RXs_nil)))) (RX_loc N3_2 (i := 4) rfl)) rfl) RSs_nil)
noncomputable def m3_2_1 : Sm := sExpr (mMeth fInsert (mLoc 0) (aCons (mLoc 2) (aCons (mLoc 1) aNil)))
theorem s3_2_1 (g : G3 X a) (hn : 2 ≤ n) : RS X φ n nm3_2 (xSt 1 (fnBody PySem.Challenge.pw_wb0001_03 3)) m3_2_1 :=
  RS_expr N3_2 (RX_meth LM_insert (RX_loc N3_2 (i := 0) rfl) (RXs_cons (RX_loc N3_2 (i := 2) rfl) (RXs_cons (RX_loc N3_2 (i := 1) rfl) RXs_nil)) OpN_insert)
noncomputable def body3_2 : Sm := sSeq m3_2_0 (sSeq m3_2_1 sNil)
theorem walk3_2 (g : G3 X a) (hn : 2 ≤ n) : RSs X φ n nm3_2 (fnBody PySem.Challenge.pw_wb0001_03 3) body3_2 :=
  RSs_cons (s3_2_0 g hn) (RSs_cons (s3_2_1 g hn) RSs_nil)
noncomputable def sem3_2 : FCall := fnSem df3_2 full3_2 kap1 body3_2
theorem call3_2 (g : G3 X a) (hn : 3 ≤ n) : CallOk X φ n (a 2) sem3_2 := by
  obtain ⟨m, rfl⟩ : ∃ m, n = m + 1 := ⟨n - 1, by omega⟩
  exact FnOk g.O D3_2 g.at_2 g.bind_2 fun env => walk3_2 g (by omega)
noncomputable def bodyE3_2 : Em := eIf (mTest (mUn fIsNone (mLoc 4))) (eCall (mFn 3) (dFnE 3 semE3_3) (aCons (mLoc 0) (aCons (mLoc 1) (aCons (mLoc 2) (aCons (mLoc 3) aNil))))) (eCallK (mFn 3) (dFnE 3 semE3_3) (aCons (mLoc 0) (aCons (mCall (mLoc 4) dLam3 (aCons (mLoc 1) aNil)) (aCons (mLoc 2) (aCons (mLoc 3) aNil)))) (mLoc 4))
theorem walkE3_2 (g : G3 X a) (hn : 2 ≤ n) : RSsE X φ n nm3_2 (fnBody PySem.Challenge.pw_wb0001_03 3) bodyE3_2 :=
  RSsE_head (RSE_if (RB_isNone (RX_loc N3_2 (i := 4) rfl)) (RSsE_head (RSE_assign (RXE_call (RX_fn g.O N3_2 (i := 0) rfl g.mg_3 g.fn_3) (dFnE_ok g.fn_3 g.at_3 (callE3_3 g (by omega))) (RXs_cons (RX_loc N3_2 (i := 0) rfl) (RXs_cons (RX_loc N3_2 (i := 1) rfl) (RXs_cons (RX_loc N3_2 (i := 2) rfl) (RXs_cons (RX_loc N3_2 (i := 3) rfl) RXs_nil))))))) (RSsE_head (RSE_assign (RXE_callK (RX_fn g.O N3_2 (i := 0) rfl g.mg_3 g.fn_3) (dFnE_ok g.fn_3 g.at_3 (callE3_3 g (by omega))) (RXs_cons (RX_loc N3_2 (i := 0) rfl) (RXs_cons (RX_call (RX_loc N3_2 (i := 4) rfl) (dLam3_ok g (by omega)) (RXs_cons (RX_loc N3_2 (i := 1) rfl) RXs_nil)) (RXs_cons (RX_loc N3_2 (i := 2) rfl) (RXs_cons (RX_loc N3_2 (i := 3) rfl) RXs_nil)))) (RX_loc N3_2 (i := 4) rfl)))))
noncomputable def semE3_2 : FCallE := fnSemE df3_2 full3_2 bodyE3_2
theorem callE3_2 (g : G3 X a) (hn : 3 ≤ n) : CallE X φ n (a 2) semE3_2 := by
  obtain ⟨m, rfl⟩ : ∃ m, n = m + 1 := ⟨n - 1, by omega⟩
  exact FnOkE g.O D3_2 g.at_2 g.bind_2 fun env => walkE3_2 g (by omega)
noncomputable def m3_4_0 : Sm := sWhile 1000 (mTest (mBin fNeI (mLoc 1) (mInt 0))) (sSeq (sSwap [.loc 0, .loc 1] (mTup (aCons (mLoc 1) (aCons (mBin fMod (mLoc 0) (mLoc 1)) aNil)))) sNil)
theorem s3_4_0 (g : G3 X a) (hn : 0 ≤ n) : RS X φ n nm3_4 (xSt 0 (fnBody PySem.Challenge.pw_wb0001_03 6)) m3_4_0 :=
  RS_while (fuel := 1000) (RB_cmp (RX_loc N3_4 (i := 1) rfl) RX_int Op2_neI) (RSs_cons (RS_swap N3_4 (xs := ["one", "two"]) (ts := [.loc 0, .loc 1]) (RX_tup (RXs_cons (RX_loc N3_4 (i := 1) rfl) (RXs_cons (RX_bin (RX_loc N3_4 (i := 0) rfl) (RX_loc N3_4 (i := 1) rfl) Op2_mod) RXs_nil))) (.cons rfl (.cons rfl .nil)) (by rintro ⟨⟩ rfl; rfl)) RSs_nil)
noncomputable def m3_4_1 : Sm := sRet (mLoc 0)
theorem s3_4_1 (g : G3 X a) (hn : 0 ≤ n) : RS X φ n nm3_4 (xSt 1 (fnBody PySem.Challenge.pw_wb0001_03 6)) m3_4_1 :=
  RS_ret (RX_loc N3_4 (i := 0) rfl)
noncomputable def body3_4 : Sm := sSeq m3_4_0 (sSeq m3_4_1 sNil)
theorem walk3_4 (g : G3 X a) (hn : 0 ≤ n) : RSs X φ n nm3_4 (fnBody PySem.Challenge.pw_wb0001_03 6) body3_4 :=
  RSs_cons (s3_4_0 g hn) (RSs_cons (s3_4_1 g hn) RSs_nil)
noncomputable def sem3_4 : FCall := fnSem df3_4 full3_4 kap1 body3_4
theorem call3_4 (g : G3 X a) (hn : 1 ≤ n) : CallOk X φ n (a 4) sem3_4 := by
  obtain ⟨m, rfl⟩ : ∃ m, n = m + 1 := ⟨n - 1, by omega⟩
  exact FnOk g.O D3_4 g.at_4 g.bind_4 fun env => walk3_4 g (by omega)
noncomputable def m3_5_0 : Sm := sAssign (.loc 3) (mArgs fListL (aCons (mLoc 1) aNil))
theorem s3_5_0 (g : G3 X a) (hn : 3 ≤ n) : RS X φ n nm3_5 (xSt 0 (fnBody PySem.Challenge.pw_wb0001_03 7)) m3_5_0 :=
  RS_assign N3_5 (t := .loc 3) (RX_ty g.O N3_5 (i := 0) rfl g.no_list Boot.«list» (RXs_cons (RX_loc N3_5 (i := 1) rfl) RXs_nil) OpN_list) rfl
noncomputable def m3_5_1 : Sm := sTry (eIf (mTest (mBin fEqI (mLoc 0) (mInt 0))) (eCallK (mFn 3) (dFnE 3 semE3_3) (aCons (mLoc 1) (aCons (mInt 0) (aCons (mUn fNeg (mInt 1)) aNil))) (mLoc 2)) (eIf (mTest (mBin fEqI (mLoc 0) (mInt 1))) (eCallK (mFn 1) (dFnE 1 semE3_1) (aCons (mLoc 1) (aCons (mInt 0) (aCons (mUn fNeg (mInt 1)) aNil))) (mLoc 2)) (eIf (mTest (mBin fEqI (mLoc 0) (mInt 2))) (eCallK (mFn 2) (dFnE 2 semE3_2) (aCons (mLoc 1) (aCons (mInt 0) (aCons (mUn fNeg (mInt 1)) aNil))) (mLoc 2)) (eCallK (mFn 0) (dFnE 0 semE3_0) (aCons (mLoc 1) (aCons (mInt 0) (aCons (mUn fNeg (mInt 1)) aNil))) (mLoc 2))))) (gRetAnd "lo must be non-negative" (accLoc 1) (accLoc 3))
theorem s3_5_1 (g : G3 X a) (hn : 3 ≤ n) : RS X φ n nm3_5 (xSt 1 (fnBody PySem.Challenge.pw_wb0001_03 7)) m3_5_1 :=
  RS_try g.O N3_5 (i := 5) (by decide) rfl rfl g.no_ValueError (RSsE_head (RSE_if (RB_cmp (RX_loc N3_5 (i := 0) rfl) RX_int Op2_eqI) (RSsE_head (RSE_expr N3_5 (RXE_callK (RX_fn g.O N3_5 (i := 1) rfl g.mg_3 g.fn_3) (dFnE_ok g.fn_3 g.at_3 (callE3_3 g (by omega))) (RXs_cons (RX_loc N3_5 (i := 1) rfl) (RXs_cons RX_int (RXs_cons (RX_un RX_int Op1_neg) RXs_nil))) (RX_loc N3_5 (i := 2) rfl)))) (RSsE_head (RSE_if (RB_cmp (RX_loc N3_5 (i := 0) rfl) RX_int Op2_eqI) (RSsE_head (RSE_expr N3_5 (RXE_callK (RX_fn g.O N3_5 (i := 2) rfl g.mg_1 g.fn_1) (dFnE_ok g.fn_1 g.at_1 (callE3_1 g (by omega))) (RXs_cons (RX_loc N3_5 (i := 1) rfl) (RXs_cons RX_int (RXs_cons (RX_un RX_int Op1_neg) RXs_nil))) (RX_loc N3_5 (i := 2) rfl)))) (RSsE_head (RSE_if (RB_cmp (RX_loc N3_5 (i := 0) rfl) RX_int Op2_eqI) (RSsE_head (RSE_expr N3_5 (RXE_callK (RX_fn g.O N3_5 (i := 3) rfl g.mg_2 g.fn_2) (dFnE_ok g.fn_2 g.at_2 (callE3_2 g (by omega))) (RXs_cons (RX_loc N3_5 (i := 1) rfl) (RXs_cons RX_int (RXs_cons (RX_un RX_int Op1_neg) RXs_nil))) (RX_loc N3_5 (i := 2) rfl)))) (RSsE_head (RSE_expr N3_5 (RXE_callK (RX_fn g.O N3_5 (i := 4) rfl g.mg_0 g.fn_0) (dFnE_ok g.fn_0 g.at_0 (callE3_0 g (by omega))) (RXs_cons (RX_loc N3_5 (i := 1) rfl) (RXs_cons RX_int (RXs_cons (RX_un RX_int Op1_neg) RXs_nil))) (RX_loc N3_5 (i := 2) rfl)))))))))) (RH_retAnd g.O N3_5 (i := 6) rfl (by decide) rfl g.no_str (by decide +kernel) (RX0_loc N3_5 (i := 1) rfl) (RX0_loc N3_5 (i := 3) rfl))
noncomputable def m3_5_2 : Sm := sRet (mBool false)
theorem s3_5_2 (g : G3 X a) (hn : 3 ≤ n) : RS X φ n nm3_5 (xSt 2 (fnBody PySem.Challenge.pw_wb0001_03 7)) m3_5_2 :=
  RS_ret RX_bool
noncomputable def body3_5 : Sm := sSeq m3_5_0 (sSeq m3_5_1 (sSeq m3_5_2 sNil))
theorem walk3_5 (g : G3 X a) (hn : 3 ≤ n) : RSs X φ n nm3_5 (fnBody PySem.Challenge.pw_wb0001_03 7) body3_5 :=
  RSs_cons (s3_5_0 g hn) (RSs_cons (s3_5_1 g hn) (RSs_cons (s3_5_2 g hn) RSs_nil))
noncomputable def sem3_5 : FCall := fnSem df3_5 full3_5 kap1 body3_5
theorem call3_5 (g : G3 X a) (hn : 4 ≤ n) : CallOk X φ n (a 5) sem3_5 := by
  obtain ⟨m, rfl⟩ : ∃ m, n = m + 1 := ⟨n - 1, by omega⟩
  exact FnOk g.O D3_5 g.at_5 g.bind_5 fun env => walk3_5 g (by omega)
noncomputable def m3_6_0 : Sm := sIf (mTest (mBin fLt (mLoc 0) (mBin fSub (mLoc 1) (mLoc 2)))) (sSeq (sRet (mBin fAdd (mLoc 0) (mLoc 2))) sNil) sNil
theorem s3_6_0 (g : G3 X a) (hn : 0 ≤ n) : RS X φ n nm3_6 (xSt 0 (fnBody PySem.Challenge.pw_wb0001_03 8)) m3_6_0 :=
  RS_if (RB_cmp (RX_loc N3_6 (i := 0) rfl) (RX_bin (RX_loc N3_6 (i := 1) rfl) (RX_loc N3_6 (i := 2) rfl) Op2_sub) Op2_lt) (RSs_cons (RS_ret (RX_bin (RX_loc N3_6 (i := 0) rfl) (RX_loc N3_6 (i := 2) rfl) Op2_add)) RSs_nil) RSs_nil
noncomputable def m3_6_1 : Sm := sRet (mIf (mTest (mBin fLt (mLoc 0) (mLoc 3))) (mBin fSub (mBin fAdd (mLoc 0) (mLoc 2)) (mLoc 3)) (mBin fSub (mLoc 0) (mLoc 3)))
theorem s3_6_1 (g : G3 X a) (hn : 0 ≤ n) : RS X φ n nm3_6 (xSt 1 (fnBody PySem.Challenge.pw_wb0001_03 8)) m3_6_1 :=
  RS_ret (RX_ifexp (RB_cmp (RX_loc N3_6 (i := 0) rfl) (RX_loc N3_6 (i := 3) rfl) Op2_lt) (RX_bin (RX_bin (RX_loc N3_6 (i := 0) rfl) (RX_loc N3_6 (i := 2) rfl) Op2_add) (RX_loc N3_6 (i := 3) rfl) Op2_sub) (RX_bin (RX_loc N3_6 (i := 0) rfl) (RX_loc N3_6 (i := 3) rfl) Op2_sub))
noncomputable def body3_6 : Sm := sSeq m3_6_0 (sSeq m3_6_1 sNil)
theorem walk3_6 (g : G3 X a) (hn : 0 ≤ n) : RSs X φ n nm3_6 (fnBody PySem.Challenge.pw_wb0001_03 8) body3_6 :=
  RSs_cons (s3_6_0 g hn) (RSs_cons (s3_6_1 g hn) RSs_nil)
noncomputable def sem3_6 : FCall := fnSem df3_6 full3_6 kap1 body3_6
theorem call3_6 (g : G3 X a) (hn : 1 ≤ n) : CallOk X φ n (a 6) sem3_6 := by
  obtain ⟨m, rfl⟩ : ∃ m, n = m + 1 := ⟨n - 1, by omega⟩
  exact FnOk g.O D3_6 g.at_6 g.bind_6 fun env => walk3_6 g (by omega)
noncomputable def m3_7_0 : Sm := sAssign (.loc 5) (mBin fDiv (mArgs fLen (aCons (mLoc 0) aNil)) (mInt 2))
theorem s3_7_0 (g : G3 X a) (hn : 2 ≤ n) : RS X φ n nm3_7 (xSt 0 (fnBody PySem.Challenge.pw_wb0001_03 9)) m3_7_0 :=
  RS_assign N3_7 (t := .loc 5) (RX_bin (RX_bi g.O N3_7 (i := 0) rfl g.no_len Boot.«len» (RXs_cons (RX_loc N3_7 (i := 0) rfl) RXs_nil) OpN_len) RX_int Op2_div) rfl
noncomputable def m3_7_1 : Sm := sAssign (.loc 6) (mList (aCons (mCallK (mFn 3) (dFn 3 sem3_3) (aCons (mLoc 0) (aCons (mLoc 1) aNil)) (mLoc 4)) (aCons (mCallK (mFn 3) (dFn 3 sem3_3) (aCons (mLoc 0) (aCons (mLoc 1) (aCons (mInt 0) (aCons (mLoc 5) aNil)))) (mLoc 4)) (aCons (mCallK (mFn 3) (dFn 3 sem3_3) (aCons (mLoc 0) (aCons (mLoc 1) (aCons (mLoc 5) aNil))) (mLoc 4)) aNil))))
theorem s3_7_1 (g : G3 X a) (hn : 2 ≤ n) : RS X φ n nm3_7 (xSt 1 (fnBody PySem.Challenge.pw_wb0001_03 9)) m3_7_1 :=
  RS_assign N3_7 (t := .loc 6) (RX_list (RXs_cons (RX_callK (RX_fn g.O N3_7 (i := 1) rfl g.mg_3 g.fn_3) (dFn_ok g.fn_3 g.at_3 (call3_3 g (by omega))) (RXs_cons (RX_loc N3_7 (i := 0) rfl) (RXs_cons (RX_loc N3_7 (i := 1) rfl) RXs_nil)) (RX_loc N3_7 (i := 4) rfl)) (RXs_cons (RX_callK (RX_fn g.O N3_7 (i := 1) rfl g.mg_3 g.fn_3) (dFn_ok g.fn_3 g.at_3 (call3_3 g (by omega))) (RXs_cons (RX_loc N3_7 (i := 0) rfl) (RXs_cons (RX_loc N3_7 (i := 1) rfl) (RXs_cons RX_int (RXs_cons (RX_loc N3_7 (i := 5) rfl) RXs_nil)))) (RX_loc N3_7 (i := 4) rfl)) (RXs_cons (RX_callK (RX_fn g.O N3_7 (i := 1) rfl g.mg_3 g.fn_3) (dFn_ok g.fn_3 g.at_3 (call3_3 g (by omega))) (RXs_cons (RX_loc N3_7 (i := 0) rfl) (RXs_cons (RX_loc N3_7 (i := 1) rfl) (RXs_cons (RX_loc N3_7 (i := 5) rfl) RXs_nil))) (RX_loc N3_7 (i := 4) rfl)) RXs_nil)))) rfl
noncomputable def m3_7_2 : Sm := sExpr (mMeth fExtend (mLoc 6) (aCons (mList (aCons (mCallK (mFn 1) (dFn 1 sem3_1) (aCons (mLoc 0) (aCons (mLoc 1) aNil)) (mLoc 4)) (aCons (mCallK (mFn 1) (dFn 1 sem3_1) (aCons (mLoc 0) (aCons (mLoc 1) (aCons (mInt 0) (aCons (mLoc 5) aNil)))) (mLoc 4)) (aCons (mCallK (mFn 1) (dFn 1 sem3_1) (aCons (mLoc 0) (aCons (mLoc 1) (aCons (mLoc 5) aNil))) (mLoc 4)) aNil)))) aNil))
theorem s3_7_2 (g : G3 X a) (hn : 2 ≤ n) : RS X φ n nm3_7 (xSt 2 (fnBody PySem.Challenge.pw_wb0001_03 9)) m3_7_2 :=
  RS_expr N3_7 (RX_meth LM_extend (RX_loc N3_7 (i := 6) rfl) (RXs_cons (RX_list (RXs_cons (RX_callK (RX_fn g.O N3_7 (i := 2) rfl g.mg_1 g.fn_1) (dFn_ok g.fn_1 g.at_1 (call3_1 g (by omega))) (RXs_cons (RX_loc N3_7 (i := 0) rfl) (RXs_cons (RX_loc N3_7 (i := 1) rfl) RXs_nil)) (RX_loc N3_7 (i := 4) rfl)) (RXs_cons (RX_callK (RX_fn g.O N3_7 (i := 2) rfl g.mg_1 g.fn_1) (dFn_ok g.fn_1 g.at_1 (call3_1 g (by omega))) (RXs_cons (RX_loc N3_7 (i := 0) rfl) (RXs_cons (RX_loc N3_7 (i := 1) rfl) (RXs_cons RX_int (RXs_cons (RX_loc N3_7 (i := 5) rfl) RXs_nil)))) (RX_loc N3_7 (i := 4) rfl)) (RXs_cons (RX_callK (RX_fn g.O N3_7 (i := 2) rfl g.mg_1 g.fn_1) (dFn_ok g.fn_1 g.at_1 (call3_1 g (by omega))) (RXs_cons (RX_loc N3_7 (i := 0) rfl) (RXs_cons (RX_loc N3_7 (i := 1) rfl) (RXs_cons (RX_loc N3_7 (i := 5) rfl) RXs_nil))) (RX_loc N3_7 (i := 4) rfl)) RXs_nil)))) RXs_nil) OpN_extend)
noncomputable def m3_7_3 : Sm := sRet (mBin fEq (mLoc 6) (mList (aCons (mLoc 2) (aCons (mArgs fMin2 (aCons (mLoc 2) (aCons (mLoc 5) aNil))) (aCons (mArgs fMax2 (aCons (mLoc 2) (aCons (mLoc 5) aNil))) (aCons (mLoc 3) (aCons (mArgs fMin2 (aCons (mLoc 3) (aCons (mLoc 5) aNil))) (aCons (mArgs fMax2 (aCons (mLoc 3) (aCons (mLoc 5) aNil))) aNil))))))))
theorem s3_7_3 (g : G3 X a) (hn : 2 ≤ n) : RS X φ n nm3_7 (xSt 3 (fnBody PySem.Challenge.pw_wb0001_03 9)) m3_7_3 :=
  RS_ret (RX_cmp (RX_loc N3_7 (i := 6) rfl) (RX_list (RXs_cons (RX_loc N3_7 (i := 2) rfl) (RXs_cons (RX_bi g.O N3_7 (i := 3) rfl g.no_min Boot.«min» (RXs_cons (RX_loc N3_7 (i := 2) rfl) (RXs_cons (RX_loc N3_7 (i := 5) rfl) RXs_nil)) OpN_min2) (RXs_cons (RX_bi g.O N3_7 (i := 4) rfl g.no_max Boot.«max» (RXs_cons (RX_loc N3_7 (i := 2) rfl) (RXs_cons (RX_loc N3_7 (i := 5) rfl) RXs_nil)) OpN_max2) (RXs_cons (RX_loc N3_7 (i := 3) rfl) (RXs_cons (RX_bi g.O N3_7 (i := 3) rfl g.no_min Boot.«min» (RXs_cons (RX_loc N3_7 (i := 3) rfl) (RXs_cons (RX_loc N3_7 (i := 5) rfl) RXs_nil)) OpN_min2) (RXs_cons (RX_bi g.O N3_7 (i := 4) rfl g.no_max Boot.«max» (RXs_cons (RX_loc N3_7 (i := 3) rfl) (RXs_cons (RX_loc N3_7 (i := 5) rfl) RXs_nil)) OpN_max2) RXs_nil))))))) Op2_eq)
noncomputable def body3_7 : Sm := sSeq m3_7_0 (sSeq m3_7_1 (sSeq m3_7_2 (sSeq m3_7_3 sNil)))
theorem walk3_7 (g : G3 X a) (hn : 2 ≤ n) : RSs X φ n nm3_7 (fnBody PySem.Challenge.pw_wb0001_03 9) body3_7 :=
  RSs_cons (s3_7_0 g hn) (RSs_cons (s3_7_1 g hn) (RSs_cons (s3_7_2 g hn) (RSs_cons (s3_7_3 g hn) RSs_nil)))
noncomputable def sem3_7 : FCall := fnSem df3_7 full3_7 kap1 body3_7
theorem call3_7 (g : G3 X a) (hn : 3 ≤ n) : CallOk X φ n (a 7) sem3_7 := by
  obtain ⟨m, rfl⟩ : ∃ m, n = m + 1 := ⟨n - 1, by omega⟩
  exact FnOk g.O D3_7 g.at_7 g.bind_7 fun env => walk3_7 g (by omega)
noncomputable def cnm3_8_0 : Nm := { scope := relabelS (lcScope (cRight (sTest (xSt 8 (fnBody PySem.Challenge.pw_wb0001_03 10))))) nm3_8.scope, loc := ["peg"], cel := ["place"], glb := [], qual := "law.<locals>.", tab := 0 }
theorem cN3_8_0 : NmOk cnm3_8_0 := .of (by decide +kernel)
theorem cAt3_8_0 : CompAt nm3_8 cnm3_8_0 (lcScope (cRight (sTest (xSt 8 (fnBody PySem.Challenge.pw_wb0001_03 10))))) [1] := ⟨rfl, rfl, rfl, rfl, rfl, by decide +kernel, rfl, by decide +kernel⟩
noncomputable def cnm3_8_1 : Nm := { scope := relabelS (lcScope (sValue (xSt 9 (fnBody PySem.Challenge.pw_wb0001_03 10)))) nm3_8.scope, loc := ["peg", "one"], cel := ["lap"], glb := [], qual := "law.<locals>.", tab := 0 }
theorem cN3_8_1 : NmOk cnm3_8_1 := .of (by decide +kernel)
theorem cAt3_8_1 : CompAt nm3_8 cnm3_8_1 (lcScope (sValue (xSt 9 (fnBody PySem.Challenge.pw_wb0001_03 10)))) [0] := ⟨rfl, rfl, rfl, rfl, rfl, by decide +kernel, rfl, by decide +kernel⟩
noncomputable def cnm3_8_2 : Nm := { scope := relabelS (lcScope (xNth 0 (kArgs (xNth 1 (tElts (sValue (xSt 2 (sBody (xSt 12 (fnBody PySem.Challenge.pw_wb0001_03 10)))))))))) nm3_8.scope, loc := ["one"], cel := ["what"], glb := [], qual := "law.<locals>.", tab := 0 }
theorem cN3_8_2 : NmOk cnm3_8_2 := .of (by decide +kernel)
theorem cAt3_8_2 : CompAt nm3_8 cnm3_8_2 (lcScope (xNth 0 (kArgs (xNth 1 (tElts (sValue (xSt 2 (sBody (xSt 12 (fnBody PySem.Challenge.pw_wb0001_03 10)))))))))) [3] := ⟨rfl, rfl, rfl, rfl, rfl, by decide +kernel, rfl, by decide +kernel⟩
noncomputable def cnm3_8_3 : Nm := { scope := relabelS (lcScope (xNth 0 (kArgs (xNth 0 (tElts (sValue (xSt 2 (sBody (xSt 12 (fnBody PySem.Challenge.pw_wb0001_03 10)))))))))) nm3_8.scope, loc := ["one"], cel := ["what"], glb := [], qual := "law.<locals>.", tab := 0 }
theorem cN3_8_3 : NmOk cnm3_8_3 := .of (by decide +kernel)
theorem cAt3_8_3 : CompAt nm3_8 cnm3_8_3 (lcScope (xNth 0 (kArgs (xNth 0 (tElts (sValue (xSt 2 (sBody (xSt 12 (fnBody PySem.Challenge.pw_wb0001_03 10)))))))))) [3] := ⟨rfl, rfl, rfl, rfl, rfl, by decide +kernel, rfl, by decide +kernel⟩
noncomputable def cnm3_8_4 : Nm := { scope := relabelS (lcScope (cLeft (sValue (xSt 13 (fnBody PySem.Challenge.pw_wb0001_03 10))))) nm3_8.scope, loc := ["kind"], cel := ["row", "place"], glb := ["_law_low_refused"], qual := "law.<locals>.", tab := 0 }
theorem cN3_8_4 : NmOk cnm3_8_4 := .of (by decide +kernel)
theorem cAt3_8_4 : CompAt nm3_8 cnm3_8_4 (lcScope (cLeft (sValue (xSt 13 (fnBody PySem.Challenge.pw_wb0001_03 10))))) [2, 1] := ⟨rfl, rfl, rfl, rfl, rfl, by decide +kernel, rfl, by decide +kernel⟩
theorem lamAt3_0 (g : G3 X a) : LamAt X nm3_8 0 lam3_0 (lamArgs (sValue (xSt 5 (fnBody PySem.Challenge.pw_wb0001_03 10)))) (lamBody (sValue (xSt 5 (fnBody PySem.Challenge.pw_wb0001_03 10)))) (lamScope (sValue (xSt 5 (fnBody PySem.Challenge.pw_wb0001_03 10)))) [5, 4] := ⟨g.lam_0, rfl, rfl, rfl, by decide +kernel, rfl, by decide +kernel, rfl, g.tab_8⟩
noncomputable def m3_8_0 : Sm := sAssign (.cel 4) (mBin fAdd (mInt 1) (mBin fMod (mBin fAdd (mInt 88) (mArgs fSum (aCons (mSlice (mLoc 0) (mInt 0) (mInt 60) (mInt 3)) aNil))) (mBin fPow (mInt 10) (mInt 15))))
theorem s3_8_0 (g : G3 X a) (hn : 4 ≤ n) : RS X φ n nm3_8 (xSt 0 (fnBody PySem.Challenge.pw_wb0001_03 10)) m3_8_0 :=
  RS_assign N3_8 (t := .cel 4) (RX_bin RX_int (RX_bin (RX_bin RX_int (RX_bi g.O N3_8 (i := 0) rfl g.no_sum Boot.«sum» (RXs_cons (RX_slice (RX_loc N3_8 (i := 0) rfl) RX_int RX_int RX_int) RXs_nil) OpN_sum) Op2_add) (RX_bin RX_int RX_int Op2_pow) Op2_mod) Op2_add) ⟨rfl, rfl⟩
noncomputable def m3_8_1 : Sm := sAssign (.cel 5) (mBin fAdd (mInt 55) (mArgs fSum (aCons (mSlice (mLoc 0) (mInt 1) (mInt 60) (mInt 3)) aNil)))
theorem s3_8_1 (g : G3 X a) (hn : 4 ≤ n) : RS X φ n nm3_8 (xSt 1 (fnBody PySem.Challenge.pw_wb0001_03 10)) m3_8_1 :=
  RS_assign N3_8 (t := .cel 5) (RX_bin RX_int (RX_bi g.O N3_8 (i := 0) rfl g.no_sum Boot.«sum» (RXs_cons (RX_slice (RX_loc N3_8 (i := 0) rfl) RX_int RX_int RX_int) RXs_nil) OpN_sum) Op2_add) ⟨rfl, rfl⟩
noncomputable def m3_8_2 : Sm := sAssign (.loc 1) (mBin fAdd (mInt 2) (mBin fMod (mBin fAdd (mInt 11) (mArgs fSum (aCons (mSlice (mLoc 0) (mInt 2) (mInt 60) (mInt 3)) aNil))) (mInt 14)))
theorem s3_8_2 (g : G3 X a) (hn : 4 ≤ n) : RS X φ n nm3_8 (xSt 2 (fnBody PySem.Challenge.pw_wb0001_03 10)) m3_8_2 :=
  RS_assign N3_8 (t := .loc 1) (RX_bin RX_int (RX_bin (RX_bin RX_int (RX_bi g.O N3_8 (i := 0) rfl g.no_sum Boot.«sum» (RXs_cons (RX_slice (RX_loc N3_8 (i := 0) rfl) RX_int RX_int RX_int) RXs_nil) OpN_sum) Op2_add) RX_int Op2_mod) Op2_add) rfl
noncomputable def m3_8_3 : Sm := sAssign (.cel 0) (mBin fDiv (mCel 4) (mCall (mFn 4) (dFn 4 sem3_4) (aCons (mCel 4) (aCons (mBin fMod (mCel 5) (mCel 4)) aNil))))
theorem s3_8_3 (g : G3 X a) (hn : 4 ≤ n) : RS X φ n nm3_8 (xSt 3 (fnBody PySem.Challenge.pw_wb0001_03 10)) m3_8_3 :=
  RS_assign N3_8 (t := .cel 0) (RX_bin (RX_cel N3_8 (i := 4) rfl) (RX_call (RX_fn g.O N3_8 (i := 1) rfl g.mg_4 g.fn_4) (dFn_ok g.fn_4 g.at_4 (call3_4 g (by omega))) (RXs_cons (RX_cel N3_8 (i := 4) rfl) (RXs_cons (RX_bin (RX_cel N3_8 (i := 5) rfl) (RX_cel N3_8 (i := 4) rfl) Op2_mod) RXs_nil))) Op2_div) ⟨rfl, rfl⟩
noncomputable def m3_8_4 : Sm := sAssign (.loc 2) (mArgs fMin2 (aCons (mLoc 1) (aCons (mCel 0) aNil)))
theorem s3_8_4 (g : G3 X a) (hn : 4 ≤ n) : RS X φ n nm3_8 (xSt 4 (fnBody PySem.Challenge.pw_wb0001_03 10)) m3_8_4 :=
  RS_assign N3_8 (t := .loc 2) (RX_bi g.O N3_8 (i := 2) rfl g.no_min Boot.«min» (RXs_cons (RX_loc N3_8 (i := 1) rfl) (RXs_cons (RX_cel N3_8 (i := 0) rfl) RXs_nil)) OpN_min2) rfl
noncomputable def m3_8_5 : Sm := sAssign (.cel 1) (mLam 0 [5, 4])
theorem s3_8_5 (g : G3 X a) (hn : 4 ≤ n) : RS X φ n nm3_8 (xSt 5 (fnBody PySem.Challenge.pw_wb0001_03 10)) m3_8_5 :=
  RS_assign N3_8 (t := .cel 1) (RX_lam g.O g.OT (lamAt3_0 g)) ⟨rfl, rfl⟩
noncomputable def m3_8_6 : Sm := sUnpack (putTup [.cel 2, .loc 3]) (mTup (aCons (mList aNil) (aCons (mList aNil) aNil)))
theorem s3_8_6 (g : G3 X a) (hn : 4 ≤ n) : RS X φ n nm3_8 (xSt 6 (fnBody PySem.Challenge.pw_wb0001_03 10)) m3_8_6 :=
  RS_unpack (RX_tup (RXs_cons (RX_list RXs_nil) (RXs_cons (RX_list RXs_nil) RXs_nil))) (RT_tup N3_8 (xs := [(_, _), (_, _)]) (ts := [.cel 2, .loc 3]) (.cons ⟨rfl, rfl⟩ (.cons rfl .nil)))
noncomputable def m3_8_7 : Sm := sFor 1000 (.loc 4) (mArgs fRange (aCons (mLoc 2) aNil)) (sSeq (sIf (mTest (mBin fEqI (mBin fMod (mLoc 4) (mInt 2)) (mInt 0))) (sSeq (sAssign (.loc 5) (mTup (aCons (mCallK (mFn 0) (dFn 0 sem3_0) (aCons (mCel 2) (aCons (mLoc 4) aNil)) (mCel 1)) (aCons (mCall (mFn 2) (dFn 2 sem3_2) (aCons (mLoc 3) (aCons (mCall (mCel 1) dLam3 (aCons (mLoc 4) aNil)) aNil))) aNil)))) sNil) (sSeq (sAssign (.loc 5) (mTup (aCons (mCallK (mFn 2) (dFn 2 sem3_2) (aCons (mCel 2) (aCons (mLoc 4) aNil)) (mCel 1)) (aCons (mCall (mFn 0) (dFn 0 sem3_0) (aCons (mLoc 3) (aCons (mCall (mCel 1) dLam3 (aCons (mLoc 4) aNil)) aNil))) aNil)))) sNil)) (sSeq (sFor 1000 (.loc 6) (mArgs fRange (aCons (mBin fAdd (mLoc 4) (mInt 1)) aNil)) (sSeq (sIf (mAndB (mTest (mBin fGt (mLoc 4) (mInt 0))) (mAndB (mTest (mBin fNeI (mBin fItem (mCel 2) (mLoc 6)) (mCall (mFn 6) (dFn 6 sem3_6) (aCons (mBin fItem (mCel 2) (mBin fSub (mLoc 6) (mInt 1))) (aCons (mBin fAdd (mLoc 4) (mInt 1)) (aCons (mBin fItem (mCel 2) (mInt 1)) (aCons (mBin fItem (mCel 2) (mUn fNeg (mInt 1))) aNil))))))) (mConst true))) (sSeq (sRet (mBool false)) sNil) sNil) sNil)) (sSeq (sIf (mOrB (mTest (mBin fNe (mLoc 5) (mTup (aCons mNone (aCons mNone aNil))))) (mOrB (mTest (mBin fNe (mCel 2) (mSortK (mArgs fRange (aCons (mBin fAdd (mLoc 4) (mInt 1)) aNil)) (mCel 1) dLam3))) (mConst false))) (sSeq (sRet (mBool false)) sNil) sNil) sNil)))
theorem s3_8_7 (g : G3 X a) (hn : 4 ≤ n) : RS X φ n nm3_8 (xSt 7 (fnBody PySem.Challenge.pw_wb0001_03 10)) m3_8_7 :=
  RS_for N3_8 (fuel := 1000) (t := .loc 4) (RX_ty g.O N3_8 (i := 3) rfl g.no_range Boot.«range» (RXs_cons (RX_loc N3_8 (i := 2) rfl) RXs_nil) OpN_range) rfl (RSs_cons (RS_if (RB_cmp (RX_bin (RX_loc N3_8 (i := 4) rfl) RX_int Op2_mod) RX_int Op2_eqI) (RSs_cons (RS_assign N3_8 (t := .loc 5) (RX_tup (RXs_cons (RX_callK (RX_fn g.O N3_8 (i := 4) rfl g.mg_0 g.fn_0) (dFn_ok g.fn_0 g.at_0 (call3_0 g (by omega))) (RXs_cons (RX_cel N3_8 (i := 2) rfl) (RXs_cons (RX_loc N3_8 (i := 4) rfl) RXs_nil)) (RX_cel N3_8 (i := 1) rfl)) (RXs_cons (RX_call (RX_fn g.O N3_8 (i := 5) rfl g.mg_2 g.fn_2) (dFn_ok g.fn_2 g.at_2 (call3_2 g (by omega))) (RXs_cons (RX_loc N3_8 (i := 3) rfl) (RXs_cons (RX_call (RX_cel N3_8 (i := 1) rfl) (dLam3_ok g (by omega)) (RXs_cons (RX_loc N3_8 (i := 4) rfl) RXs_nil)) RXs_nil))) RXs_nil))) rfl) RSs_nil) (RSs_cons (RS_assign N3_8 (t := .loc 5) (RX_tup (RXs_cons (RX_callK (RX_fn g.O N3_8 (i := 5) rfl g.mg_2 g.fn_2) (dFn_ok g.fn_2 g.at_2 (call3_2 g (by omega))) (RXs_cons (RX_cel N3_8 (i := 2) rfl) (RXs_cons (RX_loc N3_8 (i := 4) rfl) RXs_nil)) (RX_cel N3_8 (i := 1) rfl)) (RXs_cons (RX_call (RX_fn g.O N3_8 (i := 4) rfl g.mg_0 g.fn_0) (dFn_ok g.fn_0 g.at_0 (call3_0 g (by omega))) (RXs_cons (RX_loc N3_8 (i := 3) rfl) (RXs_cons (RX_call (RX_cel N3_8 (i := 1) rfl) (dLam3_ok g (by omega)) (RXs_cons (RX_loc N3_8 (i := 4) rfl) RXs_nil)) RXs_nil))) RXs_nil))) rfl) RSs_nil)) (RSs_cons (RS_for N3_8 (fuel := 1000) (t := .loc 6) (RX_ty g.O N3_8 (i := 3) rfl g.no_range Boot.«range» (RXs_cons (RX_bin (RX_loc N3_8 (i := 4) rfl) RX_int Op2_add) RXs_nil) OpN_range) rfl (RSs_cons (RS_if (RB_bool (RAll_and (RB_cmp (RX_loc N3_8 (i := 4) rfl) RX_int Op2_gt) (RAll_and (RB_cmp (RX_item (RX_cel N3_8 (i := 2) rfl) (RX_loc N3_8 (i := 6) rfl)) (RX_call (RX_fn g.O N3_8 (i := 6) rfl g.mg_6 g.fn_6) (dFn_ok g.fn_6 g.at_6 (call3_6 g (by omega))) (RXs_cons (RX_item (RX_cel N3_8 (i := 2) rfl) (RX_bin (RX_loc N3_8 (i := 6) rfl) RX_int Op2_sub)) (RXs_cons (RX_bin (RX_loc N3_8 (i := 4) rfl) RX_int Op2_add) (RXs_cons (RX_item (RX_cel N3_8 (i := 2) rfl) RX_int) (RXs_cons (RX_item (RX_cel N3_8 (i := 2) rfl) (RX_un RX_int Op1_neg)) RXs_nil))))) Op2_neI) RAll_and_nil))) (RSs_cons (RS_ret RX_bool) RSs_nil) RSs_nil) RSs_nil)) (RSs_cons (RS_if (RB_bool (RAll_or (RB_cmp (RX_loc N3_8 (i := 5) rfl) (RX_tup (RXs_cons RX_none (RXs_cons RX_none RXs_nil))) Op2_ne) (RAll_or (RB_cmp (RX_cel N3_8 (i := 2) rfl) (RX_sortK2 (by omega) g.O N3_8 (i := 7) rfl g.no_sorted Boot.sorted (RX_ty g.O N3_8 (i := 3) rfl g.no_range Boot.«range» (RXs_cons (RX_bin (RX_loc N3_8 (i := 4) rfl) RX_int Op2_add) RXs_nil) OpN_range) (RX_cel N3_8 (i := 1) rfl) (dLam3_ok g (by omega))) Op2_ne) RAll_or_nil))) (RSs_cons (RS_ret RX_bool) RSs_nil) RSs_nil) RSs_nil)))
noncomputable def m3_8_8 : Sm := sIf (mTest (mBin fNe (mLoc 3) (mComp 1000 1 [1] (putL 0) (mCel 2) (mConst true) (cElt (mCall (mCel 0) dLam3 (aCons (mLoc 0) aNil)))))) (sSeq (sRet (mBool false)) sNil) sNil
theorem s3_8_8 (g : G3 X a) (hn : 4 ≤ n) : RS X φ n nm3_8 (xSt 8 (fnBody PySem.Challenge.pw_wb0001_03 10)) m3_8_8 :=
  RS_if (RB_cmp (RX_loc N3_8 (i := 3) rfl) (RX_comp (by decide) cAt3_8_0 cN3_8_0 (RX_cel N3_8 (i := 2) rfl) (RTL_name cN3_8_0 (i := 0) rfl) RIf_nil (RCm_elt (RX_call (RX_cel cN3_8_0 (i := 0) rfl) (dLam3_ok g (by omega)) (RXs_cons (RX_loc cN3_8_0 (i := 0) rfl) RXs_nil)) rfl)) Op2_ne) (RSs_cons (RS_ret RX_bool) RSs_nil) RSs_nil
noncomputable def m3_8_9 : Sm := sAssign (.loc 7) (mComp 1000 2 [0] (putL 0) (mCel 2) (mConst true) (cFor 1000 (putL 1) (mTup (aCons (mBin fAdd (mLoc 0) (mCel 0)) (aCons (mLoc 0) (aCons (mBin fAdd (mLoc 0) (mBin fMul (mInt 2) (mCel 0))) aNil)))) (mConst true) (cElt (mLoc 1))))
theorem s3_8_9 (g : G3 X a) (hn : 4 ≤ n) : RS X φ n nm3_8 (xSt 9 (fnBody PySem.Challenge.pw_wb0001_03 10)) m3_8_9 :=
  RS_assign_comp N3_8 (i := 7) rfl (by decide) cAt3_8_1 cN3_8_1 (RX_cel N3_8 (i := 2) rfl) (RTL_name cN3_8_1 (i := 0) rfl) RIf_nil (RCm_for rfl (by decide) (RX_tup (RXs_cons (RX_bin (RX_loc cN3_8_1 (i := 0) rfl) (RX_cel cN3_8_1 (i := 0) rfl) Op2_add) (RXs_cons (RX_loc cN3_8_1 (i := 0) rfl) (RXs_cons (RX_bin (RX_loc cN3_8_1 (i := 0) rfl) (RX_bin RX_int (RX_cel cN3_8_1 (i := 0) rfl) Op2_mul) Op2_add) RXs_nil)))) (RTL_name cN3_8_1 (i := 1) rfl) RIf_nil (RCm_elt (RX_loc cN3_8_1 (i := 1) rfl) rfl)) (by rintro ⟨⟩ rfl; rfl)
noncomputable def m3_8_10 : Sm := sFor 1000 (.loc 4) (mArgs fListL (aCons (mCel 2) aNil)) (sSeq (sExpr (mCallK (mFn 2) (dFn 2 sem3_2) (aCons (mCel 2) (aCons (mBin fAdd (mLoc 4) (mCel 0)) aNil)) (mCel 1))) (sSeq (sExpr (mCallK (mFn 0) (dFn 0 sem3_0) (aCons (mCel 2) (aCons (mBin fAdd (mLoc 4) (mBin fMul (mInt 2) (mCel 0))) aNil)) (mCel 1))) sNil))
theorem s3_8_10 (g : G3 X a) (hn : 4 ≤ n) : RS X φ n nm3_8 (xSt 10 (fnBody PySem.Challenge.pw_wb0001_03 10)) m3_8_10 :=
  RS_for N3_8 (fuel := 1000) (t := .loc 4) (RX_ty g.O N3_8 (i := 8) rfl g.no_list Boot.«list» (RXs_cons (RX_cel N3_8 (i := 2) rfl) RXs_nil) OpN_list) rfl (RSs_cons (RS_expr N3_8 (RX_callK (RX_fn g.O N3_8 (i := 5) rfl g.mg_2 g.fn_2) (dFn_ok g.fn_2 g.at_2 (call3_2 g (by omega))) (RXs_cons (RX_cel N3_8 (i := 2) rfl) (RXs_cons (RX_bin (RX_loc N3_8 (i := 4) rfl) (RX_cel N3_8 (i := 0) rfl) Op2_add) RXs_nil)) (RX_cel N3_8 (i := 1) rfl))) (RSs_cons (RS_expr N3_8 (RX_callK (RX_fn g.O N3_8 (i := 4) rfl g.mg_0 g.fn_0) (dFn_ok g.fn_0 g.at_0 (call3_0 g (by omega))) (RXs_cons (RX_cel N3_8 (i := 2) rfl) (RXs_cons (RX_bin (RX_loc N3_8 (i := 4) rfl) (RX_bin RX_int (RX_cel N3_8 (i := 0) rfl) Op2_mul) Op2_add) RXs_nil)) (RX_cel N3_8 (i := 1) rfl))) RSs_nil))
noncomputable def m3_8_11 : Sm := sIf (mTest (mBin fNe (mCel 2) (mLoc 7))) (sSeq (sRet (mBool false)) sNil) sNil
theorem s3_8_11 (g : G3 X a) (hn : 4 ≤ n) : RS X φ n nm3_8 (xSt 11 (fnBody PySem.Challenge.pw_wb0001_03 10)) m3_8_11 :=
  RS_if (RB_cmp (RX_cel N3_8 (i := 2) rfl) (RX_loc N3_8 (i := 7) rfl) Op2_ne) (RSs_cons (RS_ret RX_bool) RSs_nil) RSs_nil
noncomputable def m3_8_12 : Sm := sFor 1000 (.loc 6) (mArgs fRange (aCons (mLoc 2) aNil)) (sSeq (sIf (mNot (mTest (mCall (mFn 7) (dFn 7 sem3_7) (aCons (mCel 2) (aCons (mBin fItem (mLoc 3) (mLoc 6)) (aCons (mBin fMul (mInt 3) (mLoc 6)) (aCons (mBin fAdd (mBin fMul (mInt 3) (mLoc 6)) (mInt 3)) (aCons (mCel 1) aNil)))))))) (sSeq (sRet (mBool false)) sNil) sNil) (sSeq (sAssign (.cel 3) (mBin fAdd (mBin fItem (mLoc 3) (mLoc 6)) (mBin fMod (mLoc 6) (mInt 2)))) (sSeq (sSwap [.loc 8, .loc 9] (mTup (aCons (mArgs fLen (aCons (mComp 1000 1 [3] (putL 0) (mLoc 3) (mTest (mBin fLt (mLoc 0) (mCel 0))) (cElt (mLoc 0))) aNil)) (aCons (mArgs fLen (aCons (mComp 1000 1 [3] (putL 0) (mLoc 3) (mTest (mBin fLe (mLoc 0) (mCel 0))) (cElt (mLoc 0))) aNil)) aNil)))) (sSeq (sIf (mNot (mTest (mCall (mFn 7) (dFn 7 sem3_7) (aCons (mLoc 3) (aCons (mCel 3) (aCons (mLoc 8) (aCons (mLoc 9) (aCons mNone aNil)))))))) (sSeq (sRet (mBool false)) sNil) sNil) sNil))))
theorem s3_8_12 (g : G3 X a) (hn : 4 ≤ n) : RS X φ n nm3_8 (xSt 12 (fnBody PySem.Challenge.pw_wb0001_03 10)) m3_8_12 :=
  RS_for N3_8 (fuel := 1000) (t := .loc 6) (RX_ty g.O N3_8 (i := 3) rfl g.no_range Boot.«range» (RXs_cons (RX_loc N3_8 (i := 2) rfl) RXs_nil) OpN_range) rfl (RSs_cons (RS_if (RB_not (RB_val (RX_call (RX_fn g.O N3_8 (i := 9) rfl g.mg_7 g.fn_7) (dFn_ok g.fn_7 g.at_7 (call3_7 g (by omega))) (RXs_cons (RX_cel N3_8 (i := 2) rfl) (RXs_cons (RX_item (RX_loc N3_8 (i := 3) rfl) (RX_loc N3_8 (i := 6) rfl)) (RXs_cons (RX_bin RX_int (RX_loc N3_8 (i := 6) rfl) Op2_mul) (RXs_cons (RX_bin (RX_bin RX_int (RX_loc N3_8 (i := 6) rfl) Op2_mul) RX_int Op2_add) (RXs_cons (RX_cel N3_8 (i := 1) rfl) RXs_nil)))))))) (RSs_cons (RS_ret RX_bool) RSs_nil) RSs_nil) (RSs_cons (RS_assign N3_8 (t := .cel 3) (RX_bin (RX_item (RX_loc N3_8 (i := 3) rfl) (RX_loc N3_8 (i := 6) rfl)) (RX_bin (RX_loc N3_8 (i := 6) rfl) RX_int Op2_mod) Op2_add) ⟨rfl, rfl⟩) (RSs_cons (RS_swap N3_8 (xs := ["fewer", "no_more"]) (ts := [.loc 8, .loc 9]) (RX_tup (RXs_cons (RX_bi g.O N3_8 (i := 10) rfl g.no_len Boot.«len» (RXs_cons (RX_comp (by decide) cAt3_8_3 cN3_8_3 (RX_loc N3_8 (i := 3) rfl) (RTL_name cN3_8_3 (i := 0) rfl) (RIf_one (RB_cmp (RX_loc cN3_8_3 (i := 0) rfl) (RX_cel cN3_8_3 (i := 0) rfl) Op2_lt)) (RCm_elt (RX_loc cN3_8_3 (i := 0) rfl) rfl)) RXs_nil) OpN_len) (RXs_cons (RX_bi g.O N3_8 (i := 10) rfl g.no_len Boot.«len» (RXs_cons (RX_comp (by decide) cAt3_8_2 cN3_8_2 (RX_loc N3_8 (i := 3) rfl) (RTL_name cN3_8_2 (i := 0) rfl) (RIf_one (RB_cmp (RX_loc cN3_8_2 (i := 0) rfl) (RX_cel cN3_8_2 (i := 0) rfl) Op2_le)) (RCm_elt (RX_loc cN3_8_2 (i := 0) rfl) rfl)) RXs_nil) OpN_len) RXs_nil))) (.cons rfl (.cons rfl .nil)) (by rintro ⟨⟩ rfl; rfl)) (RSs_cons (RS_if (RB_not (RB_val (RX_call (RX_fn g.O N3_8 (i := 9) rfl g.mg_7 g.fn_7) (dFn_ok g.fn_7 g.at_7 (call3_7 g (by omega))) (RXs_cons (RX_loc N3_8 (i := 3) rfl) (RXs_cons (RX_cel N3_8 (i := 3) rfl) (RXs_cons (RX_loc N3_8 (i := 8) rfl) (RXs_cons (RX_loc N3_8 (i := 9) rfl) (RXs_cons RX_none RXs_nil)))))))) (RSs_cons (RS_ret RX_bool) RSs_nil) RSs_nil) RSs_nil))))
noncomputable def m3_8_13 : Sm := sRet (mBin fEq (mComp 1000 1 [2, 1] (putL 0) (mArgs fRange (aCons (mInt 4) aNil)) (mNot (mTest (mCall (mFn 5) (dFn 5 sem3_5) (aCons (mLoc 0) (aCons (mCel 0) (aCons (mCel 1) aNil)))))) (cElt (mLoc 0))) (mList aNil))
theorem s3_8_13 (g : G3 X a) (hn : 4 ≤ n) : RS X φ n nm3_8 (xSt 13 (fnBody PySem.Challenge.pw_wb0001_03 10)) m3_8_13 :=
  RS_ret (RX_cmp (RX_comp (by decide) cAt3_8_4 cN3_8_4 (RX_ty g.O N3_8 (i := 3) rfl g.no_range Boot.«range» (RXs_cons RX_int RXs_nil) OpN_range) (RTL_name cN3_8_4 (i := 0) rfl) (RIf_one (RB_not (RB_val (RX_call (RX_fn g.O cN3_8_4 (i := 0) rfl g.mg_5 g.fn_5) (dFn_ok g.fn_5 g.at_5 (call3_5 g (by omega))) (RXs_cons (RX_loc cN3_8_4 (i := 0) rfl) (RXs_cons (RX_cel cN3_8_4 (i := 0) rfl) (RXs_cons (RX_cel cN3_8_4 (i := 1) rfl) RXs_nil))))))) (RCm_elt (RX_loc cN3_8_4 (i := 0) rfl) rfl)) (RX_list RXs_nil) Op2_eq)
noncomputable def body3_8 : Sm := sSeq m3_8_0 (sSeq m3_8_1 (sSeq m3_8_2 (sSeq m3_8_3 (sSeq m3_8_4 (sSeq m3_8_5 (sSeq m3_8_6 (sSeq m3_8_7 (sSeq m3_8_8 (sSeq m3_8_9 (sSeq m3_8_10 (sSeq m3_8_11 (sSeq m3_8_12 (sSeq m3_8_13 sNil)))))))))))))
theorem walk3_8 (g : G3 X a) (hn : 4 ≤ n) : RSs X φ n nm3_8 (fnBody PySem.Challenge.pw_wb0001_03 10) body3_8 :=
  RSs_cons (s3_8_0 g hn) (RSs_cons (s3_8_1 g hn) (RSs_cons (s3_8_2 g hn) (RSs_cons (s3_8_3 g hn) (RSs_cons (s3_8_4 g hn) (RSs_cons (s3_8_5 g hn) (RSs_cons (s3_8_6 g hn) (RSs_cons (s3_8_7 g hn) (RSs_cons (s3_8_8 g hn) (RSs_cons (s3_8_9 g hn) (RSs_cons (s3_8_10 g hn) (RSs_cons (s3_8_11 g hn) (RSs_cons (s3_8_12 g hn) (RSs_cons (s3_8_13 g hn) RSs_nil)))))))))))))
noncomputable def sem3_8 : FCall := fnSem df3_8 full3_8 kap1 body3_8
theorem call3_8 (g : G3 X a) (hn : 5 ≤ n) : CallOk X φ n (a 8) sem3_8 := by
  obtain ⟨m, rfl⟩ : ∃ m, n = m + 1 := ⟨n - 1, by omega⟩
  exact FnOk g.O D3_8 g.at_8 g.bind_8 fun env => walk3_8 g (by omega)
end Mine
namespace Mine
open_top hd for PySem.Challenge.rw_wb0001_03
theorem joined3 (key : ∀ xs : List Int, xs.length ≤ 63 → ∃ H', sem3_8 [.frz xs] none [] [] = some (.bool true, H')) : PySem.Challenge.rw_wb0001_03.Holds := by
  refine hd ?_
  k_fill
  intro w s₀ s₁ mg mb G Y fa o pm cd doc dV kV ho hd hcd hD hmg hg args vals as hpre hlay hrd hwl hlo
  have KX := km_in_of Y
  have hT8 := km_tabs_of Y
  have T := G.T
  have hT9 : TabsAt ([(82, 80)] : List (Addr × Addr)) s₁.heap := List.forall_mem_cons.mpr ⟨⟨codeHd_of_K (c := 82) (P := 80) KX (by kernel_rfl), hT8 80 (by simp)⟩, fun _ h => nomatch h⟩
  have XK := ghost_K hT9 KX (by kernel_rfl)
  have T' := ghost_top hT9 T
  have hfa : fa = 83 := by
    have e := mg_of (n := PySem.Str.ofString "law") (v := .ref 83) KX T.g (by kernel_rfl)
    have e2 : mg (PySem.Str.ofString "law") = some (.ref fa) := hmg
    rw [e2] at e; injection e with e; injection e
  subst hfa
  clear hmg hcd hD hd ho G
  let X : Cx := { prog := PySem.Challenge.rw_wb0001_03.row.prog, w := w, s₀ := s₁, h₀ := ghostOf s₁.heap [(82, 80)], mg := mg, mb := mb, fn := fun k => [23, 32, 41, 50, 57, 64, 71, 78, 83][k]?, lams := fun k => [lam3_0][k]?, tabs := [(82, 80, "law.<locals>.<lambda>")] }
  have f0 : Mine.FnAt X 23 df3_0 := ⟨⟨_, _, XK 23 _ rfl, rfl, rfl, rfl, rfl, rfl, rfl, rfl, rfl, ⟨22, _, _, _, rfl, XK 22 _ rfl, rfl, rfl⟩, fun q e => by cases e⟩, by decide +kernel, rfl⟩
  have b0 : BindOk X 23 df3_0 full3_0 := BindOk.bis rfl fun fd o ho hd s hk => by
    have KS := XK.keeps hk
    have e : X.h₀.get? 23 = some _ := XK 23 _ rfl
    rw [e] at ho; cases ho; cases hd
    exact ⟨_, fun _ _ => kp_binds KS fun _ => rfl, fun _ _ _ => kp_binds KS fun _ => rfl, fun _ _ _ => kp_binds KS fun _ => rfl, fun _ _ _ _ => kp_binds KS fun _ => rfl, fun _ _ _ _ => kp_binds KS fun _ => rfl, fun _ _ _ _ _ => kp_binds KS fun _ => rfl⟩
  have f1 : Mine.FnAt X 32 df3_1 := ⟨⟨_, _, XK 32 _ rfl, rfl, rfl, rfl, rfl, rfl, rfl, rfl, rfl, ⟨31, _, _, _, rfl, XK 31 _ rfl, rfl, rfl⟩, fun q e => by cases e⟩, by decide +kernel, rfl⟩
  have b1 : BindOk X 32 df3_1 full3_1 := BindOk.bis rfl fun fd o ho hd s hk => by
    have KS := XK.keeps hk
    have e : X.h₀.get? 32 = some _ := XK 32 _ rfl
    rw [e] at ho; cases ho; cases hd
    exact ⟨_, fun _ _ => kp_binds KS fun _ => rfl, fun _ _ _ => kp_binds KS fun _ => rfl, fun _ _ _ => kp_binds KS fun _ => rfl, fun _ _ _ _ => kp_binds KS fun _ => rfl, fun _ _ _ _ => kp_binds KS fun _ => rfl, fun _ _ _ _ _ => kp_binds KS fun _ => rfl⟩
  have f2 : Mine.FnAt X 41 df3_2 := ⟨⟨_, _, XK 41 _ rfl, rfl, rfl, rfl, rfl, rfl, rfl, rfl, rfl, ⟨40, _, _, _, rfl, XK 40 _ rfl, rfl, rfl⟩, fun q e => by cases e⟩, by decide +kernel, rfl⟩
  have b2 : BindOk X 41 df3_2 full3_2 := BindOk.bis rfl fun fd o ho hd s hk => by
    have KS := XK.keeps hk
    have e : X.h₀.get? 41 = some _ := XK 41 _ rfl
    rw [e] at ho; cases ho; cases hd
    exact ⟨_, fun _ _ => kp_binds KS fun _ => rfl, fun _ _ _ => kp_binds KS fun _ => rfl, fun _ _ _ => kp_binds KS fun _ => rfl, fun _ _ _ _ => kp_binds KS fun _ => rfl, fun _ _ _ _ => kp_binds KS fun _ => rfl, fun _ _ _ _ _ => kp_binds KS fun _ => rfl⟩
  have f3 : Mine.FnAt X 50 df3_3 := ⟨⟨_, _, XK 50 _ rfl, rfl, rfl, rfl, rfl, rfl, rfl, rfl, rfl, ⟨49, _, _, _, rfl, XK 49 _ rfl, rfl, rfl⟩, fun q e => by cases e⟩, by decide +kernel, rfl⟩
  have b3 : BindOk X 50 df3_3 full3_3 := BindOk.bis rfl fun fd o ho hd s hk => by
    have KS := XK.keeps hk
    have e : X.h₀.get? 50 = some _ := XK 50 _ rfl
    rw [e] at ho; cases ho; cases hd
    exact ⟨_, fun _ _ => kp_binds KS fun _ => rfl, fun _ _ _ => kp_binds KS fun _ => rfl, fun _ _ _ => kp_binds KS fun _ => rfl, fun _ _ _ _ => kp_binds KS fun _ => rfl, fun _ _ _ _ => kp_binds KS fun _ => rfl, fun _ _ _ _ _ => kp_binds KS fun _ => rfl⟩
  have f4 : Mine.FnAt X 57 df3_4 := ⟨⟨_, _, XK 57 _ rfl, rfl, rfl, rfl, rfl, rfl, rfl, rfl, rfl, ⟨56, _, _, _, rfl, XK 56 _ rfl, rfl, rfl⟩, fun q e => by cases e⟩, by decide +kernel, rfl⟩
  have b4 : BindOk X 57 df3_4 full3_4 := BindOk.plainN (n := 2) rfl rfl fun fd o ho hd s ys hk hl => by
    have e : X.h₀.get? 57 = some _ := XK 57 _ rfl
    rw [e] at ho; cases ho; cases hd
    exact len_eS hl fun x0 ys hl => len_eS hl fun x1 ys hl => len_e0 hl (.of_eq rfl)
  have f5 : Mine.FnAt X 64 df3_5 := ⟨⟨_, _, XK 64 _ rfl, rfl, rfl, rfl, rfl, rfl, rfl, rfl, rfl, ⟨63, _, _, _, rfl, XK 63 _ rfl, rfl, rfl⟩, fun q e => by cases e⟩, by decide +kernel, rfl⟩
  have b5 : BindOk X 64 df3_5 full3_5 := BindOk.plainN (n := 3) rfl rfl fun fd o ho hd s ys hk hl => by
    have e : X.h₀.get? 64 = some _ := XK 64 _ rfl
    rw [e] at ho; cases ho; cases hd
    exact len_eS hl fun x0 ys hl => len_eS hl fun x1 ys hl => len_eS hl fun x2 ys hl => len_e0 hl (.of_eq rfl)
  have f6 : Mine.FnAt X 71 df3_6 := ⟨⟨_, _, XK 71 _ rfl, rfl, rfl, rfl, rfl, rfl, rfl, rfl, rfl, ⟨70, _, _, _, rfl, XK 70 _ rfl, rfl, rfl⟩, fun q e => by cases e⟩, by decide +kernel, rfl⟩
  have b6 : BindOk X 71 df3_6 full3_6 := BindOk.plainN (n := 4) rfl rfl fun fd o ho hd s ys hk hl => by
    have e : X.h₀.get? 71 = some _ := XK 71 _ rfl
    rw [e] at ho; cases ho; cases hd
    exact len_eS hl fun x0 ys hl => len_eS hl fun x1 ys hl => len_eS hl fun x2 ys hl => len_eS hl fun x3 ys hl => len_e0 hl (.of_eq rfl)
  have f7 : Mine.FnAt X 78 df3_7 := ⟨⟨_, _, XK 78 _ rfl, rfl, rfl, rfl, rfl, rfl, rfl, rfl, rfl, ⟨77, _, _, _, rfl, XK 77 _ rfl, rfl, rfl⟩, fun q e => by cases e⟩, by decide +kernel, rfl⟩
  have b7 : BindOk X 78 df3_7 full3_7 := BindOk.plainN (n := 5) rfl rfl fun fd o ho hd s ys hk hl => by
    have e : X.h₀.get? 78 = some _ := XK 78 _ rfl
    rw [e] at ho; cases ho; cases hd
    exact len_eS hl fun x0 ys hl => len_eS hl fun x1 ys hl => len_eS hl fun x2 ys hl => len_eS hl fun x3 ys hl => len_eS hl fun x4 ys hl => len_e0 hl (.of_eq rfl)
  have f8 : Mine.FnAt X 83 df3_8 := ⟨⟨_, _, XK 83 _ rfl, rfl, rfl, rfl, rfl, rfl, rfl, rfl, rfl, ⟨82, _, _, _, rfl, XK 82 _ rfl, rfl, rfl⟩, fun q e => by cases e; rfl⟩, by decide +kernel, rfl⟩
  have b8 : BindOk X 83 df3_8 full3_8 := BindOk.plainN (n := 1) rfl rfl fun fd o ho hd s ys hk hl => by
    have e : X.h₀.get? 83 = some _ := XK 83 _ rfl
    rw [e] at ho; cases ho; cases hd
    exact len_eS hl fun x0 ys hl => len_e0 hl (.of_eq rfl)
  have g : G3 X (fun k => [23, 32, 41, 50, 57, 64, 71, 78, 83].getD k 0) :=
    { O := { g := T'.g, b := T'.b, nolimit := T'.nolimit, builtins := T'.builtins, bmain := T'.bmain, codes := fun q hq => by
               have h := ghost_code hT9
               simp only [X, List.mem_cons, List.not_mem_nil, or_false] at hq
               subst hq
               all_goals first | exact h.1 | exact h.2.1 | exact h.2.2.1 | exact h.2.2.2.1 | exact h.2.2.2.2.1 , gens := hg }
      OT := { nodup := by show ([80] : List Addr).Nodup; decide, hidden := fun P hP => by
               simp only [X, Cx.ptabs, List.map_cons, List.map_nil, List.mem_cons, List.not_mem_nil, or_false] at hP
               subst hP
               all_goals exact hidden_get _ (by simp) }
      mg_0 := mg_of KX T.g (by kernel_rfl)
      fn_0 := rfl
      at_0 := f0
      bind_0 := b0
      mg_1 := mg_of KX T.g (by kernel_rfl)
      fn_1 := rfl
      at_1 := f1
      bind_1 := b1
      mg_2 := mg_of KX T.g (by kernel_rfl)
      fn_2 := rfl
      at_2 := f2
      bind_2 := b2
      mg_3 := mg_of KX T.g (by kernel_rfl)
      fn_3 := rfl
      at_3 := f3
      bind_3 := b3
      mg_4 := mg_of KX T.g (by kernel_rfl)
      fn_4 := rfl
      at_4 := f4
      bind_4 := b4
      mg_5 := mg_of KX T.g (by kernel_rfl)
      fn_5 := rfl
      at_5 := f5
      bind_5 := b5
      mg_6 := mg_of KX T.g (by kernel_rfl)
      fn_6 := rfl
      at_6 := f6
      bind_6 := b6
      mg_7 := mg_of KX T.g (by kernel_rfl)
      fn_7 := rfl
      at_7 := f7
      bind_7 := b7
      mg_8 := mg_of KX T.g (by kernel_rfl)
      fn_8 := rfl
      at_8 := f8
      bind_8 := b8
      no_ValueError := ns_none_of KX T.g (by kernel_rfl)
      no_len := ns_none_of KX T.g (by kernel_rfl)
      no_list := ns_none_of KX T.g (by kernel_rfl)
      no_max := ns_none_of KX T.g (by kernel_rfl)
      no_min := ns_none_of KX T.g (by kernel_rfl)
      no_range := ns_none_of KX T.g (by kernel_rfl)
      no_sorted := ns_none_of KX T.g (by kernel_rfl)
      no_str := ns_none_of KX T.g (by kernel_rfl)
      no_sum := ns_none_of KX T.g (by kernel_rfl)
      lam_0 := rfl
      tabs := by show 1 ≤ 1000; omega
      tab_8 := ⟨_, rfl, rfl⟩
    }
  wrow_args hpre hlay hrd hwl hlo
  rename_i xs _ _ _ _ _ _ _ l its _ hL _ _ _ hI _ hlen _
  have hxs : xs.length ≤ 63 := by
    have h1 : ¬ ((63 : Int) < xs.length) := by assumption
    omega
  obtain ⟨H', ef⟩ := key xs hxs
  have hl := hI.length
  exact join_end (X := X) (n := 40) (vs := []) rfl rfl rfl hT9 hg (by decide) (call3_8 (n := 40) g (by decide)) (.frz (ghost_list hT9 hL) (vrs_of_ints hI) (by omega)) ef (fun _ _ => rfl) (postW_of (by wrow_shape) (w_eq_bool (w_res rfl) w_lit) rfl) trivial g.OT.nodup
end Mine
namespace Mine
theorem sSeq_n {a b : Sm} {σ σ1 : S} (h : a σ = some (.next, σ1)) : sSeq a b σ = b σ1 := by unfold sSeq; rw [h]
theorem sSeq_r {a b : Sm} {σ σ1 : S} {v : V} (h : a σ = some (.ret v, σ1)) : sSeq a b σ = some (.ret v, σ1) := by unfold sSeq; rw [h]
theorem sIf_t {t : Bm} {a b : Sm} {σ : S} {H : List L} (h : t σ = some (true, H)) : sIf t a b σ = a { σ with H := H } := by unfold sIf; rw [h]
theorem sIf_f {t : Bm} {a b : Sm} {σ : S} {H : List L} (h : t σ = some (false, H)) : sIf t a b σ = b { σ with H := H } := by unfold sIf; rw [h]
theorem sOne {a : Sm} {σ σ1 : S} (h : a σ = some (.next, σ1)) : sSeq a sNil σ = some (.next, σ1) := by rw [sSeq_n h]; rfl
theorem mBin_eq {f : F2} {a b : Xm} {σ : S} {x y : V} {H1 H2 : List L} (h1 : a σ = some (x, H1)) (h2 : b { σ with H := H1 } = some (y, H2)) : mBin f a b σ = f x y H2 := by unfold mBin; rw [h1]; simp only; rw [h2]
theorem mTest_eq {m : Xm} {σ : S} {v : V} {H : List L} {b : Bool} (h : m σ = some (v, H)) (h2 : fTruth v H = some b) : mTest m σ = some (b, H) := by unfold mTest; rw [h]; simp only; rw [h2]
/-- the locals of a search -/
noncomputable def bSt (a : Nat) (x lo hi : Int) (key mid : Option V) (cel : List Nat) (C : List (Option V)) (H : List L) : S :=
  { loc := [some (.ref a), some (.int x), some (.int lo), some (.int hi), key, mid], cel := cel, C := C, H := H }
theorem t_lt {a : Nat} {x lo hi : Int} {key mid : Option V} {cel : List Nat} {C : List (Option V)} {H : List L} : mTest (mBin fLt (mLoc 2) (mLoc 3)) (bSt a x lo hi key mid cel C H) = some (decide (lo < hi), H) := by
  simp [mTest, mBin, mLoc, bSt, fLt, fTruth]
theorem s_mid {a : Nat} {x lo hi : Int} {key mid : Option V} {cel : List Nat} {C : List (Option V)} {H : List L} : sAssign (.loc 5) (mBin fDiv (mBin fAdd (mLoc 2) (mLoc 3)) (mInt 2)) (bSt a x lo hi key mid cel C H) = some (.next, bSt a x lo hi key (some (.int ((lo + hi).fdiv 2))) cel C H) := by
  simp [sAssign, mBin, mLoc, mInt, bSt, fDiv, fAdd, small, Tgt.put]
theorem s_lo {a : Nat} {x lo hi m : Int} {key : Option V} {cel : List Nat} {C : List (Option V)} {H : List L} : sAssign (.loc 2) (mBin fAdd (mLoc 5) (mInt 1)) (bSt a x lo hi key (some (.int m)) cel C H) = some (.next, bSt a x (m + 1) hi key (some (.int m)) cel C H) := by
  simp [sAssign, mBin, mLoc, mInt, bSt, fAdd, Tgt.put]
theorem s_hi {a : Nat} {x lo hi m : Int} {key : Option V} {cel : List Nat} {C : List (Option V)} {H : List L} : sAssign (.loc 3) (mLoc 5) (bSt a x lo hi key (some (.int m)) cel C H) = some (.next, bSt a x lo m key (some (.int m)) cel C H) := by
  simp [sAssign, mLoc, bSt, Tgt.put]
noncomputable def loopL (ek : Xm) : Sm := sSeq (sAssign (.loc 5) (mBin fDiv (mBin fAdd (mLoc 2) (mLoc 3)) (mInt 2))) (sSeq (sIf (mTest (mBin fLt ek (mLoc 1))) (sSeq (sAssign (.loc 2) (mBin fAdd (mLoc 5) (mInt 1))) sNil) (sSeq (sAssign (.loc 3) (mLoc 5)) sNil)) sNil)
noncomputable def loopR (ek : Xm) : Sm := sSeq (sAssign (.loc 5) (mBin fDiv (mBin fAdd (mLoc 2) (mLoc 3)) (mInt 2))) (sSeq (sIf (mTest (mBin fLt (mLoc 1) ek)) (sSeq (sAssign (.loc 3) (mLoc 5)) sNil) (sSeq (sAssign (.loc 2) (mBin fAdd (mLoc 5) (mInt 1))) sNil)) sNil)
theorem mid_in {lo hi : Int} (h : lo < hi) : lo ≤ (lo + hi).fdiv 2 ∧ (lo + hi).fdiv 2 < hi := by
  rw [Int.fdiv_eq_ediv_of_nonneg _ (by omega)]
  omega
/-- the key of the item in the middle -/
noncomputable def KeyAt (ek : Xm) (ks : List Int) (a : Nat) (x : Int) (key : Option V) (cel : List Nat) (C : List (Option V)) (H : List L) : Prop :=
  ∀ (lo hi m : Int), 0 ≤ m → m < ks.length → ek (bSt a x lo hi key (some (.int m)) cel C H) = some (.int (ks.getD m.toNat 0), H)
theorem go_up {lo hi cnt m : Int} (h1 : lo ≤ m) (h2 : m < hi) (h3 : m < cnt) : max lo (min hi cnt) = max (m + 1) (min hi cnt) := by omega
theorem go_dn {lo hi cnt m : Int} (h2 : m < hi) (h3 : ¬ m < cnt) : max lo (min hi cnt) = max lo (min m cnt) := by omega
theorem go_stop {lo hi cnt : Int} (h : ¬ lo < hi) : max lo (min hi cnt) = lo := by omega
theorem loopL_go {ek : Xm} {ks : List Int} {a : Nat} {x : Int} {key : Option V} {cel : List Nat} {C : List (Option V)} {H : List L} (hk : KeyAt ek ks a x key cel C H) {cnt : Int} (hc : ∀ j : Nat, j < ks.length → (ks.getD j 0 < x ↔ (j : Int) < cnt)) :
    ∀ (fuel : Nat) (lo hi : Int) (mid : Option V), 0 ≤ lo → hi ≤ ks.length → hi - lo < fuel → 0 < fuel → ∃ hi' mid', whileGo (mTest (mBin fLt (mLoc 2) (mLoc 3))) (loopL ek) fuel (bSt a x lo hi key mid cel C H) = some (.next, bSt a x (max lo (min hi cnt)) hi' key mid' cel C H) := by
  intro fuel
  induction fuel with
  | zero =>
    intro lo hi mid h0 hh hf hp
    omega
  | succ fuel ih =>
    intro lo hi mid h0 hh hf hp
    unfold whileGo
    rw [t_lt]
    by_cases hlt : lo < hi
    · simp only [hlt, decide_true]
      obtain ⟨m1, m2⟩ := mid_in hlt
      generalize hm : (lo + hi).fdiv 2 = m at m1 m2
      have hj := hc m.toNat (by omega)
      rw [show ((m.toNat : Nat) : Int) = m by omega] at hj
      have e1 : loopL ek (bSt a x lo hi key mid cel C H) = if ks.getD m.toNat 0 < x then some (.next, bSt a x (m + 1) hi key (some (.int m)) cel C H) else some (.next, bSt a x lo m key (some (.int m)) cel C H) := by
        have hm2 := s_mid (a := a) (x := x) (lo := lo) (hi := hi) (key := key) (mid := mid) (cel := cel) (C := C) (H := H)
        rw [hm] at hm2
        have ht : mTest (mBin fLt ek (mLoc 1)) (bSt a x lo hi key (some (.int m)) cel C H) = some (decide (ks.getD m.toNat 0 < x), H) :=
          mTest_eq (mBin_eq (hk lo hi m (by omega) (by omega)) (y := .int x) (H2 := H) rfl) rfl
        unfold loopL
        rw [sSeq_n hm2]
        by_cases hx : ks.getD m.toNat 0 < x
        · rw [if_pos hx]
          simp only [hx, decide_true] at ht
          refine sOne ?_
          rw [sIf_t ht]
          exact sOne s_lo
        · rw [if_neg hx]
          simp only [hx, decide_false] at ht
          refine sOne ?_
          rw [sIf_f ht]
          exact sOne s_hi
      rw [show ({ bSt a x lo hi key mid cel C H with H := H } : S) = bSt a x lo hi key mid cel C H from rfl, e1]
      by_cases hx : ks.getD m.toNat 0 < x
      · rw [if_pos hx]
        obtain ⟨h1, h2, h3⟩ := ih (m + 1) hi (some (.int m)) (by omega) hh (by omega) (by omega)
        refine ⟨h1, h2, ?_⟩
        have := hj.mp hx
        rw [go_up m1 m2 this]
        exact h3
      · rw [if_neg hx]
        obtain ⟨h1, h2, h3⟩ := ih lo m (some (.int m)) h0 (by omega) (by omega) (by omega)
        refine ⟨h1, h2, ?_⟩
        have : ¬ m < cnt := fun q => hx (hj.mpr q)
        rw [go_dn m2 this]
        exact h3
    · simp only [hlt, decide_false]
      exact ⟨hi, mid, by rw [go_stop hlt]; rfl⟩
end Mine
namespace Mine
theorem loopR_go {ek : Xm} {ks : List Int} {a : Nat} {x : Int} {key : Option V} {cel : List Nat} {C : List (Option V)} {H : List L} (hk : KeyAt ek ks a x key cel C H) {cnt : Int} (hc : ∀ j : Nat, j < ks.length → (ks.getD j 0 ≤ x ↔ (j : Int) < cnt)) :
    ∀ (fuel : Nat) (lo hi : Int) (mid : Option V), 0 ≤ lo → hi ≤ ks.length → hi - lo < fuel → 0 < fuel → ∃ hi' mid', whileGo (mTest (mBin fLt (mLoc 2) (mLoc 3))) (loopR ek) fuel (bSt a x lo hi key mid cel C H) = some (.next, bSt a x (max lo (min hi cnt)) hi' key mid' cel C H) := by
  intro fuel
  induction fuel with
  | zero =>
    intro lo hi mid h0 hh hf hp
    omega
  | succ fuel ih =>
    intro lo hi mid h0 hh hf hp
    unfold whileGo
    rw [t_lt]
    by_cases hlt : lo < hi
    · simp only [hlt, decide_true]
      obtain ⟨m1, m2⟩ := mid_in hlt
      generalize hm : (lo + hi).fdiv 2 = m at m1 m2
      have hj := hc m.toNat (by omega)
      rw [show ((m.toNat : Nat) : Int) = m by omega] at hj
      have e1 : loopR ek (bSt a x lo hi key mid cel C H) = if x < ks.getD m.toNat 0 then some (.next, bSt a x lo m key (some (.int m)) cel C H) else some (.next, bSt a x (m + 1) hi key (some (.int m)) cel C H) := by
        have hm2 := s_mid (a := a) (x := x) (lo := lo) (hi := hi) (key := key) (mid := mid) (cel := cel) (C := C) (H := H)
        rw [hm] at hm2
        have ht : mTest (mBin fLt (mLoc 1) ek) (bSt a x lo hi key (some (.int m)) cel C H) = some (decide (x < ks.getD m.toNat 0), H) :=
          by
          have hb : mBin fLt (mLoc 1) ek (bSt a x lo hi key (some (.int m)) cel C H) = fLt (.int x) (.int (ks.getD m.toNat 0)) H := mBin_eq (x := .int x) (H1 := H) rfl (hk lo hi m (by omega) (by omega))
          exact mTest_eq hb rfl
        unfold loopR
        rw [sSeq_n hm2]
        by_cases hx : x < ks.getD m.toNat 0
        · rw [if_pos hx]
          simp only [hx, decide_true] at ht
          refine sOne ?_
          rw [sIf_t ht]
          exact sOne s_hi
        · rw [if_neg hx]
          simp only [hx, decide_false] at ht
          refine sOne ?_
          rw [sIf_f ht]
          exact sOne s_lo
      rw [show ({ bSt a x lo hi key mid cel C H with H := H } : S) = bSt a x lo hi key mid cel C H from rfl, e1]
      by_cases hx : x < ks.getD m.toNat 0
      · rw [if_pos hx]
        obtain ⟨h1, h2, h3⟩ := ih lo m (some (.int m)) h0 (by omega) (by omega) (by omega)
        refine ⟨h1, h2, ?_⟩
        have : ¬ m < cnt := fun q => by have := hj.mpr q; omega
        rw [go_dn m2 this]
        exact h3
      · rw [if_neg hx]
        obtain ⟨h1, h2, h3⟩ := ih (m + 1) hi (some (.int m)) (by omega) hh (by omega) (by omega)
        refine ⟨h1, h2, ?_⟩
        have := hj.mp (by omega)
        rw [go_up m1 m2 this]
        exact h3
    · simp only [hlt, decide_false]
      exact ⟨hi, mid, by rw [go_stop hlt]; rfl⟩
noncomputable def bisBody (loop : Xm → Sm) (disp : V → Option FCall) : Sm :=
  sSeq (sIf (mTest (mBin fLt (mLoc 2) (mInt 0))) (sSeq sNo sNil) sNil) (sSeq (sIf (mTest (mUn fIsNone (mLoc 3))) (sSeq (sAssign (.loc 3) (mArgs fLen (aCons (mLoc 0) aNil))) sNil) sNil)
    (sSeq (sIf (mTest (mUn fIsNone (mLoc 4))) (sSeq (sWhile 1000 (mTest (mBin fLt (mLoc 2) (mLoc 3))) (loop (mBin fItem (mLoc 0) (mLoc 5)))) sNil)
      (sSeq (sWhile 1000 (mTest (mBin fLt (mLoc 2) (mLoc 3))) (loop (mCall (mLoc 4) disp (aCons (mBin fItem (mLoc 0) (mLoc 5)) aNil)))) sNil)) (sSeq (sRet (mLoc 2)) sNil)))
theorem expo_flat {v : V} {H : List L} (hv : kap1 H.length v H = []) (hr : renV H.length [] v = some v) : expo kap1 H.length v H = some (v, H) := by
  unfold expo
  rw [hv]
  simp [hr, expLs]
/-- how the keys are read: no key, or a function on ints -/
inductive KeyOk (disp : V → Option FCall) (C : List (Option V)) (H : List L) (xs : List Int) : V → List Int → Prop
  | none : KeyOk disp C H xs .none xs
  | fn {kv : V} {f : FCall} {g : Int → Int} (hn : kv.isNone = false) (hd : disp kv = some f) (hf : ∀ i ∈ xs, f [.int i] none C H = some (.int (g i), H)) : KeyOk disp C H xs kv (xs.map g)
theorem fItem_ints {H : List L} {a : Nat} {xs : List Int} (ha : H[a]? = some (.ints xs)) {m : Int} (h0 : 0 ≤ m) (h1 : m < xs.length) : fItem (.ref a) (.int m) H = some (.int (xs.getD m.toNat 0), H) := by
  unfold fItem
  simp only [ha, L.vs, List.length_map]
  have : pyIdx m xs.length = some m.toNat := by unfold pyIdx; rw [if_pos h0, if_pos h1]
  rw [this]
  have hlt : m.toNat < xs.length := by omega
  simp [List.getElem?_map, List.getElem?_eq_getElem hlt, List.getD_eq_getElem?_getD]
theorem keyAt_none {a : Nat} {x : Int} {key : Option V} {cel : List Nat} {C : List (Option V)} {H : List L} {xs : List Int} (ha : H[a]? = some (.ints xs)) : KeyAt (mBin fItem (mLoc 0) (mLoc 5)) xs a x key cel C H := fun lo hi m h0 h1 => by
  rw [mBin_eq (x := .ref a) (H1 := H) (y := .int m) (H2 := H) rfl rfl]
  exact fItem_ints ha h0 h1
theorem keyAt_fn {disp : V → Option FCall} {a : Nat} {x : Int} {kv : V} {f : FCall} {g : Int → Int} {cel : List Nat} {C : List (Option V)} {H : List L} {xs : List Int} (ha : H[a]? = some (.ints xs)) (hd : disp kv = some f) (hf : ∀ i ∈ xs, f [.int i] none C H = some (.int (g i), H)) :
    KeyAt (mCall (mLoc 4) disp (aCons (mBin fItem (mLoc 0) (mLoc 5)) aNil)) (xs.map g) a x (some kv) cel C H := fun lo hi m h0 h1 => by
  simp only [List.length_map] at h1
  have e1 := keyAt_none (x := x) (key := some kv) (cel := cel) (C := C) ha lo hi m h0 h1
  have hlt : m.toNat < xs.length := by omega
  have hmem : xs.getD m.toNat 0 ∈ xs := by rw [List.getD_eq_getElem?_getD, List.getElem?_eq_getElem hlt]; exact List.getElem_mem hlt
  unfold mCall
  rw [show mLoc 4 (bSt a x lo hi (some kv) (some (.int m)) cel C H) = some (kv, H) from rfl]
  simp only [hd]
  unfold aCons aNil
  rw [show ({ bSt a x lo hi (some kv) (some (.int m)) cel C H with H := H } : S) = bSt a x lo hi (some kv) (some (.int m)) cel C H from rfl, e1]
  simp only
  rw [show (bSt a x lo hi (some kv) (some (.int m)) cel C H).C = C from rfl, hf _ hmem]
  simp [List.getD_eq_getElem?_getD, List.getElem?_map, List.getElem?_eq_getElem hlt]
/-- the answer of a search, as a place -/
noncomputable def bisAns (lo hi cnt : Int) : Int := max lo (min hi cnt)
theorem bis_go {loop : Xm → Sm} {disp : V → Option FCall} {d : Df} (hli : d.li = [some 0, some 1, some 2, some 3, some 4, none]) (hci : d.ci = []) {a : Nat} {x lo : Int} {hiV keyV : V} {vs : List V} {kv : Option V} {C : List (Option V)} {H : List L} {xs ks : List Int} {cnt : Int}
    (hfull : bisFull vs kv = some [.ref a, .int x, .int lo, hiV, keyV]) (ha : H[a]? = some (.ints xs)) (hlen : xs.length ≤ 900) (hlo : 0 ≤ lo) {hi : Int} (hhi : (hiV = .none ∧ hi = xs.length) ∨ (hiV = .int hi ∧ hi ≤ xs.length)) (hK : KeyOk disp C H xs keyV ks)
    (hgo : ∀ (ek : Xm), KeyAt ek ks a x (some keyV) [] C H → ∀ (fuel : Nat) (lo hi : Int) (mid : Option V), 0 ≤ lo → hi ≤ ks.length → hi - lo < fuel → 0 < fuel → ∃ hi' mid', whileGo (mTest (mBin fLt (mLoc 2) (mLoc 3))) (loop ek) fuel (bSt a x lo hi (some keyV) mid [] C H) = some (.next, bSt a x (max lo (min hi cnt)) hi' (some keyV) mid' [] C H)) :
    fnSem d bisFull kap1 (bisBody loop disp) vs kv C H = some (.int (bisAns lo hi cnt), H) := by
  unfold fnSem
  rw [hfull]
  simp only
  have hent : entry d [.ref a, .int x, .int lo, hiV, keyV] C H = { loc := [some (.ref a), some (.int x), some (.int lo), some hiV, some keyV, none], cel := [], C := C, H := H } := by
    unfold entry
    rw [hli, hci]
    simp
  rw [hent]
  have hkl : ks.length = xs.length := by cases hK <;> simp
  have key : ∃ σ1, bisBody loop disp { loc := [some (.ref a), some (.int x), some (.int lo), some hiV, some keyV, none], cel := [], C := C, H := H } = some (.ret (.int (bisAns lo hi cnt)), σ1) ∧ σ1.H = H := by
    unfold bisBody
    have t0 : mTest (mBin fLt (mLoc 2) (mInt 0)) { loc := [some (.ref a), some (.int x), some (.int lo), some hiV, some keyV, none], cel := [], C := C, H := H } = some (false, H) := by
      refine mTest_eq (mBin_eq (x := .int lo) (H1 := H) (y := .int 0) (H2 := H) rfl rfl) ?_
      show some (decide (lo < 0)) = some false
      rw [decide_eq_false (by omega)]
    have s0 : sIf (mTest (mBin fLt (mLoc 2) (mInt 0))) (sSeq sNo sNil) sNil { loc := [some (.ref a), some (.int x), some (.int lo), some hiV, some keyV, none], cel := [], C := C, H := H } = some (.next, { loc := [some (.ref a), some (.int x), some (.int lo), some hiV, some keyV, none], cel := [], C := C, H := H }) := by rw [sIf_f t0]; rfl
    rw [sSeq_n s0]
    have s1 : sIf (mTest (mUn fIsNone (mLoc 3))) (sSeq (sAssign (.loc 3) (mArgs fLen (aCons (mLoc 0) aNil))) sNil) sNil { loc := [some (.ref a), some (.int x), some (.int lo), some hiV, some keyV, none], cel := [], C := C, H := H } = some (.next, bSt a x lo hi (some keyV) none [] C H) := by
      rcases hhi with ⟨rfl, rfl⟩ | ⟨rfl, h2⟩
      · rw [sIf_t (H := H) rfl]
        refine sOne ?_
        unfold sAssign mArgs aCons aNil
        simp only [mLoc, List.getElem?_cons_zero, fLen, ha, L.vs, List.length_map, Tgt.put]
        rfl
      · rw [sIf_f (H := H) rfl]; rfl
    rw [sSeq_n s1]
    obtain ⟨hi', mid', hw⟩ : ∃ hi' mid', sIf (mTest (mUn fIsNone (mLoc 4))) (sSeq (sWhile 1000 (mTest (mBin fLt (mLoc 2) (mLoc 3))) (loop (mBin fItem (mLoc 0) (mLoc 5)))) sNil)
      (sSeq (sWhile 1000 (mTest (mBin fLt (mLoc 2) (mLoc 3))) (loop (mCall (mLoc 4) disp (aCons (mBin fItem (mLoc 0) (mLoc 5)) aNil)))) sNil) (bSt a x lo hi (some keyV) none [] C H) = some (.next, bSt a x (max lo (min hi cnt)) hi' (some keyV) mid' [] C H) := by
      have hhl : hi ≤ xs.length := by rcases hhi with ⟨_, rfl⟩ | ⟨_, h⟩ <;> omega
      cases hK with
      | none =>
        obtain ⟨hi', mid', h⟩ := hgo _ (keyAt_none ha) 1000 lo hi none hlo (by omega) (by omega) (by omega)
        refine ⟨hi', mid', ?_⟩
        rw [sIf_t (H := H) rfl]
        exact sOne h
      | fn hn hd hf =>
        obtain ⟨hi', mid', h⟩ := hgo _ (keyAt_fn ha hd hf) 1000 lo hi none hlo (by omega) (by omega) (by omega)
        refine ⟨hi', mid', ?_⟩
        rw [sIf_f (H := H) (by
          refine mTest_eq (v := .bool keyV.isNone) (H := H) ?_ (by rw [hn]; rfl)
          unfold mUn
          rw [show mLoc 4 (bSt a x lo hi (some keyV) none [] C H) = some (keyV, H) from rfl]
          exact fIsNone_eq keyV H)]
        exact sOne h
    rw [sSeq_n hw]
    exact ⟨_, sSeq_r (σ1 := bSt a x (max lo (min hi cnt)) hi' (some keyV) mid' [] C H) rfl, rfl⟩
  obtain ⟨σ1, e1, e2⟩ := key
  rw [e1]
  simp only
  rw [e2]
  exact expo_flat rfl rfl
end Mine
namespace Mine
noncomputable def cntLt (ks : List Int) (x : Int) : Nat := (ks.filter fun k => decide (k < x)).length
noncomputable def cntLe (ks : List Int) (x : Int) : Nat := (ks.filter fun k => decide (k ≤ x)).length
theorem cntLt_le (ks : List Int) (x : Int) : cntLt ks x ≤ ks.length := List.length_filter_le _ _
theorem cntLe_le (ks : List Int) (x : Int) : cntLe ks x ≤ ks.length := List.length_filter_le _ _
theorem cnt_at {p : Int → Bool} : ∀ {ks : List Int}, ks.Pairwise (fun a b => p b = true → p a = true) → ∀ j : Nat, j < ks.length → (p (ks.getD j 0) = true ↔ j < (ks.filter p).length)
  | [], _, j, h => by simp at h
  | k :: ks, hp, j, h => by
    rw [List.pairwise_cons] at hp
    by_cases hk : p k = true
    · rw [List.filter_cons_of_pos hk]
      cases j with
      | zero => simp [hk]
      | succ j =>
        have := cnt_at hp.2 j (by simpa using h)
        simp only [List.getD_cons_succ, List.length_cons]
        rw [this]; omega
    · have hall : ks.filter p = [] := by
        rw [List.filter_eq_nil_iff]
        intro b hb q
        exact hk (hp.1 b hb q)
      rw [List.filter_cons_of_neg hk, hall]
      cases j with
      | zero => simp [hk]
      | succ j =>
        have hj : j < ks.length := by simpa using h
        simp only [List.getD_cons_succ, List.length_nil, Nat.not_lt_zero, iff_false]
        intro q
        refine hk (hp.1 _ ?_ q)
        rw [List.getD_eq_getElem?_getD, List.getElem?_eq_getElem hj]; exact List.getElem_mem hj
theorem cntLt_at {ks : List Int} (hs : ks.Pairwise (· ≤ ·)) (x : Int) (j : Nat) (h : j < ks.length) : ks.getD j 0 < x ↔ (j : Int) < (cntLt ks x : Int) := by
  have := cnt_at (p := fun k => decide (k < x)) (hs.imp fun {a b} hab q => by simp at q ⊢; omega) j h
  simp only [decide_eq_true_eq] at this
  rw [this]; unfold cntLt; omega
theorem cntLe_at {ks : List Int} (hs : ks.Pairwise (· ≤ ·)) (x : Int) (j : Nat) (h : j < ks.length) : ks.getD j 0 ≤ x ↔ (j : Int) < (cntLe ks x : Int) := by
  have := cnt_at (p := fun k => decide (k ≤ x)) (hs.imp fun {a b} hab q => by simp at q ⊢; omega) j h
  simp only [decide_eq_true_eq] at this
  rw [this]; unfold cntLe; omega
section
variable {disp : V → Option FCall} {d : Df} {a : Nat} {x lo hi : Int} {hiV keyV : V} {vs : List V} {kv : Option V} {C : List (Option V)} {H : List L} {xs ks : List Int}
theorem bisL_spec (hli : d.li = [some 0, some 1, some 2, some 3, some 4, none]) (hci : d.ci = []) (hfull : bisFull vs kv = some [.ref a, .int x, .int lo, hiV, keyV]) (ha : H[a]? = some (.ints xs)) (hlen : xs.length ≤ 900) (hlo : 0 ≤ lo)
    (hhi : (hiV = .none ∧ hi = xs.length) ∨ (hiV = .int hi ∧ hi ≤ xs.length)) (hK : KeyOk disp C H xs keyV ks) (hs : ks.Pairwise (· ≤ ·)) : fnSem d bisFull kap1 (bisBody loopL disp) vs kv C H = some (.int (bisAns lo hi (cntLt ks x)), H) :=
  bis_go hli hci hfull ha hlen hlo hhi hK fun ek hk => loopL_go hk (cntLt_at hs x)
theorem bisR_spec (hli : d.li = [some 0, some 1, some 2, some 3, some 4, none]) (hci : d.ci = []) (hfull : bisFull vs kv = some [.ref a, .int x, .int lo, hiV, keyV]) (ha : H[a]? = some (.ints xs)) (hlen : xs.length ≤ 900) (hlo : 0 ≤ lo)
    (hhi : (hiV = .none ∧ hi = xs.length) ∨ (hiV = .int hi ∧ hi ≤ xs.length)) (hK : KeyOk disp C H xs keyV ks) (hs : ks.Pairwise (· ≤ ·)) : fnSem d bisFull kap1 (bisBody loopR disp) vs kv C H = some (.int (bisAns lo hi (cntLe ks x)), H) :=
  bis_go hli hci hfull ha hlen hlo hhi hK fun ek hk => loopR_go hk (cntLe_at hs x)
noncomputable def insBody (k : Nat) (semB : FCall) (disp : V → Option FCall) : Sm :=
  sSeq (sIf (mTest (mUn fIsNone (mLoc 4))) (sSeq (sAssign (.loc 2) (mCall (mFn k) (dFn k semB) (aCons (mLoc 0) (aCons (mLoc 1) (aCons (mLoc 2) (aCons (mLoc 3) aNil)))))) sNil)
    (sSeq (sAssign (.loc 2) (mCallK (mFn k) (dFn k semB) (aCons (mLoc 0) (aCons (mCall (mLoc 4) disp (aCons (mLoc 1) aNil)) (aCons (mLoc 2) (aCons (mLoc 3) aNil)))) (mLoc 4))) sNil)) (sSeq (sExpr (mMeth fInsert (mLoc 0) (aCons (mLoc 2) (aCons (mLoc 1) aNil)))) sNil)
/-- the key of what is put in -/
inductive KeyX (disp : V → Option FCall) (C : List (Option V)) (H : List L) (x : Int) : V → Int → Prop
  | none : KeyX disp C H x .none x
  | fn {kv : V} {f : FCall} {y : Int} (hn : kv.isNone = false) (hd : disp kv = some f) (hf : f [.int x] none C H = some (.int y, H)) : KeyX disp C H x kv y
theorem ins_go {k : Nat} {semB : FCall} {y r : Int} (hli : d.li = [some 0, some 1, some 2, some 3, some 4]) (hci : d.ci = []) (hfull : bisFull vs kv = some [.ref a, .int x, .int lo, hiV, keyV]) (ha : H[a]? = some (.ints xs)) (hlen : xs.length ≤ 900)
    (hX : KeyX disp C H x keyV y) (hB : semB [.ref a, .int y, .int lo, hiV] (if keyV.isNone then none else some keyV) C H = some (.int r, H)) (hr0 : 0 ≤ r) (hr : r ≤ xs.length) :
    fnSem d bisFull kap1 (insBody k semB disp) vs kv C H = some (.none, H.set a (.ints (insL xs r x))) := by
  unfold fnSem
  rw [hfull]
  simp only
  have hent : entry d [.ref a, .int x, .int lo, hiV, keyV] C H = { loc := [some (.ref a), some (.int x), some (.int lo), some hiV, some keyV], cel := [], C := C, H := H } := by
    unfold entry
    rw [hli, hci]
    simp
  rw [hent]
  have halt : a < H.length := (List.getElem?_eq_some_iff.mp ha).1
  have key : insBody k semB disp { loc := [some (.ref a), some (.int x), some (.int lo), some hiV, some keyV], cel := [], C := C, H := H } = some (.next, { loc := [some (.ref a), some (.int x), some (.int r), some hiV, some keyV], cel := [], C := C, H := H.set a (.ints (insL xs r x)) }) := by
    unfold insBody
    have s0 : sIf (mTest (mUn fIsNone (mLoc 4))) (sSeq (sAssign (.loc 2) (mCall (mFn k) (dFn k semB) (aCons (mLoc 0) (aCons (mLoc 1) (aCons (mLoc 2) (aCons (mLoc 3) aNil)))))) sNil)
        (sSeq (sAssign (.loc 2) (mCallK (mFn k) (dFn k semB) (aCons (mLoc 0) (aCons (mCall (mLoc 4) disp (aCons (mLoc 1) aNil)) (aCons (mLoc 2) (aCons (mLoc 3) aNil)))) (mLoc 4))) sNil) { loc := [some (.ref a), some (.int x), some (.int lo), some hiV, some keyV], cel := [], C := C, H := H } =
        some (.next, { loc := [some (.ref a), some (.int x), some (.int r), some hiV, some keyV], cel := [], C := C, H := H }) := by
      cases hX with
      | none =>
        rw [sIf_t (H := H) rfl]
        refine sOne ?_
        unfold sAssign mCall mFn aCons aNil dFn
        simp only [mLoc, List.getElem?_cons_zero, List.getElem?_cons_succ, if_true]
        simp only [V.isNone, if_true] at hB
        rw [hB]
        rfl
      | fn hn hd hf =>
        rw [sIf_f (H := H) (by
          refine mTest_eq (v := .bool keyV.isNone) (H := H) ?_ (by rw [hn]; rfl)
          exact fIsNone_eq keyV H)]
        refine sOne ?_
        unfold sAssign mCallK mCall mFn aCons aNil dFn
        simp only [mLoc, List.getElem?_cons_zero, List.getElem?_cons_succ, if_true, hd]
        rw [hf]
        simp only [mLoc, List.getElem?_cons_zero, List.getElem?_cons_succ]
        rw [hn] at hB
        simp only [Bool.false_eq_true, if_false] at hB
        rw [hB]
        rfl
    rw [sSeq_n s0]
    refine sOne ?_
    unfold sExpr mMeth aCons aNil
    simp only [mLoc, List.getElem?_cons_zero, List.getElem?_cons_succ, halt, if_true, fInsert, ha, V.flat, Bool.true_and, L.vs, List.length_map]
    rw [if_pos (by
      simp only [Builtin.List.listFitsIndex, Bool.and_eq_true, decide_eq_true_eq]
      omega)]
    rfl
  rw [key]
  simp only
  have hl : H.length = (H.set a (.ints (insL xs r x))).length := by simp
  rw [hl]
  exact expo_flat rfl rfl
end
end Mine
namespace Mine
/-- the place of a peg -/
noncomputable def plc (N s p : Int) : Int := (p * s) % N
theorem plc_nonneg {N s : Int} (hN : 0 < N) (p : Int) : 0 ≤ plc N s p := Int.emod_nonneg _ (by omega)
theorem plc_lt {N s : Int} (hN : 0 < N) (p : Int) : plc N s p < N := Int.emod_lt_of_pos _ hN
theorem plc_zero {N s : Int} : plc N s 0 = 0 := by simp [plc]
theorem plc_add {N s : Int} (hN : 0 < N) (p q : Int) : plc N s (p + q) = plc N s p + plc N s q ∨ plc N s (p + q) = plc N s p + plc N s q - N := by
  have h1 := plc_nonneg (s := s) hN p
  have h2 := plc_lt (s := s) hN p
  have h3 := plc_nonneg (s := s) hN q
  have h4 := plc_lt (s := s) hN q
  have e : plc N s (p + q) = (plc N s p + plc N s q) % N := by
    unfold plc
    rw [Int.add_mul, Int.add_emod]
  rw [e]
  by_cases h : plc N s p + plc N s q < N
  · left; exact Int.emod_eq_of_lt (by omega) h
  · right
    have : (plc N s p + plc N s q) % N = (plc N s p + plc N s q - N) % N := by
      rw [Int.sub_emod_right]
    rw [this]; exact Int.emod_eq_of_lt (by omega) (by omega)
theorem plc_at {N s : Int} (hN : 0 < N) {p q r : Int} (e : p + q = r) : plc N s r = plc N s p + plc N s q ∨ plc N s r = plc N s p + plc N s q - N := e ▸ plc_add hN p q
theorem plc_sub {N s : Int} (hN : 0 < N) (p r : Int) : plc N s r = plc N s p + plc N s (r - p) ∨ plc N s r = plc N s p + plc N s (r - p) - N := plc_at hN (by omega)
/-- the rule for the peg that stands behind -/
noncomputable def behind (a n p q : Int) : Int := if a < n - p then a + p else if a < q then a + p - q else a - q
structure Gap (N s n p q : Int) : Prop where
  pos : 0 < N
  inj : ∀ a b, 0 ≤ a → a < n → 0 ≤ b → b < n → plc N s a = plc N s b → a = b
  p1 : 1 ≤ p
  pn : p < n
  q1 : 1 ≤ q
  qn : q < n
  min : ∀ c, 1 ≤ c → c < n → plc N s p ≤ plc N s c
  max : ∀ c, 1 ≤ c → c < n → plc N s c ≤ plc N s q
section
variable {N s n p q : Int}
theorem Gap.nz (g : Gap N s n p q) {c : Int} (h1 : 1 ≤ c) (h2 : c < n) : 0 < plc N s c := by
  have h := plc_nonneg (s := s) g.pos c
  have : plc N s c ≠ 0 := fun e => by
    have := g.inj c 0 (by omega) h2 (by omega) (by omega) (by rw [e, plc_zero])
    omega
  omega
theorem Gap.pq (g : Gap N s n p q) : n ≤ p + q := by
  refine Decidable.byContradiction fun hc => ?_
  have h0 := g.p1
  have h1 := g.q1
  have a := plc_add (s := s) g.pos p q
  have b := g.nz (c := p + q) (by omega) (by omega)
  have c := g.min (p + q) (by omega) (by omega)
  have d := g.max (p + q) (by omega) (by omega)
  have e := plc_lt (s := s) g.pos q
  have f := g.nz (c := p) (by omega) g.pn
  omega
theorem Gap.last (g : Gap N s n p q) : behind q n p q = 0 := by
  have := g.pq
  unfold behind
  rw [if_neg (by omega), if_neg (by omega)]; omega
theorem Gap.next (g : Gap N s n p q) {a : Int} (ha : 0 ≤ a) (han : a < n) (haq : a ≠ q) :
    0 ≤ behind a n p q ∧ behind a n p q < n ∧ plc N s a < plc N s (behind a n p q) ∧ ∀ c, 0 ≤ c → c < n → ¬(plc N s a < plc N s c ∧ plc N s c < plc N s (behind a n p q)) := by
  have hpq := g.pq
  have hp1 := g.p1
  have hq1 := g.q1
  have hpn := g.pn
  have hqn := g.qn
  have hα := g.nz (c := p) g.p1 g.pn
  have hβ := g.nz (c := q) g.q1 g.qn
  have hpl := plc_lt (s := s) g.pos p
  have hql := plc_lt (s := s) g.pos q
  have a0 := plc_nonneg (s := s) g.pos a
  have aN := plc_lt (s := s) g.pos a
  unfold behind
  by_cases h1 : a < n - p
  · rw [if_pos h1]
    have ab := plc_add (s := s) g.pos a p
    have abm := g.min (a + p) (by omega) (by omega)
    refine ⟨by omega, by omega, by omega, ?_⟩
    intro c hc hcn ⟨k1, k2⟩
    have c0 := plc_nonneg (s := s) g.pos c
    have cN := plc_lt (s := s) g.pos c
    by_cases hca : a < c
    · have d := plc_sub (s := s) g.pos a c
      have dm := g.min (c - a) (by omega) (by omega)
      have dm0 := plc_nonneg (s := s) g.pos (c - a)
      have dmN := plc_lt (s := s) g.pos (c - a)
      have d0 := plc_nonneg (s := s) g.pos (c - a)
      have dN := plc_lt (s := s) g.pos (c - a)
      omega
    · have hne : c ≠ a := fun e => by subst e; omega
      have d := plc_at (s := s) g.pos (p := c) (q := (a - c + p)) (r := a + p) (by omega)
      have dm := g.min (a - c + p) (by omega) (by omega)
      have dm0 := plc_nonneg (s := s) g.pos (a - c + p)
      have dmN := plc_lt (s := s) g.pos (a - c + p)
      have dN := plc_lt (s := s) g.pos (a - c + p)
      omega
  · rw [if_neg h1]
    by_cases h2 : a < q
    · rw [if_pos h2]
      have m1 := g.max a (by omega) han
      have e1 : plc N s a ≠ plc N s q := fun e => haq (g.inj _ _ ha han (by omega) hqn e)
      have m2 := plc_sub (s := s) g.pos a q
      have m3 := g.min (q - a) (by omega) (by omega)
      have mN := plc_lt (s := s) g.pos (q - a)
      have b1 := g.nz (c := a + p - q) (by omega) (by omega)
      have bN := plc_lt (s := s) g.pos (a + p - q)
      have b2 := plc_add (s := s) g.pos a p
      have b3 := plc_at (s := s) g.pos (p := (a + p - q)) (q := q) (r := a + p) (by omega)
      have key : plc N s (a + p - q) = plc N s a + plc N s p + (N - plc N s q) := by omega
      refine ⟨by omega, by omega, by omega, ?_⟩
      rw [key]
      intro c hc hcn ⟨k1, k2⟩
      have cN := plc_lt (s := s) g.pos c
      by_cases hca : a < c
      · have d := plc_sub (s := s) g.pos a c
        have dm := g.min (c - a) (by omega) (by omega)
        have dm0 := plc_nonneg (s := s) g.pos (c - a)
        have dmN := plc_lt (s := s) g.pos (c - a)
        have dN := plc_lt (s := s) g.pos (c - a)
        have dne : plc N s (c - a) ≠ plc N s p := fun e => by
          have := g.inj _ _ (by omega) (by omega) (by omega) hpn e
          omega
        have f := plc_at (s := s) g.pos (p := (c - a)) (q := (p + a - c)) (r := p) (by omega)
        have fm := g.max (p + a - c) (by omega) (by omega)
        have fm0 := plc_nonneg (s := s) g.pos (p + a - c)
        have fmN := plc_lt (s := s) g.pos (p + a - c)
        omega
      · have hne : c ≠ a := fun e => by subst e; omega
        have d := plc_sub (s := s) g.pos c a
        have dm := g.max (a - c) (by omega) (by omega)
        have dm0 := plc_nonneg (s := s) g.pos (a - c)
        have dmN := plc_lt (s := s) g.pos (a - c)
        have dne : plc N s (a - c) ≠ plc N s q := fun e => by
          have := g.inj _ _ (by omega) (by omega) (by omega) hqn e
          omega
        have f := plc_at (s := s) g.pos (p := (a - c)) (q := (q - (a - c))) (r := q) (by omega)
        have fm := g.min (q - (a - c)) (by omega) (by omega)
        have fm0 := plc_nonneg (s := s) g.pos (q - (a - c))
        have fmN := plc_lt (s := s) g.pos (q - (a - c))
        have fN := plc_lt (s := s) g.pos (q - (a - c))
        omega
    · rw [if_neg h2]
      have m1 := g.max a (by omega) han
      have e1 : plc N s a ≠ plc N s q := fun e => haq (g.inj _ _ ha han (by omega) hqn e)
      have b0 := plc_nonneg (s := s) g.pos (a - q)
      have b3 := plc_at (s := s) g.pos (p := (a - q)) (q := q) (r := a) (by omega)
      have bN := plc_lt (s := s) g.pos (a - q)
      have key : plc N s (a - q) = plc N s a + (N - plc N s q) := by omega
      refine ⟨by omega, by omega, by omega, ?_⟩
      rw [key]
      intro c hc hcn ⟨k1, k2⟩
      have cN := plc_lt (s := s) g.pos c
      by_cases hca : a < c
      · have d := plc_sub (s := s) g.pos a c
        have dm := g.min (c - a) (by omega) (by omega)
        have dm0 := plc_nonneg (s := s) g.pos (c - a)
        have dmN := plc_lt (s := s) g.pos (c - a)
        have dN := plc_lt (s := s) g.pos (c - a)
        have dne : plc N s (c - a) ≠ plc N s p := fun e => by
          have := g.inj _ _ (by omega) (by omega) (by omega) hpn e
          omega
        have f := plc_at (s := s) g.pos (p := (c - a)) (q := (p + a - c)) (r := p) (by omega)
        have fm := g.max (p + a - c) (by omega) (by omega)
        have fm0 := plc_nonneg (s := s) g.pos (p + a - c)
        have fmN := plc_lt (s := s) g.pos (p + a - c)
        omega
      · have hne : c ≠ a := fun e => by subst e; omega
        have d := plc_sub (s := s) g.pos c a
        have dm := g.max (a - c) (by omega) (by omega)
        have dm0 := plc_nonneg (s := s) g.pos (a - c)
        have dmN := plc_lt (s := s) g.pos (a - c)
        omega
end
end Mine
namespace Mine
theorem lam_place {C : List (Option V)} {H : List L} {c5 c4 : Nat} {s N i : Int} (h5 : C[c5]? = some (some (.int s))) (h4 : C[c4]? = some (some (.int N))) (hN : 0 < N) (hi : small i = true) :
    loSem lm3_0 [c5, c4] [.int i] none C H = some (.int (plc N s i), H) := by
  have hne : N ≠ 0 := by omega
  have : lm3_0 { loc := [some (.int i)], cel := [c5, c4], C := C, H := H } = some (.int ((i * s).fmod N), H) := by
    unfold lm3_0 mBin mLoc mCel
    simp only [List.getElem?_cons_zero, List.getElem?_cons_succ, h5, h4, fMul, hi, Bool.true_or, if_true, fMod, hne, if_false]
  show lm3_0 { loc := [some (.int i)], cel := [c5, c4], C := C, H := H } = _
  rw [this, Int.fmod_eq_emod_of_nonneg _ (by omega)]
  rfl
theorem sem_behind {C : List (Option V)} {H : List L} (a n p q : Int) : sem3_6 [.int a, .int n, .int p, .int q] none C H = some (.int (behind a n p q), H) := by
  have key : ∃ σ1, body3_6 (entry df3_6 [.int a, .int n, .int p, .int q] C H) = some (.ret (.int (behind a n p q)), σ1) ∧ σ1.H = H := by
    unfold behind
    by_cases h1 : a < n - p
    · rw [if_pos h1]
      refine ⟨_, sSeq_r (σ1 := entry df3_6 [.int a, .int n, .int p, .int q] C H) ?_, rfl⟩
      unfold m3_6_0
      rw [sIf_t (H := H) (by
        refine mTest_eq (v := .bool (decide (a < n - p))) (H := H) rfl ?_
        simp [fTruth, h1])]
      rfl
    · rw [if_neg h1]
      refine ⟨entry df3_6 [.int a, .int n, .int p, .int q] C H, ?_, rfl⟩
      unfold body3_6
      rw [sSeq_n (σ1 := entry df3_6 [.int a, .int n, .int p, .int q] C H)]
      · refine sSeq_r ?_
        unfold m3_6_1 sRet mIf
        rw [mTest_eq (v := .bool (decide (a < q))) (H := H) (b := decide (a < q)) rfl rfl]
        by_cases h2 : a < q
        · simp only [h2, decide_true, if_true]; rfl
        · simp only [h2, decide_false, if_false]; rfl
      · unfold m3_6_0
        rw [sIf_f (H := H) (by
          refine mTest_eq (v := .bool (decide (a < n - p))) (H := H) rfl ?_
          simp [fTruth, h1])]
        rfl
  obtain ⟨σ1, e1, e2⟩ := key
  unfold sem3_6 fnSem
  simp only [full3_6, List.length_cons, List.length_nil, if_true]
  rw [e1]
  simp only
  rw [e2]
  exact expo_flat rfl rfl
noncomputable def cGcd : Bm := mTest (mBin fNeI (mLoc 1) (mInt 0))
noncomputable def bGcd : Sm := sSeq (sSwap [.loc 0, .loc 1] (mTup (aCons (mLoc 1) (aCons (mBin fMod (mLoc 0) (mLoc 1)) aNil)))) sNil
noncomputable def gSt (a b : Int) (C : List (Option V)) (H : List L) : S := { loc := [some (.int a), some (.int b)], cel := [], C := C, H := H }
theorem gcd_stop {C : List (Option V)} {H : List L} (fuel a : Nat) : whileGo cGcd bGcd (fuel + 1) (gSt a 0 C H) = some (.next, gSt (Nat.gcd a 0) 0 C H) := by
  unfold whileGo
  rw [show cGcd (gSt a 0 C H) = some (false, H) from rfl, Nat.gcd_zero_right]
  rfl
theorem gcd_step {C : List (Option V)} {H : List L} {a b : Nat} (hb : 0 < b) : bGcd (gSt a b C H) = some (.next, gSt b (a % b : Nat) C H) := by
  have hne : (b : Int) ≠ 0 := by omega
  have hm : ((a : Int).fmod (b : Int)) = ((a % b : Nat) : Int) := by rw [Int.fmod_eq_emod_of_nonneg _ (by omega)]; rfl
  refine sOne ?_
  have e : mTup (aCons (mLoc 1) (aCons (mBin fMod (mLoc 0) (mLoc 1)) aNil)) (gSt a b C H) = some (.tup [.int b, .int (a % b : Nat)], H) := by
    have q : mBin fMod (mLoc 0) (mLoc 1) (gSt a b C H) = some (.int (a % b : Nat), H) := by
      rw [mBin_eq (x := .int a) (y := .int b) (H1 := H) (H2 := H) rfl rfl]
      simp only [fMod, hne, if_false, hm]
    unfold mTup aCons aNil
    rw [show mLoc 1 (gSt a b C H) = some (.int b, H) from rfl]
    simp only
    rw [show ({ gSt a b C H with H := H } : S) = gSt a b C H from rfl, q]
    rfl
  unfold sSwap
  rw [e]
  rfl
theorem gcd_go {C : List (Option V)} {H : List L} : ∀ (fuel a b : Nat), b ≤ a → a * b < 2 ^ fuel → whileGo cGcd bGcd (fuel + 1) (gSt a b C H) = some (.next, gSt (Nat.gcd a b) 0 C H) := by
  intro fuel
  induction fuel with
  | zero =>
    intro a b hba h
    have hb : b = 0 := by
      have : a * b = 0 := by omega
      rcases Nat.mul_eq_zero.mp this with h | h <;> omega
    subst hb
    exact gcd_stop 0 a
  | succ fuel ih =>
    intro a b hba h
    rcases Nat.eq_zero_or_pos b with hb | hb
    · subst hb; exact gcd_stop _ a
    · have hlt := Nat.mod_lt a hb
      have hhalf : 2 * (a % b) ≤ a := by
        have e1 := Nat.div_add_mod a b
        have e2 : 1 ≤ a / b := Nat.div_pos hba hb
        have e3 : b * 1 ≤ b * (a / b) := Nat.mul_le_mul_left b e2
        omega
      have hp : b * (a % b) < 2 ^ fuel := by
        have e1 : b * (2 * (a % b)) ≤ b * a := Nat.mul_le_mul_left b hhalf
        rw [Nat.mul_comm b a, Nat.mul_left_comm] at e1
        rw [Nat.pow_succ] at h
        omega
      have hne : ((b : Int) != 0) = true := by simp; omega
      have hc : cGcd (gSt a b C H) = some (true, H) := mTest_eq (v := .bool ((b : Int) != 0)) (H := H) rfl (by rw [hne]; rfl)
      have e := ih b (a % b) (by omega) hp
      have hg : Nat.gcd b (a % b) = Nat.gcd a b := by rw [Nat.gcd_comm b, ← Nat.gcd_rec, Nat.gcd_comm]
      rw [hg] at e
      unfold whileGo
      rw [hc]
      simp only
      rw [show ({ gSt a b C H with H := H } : S) = gSt a b C H from rfl, gcd_step hb]
      exact e
theorem sem_gcd {C : List (Option V)} {H : List L} (a b : Nat) (hba : b ≤ a) (h : a * b < 2 ^ 999) : sem3_4 [.int a, .int b] none C H = some (.int (Nat.gcd a b : Nat), H) := by
  have key : body3_4 (entry df3_4 [.int a, .int b] C H) = some (.ret (.int (Nat.gcd a b : Nat)), gSt (Nat.gcd a b) 0 C H) := by
    have e0 : entry df3_4 [.int a, .int b] C H = gSt a b C H := by
      unfold entry gSt
      simp [df3_4]
    rw [e0]
    unfold body3_4
    have q : m3_4_0 (gSt a b C H) = some (.next, gSt (Nat.gcd a b) 0 C H) := gcd_go 999 a b hba h
    rw [sSeq_n q]
    exact sSeq_r rfl
  unfold sem3_4 fnSem
  simp only [full3_4, List.length_cons, List.length_nil, if_true]
  rw [key]
  exact expo_flat rfl rfl
end Mine
namespace Mine
theorem plc_nat {n m : Nat} {s : Int} (hn : 0 < n) (hs : s % (n : Int) = (m : Int)) (c : Nat) : plc n s c = ((c * m % n : Nat) : Int) := by
  unfold plc
  rw [Int.mul_emod, hs, ← Int.emod_emod_of_dvd (c : Int) (Int.dvd_refl (n : Int))]
  simp [Int.mul_emod]
/-- no two of the first pegs share a place -/
theorem plc_inj0 {n m : Nat} {s : Int} (hn : 0 < n) (hs : s % (n : Int) = (m : Int)) (c : Nat) (h : plc n s c = 0) : n / Nat.gcd n m ∣ c := by
  rw [plc_nat hn hs] at h
  have h1 : n ∣ c * m := Nat.dvd_of_mod_eq_zero (by omega)
  have hg : 0 < Nat.gcd n m := Nat.gcd_pos_of_pos_left _ hn
  have h2 : n / Nat.gcd n m ∣ c * (m / Nat.gcd n m) := by
    have e : c * m = Nat.gcd n m * (c * (m / Nat.gcd n m)) := by
      rw [Nat.mul_left_comm, Nat.mul_div_cancel' (Nat.gcd_dvd_right n m)]
    have e2 : n = Nat.gcd n m * (n / Nat.gcd n m) := (Nat.mul_div_cancel' (Nat.gcd_dvd_left n m)).symm
    rw [e] at h1
    have h3 : Nat.gcd n m * (n / Nat.gcd n m) ∣ Nat.gcd n m * (c * (m / Nat.gcd n m)) := by rw [← e2]; exact h1
    exact Nat.dvd_of_mul_dvd_mul_left hg h3
  exact Nat.Coprime.dvd_of_dvd_mul_right (Nat.coprime_div_gcd_div_gcd hg) h2
theorem plc_lap {n m : Nat} {s : Int} (hn : 0 < n) (hs : s % (n : Int) = (m : Int)) : plc n s ((n / Nat.gcd n m : Nat) : Int) = 0 := by
  rw [plc_nat hn hs]
  have : n / Nat.gcd n m * m = n * (m / Nat.gcd n m) := by
    have hg : 0 < Nat.gcd n m := Nat.gcd_pos_of_pos_left _ hn
    have e2 : Nat.gcd n m * (n / Nat.gcd n m) = n := Nat.mul_div_cancel' (Nat.gcd_dvd_left n m)
    have e3 : Nat.gcd n m * (m / Nat.gcd n m) = m := Nat.mul_div_cancel' (Nat.gcd_dvd_right n m)
    generalize n / Nat.gcd n m = u at *
    generalize m / Nat.gcd n m = v at *
    generalize Nat.gcd n m = g at *
    subst e2
    rw [← e3]
    rw [Nat.mul_left_comm, Nat.mul_assoc]
  rw [this, Nat.mul_mod_right]; rfl
structure Lap (N s lap : Int) : Prop where
  pos : 0 < N
  lpos : 0 < lap
  le : lap ≤ N
  per : ∀ p, plc N s (p + lap) = plc N s p
  inj : ∀ a b, 0 ≤ a → a < lap → 0 ≤ b → b < lap → plc N s a = plc N s b → a = b
theorem lap_of {n m : Nat} {s : Int} (hn : 0 < n) (hs : s % (n : Int) = (m : Int)) : Lap n s ((n / Nat.gcd n m : Nat) : Int) := by
  have hg : 0 < Nat.gcd n m := Nat.gcd_pos_of_pos_left _ hn
  have hl : 0 < n / Nat.gcd n m := Nat.div_pos (Nat.le_of_dvd hn (Nat.gcd_dvd_left n m)) hg
  have hN : (0 : Int) < n := by omega
  have inj1 : ∀ a b : Int, 0 ≤ a → a < ((n / Nat.gcd n m : Nat) : Int) → 0 ≤ b → b < ((n / Nat.gcd n m : Nat) : Int) → plc n s a = plc n s b → a ≤ b := by
    intro a b ha hal hb hbl e
    refine Decidable.byContradiction fun hc => ?_
    have d := plc_add (s := s) hN b (a - b)
    rw [show b + (a - b) = a by omega] at d
    have r0 := plc_nonneg (s := s) hN (a - b)
    have r1 := plc_lt (s := s) hN (a - b)
    have hz : plc n s (((a - b).toNat : Nat) : Int) = 0 := by
      rw [show (((a - b).toNat : Nat) : Int) = a - b by omega]; omega
    have := Nat.le_of_dvd (by omega) (plc_inj0 hn hs _ hz)
    omega
  refine ⟨hN, by omega, ?_, ?_, ?_⟩
  · have := Nat.div_le_self n (Nat.gcd n m)
    omega
  · intro p
    have d := plc_add (s := s) hN p ((n / Nat.gcd n m : Nat) : Int)
    rw [plc_lap hn hs] at d
    have r1 := plc_nonneg (s := s) hN (p + ((n / Nat.gcd n m : Nat) : Int))
    have r2 := plc_lt (s := s) hN p
    omega
  · intro a b ha hal hb hbl e
    have h1 := inj1 a b ha hal hb hbl e
    have h2 := inj1 b a hb hbl ha hal e.symm
    omega
end Mine
namespace Mine
theorem aCons_eq {a : Xm} {b : Xms} {σ : S} {v : V} {vs : List V} {H1 H2 : List L} (h1 : a σ = some (v, H1)) (h2 : b { σ with H := H1 } = some (vs, H2)) : aCons a b σ = some (v :: vs, H2) := by
  unfold aCons; rw [h1]; simp only; rw [h2]
theorem mArgs_eq {f : FN} {a : Xms} {σ : S} {vs : List V} {H1 : List L} (h : a σ = some (vs, H1)) : mArgs f a σ = f vs H1 := by
  unfold mArgs; rw [h]
theorem mCall_eq {fm : Xm} {disp : V → Option FCall} {args : Xms} {σ : S} {fv : V} {f : FCall} {vs : List V} {H0 H1 : List L} (h1 : fm σ = some (fv, H0)) (h2 : disp fv = some f) (h3 : args { σ with H := H0 } = some (vs, H1)) : mCall fm disp args σ = f vs none σ.C H1 := by
  unfold mCall; rw [h1]; simp only; rw [h2]; simp only; rw [h3]
theorem mCallK_eq {fm : Xm} {disp : V → Option FCall} {args : Xms} {km : Xm} {σ : S} {fv kv : V} {f : FCall} {vs : List V} {H0 H1 H2 : List L} (h1 : fm σ = some (fv, H0)) (h2 : disp fv = some f) (h3 : args { σ with H := H0 } = some (vs, H1)) (h4 : km { σ with H := H1 } = some (kv, H2)) : mCallK fm disp args km σ = f vs (some kv) σ.C H2 := by
  unfold mCallK; rw [h1]; simp only; rw [h2]; simp only; rw [h3]; simp only; rw [h4]
theorem mList_eq {a : Xms} {σ : S} {vs : List V} {H1 : List L} (h : a σ = some (vs, H1)) (hl : (decide (vs.length ≤ 1048576) && stills vs) = true) : mList a σ = some (.ref H1.length, H1 ++ [mkL vs]) := by
  unfold mList; rw [h]; simp only; rw [if_pos hl]
theorem sAssign_eq {t : Tgt} {m : Xm} {σ σ1 : S} {v : V} {H1 : List L} (h : m σ = some (v, H1)) (h2 : t.put v { σ with H := H1 } = some σ1) : sAssign t m σ = some (.next, σ1) := by
  unfold sAssign; rw [h]; simp only; rw [h2]
theorem sExpr_eq {m : Xm} {σ : S} {v : V} {H1 : List L} (h : m σ = some (v, H1)) : sExpr m σ = some (.next, { σ with H := H1 }) := by
  unfold sExpr; rw [h]
theorem sRet_eq {m : Xm} {σ : S} {v : V} {H1 : List L} (h : m σ = some (v, H1)) : sRet m σ = some (.ret v, { σ with H := H1 }) := by
  unfold sRet; rw [h]
theorem mMeth_eq {f : FN} {a : Xm} {args : Xms} {σ : S} {i : Nat} {vs : List V} {H1 H2 : List L} (h1 : a σ = some (.ref i, H1)) (hi : i < H1.length) (h2 : args { σ with H := H1 } = some (vs, H2)) : mMeth f a args σ = f (.ref i :: vs) H2 := by
  unfold mMeth; rw [h1]; simp only; rw [if_pos hi, h2]
theorem toInts_map : ∀ xs : List Int, toInts (xs.map V.int) = some xs
  | [] => rfl
  | x :: xs => by
    rw [List.map_cons]
    unfold toInts
    rw [toInts_map xs]
theorem mkL_map (xs : List Int) : mkL (xs.map V.int) = .ints xs := by unfold mkL; rw [toInts_map]
theorem expo_app {v : V} {H T : List L} (hv : kap1 H.length v (H ++ T) = []) (hr : renV H.length [] v = some v) : expo kap1 H.length v (H ++ T) = some (v, H) := by
  unfold expo
  rw [hv]
  simp [hr, expLs]
theorem ba_all {c len : Int} (h0 : 0 ≤ c) (h : c ≤ len) : max 0 (min len c) = c := by omega
theorem ba_low {c half : Int} (h0 : 0 ≤ c) (hh : 0 ≤ half) : max 0 (min half c) = min c half := by omega
theorem ba_high {c half len : Int} (h : c ≤ len) : max half (min len c) = max c half := by omega
section
variable {C : List (Option V)} {H : List L} {a : Nat} {x y lo hi : Int} {hiV K : V} {vs : List V} {kv : Option V} {xs ks : List Int}
theorem KeyOk.len (h : KeyOk dLam3 C H xs K ks) : ks.length = xs.length := by
  cases h <;> simp
theorem bl3 (hfull : bisFull vs kv = some [.ref a, .int x, .int lo, hiV, K]) (ha : H[a]? = some (.ints xs)) (hlen : xs.length ≤ 900) (hlo : 0 ≤ lo) (hhi : (hiV = .none ∧ hi = xs.length) ∨ (hiV = .int hi ∧ hi ≤ xs.length)) (hK : KeyOk dLam3 C H xs K ks) (hs : ks.Pairwise (· ≤ ·)) :
    sem3_3 vs kv C H = some (.int (bisAns lo hi (cntLt ks x)), H) := bisL_spec (d := df3_3) rfl rfl hfull ha hlen hlo hhi hK hs
theorem br3 (hfull : bisFull vs kv = some [.ref a, .int x, .int lo, hiV, K]) (ha : H[a]? = some (.ints xs)) (hlen : xs.length ≤ 900) (hlo : 0 ≤ lo) (hhi : (hiV = .none ∧ hi = xs.length) ∨ (hiV = .int hi ∧ hi ≤ xs.length)) (hK : KeyOk dLam3 C H xs K ks) (hs : ks.Pairwise (· ≤ ·)) :
    sem3_1 vs kv C H = some (.int (bisAns lo hi (cntLe ks x)), H) := bisR_spec (d := df3_1) rfl rfl hfull ha hlen hlo hhi hK hs
theorem getD_key (K : V) : (if K.isNone then (none : Option V) else some K).getD .none = K := by
  cases K <;> rfl
theorem il3 (ha : H[a]? = some (.ints xs)) (hlen : xs.length ≤ 900) (hK : KeyOk dLam3 C H xs K ks) (hX : KeyX dLam3 C H x K y) (hs : ks.Pairwise (· ≤ ·)) (hkv : kv.getD .none = K) :
    sem3_2 [.ref a, .int x] kv C H = some (.none, H.set a (.ints (insL xs (cntLt ks y) x))) := by
  have hl := hK.len
  have hc := cntLt_le ks y
  refine ins_go (d := df3_2) (disp := dLam3) (k := 3) (semB := sem3_3) (lo := 0) (hiV := .none) (keyV := K) (y := y) rfl rfl (by simp [bisFull, hkv]) ha hlen hX ?_ (by omega) (by omega)
  rw [bl3 (K := K) (x := y) (lo := 0) (hi := xs.length) (by simp only [bisFull, getD_key]) ha hlen (by omega) (.inl ⟨rfl, rfl⟩) hK hs]
  unfold bisAns
  rw [ba_all (Int.natCast_nonneg _) (by omega)]
theorem ir3 (ha : H[a]? = some (.ints xs)) (hlen : xs.length ≤ 900) (hK : KeyOk dLam3 C H xs K ks) (hX : KeyX dLam3 C H x K y) (hs : ks.Pairwise (· ≤ ·)) (hkv : kv.getD .none = K) :
    sem3_0 [.ref a, .int x] kv C H = some (.none, H.set a (.ints (insL xs (cntLe ks y) x))) := by
  have hl := hK.len
  have hc := cntLe_le ks y
  refine ins_go (d := df3_0) (disp := dLam3) (k := 1) (semB := sem3_1) (lo := 0) (hiV := .none) (keyV := K) (y := y) rfl rfl (by simp [bisFull, hkv]) ha hlen hX ?_ (by omega) (by omega)
  rw [br3 (K := K) (x := y) (lo := 0) (hi := xs.length) (by simp only [bisFull, getD_key]) ha hlen (by omega) (.inl ⟨rfl, rfl⟩) hK hs]
  unfold bisAns
  rw [ba_all (Int.natCast_nonneg _) (by omega)]
end
noncomputable def hSt (a : Nat) (what fewer more : Int) (K half told : Option V) (C : List (Option V)) (H : List L) : S := { loc := [some (.ref a), some (.int what), some (.int fewer), some (.int more), K, half, told], cel := [], C := C, H := H }
theorem searched3 {C : List (Option V)} {H : List L} {a : Nat} {what fewer more : Int} {K : V} {xs ks : List Int} (ha : H[a]? = some (.ints xs)) (hlen : xs.length ≤ 900) (hK : KeyOk dLam3 C H xs K ks) (hKT : ∀ T, KeyOk dLam3 C (H ++ T) xs K ks) (hs : ks.Pairwise (· ≤ ·)) (hf : fewer = cntLt ks what) (hm : more = cntLe ks what) :
    sem3_7 [.ref a, .int what, .int fewer, .int more, K] none C H = some (.bool true, H) := by
  have hl := hK.len
  have hc1 := cntLt_le ks what
  have hc2 := cntLe_le ks what
  have hfl : (cntLt ks what : Int) ≤ xs.length := by omega
  have hml : (cntLe ks what : Int) ≤ xs.length := by omega
  obtain ⟨half, hh⟩ : ∃ half, half = ((xs.length : Int).fdiv 2) := ⟨_, rfl⟩
  have hh0 : 0 ≤ half ∧ half ≤ xs.length := by
    rw [Int.fdiv_eq_ediv_of_nonneg _ (by omega)] at hh
    omega
  have halt : a < H.length := (List.getElem?_eq_some_iff.mp ha).1
  have haT : ∀ T, (H ++ T)[a]? = some (L.ints xs) := fun T => by rw [List.getElem?_append_left halt]; exact ha
  have e0 : entry df3_7 [.ref a, .int what, .int fewer, .int more, K] C H = hSt a what fewer more (some K) none none C H := by
    unfold entry hSt
    simp [df3_7]
  have s0 : m3_7_0 (hSt a what fewer more (some K) none none C H) = some (.next, hSt a what fewer more (some K) (some (.int half)) none C H) := by
    refine sAssign_eq (v := .int half) (H1 := H) ?_ rfl
    rw [mBin_eq (x := .int xs.length) (y := .int 2) (H1 := H) (H2 := H) ?_ rfl]
    · simp [fDiv, small, hh]
    · rw [mArgs_eq (vs := [.ref a]) (H1 := H) rfl]
      simp [fLen, ha, L.vs]
  let f1 : List Int := [fewer, min fewer half, max fewer half]
  let f2 : List Int := [more, min more half, max more half]
  have call3 : ∀ (G : List L) (told : Option V) (sem : FCall) (k : Nat) (args : Xms) (vs : List V) (r : Int), args (hSt a what fewer more (some K) (some (.int half)) told C G) = some (vs, G) → sem vs (some K) C G = some (.int r, G) →
      mCallK (mFn k) (dFn k sem) args (mLoc 4) (hSt a what fewer more (some K) (some (.int half)) told C G) = some (.int r, G) := by
    intro G told sem k args vs r h1 h2
    rw [mCallK_eq (fv := .fn k) (f := sem) (vs := vs) (kv := K) (H0 := G) (H1 := G) (H2 := G) rfl (by simp [dFn]) h1 rfl]
    exact h2
  have L3 : ∀ (G : List L) (told : Option V), G[a]? = some (L.ints xs) → KeyOk dLam3 C G xs K ks →
      aCons (mCallK (mFn 3) (dFn 3 sem3_3) (aCons (mLoc 0) (aCons (mLoc 1) aNil)) (mLoc 4)) (aCons (mCallK (mFn 3) (dFn 3 sem3_3) (aCons (mLoc 0) (aCons (mLoc 1) (aCons (mInt 0) (aCons (mLoc 5) aNil)))) (mLoc 4)) (aCons (mCallK (mFn 3) (dFn 3 sem3_3) (aCons (mLoc 0) (aCons (mLoc 1) (aCons (mLoc 5) aNil))) (mLoc 4)) aNil))
        (hSt a what fewer more (some K) (some (.int half)) told C G) = some (f1.map V.int, G) := by
    intro G told g1 g2
    refine aCons_eq (H1 := G) (call3 G told sem3_3 3 _ [.ref a, .int what] fewer rfl ?_) (aCons_eq (H1 := G) (call3 G told sem3_3 3 _ [.ref a, .int what, .int 0, .int half] (min fewer half) rfl ?_) (aCons_eq (H1 := G) (call3 G told sem3_3 3 _ [.ref a, .int what, .int half] (max fewer half) rfl ?_) rfl))
    · rw [bl3 (K := K) (x := what) (lo := 0) (hi := xs.length) rfl g1 hlen (by omega) (.inl ⟨rfl, rfl⟩) g2 hs]
      unfold bisAns
      rw [ba_all (Int.natCast_nonneg _) hfl, ← hf]
    · rw [bl3 (K := K) (x := what) (lo := 0) (hi := half) rfl g1 hlen (by omega) (.inr ⟨rfl, hh0.2⟩) g2 hs]
      unfold bisAns
      rw [ba_low (Int.natCast_nonneg _) hh0.1, ← hf]
    · rw [bl3 (K := K) (x := what) (lo := half) (hi := xs.length) rfl g1 hlen (by omega) (.inl ⟨rfl, rfl⟩) g2 hs]
      unfold bisAns
      rw [ba_high hfl, ← hf]
  have R3 : ∀ (G : List L) (told : Option V), G[a]? = some (L.ints xs) → KeyOk dLam3 C G xs K ks →
      aCons (mCallK (mFn 1) (dFn 1 sem3_1) (aCons (mLoc 0) (aCons (mLoc 1) aNil)) (mLoc 4)) (aCons (mCallK (mFn 1) (dFn 1 sem3_1) (aCons (mLoc 0) (aCons (mLoc 1) (aCons (mInt 0) (aCons (mLoc 5) aNil)))) (mLoc 4)) (aCons (mCallK (mFn 1) (dFn 1 sem3_1) (aCons (mLoc 0) (aCons (mLoc 1) (aCons (mLoc 5) aNil))) (mLoc 4)) aNil))
        (hSt a what fewer more (some K) (some (.int half)) told C G) = some (f2.map V.int, G) := by
    intro G told g1 g2
    refine aCons_eq (H1 := G) (call3 G told sem3_1 1 _ [.ref a, .int what] more rfl ?_) (aCons_eq (H1 := G) (call3 G told sem3_1 1 _ [.ref a, .int what, .int 0, .int half] (min more half) rfl ?_) (aCons_eq (H1 := G) (call3 G told sem3_1 1 _ [.ref a, .int what, .int half] (max more half) rfl ?_) rfl))
    · rw [br3 (K := K) (x := what) (lo := 0) (hi := xs.length) rfl g1 hlen (by omega) (.inl ⟨rfl, rfl⟩) g2 hs]
      unfold bisAns
      rw [ba_all (Int.natCast_nonneg _) hml, ← hm]
    · rw [br3 (K := K) (x := what) (lo := 0) (hi := half) rfl g1 hlen (by omega) (.inr ⟨rfl, hh0.2⟩) g2 hs]
      unfold bisAns
      rw [ba_low (Int.natCast_nonneg _) hh0.1, ← hm]
    · rw [br3 (K := K) (x := what) (lo := half) (hi := xs.length) rfl g1 hlen (by omega) (.inl ⟨rfl, rfl⟩) g2 hs]
      unfold bisAns
      rw [ba_high hml, ← hm]
  have s1 : m3_7_1 (hSt a what fewer more (some K) (some (.int half)) none C H) = some (.next, hSt a what fewer more (some K) (some (.int half)) (some (.ref H.length)) C (H ++ [.ints f1])) := by
    refine sAssign_eq (v := .ref H.length) (H1 := H ++ [L.ints f1]) ?_ rfl
    rw [mList_eq (L3 H none ha hK) rfl, mkL_map]
  have s2 : m3_7_2 (hSt a what fewer more (some K) (some (.int half)) (some (.ref H.length)) C (H ++ [.ints f1])) =
      some (.next, hSt a what fewer more (some K) (some (.int half)) (some (.ref H.length)) C ((H ++ [L.ints f1] ++ [L.ints f2]).set H.length (.ints (f1 ++ f2)))) := by
    refine sExpr_eq (v := .none) (σ := hSt a what fewer more (some K) (some (.int half)) (some (.ref H.length)) C (H ++ [.ints f1])) ?_
    rw [mMeth_eq (i := H.length) (vs := [.ref (H.length + 1)]) (H1 := H ++ [L.ints f1]) (H2 := H ++ [L.ints f1] ++ [.ints f2]) rfl (by simp) ?_]
    · have g1 : (H ++ [L.ints f1] ++ [L.ints f2])[H.length]? = some (L.ints f1) := by simp
      have g2 : (H ++ [L.ints f1] ++ [L.ints f2])[H.length + 1]? = some (L.ints f2) := by simp
      unfold fExtend
      simp only [g1, g2]
      rw [if_pos (by rfl)]
      rfl
    · refine aCons_eq (H1 := H ++ [L.ints f1] ++ [.ints f2]) ?_ rfl
      have q := mList_eq (R3 (H ++ [.ints f1]) (some (.ref H.length)) (haT _) (hKT _)) rfl
      rw [mkL_map] at q
      rw [show (H ++ [L.ints f1]).length = H.length + 1 by simp] at q
      exact q
  have hset : (H ++ [L.ints f1] ++ [L.ints f2]).set H.length (.ints (f1 ++ f2)) = H ++ [L.ints (f1 ++ f2), .ints f2] := by
    rw [List.append_assoc, List.set_append_right _ _ (Nat.le_refl _), Nat.sub_self]; rfl
  have s3 : m3_7_3 (hSt a what fewer more (some K) (some (.int half)) (some (.ref H.length)) C (H ++ [L.ints (f1 ++ f2), .ints f2])) =
      some (.ret (.bool true), hSt a what fewer more (some K) (some (.int half)) (some (.ref H.length)) C (H ++ [L.ints (f1 ++ f2), .ints f2, .ints (f1 ++ f2)])) := by
    refine sRet_eq (σ := hSt a what fewer more (some K) (some (.int half)) (some (.ref H.length)) C (H ++ [L.ints (f1 ++ f2), .ints f2])) ?_
    have hmin : ∀ u : Int, (if half < u then half else u) = min u half := fun u => by split <;> omega
    have hmax : ∀ u : Int, (if u < half then half else u) = max u half := fun u => by split <;> omega
    rw [mBin_eq (x := .ref H.length) (y := .ref (H.length + 2)) (H1 := H ++ [L.ints (f1 ++ f2), .ints f2]) (H2 := H ++ [L.ints (f1 ++ f2), .ints f2, .ints (f1 ++ f2)]) rfl ?_]
    · rw [fEq_ints (xs := f1 ++ f2) (ys := f1 ++ f2) (by simp) (by simp)]
      simp
    · have q := mList_eq (σ := hSt a what fewer more (some K) (some (.int half)) (some (.ref H.length)) C (H ++ [L.ints (f1 ++ f2), .ints f2])) (vs := (f1 ++ f2).map V.int) (H1 := H ++ [L.ints (f1 ++ f2), .ints f2])
        (a := aCons (mLoc 2) (aCons (mArgs fMin2 (aCons (mLoc 2) (aCons (mLoc 5) aNil))) (aCons (mArgs fMax2 (aCons (mLoc 2) (aCons (mLoc 5) aNil))) (aCons (mLoc 3) (aCons (mArgs fMin2 (aCons (mLoc 3) (aCons (mLoc 5) aNil))) (aCons (mArgs fMax2 (aCons (mLoc 3) (aCons (mLoc 5) aNil))) aNil)))))) ?_ rfl
      · rw [mkL_map] at q
        rw [show (H ++ [L.ints (f1 ++ f2), L.ints f2]).length = H.length + 2 by simp, List.append_assoc] at q
        exact q
      · have fmin : ∀ (G : List L) (u : Int), fMin2 [.int u, .int half] G = some (.int (min u half), G) := fun G u => by rw [← hmin]; rfl
        have fmax : ∀ (G : List L) (u : Int), fMax2 [.int u, .int half] G = some (.int (max u half), G) := fun G u => by rw [← hmax]; rfl
        generalize hG : H ++ [L.ints (f1 ++ f2), .ints f2] = G
        exact aCons_eq (v := .int fewer) (H1 := G) rfl (aCons_eq (v := .int (min fewer half)) (H1 := G) ((mArgs_eq (vs := [.int fewer, .int half]) (H1 := G) rfl).trans (fmin G fewer)) (aCons_eq (v := .int (max fewer half)) (H1 := G) ((mArgs_eq (vs := [.int fewer, .int half]) (H1 := G) rfl).trans (fmax G fewer))
          (aCons_eq (v := .int more) (H1 := G) rfl (aCons_eq (v := .int (min more half)) (H1 := G) ((mArgs_eq (vs := [.int more, .int half]) (H1 := G) rfl).trans (fmin G more)) (aCons_eq (v := .int (max more half)) (H1 := G) ((mArgs_eq (vs := [.int more, .int half]) (H1 := G) rfl).trans (fmax G more)) rfl)))))
  have key : body3_7 (entry df3_7 [.ref a, .int what, .int fewer, .int more, K] C H) = some (.ret (.bool true), hSt a what fewer more (some K) (some (.int half)) (some (.ref H.length)) C (H ++ [L.ints (f1 ++ f2), .ints f2, .ints (f1 ++ f2)])) := by
    rw [e0]
    unfold body3_7
    rw [sSeq_n s0, sSeq_n s1, sSeq_n s2, hset]
    exact sSeq_r s3
  unfold sem3_7 fnSem
  simp only [full3_7, List.length_cons, List.length_nil, if_true]
  rw [key]
  exact expo_app rfl rfl
end Mine
namespace Mine
noncomputable def msgLow : Str := "lo must be non-negative"
section
variable {C : List (Option V)} {H : List L} {a : Nat} {x y : Int} {K hiV : V} {vs : List V} {kv : Option V}
theorem low3_3 (hfull : bisFull vs kv = some [.ref a, .int x, .int (-1), hiV, K]) : semE3_3 vs kv C H = some (msgLow, H) := by
  unfold semE3_3 fnSemE
  rw [show full3_3 = bisFull from rfl, hfull]
  simp only
  rw [show bodyE3_3 (entry df3_3 [.ref a, .int x, .int (-1), hiV, K] C H) = some (msgLow, H) from rfl]
  simp
theorem low3_1 (hfull : bisFull vs kv = some [.ref a, .int x, .int (-1), hiV, K]) : semE3_1 vs kv C H = some (msgLow, H) := by
  unfold semE3_1 fnSemE
  rw [show full3_1 = bisFull from rfl, hfull]
  simp only
  rw [show bodyE3_1 (entry df3_1 [.ref a, .int x, .int (-1), hiV, K] C H) = some (msgLow, H) from rfl]
  simp
theorem low_ins {k : Nat} {semB : FCallE} {σ : S} {f : FCall} (hl : σ.loc = [some (.ref a), some (.int x), some (.int (-1)), some .none, some K]) (hn : K.isNone = false) (hd : dLam3 K = some f) (hf : f [.int x] none σ.C σ.H = some (.int y, σ.H))
    (hB : semB [.ref a, .int y, .int (-1), .none] (some K) σ.C σ.H = some (msgLow, σ.H)) :
    eIf (mTest (mUn fIsNone (mLoc 4))) (eCall (mFn k) (dFnE k semB) (aCons (mLoc 0) (aCons (mLoc 1) (aCons (mLoc 2) (aCons (mLoc 3) aNil))))) (eCallK (mFn k) (dFnE k semB) (aCons (mLoc 0) (aCons (mCall (mLoc 4) dLam3 (aCons (mLoc 1) aNil)) (aCons (mLoc 2) (aCons (mLoc 3) aNil)))) (mLoc 4)) σ = some (msgLow, σ.H) := by
  obtain ⟨loc, cel, C, H⟩ := σ
  simp only at hl hf hB
  subst hl
  have ht : mTest (mUn fIsNone (mLoc 4)) { loc := [some (.ref a), some (.int x), some (.int (-1)), some .none, some K], cel := cel, C := C, H := H } = some (false, H) := by
    refine mTest_eq (v := .bool K.isNone) (H := H) ?_ (by rw [hn]; rfl)
    exact fIsNone_eq K H
  have hc : mCall (mLoc 4) dLam3 (aCons (mLoc 1) aNil) { loc := [some (.ref a), some (.int x), some (.int (-1)), some .none, some K], cel := cel, C := C, H := H } = some (.int y, H) := by
    rw [mCall_eq (fv := K) (f := f) (vs := [.int x]) (H0 := H) (H1 := H) rfl hd rfl]
    exact hf
  unfold eIf
  rw [ht]
  simp only
  unfold eCallK
  rw [show mFn k { loc := [some (.ref a), some (.int x), some (.int (-1)), some .none, some K], cel := cel, C := C, H := H } = some (.fn k, H) from rfl]
  simp only [dFnE, if_true]
  rw [aCons_eq (v := .ref a) (H1 := H) (vs := [.int y, .int (-1), .none]) (H2 := H) rfl (aCons_eq (H1 := H) hc rfl)]
  exact hB
theorem low3_2 {f : FCall} (hn : K.isNone = false) (hd : dLam3 K = some f) (hf : f [.int x] none C H = some (.int y, H)) : semE3_2 [.ref a, .int x, .int (-1)] (some K) C H = some (msgLow, H) := by
  unfold semE3_2 fnSemE
  rw [show full3_2 [V.ref a, .int x, .int (-1)] (some K) = some [.ref a, .int x, .int (-1), .none, K] from rfl]
  simp only
  have q := low_ins (k := 3) (semB := semE3_3) (σ := entry df3_2 [.ref a, .int x, .int (-1), .none, K] C H) (a := a) (x := x) (y := y) (K := K) (f := f) rfl hn hd (by simpa [entry, df3_2] using hf) (by simpa [entry, df3_2] using low3_3 (kv := some K) rfl)
  rw [show bodyE3_2 (entry df3_2 [.ref a, .int x, .int (-1), .none, K] C H) = _ from q]
  simp [entry]
theorem low3_0 {f : FCall} (hn : K.isNone = false) (hd : dLam3 K = some f) (hf : f [.int x] none C H = some (.int y, H)) : semE3_0 [.ref a, .int x, .int (-1)] (some K) C H = some (msgLow, H) := by
  unfold semE3_0 fnSemE
  rw [show full3_0 [V.ref a, .int x, .int (-1)] (some K) = some [.ref a, .int x, .int (-1), .none, K] from rfl]
  simp only
  have q := low_ins (k := 1) (semB := semE3_1) (σ := entry df3_0 [.ref a, .int x, .int (-1), .none, K] C H) (a := a) (x := x) (y := y) (K := K) (f := f) rfl hn hd (by simpa [entry, df3_0] using hf) (by simpa [entry, df3_0] using low3_1 (kv := some K) rfl)
  rw [show bodyE3_0 (entry df3_0 [.ref a, .int x, .int (-1), .none, K] C H) = _ from q]
  simp [entry]
theorem refused3 {kind : Int} {xs : List Int} {f : FCall} (hk0 : 0 ≤ kind) (hk : kind < 4) (ha : H[a]? = some (.ints xs)) (hlen : xs.length ≤ 900) (hn : K.isNone = false) (hd : dLam3 K = some f) (hf : ∀ H, f [.int 0] none C H = some (.int y, H)) :
    sem3_5 [.int kind, .ref a, K] none C H = some (.bool true, H) := by
  have halt : a < H.length := (List.getElem?_eq_some_iff.mp ha).1
  let σ0 : S := { loc := [some (.int kind), some (.ref a), some K, none], cel := [], C := C, H := H }
  let σ1 : S := { loc := [some (.int kind), some (.ref a), some K, some (.ref H.length)], cel := [], C := C, H := H ++ [.ints xs] }
  have e0 : entry df3_5 [.int kind, .ref a, K] C H = σ0 := by
    unfold entry
    simp [df3_5, σ0]
  have s0 : m3_5_0 σ0 = some (.next, σ1) := by
    refine sAssign_eq (v := .ref H.length) (H1 := H ++ [.ints xs]) ?_ rfl
    rw [mArgs_eq (vs := [.ref a]) (H1 := H) rfl]
    unfold fListL
    simp only [ha]
    rw [if_pos (by
      simp only [L.vs, List.length_map, Bool.and_eq_true, decide_eq_true_eq]
      refine ⟨?_, by omega⟩
      clear ha hlen
      induction xs with
      | nil => rfl
      | cons x xs ih => simpa [stills, V.still] using ih)]
  have sE : ∀ e : Em, e σ1 = some (msgLow, σ1.H) → sTry e (gRetAnd "lo must be non-negative" (accLoc 1) (accLoc 3)) σ1 = some (.ret (.bool true), σ1) := by
    intro e he
    unfold sTry
    rw [he]
    simp only
    unfold gRetAnd
    rw [if_pos (show msgLow = Str.ofString "lo must be non-negative" from rfl)]
    have q : fEq (.ref a) (.ref H.length) (H ++ [.ints xs]) = some (.bool (decide (xs = xs)), H ++ [.ints xs]) := fEq_ints (by rw [List.getElem?_append_left halt]; exact ha) (by simp)
    unfold fEq at q
    unfold eqAcc
    rw [show accLoc 1 ({ σ1 with H := σ1.H } : S) = some (.ref a) from rfl, show accLoc 3 ({ σ1 with H := σ1.H } : S) = some (.ref H.length) from rfl]
    simp only
    show (match (match datOf (H ++ [L.ints xs]) 8 (.ref a), datOf (H ++ [L.ints xs]) 8 (.ref H.length) with
      | some d, some e => if SeqAt.shaped d && SeqAt.shaped e then some (PyData.eqv d e) else none
      | _, _ => none) with
      | some q => some (Fl.ret (V.bool q), σ1)
      | none => none) = _
    split at q
    · rename_i d e hd he
      split at q
      · rename_i hc
        try rw [hd, he]
        try simp only
        rw [if_pos hc]
        simp only [decide_true, Option.some.injEq, Prod.mk.injEq, V.bool.injEq] at q
        rw [q.1]
      · cases q
    · cases q
  have s1 : m3_5_1 σ1 = some (.ret (.bool true), σ1) := by
    have c3 : eCallK (mFn 3) (dFnE 3 semE3_3) (aCons (mLoc 1) (aCons (mInt 0) (aCons (mUn fNeg (mInt 1)) aNil))) (mLoc 2) σ1 = some (msgLow, σ1.H) := low3_3 (vs := [.ref a, .int 0, .int (-1)]) (kv := some K) (C := C) (H := σ1.H) rfl
    have c1 : eCallK (mFn 1) (dFnE 1 semE3_1) (aCons (mLoc 1) (aCons (mInt 0) (aCons (mUn fNeg (mInt 1)) aNil))) (mLoc 2) σ1 = some (msgLow, σ1.H) := low3_1 (vs := [.ref a, .int 0, .int (-1)]) (kv := some K) (C := C) (H := σ1.H) rfl
    have c2 : eCallK (mFn 2) (dFnE 2 semE3_2) (aCons (mLoc 1) (aCons (mInt 0) (aCons (mUn fNeg (mInt 1)) aNil))) (mLoc 2) σ1 = some (msgLow, σ1.H) := low3_2 (a := a) (x := 0) (C := C) (H := σ1.H) hn hd (hf _)
    have c0 : eCallK (mFn 0) (dFnE 0 semE3_0) (aCons (mLoc 1) (aCons (mInt 0) (aCons (mUn fNeg (mInt 1)) aNil))) (mLoc 2) σ1 = some (msgLow, σ1.H) := low3_0 (a := a) (x := 0) (C := C) (H := σ1.H) hn hd (hf _)
    have ht : ∀ j : Int, mTest (mBin fEqI (mLoc 0) (mInt j)) σ1 = some (kind == j, σ1.H) := fun j => mTest_eq (v := .bool (kind == j)) (H := σ1.H) rfl rfl
    refine sE _ ?_
    have hcases : kind = 0 ∨ kind = 1 ∨ kind = 2 ∨ kind = 3 := by omega
    rcases hcases with rfl | rfl | rfl | rfl
    · exact c3
    · exact c1
    · exact c2
    · exact c0
  have key : body3_5 (entry df3_5 [.int kind, .ref a, K] C H) = some (.ret (.bool true), σ1) := by
    rw [e0]
    unfold body3_5
    rw [sSeq_n s0]
    exact sSeq_r s1
  unfold sem3_5 fnSem
  simp only [full3_5, List.length_cons, List.length_nil, if_true]
  rw [key]
  exact expo_app rfl rfl
end
end Mine
namespace Mine
noncomputable def insAt (p : Int → Bool) (x : Int) : List Int → List Int
  | [] => [x]
  | y :: ys => if p y then y :: insAt p x ys else x :: y :: ys
theorem insAt_eq {p : Int → Bool} {x : Int} : ∀ {xs : List Int}, xs.Pairwise (fun a b => p b = true → p a = true) → insL xs ((xs.filter p).length : Nat) x = insAt p x xs
  | [], _ => rfl
  | y :: ys, hp => by
    rw [List.pairwise_cons] at hp
    unfold insAt
    by_cases hy : p y = true
    · rw [if_pos hy, List.filter_cons_of_pos hy, ← insAt_eq hp.2]
      unfold insL
      rw [if_neg (by omega), if_neg (by omega)]
      simp only [List.length_cons, Int.toNat_natCast]
      rw [show min ((ys.filter p).length + 1) (ys.length + 1) = min (ys.filter p).length ys.length + 1 by omega]
      rfl
    · rw [if_neg hy, List.filter_cons_of_neg hy]
      have hall : ys.filter p = [] := by
        rw [List.filter_eq_nil_iff]
        intro b hb q
        exact hy (hp.1 b hb q)
      rw [hall]
      simp [insL]
theorem insAt_app {p : Int → Bool} {x : Int} : ∀ {D S : List Int}, (∀ c ∈ D, p c = true) → insAt p x (D ++ S) = D ++ insAt p x S
  | [], _, _ => rfl
  | d :: D, S, h => by
    rw [List.cons_append, List.cons_append, show insAt p x (d :: (D ++ S)) = if p d = true then d :: insAt p x (D ++ S) else x :: d :: (D ++ S) from rfl, if_pos (h d (by simp)), insAt_app fun c hc => h c (by simp [hc])]
theorem insAt_perm {p : Int → Bool} {x : Int} : ∀ xs : List Int, (insAt p x xs).Perm (x :: xs)
  | [] => .refl _
  | y :: ys => by
    unfold insAt
    split
    · exact ((insAt_perm ys).cons y).trans (.swap x y ys)
    · exact .refl _
theorem insAt_pair {R : Int → Int → Prop} {p : Int → Bool} {x : Int} : ∀ {xs : List Int}, xs.Pairwise (fun a b => p b = true → p a = true) → xs.Pairwise R → (∀ c ∈ xs, p c = true → R c x) → (∀ c ∈ xs, p c = false → R x c) → (insAt p x xs).Pairwise R
  | [], _, _, _, _ => by simp [insAt]
  | y :: ys, hm, hR, h1, h2 => by
    rw [List.pairwise_cons] at hm hR
    unfold insAt
    split
    · rename_i hy
      rw [List.pairwise_cons]
      refine ⟨fun c hc => ?_, insAt_pair hm.2 hR.2 (fun c hc => h1 c (by simp [hc])) fun c hc => h2 c (by simp [hc])⟩
      rcases List.mem_cons.mp ((insAt_perm ys).mem_iff.mp hc) with e | hc
      · subst e; exact h1 y (by simp) hy
      · exact hR.1 c hc
    · rename_i hy
      rw [List.pairwise_cons]
      refine ⟨fun c hc => h2 c hc ?_, List.pairwise_cons.mpr hR⟩
      rcases List.mem_cons.mp hc with e | hc
      · subst e; simpa using hy
      · refine Bool.eq_false_iff.mpr fun q => hy (hm.1 c hc q)
theorem cntLt_map (f : Int → Int) (xs : List Int) (v : Int) : cntLt (xs.map f) v = (xs.filter fun y => decide (f y < v)).length := by
  unfold cntLt
  rw [List.filter_map, List.length_map]; rfl
theorem cntLe_map (f : Int → Int) (xs : List Int) (v : Int) : cntLe (xs.map f) v = (xs.filter fun y => decide (f y ≤ v)).length := by
  unfold cntLe
  rw [List.filter_map, List.length_map]; rfl
theorem mono_lt {f : Int → Int} {xs : List Int} {v : Int} (hs : (xs.map f).Pairwise (· ≤ ·)) : xs.Pairwise (fun a b => decide (f b < v) = true → decide (f a < v) = true) := by
  rw [List.pairwise_map] at hs
  exact hs.imp fun {a b} hab q => by simp at q ⊢; omega
theorem mono_le {f : Int → Int} {xs : List Int} {v : Int} (hs : (xs.map f).Pairwise (· ≤ ·)) : xs.Pairwise (fun a b => decide (f b ≤ v) = true → decide (f a ≤ v) = true) := by
  rw [List.pairwise_map] at hs
  exact hs.imp fun {a b} hab q => by simp at q ⊢; omega
theorem insL_lt {f : Int → Int} {xs : List Int} {v x : Int} (hs : (xs.map f).Pairwise (· ≤ ·)) : insL xs (cntLt (xs.map f) v) x = insAt (fun y => decide (f y < v)) x xs := by
  rw [cntLt_map]; exact insAt_eq (mono_lt hs)
theorem insL_le {f : Int → Int} {xs : List Int} {v x : Int} (hs : (xs.map f).Pairwise (· ≤ ·)) : insL xs (cntLe (xs.map f) v) x = insAt (fun y => decide (f y ≤ v)) x xs := by
  rw [cntLe_map]; exact insAt_eq (mono_le hs)
theorem insAt_lt_sorted {f : Int → Int} {xs : List Int} {x : Int} (hs : (xs.map f).Pairwise (· ≤ ·)) : ((insAt (fun y => decide (f y < f x)) x xs).map f).Pairwise (· ≤ ·) := by
  rw [List.pairwise_map]
  refine insAt_pair (mono_lt hs) (List.pairwise_map.mp hs) (fun c _ h => ?_) fun c _ h => ?_
  · simp at h; omega
  · simp at h; omega
theorem insAt_congr {p q : Int → Bool} {x : Int} : ∀ {xs : List Int}, (∀ c ∈ xs, p c = q c) → insAt p x xs = insAt q x xs
  | [], _ => rfl
  | y :: ys, h => by
    unfold insAt
    rw [h y (by simp), insAt_congr fun c hc => h c (by simp [hc])]
noncomputable def rng (n : Nat) : List Int := (List.range n).map fun k : Nat => (k : Int)
theorem mem_rng {n : Nat} {c : Int} : c ∈ rng n ↔ 0 ≤ c ∧ c < n := by
  unfold rng
  rw [List.mem_map]
  constructor
  · rintro ⟨k, hk, rfl⟩
    rw [List.mem_range] at hk
    omega
  · rintro ⟨h0, h1⟩
    exact ⟨c.toNat, by rw [List.mem_range]; omega, by omega⟩
theorem rng_succ (n : Nat) : rng (n + 1) = rng n ++ [(n : Int)] := by
  unfold rng; rw [List.range_succ, List.map_append]; rfl
theorem rng_len (n : Nat) : (rng n).length = n := by simp [rng]
structure RowOk (N s : Int) (n : Nat) (row : List Int) : Prop where
  srt : row.Pairwise (fun a b => plc N s a < plc N s b)
  prm : row.Perm (rng n)
section
variable {N s lap : Int} {n : Nat} {row : List Int}
theorem RowOk.mem (r : RowOk N s n row) {c : Int} : c ∈ row ↔ 0 ≤ c ∧ c < n := by rw [r.prm.mem_iff, mem_rng]
theorem RowOk.len (r : RowOk N s n row) : row.length = n := by rw [r.prm.length_eq, rng_len]
theorem RowOk.keys (r : RowOk N s n row) : (row.map (plc N s)).Pairwise (· ≤ ·) := by
  rw [List.pairwise_map]; exact r.srt.imp fun h => by omega
theorem RowOk.nil : RowOk N s 0 [] := ⟨.nil, .refl _⟩
theorem RowOk.fresh (l : Lap N s lap) (r : RowOk N s n row) (hn : (n : Int) < lap) {c : Int} (hc : c ∈ row) : plc N s c ≠ plc N s n := fun e => by
  have h := r.mem.mp hc
  have := l.inj c n h.1 (by omega) (by omega) hn e
  omega
theorem RowOk.step (l : Lap N s lap) (r : RowOk N s n row) (hn : (n : Int) < lap) : RowOk N s (n + 1) (insAt (fun y => decide (plc N s y < plc N s n)) n row) where
  srt := insAt_pair (mono_lt r.keys) r.srt (fun c _ h => by simpa using h) fun c hc h => by
    have := r.fresh l hn hc
    simp at h; omega
  prm := by
    rw [rng_succ]
    exact (insAt_perm row).trans ((r.prm.cons _).trans (List.perm_append_comm (l₁ := [(n : Int)])))
theorem RowOk.right (l : Lap N s lap) (r : RowOk N s n row) (hn : (n : Int) < lap) : insAt (fun y => decide (plc N s y ≤ plc N s n)) n row = insAt (fun y => decide (plc N s y < plc N s n)) n row :=
  insAt_congr fun c hc => by
    have := r.fresh l hn hc
    rw [decide_eq_decide]; omega
end
end Mine
namespace Mine
section
variable {N s lap : Int} {n : Nat} {row : List Int}
theorem getD_mem {xs : List Int} {j : Nat} (h : j < xs.length) : xs.getD j 0 ∈ xs := by
  rw [List.getD_eq_getElem?_getD, List.getElem?_eq_getElem h]; exact List.getElem_mem h
theorem mem_getD {xs : List Int} {c : Int} (h : c ∈ xs) : ∃ j, j < xs.length ∧ xs.getD j 0 = c := by
  obtain ⟨j, hj, e⟩ := List.mem_iff_getElem.mp h
  exact ⟨j, hj, by rw [List.getD_eq_getElem?_getD, List.getElem?_eq_getElem hj]; exact e⟩
theorem RowOk.lt (r : RowOk N s n row) {i j : Nat} (hij : i < j) (hj : j < n) : plc N s (row.getD i 0) < plc N s (row.getD j 0) := by
  have hl := r.len
  have := List.pairwise_iff_getElem.mp r.srt i j (by omega) (by omega) hij
  rw [List.getD_eq_getElem?_getD, List.getD_eq_getElem?_getD, List.getElem?_eq_getElem (by omega), List.getElem?_eq_getElem (by omega)]
  exact this
theorem RowOk.at (r : RowOk N s n row) {j : Nat} (hj : j < n) : 0 ≤ row.getD j 0 ∧ row.getD j 0 < n := r.mem.mp (getD_mem (by rw [r.len]; exact hj))
theorem RowOk.find (r : RowOk N s n row) {c : Int} (h0 : 0 ≤ c) (h1 : c < n) : ∃ j, j < n ∧ row.getD j 0 = c := by
  have := mem_getD (r.mem.mpr ⟨h0, h1⟩)
  rw [r.len] at this; exact this
theorem RowOk.first (hN : 0 < N) (r : RowOk N s n row) (hn : 0 < n) : row.getD 0 0 = 0 := by
  obtain ⟨j, hj, e⟩ := r.find (c := 0) (by omega) (by omega)
  rcases Nat.eq_zero_or_pos j with h | h
  · rw [h] at e; exact e
  · have := r.lt h hj
    rw [e, plc_zero] at this
    have := plc_nonneg (s := s) hN (row.getD 0 0)
    omega
theorem RowOk.gap (l : Lap N s lap) (r : RowOk N s n row) (hn : (n : Int) ≤ lap) (h2 : 2 ≤ n) : Gap N s n (row.getD 1 0) (row.getD (n - 1) 0) := by
  have h0 := r.first l.pos (by omega)
  have a1 := r.at (j := 1) (by omega)
  have aq := r.at (j := n - 1) (by omega)
  have l1 := r.lt (i := 0) (j := 1) (by omega) (by omega)
  have lq := r.lt (i := 0) (j := n - 1) (by omega) (by omega)
  refine ⟨l.pos, fun a b ha hal hb hbl e => l.inj a b ha (by omega) hb (by omega) e, ?_, a1.2, ?_, aq.2, ?_, ?_⟩
  · refine Decidable.byContradiction fun hc => ?_
    have : row.getD 1 0 = 0 := by omega
    rw [this, h0] at l1; omega
  · refine Decidable.byContradiction fun hc => ?_
    have : row.getD (n - 1) 0 = 0 := by omega
    rw [this, h0] at lq; omega
  · intro c c1 cn
    obtain ⟨j, hj, e⟩ := r.find (c := c) (by omega) cn
    have hj0 : j ≠ 0 := fun q => by rw [q, h0] at e; omega
    rcases Nat.lt_or_ge 1 j with h | h
    · have := r.lt h hj
      rw [e] at this; omega
    · rw [show j = 1 by omega] at e
      rw [e]; omega
  · intro c c1 cn
    obtain ⟨j, hj, e⟩ := r.find (c := c) (by omega) cn
    rcases Nat.lt_or_ge j (n - 1) with h | h
    · have := r.lt h (by omega)
      rw [e] at this; omega
    · rw [show j = n - 1 by omega] at e
      rw [e]; omega
theorem RowOk.behind0 (l : Lap N s lap) (r : RowOk N s n row) (hn : (n : Int) ≤ lap) (h2 : 2 ≤ n) : row.getD 0 0 = behind (row.getD (n - 1) 0) n (row.getD 1 0) (row.getD (n - 1) 0) := by
  rw [(r.gap l hn h2).last, r.first l.pos (by omega)]
theorem RowOk.behindS (l : Lap N s lap) (r : RowOk N s n row) (hn : (n : Int) ≤ lap) (h2 : 2 ≤ n) {t : Nat} (ht : t + 1 < n) : row.getD (t + 1) 0 = behind (row.getD t 0) n (row.getD 1 0) (row.getD (n - 1) 0) := by
  have g := r.gap l hn h2
  have at_ := r.at (j := t) (by omega)
  have hq := r.lt (i := t) (j := n - 1) (by omega) (by omega)
  have hne : row.getD t 0 ≠ row.getD (n - 1) 0 := fun e => by rw [e] at hq; omega
  obtain ⟨b0, b1, b2, b3⟩ := g.next at_.1 at_.2 hne
  generalize hb : behind (row.getD t 0) n (row.getD 1 0) (row.getD (n - 1) 0) = b at b0 b1 b2 b3
  obtain ⟨j, hj, e⟩ := r.find b0 b1
  have lt1 := r.lt (i := t) (j := t + 1) (by omega) ht
  have as := r.at (j := t + 1) ht
  rcases Nat.lt_trichotomy j (t + 1) with h | h | h
  · exfalso
    rcases Nat.lt_or_ge j t with h' | h'
    · have := r.lt h' (by omega)
      rw [e] at this; omega
    · rw [show j = t by omega] at e
      rw [e] at b2; omega
  · rw [h] at e; exact e
  · exfalso
    have := r.lt h hj
    rw [e] at this
    exact b3 _ as.1 as.2 ⟨lt1, this⟩
theorem perm_sorted_eq : ∀ {xs ys : List Int}, xs.Perm ys → xs.Pairwise (· ≤ ·) → ys.Pairwise (· ≤ ·) → xs = ys
  | [], ys, h, _, _ => by rw [List.nil_perm.mp h]
  | x :: xs, [], h, _, _ => by have := h.length_eq; simp at this
  | x :: xs, y :: ys, h, h1, h2 => by
    rw [List.pairwise_cons] at h1 h2
    have hxy : x = y := by
      have a : x ∈ y :: ys := h.mem_iff.mp (by simp)
      have b : y ∈ x :: xs := h.mem_iff.mpr (by simp)
      rcases List.mem_cons.mp a with e | a
      · exact e
      · rcases List.mem_cons.mp b with e | b
        · exact e.symm
        · have := h1.1 y b
          have := h2.1 x a
          omega
    subst hxy
    rw [perm_sorted_eq (List.perm_cons x |>.mp h) h1.2 h2.2]
end
end Mine
namespace Mine
theorem lookup_zip {g : Int → Int} {h : Int → V} {c : Int} : ∀ {xs : List Int}, (∀ d ∈ xs, g d = g c → d = c) → c ∈ xs → ((xs.map g).zip (xs.map h)).lookup (g c) = some (h c)
  | [], _, hc => by cases hc
  | x :: xs, hi, hc => by
    rw [List.map_cons, List.map_cons, List.zip_cons_cons, List.lookup_cons]
    by_cases e : g x = g c
    · rw [hi x (by simp) e]; simp
    · rw [show (g c == g x) = false by simp; exact fun q => e q.symm]
      simp only
      refine lookup_zip (fun d hd => hi d (by simp [hd])) ?_
      rcases List.mem_cons.mp hc with q | q
      · subst q; exact absurd rfl e
      · exact q
theorem allSome_map {α β : Type} {f : α → Option β} {g : α → β} : ∀ {xs : List α}, (∀ x ∈ xs, f x = some (g x)) → allSome (xs.map f) = some (xs.map g)
  | [], _ => rfl
  | x :: xs, h => by
    rw [List.map_cons, h x (by simp)]
    unfold allSome
    rw [allSome_map fun y hy => h y (by simp [hy])]
    rfl
section
variable {N s lap : Int} {n : Nat} {row : List Int}
theorem RowOk.sorted (l : Lap N s lap) (r : RowOk N s n row) (hn : (n : Int) ≤ lap) : sortedBy ((rng n).map (plc N s)) ((rng n).map V.int) = some (row.map V.int) := by
  have hp : (row.map (plc N s)).Perm ((rng n).map (plc N s)) := r.prm.map _
  have hnd : ((rng n).map (plc N s)).Nodup := by
    rw [← hp.nodup_iff]
    unfold List.Nodup
    rw [List.pairwise_map]
    exact r.srt.imp fun h => by omega
  unfold sortedBy
  rw [if_pos hnd]
  have hm : ((rng n).map (plc N s)).mergeSort (fun a b => decide (a ≤ b)) = row.map (plc N s) := by
    refine perm_sorted_eq ((List.mergeSort_perm _ _).trans hp.symm) ?_ r.keys
    have := List.pairwise_mergeSort (le := fun a b : Int => decide (a ≤ b)) (by intro a b c; simp; omega) (by intro a b; simp; omega) ((rng n).map (plc N s))
    exact this.imp fun h => by simpa using h
  rw [hm, List.map_map]
  refine allSome_map fun c hc => ?_
  have hc' := r.mem.mp hc
  refine lookup_zip (fun d hd e => ?_) (r.prm.mem_iff.mp hc)
  have hd' := mem_rng.mp hd
  exact l.inj d c hd'.1 (by omega) hc'.1 (by omega) e
end
theorem keysBy_lam {f : FCall} {C : List (Option V)} {H : List L} {g : Int → Int} : ∀ {xs : List Int}, (∀ i ∈ xs, f [.int i] none C H = some (.int (g i), H)) → keysBy f C (xs.map V.int) H = some (xs.map g, H)
  | [], _ => rfl
  | x :: xs, h => by
    rw [List.map_cons]
    unfold keysBy
    rw [h x (by simp)]
    simp only
    rw [keysBy_lam fun i hi => h i (by simp [hi])]
    rfl
theorem srcItems_rng {n : Nat} (hn : n ≤ 1000) {H : List L} : srcItems (.rng 0 n 1) H = some ((rng n).map V.int) := by
  have hs : Builtin.Range.rangeSize 0 n 1 = (n : Int) := by
    unfold Builtin.Range.rangeSize
    simp
    omega
  have hsm : Builtin.Range.small 0 n 1 = true := by
    simp [Builtin.Range.small, Builtin.Range.rangeFitsLong, hs]
    omega
  unfold srcItems
  simp only
  rw [if_pos hsm, hs]
  simp [rng, List.map_map]
end Mine
namespace Mine
/-- the law's state, from the first row on -/
noncomputable def qSt (fz : V) (most pegs : Int) (peg told turn due fewer more what : Option V) (lap size step : Int) (H : List L) : S :=
  { loc := [some fz, some (.int most), some (.int pegs), some (.ref 4), peg, told, turn, due, fewer, more], cel := [0, 1, 2, 3, 4, 5],
    C := [some (.int lap), some (.clo 0 [5, 4]), some (.ref 3), what, some (.int size), some (.int step)], H := H }
noncomputable def qC (what : Option V) (lap size step : Int) : List (Option V) := [some (.int lap), some (.clo 0 [5, 4]), some (.ref 3), what, some (.int size), some (.int step)]
theorem small_of {i : Int} (h0 : 0 ≤ i) (h1 : i ≤ 9000000000000000000) : small i = true := by
  unfold small; simp; omega
section
variable {what : Option V} {lap size step : Int} {H : List L}
theorem q_lam {i : Int} (hN : 0 < size) (h0 : 0 ≤ i) (h1 : i ≤ 9000000000000000000) : loSem lm3_0 [5, 4] [.int i] none (qC what lap size step) H = some (.int (plc size step i), H) :=
  lam_place rfl rfl hN (small_of h0 h1)
theorem q_key {xs : List Int} (hN : 0 < size) (h : ∀ i ∈ xs, 0 ≤ i ∧ i ≤ 9000000000000000000) : KeyOk dLam3 (qC what lap size step) H xs (.clo 0 [5, 4]) (xs.map (plc size step)) :=
  .fn (f := loSem lm3_0 [5, 4]) rfl rfl fun i hi => q_lam hN (h i hi).1 (h i hi).2
theorem q_keyx {x : Int} (hN : 0 < size) (h0 : 0 ≤ x) (h1 : x ≤ 9000000000000000000) : KeyX dLam3 (qC what lap size step) H x (.clo 0 [5, 4]) (plc size step x) :=
  .fn (f := loSem lm3_0 [5, 4]) rfl rfl (q_lam hN h0 h1)
end
theorem fItem_last {H : List L} {a : Nat} {xs : List Int} (ha : H[a]? = some (.ints xs)) (h : 0 < xs.length) : fItem (.ref a) (.int (-1)) H = some (.int (xs.getD (xs.length - 1) 0), H) := by
  have e : pyIdx (-1) xs.length = some (xs.length - 1) := by
    unfold pyIdx
    rw [if_neg (by omega), if_pos (by omega)]
    congr 1
    omega
  unfold fItem
  simp only [ha, L.vs, List.length_map, e]
  rw [List.getElem?_map, List.getElem?_eq_getElem (by omega), List.getD_eq_getElem?_getD, List.getElem?_eq_getElem (by omega)]
  rfl
section
variable {fz : V} {most pegs lap size step : Int} {told turn due fewer more what : Option V} {H : List L} {row : List Int} {k : Nat}
noncomputable def pegA : Sm := sAssign (.loc 5) (mTup (aCons (mCallK (mFn 0) (dFn 0 sem3_0) (aCons (mCel 2) (aCons (mLoc 4) aNil)) (mCel 1)) (aCons (mCall (mFn 2) (dFn 2 sem3_2) (aCons (mLoc 3) (aCons (mCall (mCel 1) dLam3 (aCons (mLoc 4) aNil)) aNil))) aNil)))
noncomputable def pegB : Sm := sAssign (.loc 5) (mTup (aCons (mCallK (mFn 2) (dFn 2 sem3_2) (aCons (mCel 2) (aCons (mLoc 4) aNil)) (mCel 1)) (aCons (mCall (mFn 0) (dFn 0 sem3_0) (aCons (mLoc 3) (aCons (mCall (mCel 1) dLam3 (aCons (mLoc 4) aNil)) aNil))) aNil)))
noncomputable def row' (size step : Int) (k : Nat) (row : List Int) : List Int := insAt (fun y => decide (plc size step y < plc size step k)) k row
theorem peg_ab (l : Lap size step lap) (r : RowOk size step k row) (hk : (k : Int) < lap) (hk9 : k ≤ 800) (h3 : H[3]? = some (.ints row)) (h4 : H[4]? = some (.ints (row.map (plc size step)))) :
    let σ := qSt fz most pegs (some (.int k)) told turn due fewer more what lap size step H
    let σ' := qSt fz most pegs (some (.int k)) (some (.tup [.none, .none])) turn due fewer more what lap size step ((H.set 3 (.ints (row' size step k row))).set 4 (.ints ((row' size step k row).map (plc size step))))
    pegA σ = some (.next, σ') ∧ pegB σ = some (.next, σ') := by
  intro σ σ'
  have hl := r.len
  have l3 : 3 < H.length := (List.getElem?_eq_some_iff.mp h3).1
  have l4 : 4 < H.length := (List.getElem?_eq_some_iff.mp h4).1
  have hrow : ∀ i ∈ row, 0 ≤ i ∧ i ≤ 9000000000000000000 := fun i hi => by have := r.mem.mp hi; omega
  have hK : KeyOk dLam3 (qC what lap size step) H row (.clo 0 [5, 4]) (row.map (plc size step)) := q_key l.pos hrow
  have hX : KeyX dLam3 (qC what lap size step) H k (.clo 0 [5, 4]) (plc size step k) := q_keyx l.pos (by omega) (by omega)
  have eL : insL row (cntLt (row.map (plc size step)) (plc size step k)) k = row' size step k row := insL_lt r.keys
  have eR : insL row (cntLe (row.map (plc size step)) (plc size step k)) k = row' size step k row := by rw [insL_le r.keys]; exact r.right l hk
  have a0 : sem3_0 [.ref 3, .int k] (some (.clo 0 [5, 4])) (qC what lap size step) H = some (.none, H.set 3 (.ints (row' size step k row))) := by
    rw [ir3 h3 (by omega) hK hX r.keys rfl, eR]
  have a2 : sem3_2 [.ref 3, .int k] (some (.clo 0 [5, 4])) (qC what lap size step) H = some (.none, H.set 3 (.ints (row' size step k row))) := by
    rw [il3 h3 (by omega) hK hX r.keys rfl, eL]
  have h4' : (H.set 3 (.ints (row' size step k row)))[4]? = some (.ints (row.map (plc size step))) := by rw [List.getElem?_set_ne (by omega)]; exact h4
  have b2 : sem3_2 [.ref 4, .int (plc size step k)] none (qC what lap size step) (H.set 3 (.ints (row' size step k row))) = some (.none, (H.set 3 (.ints (row' size step k row))).set 4 (.ints ((row' size step k row).map (plc size step)))) := by
    rw [il3 h4' (by simp; omega) .none .none r.keys rfl, insL_map, eL]
  have b0 : sem3_0 [.ref 4, .int (plc size step k)] none (qC what lap size step) (H.set 3 (.ints (row' size step k row))) = some (.none, (H.set 3 (.ints (row' size step k row))).set 4 (.ints ((row' size step k row).map (plc size step)))) := by
    rw [ir3 h4' (by simp; omega) .none .none r.keys rfl, insL_map, eR]
  have hp : mCall (mCel 1) dLam3 (aCons (mLoc 4) aNil) ({ σ with H := H.set 3 (.ints (row' size step k row)) } : S) = some (.int (plc size step k), H.set 3 (.ints (row' size step k row))) := by
    rw [mCall_eq (fv := .clo 0 [5, 4]) (f := loSem lm3_0 [5, 4]) (vs := [.int k]) (H0 := H.set 3 (.ints (row' size step k row))) (H1 := H.set 3 (.ints (row' size step k row))) rfl rfl rfl]
    exact q_lam (what := what) (lap := lap) l.pos (by omega) (by omega)
  constructor
  · refine sAssign_eq (v := .tup [.none, .none]) (H1 := (H.set 3 (.ints (row' size step k row))).set 4 (.ints ((row' size step k row).map (plc size step)))) ?_ rfl
    unfold mTup
    rw [aCons_eq (v := .none) (vs := [.none]) (H1 := H.set 3 (.ints (row' size step k row))) (H2 := (H.set 3 (.ints (row' size step k row))).set 4 (.ints ((row' size step k row).map (plc size step)))) ?_ (aCons_eq (v := .none) ?_ rfl)]
    · rfl
    · rw [mCallK_eq (fv := .fn 0) (f := sem3_0) (vs := [.ref 3, .int k]) (kv := .clo 0 [5, 4]) (H0 := H) (H1 := H) (H2 := H) rfl rfl rfl rfl]
      exact a0
    · rw [mCall_eq (fv := .fn 2) (f := sem3_2) (vs := [.ref 4, .int (plc size step k)]) (H0 := H.set 3 (.ints (row' size step k row))) (H1 := H.set 3 (.ints (row' size step k row))) rfl rfl (aCons_eq (v := .ref 4) (H1 := H.set 3 (.ints (row' size step k row))) rfl (aCons_eq hp rfl))]
      exact b2
  · refine sAssign_eq (v := .tup [.none, .none]) (H1 := (H.set 3 (.ints (row' size step k row))).set 4 (.ints ((row' size step k row).map (plc size step)))) ?_ rfl
    unfold mTup
    rw [aCons_eq (v := .none) (vs := [.none]) (H1 := H.set 3 (.ints (row' size step k row))) (H2 := (H.set 3 (.ints (row' size step k row))).set 4 (.ints ((row' size step k row).map (plc size step)))) ?_ (aCons_eq (v := .none) ?_ rfl)]
    · rfl
    · rw [mCallK_eq (fv := .fn 2) (f := sem3_2) (vs := [.ref 3, .int k]) (kv := .clo 0 [5, 4]) (H0 := H) (H1 := H) (H2 := H) rfl rfl rfl rfl]
      exact a2
    · rw [mCall_eq (fv := .fn 0) (f := sem3_0) (vs := [.ref 4, .int (plc size step k)]) (H0 := H.set 3 (.ints (row' size step k row))) (H1 := H.set 3 (.ints (row' size step k row))) rfl rfl (aCons_eq (v := .ref 4) (H1 := H.set 3 (.ints (row' size step k row))) rfl (aCons_eq hp rfl))]
      exact b0
end
end Mine
namespace Mine
theorem rngSize (n : Nat) : Builtin.Range.rangeSize 0 n 1 = (n : Int) := by
  unfold Builtin.Range.rangeSize
  simp
  omega
theorem rngSmall {n : Nat} (hn : n ≤ 1000) : Builtin.Range.small 0 n 1 = true := by
  simp [Builtin.Range.small, Builtin.Range.rangeFitsLong, rngSize]
  omega
theorem itemAt_rng {n k : Nat} {H : List L} (hn : n ≤ 1000) : itemAt (.rng 0 n 1) H k = some (if k < n then some (.int k) else none) := by
  unfold itemAt
  simp only
  rw [if_pos (rngSmall hn), rngSize]
  by_cases h : k < n
  · rw [if_pos h, if_pos (by omega)]; simp
  · rw [if_neg h, if_neg (by omega)]
theorem forGo_step {src v : V} {t : Tgt} {b : Sm} {g k : Nat} {σ σ1 σ2 : S} (h : itemAt src σ.H k = some (some v)) (h1 : t.put v σ = some σ1) (h2 : b σ1 = some (.next, σ2)) : forGo src t b (g + 1) k σ = forGo src t b g (k + 1) σ2 := by
  show (match itemAt src σ.H k with
    | some none => some (Fl.next, σ)
    | some (some v) => (match t.put v σ with
      | some σ1 => (match b σ1 with
        | some (.next, σ2) => forGo src t b g (k + 1) σ2
        | some (.ret r, σ2) => some (.ret r, σ2)
        | none => none)
      | none => none)
    | none => none) = _
  rw [h]; simp only; rw [h1]; simp only; rw [h2]
theorem forGo_stop {src : V} {t : Tgt} {b : Sm} {g k : Nat} {σ : S} (h : itemAt src σ.H k = some none) : forGo src t b (g + 1) k σ = some (.next, σ) := by
  show (match itemAt src σ.H k with
    | some none => some (Fl.next, σ)
    | some (some v) => (match t.put v σ with
      | some σ1 => (match b σ1 with
        | some (.next, σ2) => forGo src t b g (k + 1) σ2
        | some (.ret r, σ2) => some (.ret r, σ2)
        | none => none)
      | none => none)
    | none => none) = _
  rw [h]
/-- a walk over range(n) -/
theorem for_rng {t : Tgt} {b : Sm} {n : Nat} (hn : n ≤ 1000) (I : Nat → S → Prop) (hI : ∀ k σ, k < n → I k σ → ∃ σ1 σ2, t.put (.int k) σ = some σ1 ∧ b σ1 = some (.next, σ2) ∧ I (k + 1) σ2) :
    ∀ (fuel k : Nat) (σ : S), k ≤ n → n - k < fuel → I k σ → ∃ σ', forGo (.rng 0 n 1) t b fuel k σ = some (.next, σ') ∧ I n σ' := by
  intro fuel
  induction fuel with
  | zero => intro k σ h1 h2 h3; omega
  | succ fuel ih =>
    intro k σ h1 h2 h3
    by_cases h : k < n
    · obtain ⟨σ1, σ2, e1, e2, e3⟩ := hI k σ h h3
      have it : itemAt (.rng 0 n 1) σ.H k = some (some (.int k)) := by rw [itemAt_rng hn, if_pos h]
      obtain ⟨σ', q1, q2⟩ := ih (k + 1) σ2 (by omega) (by omega) e3
      exact ⟨σ', by rw [forGo_step it e1 e2]; exact q1, q2⟩
    · have it : itemAt (.rng 0 n 1) σ.H k = some none := by rw [itemAt_rng hn, if_neg h]
      have hkn : k = n := by omega
      exact ⟨σ, forGo_stop it, by rw [← hkn]; exact h3⟩
noncomputable def turnT : Bm := mAndB (mTest (mBin fGt (mLoc 4) (mInt 0))) (mAndB (mTest (mBin fNeI (mBin fItem (mCel 2) (mLoc 6)) (mCall (mFn 6) (dFn 6 sem3_6) (aCons (mBin fItem (mCel 2) (mBin fSub (mLoc 6) (mInt 1))) (aCons (mBin fAdd (mLoc 4) (mInt 1)) (aCons (mBin fItem (mCel 2) (mInt 1)) (aCons (mBin fItem (mCel 2) (mUn fNeg (mInt 1))) aNil))))))) (mConst true))
noncomputable def turnB : Sm := sSeq (sIf turnT (sSeq (sRet (mBool false)) sNil) sNil) sNil
section
variable {fz : V} {most pegs lap size step : Int} {told turn due fewer more what : Option V} {H : List L} {row : List Int} {k t : Nat}
theorem turn_t (l : Lap size step lap) (r : RowOk size step (k + 1) row) (hk : (k : Int) < lap) (hk9 : k ≤ 800) (h3 : H[3]? = some (.ints row)) (ht : t ≤ k) :
    turnT (qSt fz most pegs (some (.int k)) told (some (.int t)) due fewer more what lap size step H) = some (false, H) := by
  generalize hσ : qSt fz most pegs (some (.int k)) told (some (.int t)) due fewer more what lap size step H = σ
  have hHσ : σ.H = H := by rw [← hσ]; rfl
  have hC : mCel 2 σ = some (.ref 3, H) := by rw [← hσ]; rfl
  have h4 : mLoc 4 σ = some (.int k, H) := by rw [← hσ]; rfl
  have h6 : mLoc 6 σ = some (.int t, H) := by rw [← hσ]; rfl
  have hself : ({ σ with H := H } : S) = σ := by rw [← hσ]; rfl
  have hint : ∀ i : Int, mInt i σ = some (.int i, H) := fun i => by rw [← hσ]; rfl
  have hl := r.len
  have hgt : mTest (mBin fGt (mLoc 4) (mInt 0)) σ = some (decide (0 < (k : Int)), H) := by
    refine mTest_eq (v := .bool (decide (0 < (k : Int)))) (H := H) ?_ rfl
    rw [mBin_eq (x := .int k) (y := .int 0) (H1 := H) (H2 := H) h4 (by rw [hself]; exact hint 0)]
    rfl
  unfold turnT mAndB
  rw [hgt]
  by_cases hk0 : 0 < k
  · rw [show decide (0 < (k : Int)) = true by simp; exact hk0]
    simp only
    rw [hself]
    have c1 : mBin fItem (mCel 2) (mLoc 6) σ = some (.int (row.getD t 0), H) := by
      rw [mBin_eq (x := .ref 3) (y := .int t) (H1 := H) (H2 := H) hC (by rw [hself]; exact h6), fItem_ints h3 (by omega) (by omega)]
      rfl
    have c2 : mBin fItem (mCel 2) (mBin fSub (mLoc 6) (mInt 1)) σ = some (.int (row.getD (if t = 0 then k else t - 1) 0), H) := by
      rw [mBin_eq (x := .ref 3) (y := .int ((t : Int) - 1)) (H1 := H) (H2 := H) hC (by rw [hself, mBin_eq (x := .int t) (y := .int 1) (H1 := H) (H2 := H) h6 (by rw [hself]; exact hint 1)]; rfl)]
      by_cases h : t = 0
      · subst h
        rw [if_pos rfl, show ((0 : Nat) : Int) - 1 = -1 by omega, fItem_last h3 (by omega), hl]
        rfl
      · rw [if_neg h, fItem_ints h3 (by omega) (by omega), show ((t : Int) - 1).toNat = t - 1 by omega]
    have c3 : mBin fItem (mCel 2) (mInt 1) σ = some (.int (row.getD 1 0), H) := by
      rw [mBin_eq (x := .ref 3) (y := .int 1) (H1 := H) (H2 := H) hC (by rw [hself]; exact hint 1), fItem_ints h3 (by omega) (by omega)]
      rfl
    have c4 : mBin fItem (mCel 2) (mUn fNeg (mInt 1)) σ = some (.int (row.getD k 0), H) := by
      rw [mBin_eq (x := .ref 3) (y := .int (-1)) (H1 := H) (H2 := H) hC (by rw [hself, ← hσ]; rfl), fItem_last h3 (by omega), hl]
      rfl
    have c5 : mBin fAdd (mLoc 4) (mInt 1) σ = some (.int ((k : Int) + 1), H) := by
      rw [mBin_eq (x := .int k) (y := .int 1) (H1 := H) (H2 := H) h4 (by rw [hself]; exact hint 1)]
      rfl
    have c6 : row.getD t 0 = behind (row.getD (if t = 0 then k else t - 1) 0) ((k : Int) + 1) (row.getD 1 0) (row.getD k 0) := by
      by_cases h : t = 0
      · subst h
        rw [if_pos rfl]
        have := r.behind0 l (by omega) (by omega)
        simpa using this
      · rw [if_neg h]
        have := r.behindS l (t := t - 1) (by omega) (by omega) (by omega)
        rw [show t - 1 + 1 = t by omega] at this
        simpa using this
    have c7 : mCall (mFn 6) (dFn 6 sem3_6) (aCons (mBin fItem (mCel 2) (mBin fSub (mLoc 6) (mInt 1))) (aCons (mBin fAdd (mLoc 4) (mInt 1)) (aCons (mBin fItem (mCel 2) (mInt 1)) (aCons (mBin fItem (mCel 2) (mUn fNeg (mInt 1))) aNil)))) σ = some (.int (row.getD t 0), H) := by
      rw [mCall_eq (fv := .fn 6) (f := sem3_6) (vs := [.int (row.getD (if t = 0 then k else t - 1) 0), .int ((k : Int) + 1), .int (row.getD 1 0), .int (row.getD k 0)]) (H0 := H) (H1 := H) (by rw [← hσ]; rfl) rfl ?_, sem_behind, ← c6]
      rw [hself]
      refine aCons_eq c2 ?_
      rw [hself]
      refine aCons_eq c5 ?_
      rw [hself]
      refine aCons_eq c3 ?_
      rw [hself]
      refine aCons_eq c4 ?_
      rw [hself, ← hσ]; rfl
    have c8 : mTest (mBin fNeI (mBin fItem (mCel 2) (mLoc 6)) (mCall (mFn 6) (dFn 6 sem3_6) (aCons (mBin fItem (mCel 2) (mBin fSub (mLoc 6) (mInt 1))) (aCons (mBin fAdd (mLoc 4) (mInt 1)) (aCons (mBin fItem (mCel 2) (mInt 1)) (aCons (mBin fItem (mCel 2) (mUn fNeg (mInt 1))) aNil)))))) σ = some (false, H) := by
      refine mTest_eq (v := .bool false) (H := H) ?_ rfl
      rw [mBin_eq (x := .int (row.getD t 0)) (y := .int (row.getD t 0)) (H1 := H) (H2 := H) c1 (by rw [hself]; exact c7)]
      simp [fNeI]
    rw [c8]
  · rw [show decide (0 < (k : Int)) = false by simp; omega]
theorem turn_loop (l : Lap size step lap) (r : RowOk size step (k + 1) row) (hk : (k : Int) < lap) (hk9 : k ≤ 800) (h3 : H[3]? = some (.ints row)) :
    ∃ turn', sFor 1000 (.loc 6) (mArgs fRange (aCons (mBin fAdd (mLoc 4) (mInt 1)) aNil)) turnB (qSt fz most pegs (some (.int k)) told turn due fewer more what lap size step H) = some (.next, qSt fz most pegs (some (.int k)) told turn' due fewer more what lap size step H) := by
  have e : mArgs fRange (aCons (mBin fAdd (mLoc 4) (mInt 1)) aNil) (qSt fz most pegs (some (.int k)) told turn due fewer more what lap size step H) = some (.rng 0 (k + 1 : Nat) 1, H) := rfl
  unfold sFor
  rw [e]
  simp only
  obtain ⟨σ', e1, turn', e2⟩ := for_rng (t := .loc 6) (b := turnB) (n := k + 1) (by omega) (fun _ σ => ∃ turn', σ = qSt fz most pegs (some (.int k)) told turn' due fewer more what lap size step H) (by
    rintro j σ hj ⟨turn', rfl⟩
    refine ⟨qSt fz most pegs (some (.int k)) told (some (.int j)) due fewer more what lap size step H, qSt fz most pegs (some (.int k)) told (some (.int j)) due fewer more what lap size step H, rfl, ?_, _, rfl⟩
    refine sOne ?_
    rw [sIf_f (turn_t l r hk hk9 h3 (by omega))]
    rfl) 1000 0 (qSt fz most pegs (some (.int k)) told turn due fewer more what lap size step H) (by omega) (by omega) ⟨turn, rfl⟩
  exact ⟨turn', by rw [← e2]; exact e1⟩
end
end Mine
namespace Mine
theorem fNe_nones (H : List L) : fNe (.tup [.none, .none]) (.tup [.none, .none]) H = some (.bool false, H) := by
  rfl
theorem fSortK_eq {f : FCall} {src : V} {C : List (Option V)} {H H1 : List L} {vs us : List V} {ks : List Int} (h1 : srcItems src H = some vs) (h2 : (decide (vs.length < 64) && srcOk src) = true) (h3 : keysBy f C vs H = some (ks, H1)) (h4 : sortedBy ks vs = some us) (h5 : (stills us && decide (us.length ≤ 1048576)) = true) :
    fSortK f src C H = some (.ref H1.length, H1 ++ [mkL us]) := by
  unfold fSortK
  rw [h1]
  simp only
  rw [if_pos h2, h3]
  simp only
  rw [h4]
  simp only
  rw [if_pos h5]
theorem mSortK_eq {a fm : Xm} {disp : V → Option FCall} {σ : S} {src fv : V} {f : FCall} {H1 H2 : List L} (h1 : a σ = some (src, H1)) (h2 : fm { σ with H := H1 } = some (fv, H2)) (h3 : disp fv = some f) : mSortK a fm disp σ = fSortK f src σ.C H2 := by
  unfold mSortK
  rw [h1]; simp only; rw [h2]; simp only; rw [h3]
theorem mOrB_f {a b : Bm} {σ : S} {H1 : List L} {r : Option (Bool × List L)} (h1 : a σ = some (false, H1)) (h2 : b { σ with H := H1 } = r) : mOrB a b σ = r := by
  unfold mOrB
  rw [h1]; exact h2
noncomputable def checkT : Bm := mOrB (mTest (mBin fNe (mLoc 5) (mTup (aCons mNone (aCons mNone aNil))))) (mOrB (mTest (mBin fNe (mCel 2) (mSortK (mArgs fRange (aCons (mBin fAdd (mLoc 4) (mInt 1)) aNil)) (mCel 1) dLam3))) (mConst false))
section
variable {fz : V} {most pegs lap size step : Int} {told turn due fewer more what : Option V} {H : List L} {row : List Int} {k t : Nat}
theorem sortK_row (l : Lap size step lap) (r : RowOk size step (k + 1) row) (hk : (k : Int) < lap) (hk9 : k ≤ 60) : fSortK (loSem lm3_0 [5, 4]) (.rng 0 (k + 1 : Nat) 1) (qC what lap size step) H = some (.ref H.length, H ++ [.ints row]) := by
  have hl := r.len
  have c1 : (decide (((rng (k + 1)).map V.int).length < 64) && srcOk (.rng 0 (k + 1 : Nat) 1)) = true := by
    rw [List.length_map, rng_len, srcOk, rngSize, Bool.and_eq_true, decide_eq_true_eq, decide_eq_true_eq]
    omega
  have c2 : (stills (row.map V.int) && decide ((row.map V.int).length ≤ 1048576)) = true := by
    rw [Bool.and_eq_true, decide_eq_true_eq, List.length_map]
    exact ⟨stills_ints row, by omega⟩
  have c3 := keysBy_lam (f := loSem lm3_0 [5, 4]) (C := qC what lap size step) (H := H) (g := plc size step) (xs := rng (k + 1)) (fun i hi => by
        have := mem_rng.mp hi
        exact q_lam l.pos (by omega) (by omega))
  have c4 := r.sorted l (by omega)
  have c5 := srcItems_rng (n := k + 1) (by omega) (H := H)
  have q := fSortK_eq c5 c1 c3 c4 c2
  rw [mkL_map] at q
  exact q
theorem check_s (l : Lap size step lap) (r : RowOk size step (k + 1) row) (hk : (k : Int) < lap) (hk9 : k ≤ 60) {σ : S} {a fm : Xm} (hr : a σ = some (.rng 0 (k + 1 : Nat) 1, H)) (h1 : fm { σ with H := H } = some (.clo 0 [5, 4], H)) (hCC : σ.C = qC what lap size step) : mSortK a fm dLam3 σ = some (.ref H.length, H ++ [.ints row]) := by
  have q := mSortK_eq hr h1 (disp := dLam3) (f := loSem lm3_0 [5, 4]) rfl
  rw [hCC] at q
  exact q.trans (sortK_row l r hk hk9)
theorem check_t (l : Lap size step lap) (r : RowOk size step (k + 1) row) (hk : (k : Int) < lap) (hk9 : k ≤ 60) (h3 : H[3]? = some (.ints row)) :
    checkT (qSt fz most pegs (some (.int k)) (some (.tup [.none, .none])) turn due fewer more what lap size step H) = some (false, H ++ [.ints row]) := by
  have hl := r.len
  have l3 : 3 < H.length := (List.getElem?_eq_some_iff.mp h3).1
  generalize hσ : qSt fz most pegs (some (.int k)) (some (.tup [.none, .none])) turn due fewer more what lap size step H = σ
  have hC : mCel 2 σ = some (.ref 3, H) := by rw [← hσ]; rfl
  have hself : ({ σ with H := H } : S) = σ := by rw [← hσ]; rfl
  have hr : mArgs fRange (aCons (mBin fAdd (mLoc 4) (mInt 1)) aNil) σ = some (.rng 0 (k + 1 : Nat) 1, H) := by rw [← hσ]; rfl
  have h1 : mCel 1 σ = some (.clo 0 [5, 4], H) := by rw [← hσ]; rfl
  have hCC : σ.C = qC what lap size step := by rw [← hσ]; rfl
  have hs : mSortK (mArgs fRange (aCons (mBin fAdd (mLoc 4) (mInt 1)) aNil)) (mCel 1) dLam3 σ = some (.ref H.length, H ++ [.ints row]) := by
    exact check_s l r hk hk9 hr (by rw [hself]; exact h1) hCC
  have h5 : mLoc 5 σ = some (.tup [.none, .none], H) := by rw [← hσ]; rfl
  have h6 : mTup (aCons mNone (aCons mNone aNil)) σ = some (.tup [.none, .none], H) := by
    have q : aCons mNone (aCons mNone aNil) σ = some ([.none, .none], H) := by rw [← hσ]; rfl
    unfold mTup
    rw [q]; simp only; rw [if_pos (by simp)]
  have t1 : mTest (mBin fNe (mLoc 5) (mTup (aCons mNone (aCons mNone aNil)))) σ = some (false, H) := by
    refine mTest_eq (v := .bool false) (H := H) ?_ rfl
    rw [mBin_eq (x := .tup [.none, .none]) (y := .tup [.none, .none]) (H1 := H) (H2 := H) h5 (by rw [hself]; exact h6)]
    exact fNe_nones H
  have t2 : mTest (mBin fNe (mCel 2) (mSortK (mArgs fRange (aCons (mBin fAdd (mLoc 4) (mInt 1)) aNil)) (mCel 1) dLam3)) σ = some (false, H ++ [.ints row]) := by
    refine mTest_eq (v := .bool false) (H := H ++ [.ints row]) ?_ rfl
    rw [mBin_eq (x := .ref 3) (y := .ref H.length) (H1 := H) (H2 := H ++ [.ints row]) hC (by rw [hself]; exact hs), fNe_ints (xs := row) (ys := row) (by rw [List.getElem?_append_left l3]; exact h3) (by simp)]
    simp
  exact mOrB_f t1 (by rw [hself]; exact mOrB_f t2 rfl)
noncomputable def pegBody : Sm := sSeq (sIf (mTest (mBin fEqI (mBin fMod (mLoc 4) (mInt 2)) (mInt 0))) (sSeq pegA sNil) (sSeq pegB sNil)) (sSeq (sFor 1000 (.loc 6) (mArgs fRange (aCons (mBin fAdd (mLoc 4) (mInt 1)) aNil)) turnB) (sSeq (sIf checkT (sSeq (sRet (mBool false)) sNil) sNil) sNil))
theorem m3_8_7_eq : m3_8_7 = sFor 1000 (.loc 4) (mArgs fRange (aCons (mLoc 2) aNil)) pegBody := rfl
/-- what the loop over the pegs keeps -/
noncomputable def PegI (fz : V) (most pegs : Int) (due fewer more what : Option V) (lap size step : Int) (H0 : List L) (k : Nat) (σ : S) : Prop :=
  ∃ peg told turn H row, σ = qSt fz most pegs peg told turn due fewer more what lap size step H ∧ RowOk size step k row ∧ H[3]? = some (.ints row) ∧ H[4]? = some (.ints (row.map (plc size step)))
theorem peg_step (l : Lap size step lap) {peg : Option V} (r : RowOk size step k row) (hk : (k : Int) < lap) (hk9 : k ≤ 60) (h3 : H[3]? = some (.ints row)) (h4 : H[4]? = some (.ints (row.map (plc size step)))) :
    ∃ turn' H' row2, pegBody (qSt fz most pegs (some (.int k)) told turn due fewer more what lap size step H) = some (.next, qSt fz most pegs (some (.int k)) (some (.tup [.none, .none])) turn' due fewer more what lap size step H') ∧ RowOk size step (k + 1) row2 ∧ H'[3]? = some (.ints row2) ∧ H'[4]? = some (.ints (row2.map (plc size step))) := by
  have l3 : 3 < H.length := (List.getElem?_eq_some_iff.mp h3).1
  have l4 : 4 < H.length := (List.getElem?_eq_some_iff.mp h4).1
  obtain ⟨ea, eb⟩ := peg_ab (fz := fz) (most := most) (pegs := pegs) (told := told) (turn := turn) (due := due) (fewer := fewer) (more := more) (what := what) l r hk (by omega) h3 h4
  have r2 : RowOk size step (k + 1) (row' size step k row) := r.step l hk
  generalize hrow2 : row' size step k row = row2 at ea eb r2
  generalize hH2 : (H.set 3 (.ints row2)).set 4 (.ints (row2.map (plc size step))) = H2 at ea eb
  have g3 : H2[3]? = some (.ints row2) := by
    rw [← hH2, List.getElem?_set_ne (by omega), List.getElem?_set_self l3]
  have g4 : H2[4]? = some (.ints (row2.map (plc size step))) := by
    rw [← hH2, List.getElem?_set_self (by simp; exact l4)]
  have l32 : 3 < H2.length := (List.getElem?_eq_some_iff.mp g3).1
  have l42 : 4 < H2.length := (List.getElem?_eq_some_iff.mp g4).1
  obtain ⟨turn', et⟩ := turn_loop (fz := fz) (most := most) (pegs := pegs) (told := some (.tup [.none, .none])) (turn := turn) (due := due) (fewer := fewer) (more := more) (what := what) (H := H2) l r2 hk (by omega) g3
  have ec := check_t (fz := fz) (most := most) (pegs := pegs) (turn := turn') (due := due) (fewer := fewer) (more := more) (what := what) (H := H2) l r2 hk hk9 g3
  refine ⟨turn', H2 ++ [.ints row2], row2, ?_, r2, by rw [List.getElem?_append_left l32]; exact g3, by rw [List.getElem?_append_left l42]; exact g4⟩
  have e0 : sIf (mTest (mBin fEqI (mBin fMod (mLoc 4) (mInt 2)) (mInt 0))) (sSeq pegA sNil) (sSeq pegB sNil) (qSt fz most pegs (some (.int k)) told turn due fewer more what lap size step H) = some (.next, qSt fz most pegs (some (.int k)) (some (.tup [.none, .none])) turn due fewer more what lap size step H2) := by
    have ht : mTest (mBin fEqI (mBin fMod (mLoc 4) (mInt 2)) (mInt 0)) (qSt fz most pegs (some (.int k)) told turn due fewer more what lap size step H) = some ((k : Int).fmod 2 == 0, H) := mTest_eq (v := .bool ((k : Int).fmod 2 == 0)) (H := H) rfl rfl
    cases hb : ((k : Int).fmod 2 == 0) with
    | true => rw [hb] at ht; rw [sIf_t ht]; exact sOne ea
    | false => rw [hb] at ht; rw [sIf_f ht]; exact sOne eb
  unfold pegBody
  rw [sSeq_n e0, sSeq_n et]
  refine sOne ?_
  rw [sIf_f ec]
  rfl
theorem peg_loop (l : Lap size step lap) {n : Nat} (hn : (n : Int) ≤ lap) (hn9 : n ≤ 60) (hp : pegs = n) {peg : Option V} (h3 : H[3]? = some (.ints [])) (h4 : H[4]? = some (.ints [])) :
    ∃ peg' told' turn' H' row, m3_8_7 (qSt fz most pegs peg told turn due fewer more what lap size step H) = some (.next, qSt fz most pegs peg' told' turn' due fewer more what lap size step H') ∧ RowOk size step n row ∧ H'[3]? = some (.ints row) ∧ H'[4]? = some (.ints (row.map (plc size step))) := by
  have e : mArgs fRange (aCons (mLoc 2) aNil) (qSt fz most pegs peg told turn due fewer more what lap size step H) = some (.rng 0 (n : Nat) 1, H) := by subst hp; rfl
  rw [m3_8_7_eq]
  unfold sFor
  rw [e]
  simp only
  obtain ⟨σ', e1, peg', told', turn', H', row, rfl, r, g3, g4⟩ := for_rng (t := .loc 4) (b := pegBody) (n := n) (by omega) (PegI fz most pegs due fewer more what lap size step []) (by
    rintro k σ hk ⟨peg, told, turn, H, row, rfl, r, g3, g4⟩
    obtain ⟨turn', H', row2, q1, q2, q3, q4⟩ := peg_step (fz := fz) (most := most) (pegs := pegs) (told := told) (turn := turn) (due := due) (fewer := fewer) (more := more) (what := what) l (peg := peg) r (by omega) (by omega) g3 g4
    exact ⟨_, _, rfl, q1, _, _, _, _, _, rfl, q2, q3, q4⟩) 1000 0 (qSt fz most pegs peg told turn due fewer more what lap size step H) (by omega) (by omega) ⟨_, _, _, _, _, rfl, .nil, h3, h4⟩
  exact ⟨peg', told', turn', H', row, e1, r, g3, g4⟩
end
end Mine
namespace Mine
noncomputable def pickN (l : Int) (n : Nat) : Nat := (sliceRange (sliceBounds (some l) (some 60) (some 3) n).1 (sliceBounds (some l) (some 60) (some 3) n).2.1 (sliceBounds (some l) (some 60) (some 3) n).2.2).length
theorem pickN_le : ∀ n, n < 64 → pickN 0 n ≤ 100 ∧ pickN 1 n ≤ 100 ∧ pickN 2 n ≤ 100 := by decide +kernel
noncomputable def part (l : Int) (xs : List Int) : List Int := pick xs (some l) (some 60) (some 3)
theorem part_len {l : Int} {xs : List Int} (h : pickN l xs.length ≤ 100) : (part l xs).length ≤ 1048576 := by
  refine Nat.le_trans (List.length_filterMap_le _ _) ?_
  exact Nat.le_trans h (by omega)
theorem m_part {l : Int} {xs : List Int} {σ : S} (h0 : mLoc 0 σ = some (.frz xs, σ.H)) (hl : (part l xs).length ≤ 1048576) :
    mArgs fSum (aCons (mSlice (mLoc 0) (mInt l) (mInt 60) (mInt 3)) aNil) σ = some (.int (part l xs).sum, σ.H ++ [.ints (part l xs)]) := by
  have e : mSlice (mLoc 0) (mInt l) (mInt 60) (mInt 3) σ = some (.ref σ.H.length, σ.H ++ [.ints (part l xs)]) := by
    unfold mSlice
    rw [h0]
    simp only [mInt, partOf]
    rw [if_neg (by decide)]
    exact if_pos hl
  rw [mArgs_eq (vs := [.ref σ.H.length]) (H1 := σ.H ++ [.ints (part l xs)]) (aCons_eq e rfl)]
  unfold fSum
  simp
theorem m_addK {i x : Int} {e : Xm} {σ : S} {H : List L} (h : e σ = some (.int x, H)) : mBin fAdd (mInt i) e σ = some (.int (i + x), H) := by
  rw [mBin_eq (x := .int i) (y := .int x) (H1 := σ.H) (H2 := H) rfl h]; rfl
theorem m_modK {x y : Int} {e f : Xm} {σ : S} {H : List L} (h : e σ = some (.int x, H)) (h2 : f { σ with H := H } = some (.int y, H)) (hy : y ≠ 0) : mBin fMod e f σ = some (.int (x.fmod y), H) := by
  rw [mBin_eq (x := .int x) (y := .int y) (H1 := H) (H2 := H) h h2]
  unfold fMod
  simp only
  rw [if_neg hy]
noncomputable def s0St (fz : V) (most pegs : Option V) (C : List (Option V)) (H : List L) : S :=
  { loc := [some fz, most, pegs, none, none, none, none, none, none, none], cel := [0, 1, 2, 3, 4, 5], C := C, H := H }
noncomputable def startB : Sm := sSeq m3_8_0 (sSeq m3_8_1 (sSeq m3_8_2 (sSeq m3_8_3 (sSeq m3_8_4 (sSeq m3_8_5 (sSeq m3_8_6 sNil))))))
theorem start_0 {xs : List Int} (hx : xs.length ≤ 63) : m3_8_0 (s0St (.frz xs) none none [none, none, none, none, none, none] []) = some (.next, s0St (.frz xs) none none [none, none, none, none, some (.int (1 + (88 + (part 0 xs).sum).fmod (10 ^ 15))), none] [.ints (part 0 xs)]) := by
  have h := m_part (l := 0) (xs := xs) (σ := s0St (.frz xs) none none [none, none, none, none, none, none] []) rfl (part_len (pickN_le _ (by omega)).1)
  refine sAssign_eq (v := .int (1 + (88 + (part 0 xs).sum).fmod (10 ^ 15))) (H1 := [.ints (part 0 xs)]) ?_ rfl
  exact m_addK (m_modK (m_addK h) rfl (by decide))
theorem start_1 {xs : List Int} {size : Int} {H : List L} (hx : xs.length ≤ 63) : m3_8_1 (s0St (.frz xs) none none [none, none, none, none, some (.int size), none] H) = some (.next, s0St (.frz xs) none none [none, none, none, none, some (.int size), some (.int (55 + (part 1 xs).sum))] (H ++ [.ints (part 1 xs)])) := by
  have h := m_part (l := 1) (xs := xs) (σ := s0St (.frz xs) none none [none, none, none, none, some (.int size), none] H) rfl (part_len (pickN_le _ (by omega)).2.1)
  refine sAssign_eq (v := .int (55 + (part 1 xs).sum)) (H1 := H ++ [.ints (part 1 xs)]) ?_ rfl
  exact m_addK h
theorem start_2 {xs : List Int} {C : List (Option V)} {H : List L} (hx : xs.length ≤ 63) : m3_8_2 (s0St (.frz xs) none none C H) = some (.next, s0St (.frz xs) (some (.int (2 + (11 + (part 2 xs).sum).fmod 14))) none C (H ++ [.ints (part 2 xs)])) := by
  have h := m_part (l := 2) (xs := xs) (σ := s0St (.frz xs) none none C H) rfl (part_len (pickN_le _ (by omega)).2.2)
  refine sAssign_eq (v := .int (2 + (11 + (part 2 xs).sum).fmod 14)) (H1 := H ++ [.ints (part 2 xs)]) ?_ rfl
  exact m_addK (m_modK (m_addK h) rfl (by decide))
theorem start_3 {fz : V} {n m : Nat} {step : Int} {most : Option V} {H : List L} (hn : 0 < n) (hn9 : n ≤ 10 ^ 15) (hm : step % (n : Int) = (m : Int)) :
    m3_8_3 (s0St fz most none [none, none, none, none, some (.int n), some (.int step)] H) = some (.next, s0St fz most none [some (.int ((n / Nat.gcd n m : Nat) : Int)), none, none, none, some (.int n), some (.int step)] H) := by
  have hmn : m < n := by have := Int.emod_lt_of_pos step (show (0 : Int) < n by omega); omega
  have hg : 0 < Nat.gcd n m := Nat.gcd_pos_of_pos_left _ hn
  have hg2 : Nat.gcd n m ≤ n := Nat.le_of_dvd hn (Nat.gcd_dvd_left n m)
  have hmul : n * m < 2 ^ 999 := by
    have h1 : n * m ≤ 10 ^ 15 * 10 ^ 15 := Nat.mul_le_mul hn9 (by omega)
    exact Nat.lt_of_le_of_lt h1 (by decide)
  refine sAssign_eq (v := .int ((n / Nat.gcd n m : Nat) : Int)) (H1 := H) ?_ rfl
  have hmod : mBin fMod (mCel 5) (mCel 4) (s0St fz most none [none, none, none, none, some (.int n), some (.int step)] H) = some (.int m, H) := by
    rw [m_modK (x := step) (y := n) (H := H) rfl rfl (by omega), Int.fmod_eq_emod_of_nonneg _ (by omega), hm]
  have hc : mCall (mFn 4) (dFn 4 sem3_4) (aCons (mCel 4) (aCons (mBin fMod (mCel 5) (mCel 4)) aNil)) (s0St fz most none [none, none, none, none, some (.int n), some (.int step)] H) = some (.int (Nat.gcd n m : Nat), H) := by
    rw [mCall_eq (fv := .fn 4) (f := sem3_4) (vs := [.int n, .int m]) (H0 := H) (H1 := H) rfl rfl (aCons_eq (v := .int n) (H1 := H) rfl (aCons_eq hmod rfl))]
    exact sem_gcd n m (by omega) hmul
  rw [mBin_eq (x := .int n) (y := .int (Nat.gcd n m : Nat)) (H1 := H) (H2 := H) rfl hc]
  unfold fDiv
  simp only
  rw [if_neg (by omega), if_pos (small_of (by omega) (by omega)), Int.fdiv_eq_ediv_of_nonneg _ (by omega)]
  rfl
theorem start_4 {fz : V} {most lap : Int} {C : List (Option V)} {H : List L} : m3_8_4 (s0St fz (some (.int most)) none (some (.int lap) :: C) H) = some (.next, s0St fz (some (.int most)) (some (.int (if lap < most then lap else most))) (some (.int lap) :: C) H) := rfl
theorem start_56 {fz : V} {most pegs lap size step : Int} {H : List L} (hl : H.length = 3) :
    sSeq m3_8_5 (sSeq m3_8_6 sNil) (s0St fz (some (.int most)) (some (.int pegs)) [some (.int lap), none, none, none, some (.int size), some (.int step)] H) = some (.next, qSt fz most pegs none none none none none none none lap size step (H ++ [.ints [], .ints []])) := by
  match H, hl with
  | [a, b, c], _ => rfl
theorem start3 (xs : List Int) (hx : xs.length ≤ 63) : ∃ (most pegs lap size step : Int) (n : Nat) (H : List L), startB (entry df3_8 [.frz xs] [] []) = some (.next, qSt (.frz xs) most pegs none none none none none none none lap size step H) ∧ H[3]? = some (.ints []) ∧ H[4]? = some (.ints []) ∧
    Lap size step lap ∧ size ≤ 10 ^ 15 ∧ pegs = n ∧ (n : Int) ≤ lap ∧ 1 ≤ n ∧ n ≤ 15 := by
  have e0 : entry df3_8 [.frz xs] [] [] = s0St (.frz xs) none none [none, none, none, none, none, none] [] := rfl
  have hs0 : 0 ≤ (88 + (part 0 xs).sum).fmod (10 ^ 15) := by rw [Int.fmod_eq_emod_of_nonneg _ (by decide)]; exact Int.emod_nonneg _ (by decide)
  have hs1 : (88 + (part 0 xs).sum).fmod (10 ^ 15) < 10 ^ 15 := by rw [Int.fmod_eq_emod_of_nonneg _ (by decide)]; exact Int.emod_lt_of_pos _ (by decide)
  have hm0 : 0 ≤ (11 + (part 2 xs).sum).fmod 14 := by rw [Int.fmod_eq_emod_of_nonneg _ (by decide)]; exact Int.emod_nonneg _ (by decide)
  have hm1 : (11 + (part 2 xs).sum).fmod 14 < 14 := by rw [Int.fmod_eq_emod_of_nonneg _ (by decide)]; exact Int.emod_lt_of_pos _ (by decide)
  have s0 := start_0 hx
  have s1 := fun size H => start_1 (size := size) (H := H) hx
  have s2 := fun C H => start_2 (C := C) (H := H) hx
  obtain ⟨n, hn⟩ : ∃ n : Nat, (n : Int) = 1 + (88 + (part 0 xs).sum).fmod (10 ^ 15) := ⟨(1 + (88 + (part 0 xs).sum).fmod (10 ^ 15)).toNat, by omega⟩
  rw [← hn] at s0
  generalize (55 + (part 1 xs).sum) = step at s1
  generalize hmo : (2 + (11 + (part 2 xs).sum).fmod 14) = most at s2
  obtain ⟨m, hm⟩ : ∃ m : Nat, step % (n : Int) = (m : Int) := ⟨(step % (n : Int)).toNat, by have := Int.emod_nonneg step (show (n : Int) ≠ 0 by omega); omega⟩
  have l := lap_of (n := n) (m := m) (s := step) (by omega) hm
  have hN : n ≤ 10 ^ 15 := by omega
  have s3 := fun most H => start_3 (fz := .frz xs) (most := most) (H := H) (step := step) (by omega) hN hm
  generalize ((n / Nat.gcd n m : Nat) : Int) = lap at l s3
  have hl := l.lpos
  obtain ⟨k, hk⟩ : ∃ k : Nat, (k : Int) = if lap < most then lap else most := ⟨(if lap < most then lap else most).toNat, by split <;> omega⟩
  refine ⟨most, k, lap, n, step, k, [.ints (part 0 xs), .ints (part 1 xs), .ints (part 2 xs), .ints [], .ints []], ?_, rfl, rfl, l, by omega, rfl, by split at hk <;> omega, by split at hk <;> omega, by split at hk <;> omega⟩
  rw [e0]
  unfold startB
  rw [sSeq_n s0, sSeq_n (s1 _ _), sSeq_n (s2 _ _), sSeq_n (s3 _ _), sSeq_n start_4, ← hk]
  exact start_56 rfl
end Mine
namespace Mine
theorem compGo_step {src v : V} {put : Put} {t : Bm} {c : Cm} {g k : Nat} {vs vs2 : List V} {σ σ1 σ2 : S} {H : List L} (h : itemAt src σ.H k = some (some v)) (h1 : put v σ = some σ1) (h2 : t σ1 = some (true, H)) (h3 : c vs { σ1 with H := H } = some (vs2, σ2)) :
    compGo src put t c (g + 1) k vs σ = compGo src put t c g (k + 1) vs2 σ2 := by
  simp only [compGo, h, h1, h2, h3]
theorem compGo_skip {src v : V} {put : Put} {t : Bm} {c : Cm} {g k : Nat} {vs : List V} {σ σ1 : S} {H : List L} (h : itemAt src σ.H k = some (some v)) (h1 : put v σ = some σ1) (h2 : t σ1 = some (false, H)) :
    compGo src put t c (g + 1) k vs σ = compGo src put t c g (k + 1) vs { σ1 with H := H } := by
  simp only [compGo, h, h1, h2]
theorem compGo_stop {src : V} {put : Put} {t : Bm} {c : Cm} {g k : Nat} {vs : List V} {σ : S} (h : itemAt src σ.H k = some none) :
    compGo src put t c (g + 1) k vs σ = some (vs, σ) := by
  simp only [compGo, h]
theorem flatMap_one {α β : Type} (f : α → β) : ∀ xs : List α, xs.flatMap (fun p => [f p]) = xs.map f
  | [] => rfl
  | x :: xs => by rw [List.flatMap_cons, List.map_cons, flatMap_one f xs]; rfl
theorem comp_ints {src : V} {put : Put} {t : Bm} {c : Cm} {xs : List Int} {g : Int → List Int} (P : S → Prop) (hit : ∀ σ, P σ → ∀ k, itemAt src σ.H k = some ((xs.map V.int)[k]?))
    (hs : ∀ x ∈ xs, ∀ σ vs, P σ → vs.length + (g x).length ≤ 900000 → ∃ σ1 H, put (.int x) σ = some σ1 ∧ ((t σ1 = some (true, H) ∧ ∃ σ2, c vs { σ1 with H := H } = some (vs ++ (g x).map V.int, σ2) ∧ P σ2) ∨ (t σ1 = some (false, H) ∧ g x = [] ∧ P { σ1 with H := H }))) :
    ∀ (fuel k : Nat) (vs : List V) (σ : S), P σ → k ≤ xs.length → xs.length - k < fuel → vs.length + ((xs.drop k).flatMap g).length ≤ 900000 → ∃ σ', compGo src put t c fuel k vs σ = some (vs ++ ((xs.drop k).flatMap g).map V.int, σ') ∧ P σ' := by
  intro fuel
  induction fuel with
  | zero => intro k vs σ _ _ h _; omega
  | succ fuel ih =>
    intro k vs σ hP hk hf hl
    by_cases h : k < xs.length
    · have hd : xs.drop k = xs[k] :: xs.drop (k + 1) := List.drop_eq_getElem_cons h
      rw [hd, List.flatMap_cons, List.length_append] at hl
      have it : itemAt src σ.H k = some (some (.int xs[k])) := by rw [hit σ hP, List.getElem?_map, List.getElem?_eq_getElem h]; rfl
      obtain ⟨σ1, H, e1, q⟩ := hs xs[k] (List.getElem_mem h) σ vs hP (by omega)
      rcases q with ⟨e2, σ2, e3, p2⟩ | ⟨e2, e3, p2⟩
      · obtain ⟨σ', q1, q2⟩ := ih (k + 1) (vs ++ (g xs[k]).map V.int) σ2 p2 (by omega) (by omega) (by simp only [List.length_append, List.length_map]; omega)
        refine ⟨σ', ?_, q2⟩
        rw [compGo_step it e1 e2 e3, q1, hd, List.flatMap_cons, List.map_append, List.append_assoc]
      · obtain ⟨σ', q1, q2⟩ := ih (k + 1) vs { σ1 with H := H } p2 (by omega) (by omega) (by omega)
        refine ⟨σ', ?_, q2⟩
        rw [compGo_skip it e1 e2, q1, hd, List.flatMap_cons, e3, List.nil_append]
    · have it : itemAt src σ.H k = some none := by rw [hit σ hP, List.getElem?_map, List.getElem?_eq_none (by omega)]; rfl
      refine ⟨σ, ?_, hP⟩
      rw [compGo_stop it, List.drop_eq_nil_of_le (by omega)]
      simp
theorem mComp_eq {fuel nl : Nat} {is : List Nat} {put : Put} {m : Xm} {t : Bm} {c : Cm} {σ τ : S} {src : V} {H : List L} {xs : List Int} (h : m σ = some (src, H)) (hall : is.all (fun i => i < σ.cel.length) = true)
    (h2 : compGo src put t c fuel 0 [] { loc := List.replicate nl none, cel := is.map fun i => σ.cel.getD i 0, C := σ.C, H := H } = some (xs.map V.int, τ)) (hl : xs.length ≤ 1048576) :
    mComp fuel nl is put m t c σ = some (.ref τ.H.length, τ.H ++ [.ints xs]) := by
  unfold mComp
  rw [h]; simp only
  rw [if_pos hall, h2]; simp only
  rw [if_pos (by simp only [stills_ints, Bool.true_and, decide_eq_true_eq, List.length_map]; exact hl), mkL_map]
theorem itemAt_ints {H : List L} {a : Nat} {xs : List Int} (h : H[a]? = some (.ints xs)) (k : Nat) : itemAt (.ref a) H k = some ((xs.map V.int)[k]?) := by
  unfold itemAt
  simp only
  rw [h]
  rfl
theorem itemAt_rng4 (H : List L) {n : Nat} (hn : n ≤ 1000) (k : Nat) : itemAt (.rng 0 n 1) H k = some (((rng n).map V.int)[k]?) := by
  rw [itemAt_rng hn]
  unfold rng
  by_cases h : k < n
  · rw [if_pos h]; simp [h]
  · rw [if_neg h, List.getElem?_eq_none (by simp; omega)]
theorem cElt_eq {m : Xm} {vs : List V} {σ : S} {v : V} {H : List L} (h : m σ = some (v, H)) (hl : vs.length < 1048576) : cElt m vs σ = some (vs ++ [v], { σ with H := H }) := by
  unfold cElt
  rw [h]; simp only
  rw [if_pos hl]
theorem for_ints {t : Tgt} {b : Sm} {xs : List Int} {src : V} (I : Nat → S → Prop) (hit : ∀ k σ, I k σ → itemAt src σ.H k = some ((xs.map V.int)[k]?))
    (hI : ∀ k σ (h : k < xs.length), I k σ → ∃ σ1 σ2, t.put (.int xs[k]) σ = some σ1 ∧ b σ1 = some (.next, σ2) ∧ I (k + 1) σ2) :
    ∀ (fuel k : Nat) (σ : S), k ≤ xs.length → xs.length - k < fuel → I k σ → ∃ σ', forGo src t b fuel k σ = some (.next, σ') ∧ I xs.length σ' := by
  intro fuel
  induction fuel with
  | zero => intro k σ _ h; omega
  | succ fuel ih =>
    intro k σ h1 h2 h3
    by_cases h : k < xs.length
    · obtain ⟨σ1, σ2, e1, e2, e3⟩ := hI k σ h h3
      have it : itemAt src σ.H k = some (some (.int xs[k])) := by rw [hit k σ h3, List.getElem?_map, List.getElem?_eq_getElem h]; rfl
      obtain ⟨σ', q1, q2⟩ := ih (k + 1) σ2 (by omega) (by omega) e3
      exact ⟨σ', by rw [forGo_step it e1 e2]; exact q1, q2⟩
    · have it : itemAt src σ.H k = some none := by rw [hit k σ h3, List.getElem?_map, List.getElem?_eq_none (by omega)]; rfl
      have hkn : k = xs.length := by omega
      exact ⟨σ, forGo_stop it, by rw [← hkn]; exact h3⟩
section
variable {fz : V} {most pegs lap size step : Int} {peg told turn due fewer more what : Option V} {H : List L} {row : List Int} {n : Nat}
noncomputable def cSt (loc : List (Option V)) (cel : List Nat) (C : List (Option V)) (H : List L) : S := { loc := loc, cel := cel, C := C, H := H }
theorem places_8 (l : Lap size step lap) (r : RowOk size step n row) (hn9 : n ≤ 60) (h3 : H[3]? = some (.ints row)) (h4 : H[4]? = some (.ints (row.map (plc size step)))) :
    m3_8_8 (qSt fz most pegs peg told turn due fewer more what lap size step H) = some (.next, qSt fz most pegs peg told turn due fewer more what lap size step (H ++ [.ints (row.map (plc size step))])) := by
  have hl := r.len
  have l4 : 4 < H.length := (List.getElem?_eq_some_iff.mp h4).1
  obtain ⟨σ', e1, x, rfl⟩ := comp_ints (src := .ref 3) (put := putL 0) (t := mConst true) (c := cElt (mCall (mCel 0) dLam3 (aCons (mLoc 0) aNil))) (xs := row) (g := fun p => [plc size step p]) (fun σ => ∃ x, σ = cSt [x] [1] (qC what lap size step) H)
    (by rintro σ ⟨x, rfl⟩ k; exact itemAt_ints h3 k)
    (by
      rintro p hp σ vs ⟨x, rfl⟩ hvs
      refine ⟨cSt [some (.int p)] [1] (qC what lap size step) H, H, rfl, .inl ⟨rfl, cSt [some (.int p)] [1] (qC what lap size step) H, ?_, _, rfl⟩⟩
      have hc : mCall (mCel 0) dLam3 (aCons (mLoc 0) aNil) (cSt [some (.int p)] [1] (qC what lap size step) H) = some (.int (plc size step p), H) := by
        rw [mCall_eq (fv := .clo 0 [5, 4]) (f := loSem lm3_0 [5, 4]) (vs := [.int p]) (H0 := H) (H1 := H) rfl rfl rfl]
        have hp := r.mem.mp hp
        exact q_lam (what := what) (lap := lap) l.pos (by omega) (by omega)
      exact cElt_eq hc (by simp at hvs; omega))
    1000 0 [] (cSt [none] [1] (qC what lap size step) H) ⟨none, rfl⟩ (by omega) (by omega) (by
      rw [List.drop_zero, flatMap_one, List.length_map]
      simp; omega)
  have hcomp : mComp 1000 1 [1] (putL 0) (mCel 2) (mConst true) (cElt (mCall (mCel 0) dLam3 (aCons (mLoc 0) aNil))) (qSt fz most pegs peg told turn due fewer more what lap size step H) = some (.ref H.length, H ++ [.ints (row.map (plc size step))]) := by
    refine mComp_eq (src := .ref 3) (H := H) (τ := cSt [x] [1] (qC what lap size step) H) rfl rfl ?_ (by simp; omega)
    rw [List.drop_zero, flatMap_one] at e1
    exact e1
  unfold m3_8_8
  rw [sIf_f (H := H ++ [.ints (row.map (plc size step))])]
  · rfl
  · refine mTest_eq (v := .bool false) ?_ rfl
    rw [mBin_eq (x := .ref 4) (H1 := H) rfl hcomp, fNe_ints (xs := row.map (plc size step)) (ys := row.map (plc size step)) (by rw [List.getElem?_append_left l4]; exact h4) (by simp)]
    simp
end
end Mine
namespace Mine
noncomputable def triple (lap p : Int) : List Int := [p + lap, p, p + 2 * lap]
theorem triple_len (lap : Int) : ∀ xs : List Int, (xs.flatMap (triple lap)).length = 3 * xs.length
  | [] => rfl
  | x :: xs => by
    rw [List.flatMap_cons, List.length_append, triple_len lap xs]
    simp [triple]; omega
section
variable {fz : V} {most pegs lap size step : Int} {peg told turn due fewer more what : Option V} {H : List L} {row : List Int} {n : Nat}
theorem due_9 (hrow : row.length ≤ 60) (h3 : H[3]? = some (.ints row)) :
    m3_8_9 (qSt fz most pegs peg told turn due fewer more what lap size step H) = some (.next, qSt fz most pegs peg told turn (some (.ref H.length)) fewer more what lap size step (H ++ [.ints (row.flatMap (triple lap))])) := by
  have hlen := triple_len lap row
  let P : S → Prop := fun σ => ∃ x y, σ = cSt [x, y] [0] (qC what lap size step) H
  have inner : ∀ p ∈ row, ∀ σ vs, P σ → vs.length + (triple lap p).length ≤ 900000 → ∃ σ1 H0, putL 0 (.int p) σ = some σ1 ∧ ((mConst true σ1 = some (true, H0) ∧ ∃ σ2, cFor 1000 (putL 1) (mTup (aCons (mBin fAdd (mLoc 0) (mCel 0)) (aCons (mLoc 0) (aCons (mBin fAdd (mLoc 0) (mBin fMul (mInt 2) (mCel 0))) aNil)))) (mConst true) (cElt (mLoc 1)) vs { σ1 with H := H0 } = some (vs ++ (triple lap p).map V.int, σ2) ∧ P σ2) ∨ (mConst true σ1 = some (false, H0) ∧ triple lap p = [] ∧ P { σ1 with H := H0 })) := by
    rintro p hp σ vs ⟨x, y, rfl⟩ hvs
    refine ⟨cSt [some (.int p), y] [0] (qC what lap size step) H, H, rfl, .inl ⟨rfl, ?_⟩⟩
    obtain ⟨σ', e1, q, rfl⟩ := comp_ints (src := .tup [.int (p + lap), .int p, .int (p + 2 * lap)]) (put := putL 1) (t := mConst true) (c := cElt (mLoc 1)) (xs := triple lap p) (g := fun p => [p]) (fun σ => ∃ y, σ = cSt [some (.int p), y] [0] (qC what lap size step) H)
      (by rintro σ ⟨y, rfl⟩ k; rfl)
      (by
        rintro z hz σ us ⟨y, rfl⟩ hus
        refine ⟨cSt [some (.int p), some (.int z)] [0] (qC what lap size step) H, H, rfl, .inl ⟨rfl, cSt [some (.int p), some (.int z)] [0] (qC what lap size step) H, ?_, _, rfl⟩⟩
        exact cElt_eq (v := .int z) (H := H) rfl (by simp at hus; omega))
      1000 0 vs (cSt [some (.int p), y] [0] (qC what lap size step) H) ⟨y, rfl⟩ (by omega) (by simp [triple]) (by
        rw [List.drop_zero, flatMap_one, List.length_map]
        exact hvs)
    rw [List.drop_zero, flatMap_one, List.map_id'] at e1
    refine ⟨cSt [some (.int p), q] [0] (qC what lap size step) H, ?_, _, _, rfl⟩
    have em : mTup (aCons (mBin fAdd (mLoc 0) (mCel 0)) (aCons (mLoc 0) (aCons (mBin fAdd (mLoc 0) (mBin fMul (mInt 2) (mCel 0))) aNil))) (cSt [some (.int p), y] [0] (qC what lap size step) H) = some (.tup [.int (p + lap), .int p, .int (p + 2 * lap)], H) := rfl
    unfold cFor
    rw [show ({ cSt [some (.int p), y] [0] (qC what lap size step) H with H := H } : S) = cSt [some (.int p), y] [0] (qC what lap size step) H from rfl, em]
    exact e1
  obtain ⟨σ', e1, x, y, rfl⟩ := comp_ints (src := .ref 3) (put := putL 0) (t := mConst true) (xs := row) (g := triple lap) P
    (by rintro σ ⟨x, y, rfl⟩ k; exact itemAt_ints h3 k) inner
    1000 0 [] (cSt [none, none] [0] (qC what lap size step) H) ⟨none, none, rfl⟩ (by omega) (by omega) (by
      rw [List.drop_zero, hlen]; simp; omega)
  rw [List.drop_zero] at e1
  unfold m3_8_9
  refine sAssign_eq (v := .ref H.length) (H1 := H ++ [.ints (row.flatMap (triple lap))]) ?_ rfl
  exact mComp_eq (src := .ref 3) (H := H) (τ := cSt [x, y] [0] (qC what lap size step) H) rfl rfl e1 (by rw [hlen]; omega)
end
section
variable {N s lap : Int}
theorem plc_2 (l : Lap N s lap) (p : Int) : plc N s (p + 2 * lap) = plc N s p := by
  rw [show p + 2 * lap = p + lap + lap by omega, l.per, l.per]
theorem put_left (l : Lap N s lap) {pre suf : List Int} {p : Int} (hpre : ∀ c ∈ pre, plc N s c < plc N s p) :
    insAt (fun y => decide (plc N s y < plc N s (p + lap))) (p + lap) (pre ++ p :: suf) = pre ++ (p + lap) :: p :: suf := by
  rw [insAt_app fun c hc => by rw [l.per]; simpa using hpre c hc]
  unfold insAt
  rw [if_neg (by rw [l.per]; simp)]
theorem put_right (l : Lap N s lap) {pre suf : List Int} {p : Int} (hpre : ∀ c ∈ pre, plc N s c < plc N s p) (hsuf : ∀ c ∈ suf, plc N s p < plc N s c) :
    insAt (fun y => decide (plc N s y ≤ plc N s (p + 2 * lap))) (p + 2 * lap) (pre ++ (p + lap) :: p :: suf) = pre ++ (p + lap) :: p :: (p + 2 * lap) :: suf := by
  rw [show pre ++ (p + lap) :: p :: suf = (pre ++ [p + lap, p]) ++ suf by simp, insAt_app]
  · rw [show pre ++ (p + lap) :: p :: (p + 2 * lap) :: suf = (pre ++ [p + lap, p]) ++ ((p + 2 * lap) :: suf) by simp]
    congr 1
    cases suf with
    | nil => rfl
    | cons c suf =>
      unfold insAt
      rw [if_neg]
      have := hsuf c (by simp)
      rw [plc_2 l]; simp; omega
  · intro c hc
    rw [plc_2 l]
    rcases List.mem_append.mp hc with hc | hc
    · have := hpre c hc
      simp; omega
    · simp at hc
      rcases hc with e | e
      · rw [e, l.per]; simp
      · rw [e]; simp
theorem mem_tri {lap : Int} {xs : List Int} {c : Int} (h : c ∈ xs.flatMap (triple lap)) : ∃ p ∈ xs, c = p + lap ∨ c = p ∨ c = p + 2 * lap := by
  obtain ⟨p, hp, hc⟩ := List.mem_flatMap.mp h
  exact ⟨p, hp, by simpa [triple] using hc⟩
theorem tri_plc (l : Lap N s lap) {xs : List Int} {c : Int} (h : c ∈ xs.flatMap (triple lap)) : ∃ p ∈ xs, plc N s c = plc N s p := by
  obtain ⟨p, hp, e | e | e⟩ := mem_tri h
  · exact ⟨p, hp, by rw [e]; exact l.per p⟩
  · exact ⟨p, hp, by rw [e]⟩
  · exact ⟨p, hp, by rw [e]; exact plc_2 l p⟩
end
end Mine
namespace Mine
theorem tri_sorted {N s lap : Int} (l : Lap N s lap) : ∀ {xs : List Int}, xs.Pairwise (fun a b => plc N s a < plc N s b) → (xs.flatMap (triple lap)).Pairwise (fun a b => plc N s a ≤ plc N s b)
  | [], _ => .nil
  | p :: xs, h => by
    rw [List.pairwise_cons] at h
    rw [List.flatMap_cons, List.pairwise_append]
    refine ⟨?_, tri_sorted l h.2, ?_⟩
    · simp [triple, l.per, plc_2 l]
    · intro a ha b hb
      have e : plc N s a = plc N s p := by
        simp [triple] at ha
        rcases ha with e | e | e
        · rw [e, l.per]
        · rw [e]
        · rw [e, plc_2 l]
      obtain ⟨q, hq, e2⟩ := tri_plc l hb
      have := h.1 q hq
      omega
section
variable {fz : V} {most pegs lap size step : Int} {peg told turn due fewer more what : Option V} {H : List L} {row : List Int} {n : Nat}
noncomputable def lapBody : Sm := sSeq (sExpr (mCallK (mFn 2) (dFn 2 sem3_2) (aCons (mCel 2) (aCons (mBin fAdd (mLoc 4) (mCel 0)) aNil)) (mCel 1))) (sSeq (sExpr (mCallK (mFn 0) (dFn 0 sem3_0) (aCons (mCel 2) (aCons (mBin fAdd (mLoc 4) (mBin fMul (mInt 2) (mCel 0))) aNil)) (mCel 1))) sNil)
theorem m3_8_10_eq : m3_8_10 = sFor 1000 (.loc 4) (mArgs fListL (aCons (mCel 2) aNil)) lapBody := rfl
theorem lap_step (l : Lap size step lap) (hN : size ≤ 10 ^ 15) {pre suf : List Int} {p : Int} (hs : (pre ++ p :: suf).Pairwise (fun a b => plc size step a < plc size step b)) (hb : ∀ c ∈ pre ++ p :: suf, 0 ≤ c ∧ c ≤ 100) (hlen : pre.length + suf.length ≤ 60)
    (h3 : H[3]? = some (.ints (pre.flatMap (triple lap) ++ p :: suf))) :
    lapBody (qSt fz most pegs (some (.int p)) told turn due fewer more what lap size step H) = some (.next, qSt fz most pegs (some (.int p)) told turn due fewer more what lap size step (H.set 3 (.ints ((pre ++ [p]).flatMap (triple lap) ++ suf)))) := by
  have l3 : 3 < H.length := (List.getElem?_eq_some_iff.mp h3).1
  have hlap := l.le
  have hlp := l.lpos
  have hpl := triple_len lap pre
  rw [List.pairwise_append] at hs
  obtain ⟨hs1, hs2, hs3⟩ := hs
  rw [List.pairwise_cons] at hs2
  have hpre : ∀ c ∈ pre.flatMap (triple lap), plc size step c < plc size step p := fun c hc => by
    obtain ⟨q, hq, e⟩ := tri_plc l hc
    rw [e]; exact hs3 q hq p (by simp)
  have hbp := hb p (by simp)
  have hbt : ∀ c ∈ pre.flatMap (triple lap), 0 ≤ c ∧ c ≤ 9000000000000000000 := fun c hc => by
    obtain ⟨q, hq, e⟩ := mem_tri hc
    have := hb q (by simp [hq])
    omega
  have hbs : ∀ c ∈ suf, 0 ≤ c ∧ c ≤ 9000000000000000000 := fun c hc => by
    have := hb c (by simp [hc])
    omega
  have srt0 : ((pre.flatMap (triple lap) ++ p :: suf).map (plc size step)).Pairwise (· ≤ ·) := by
    rw [List.pairwise_map, List.pairwise_append]
    refine ⟨?_, ?_, ?_⟩
    · exact tri_sorted l hs1
    · rw [List.pairwise_cons]
      exact ⟨fun c hc => Int.le_of_lt (hs2.1 c hc), hs2.2.imp Int.le_of_lt⟩
    · intro a ha b hb
      have h1 := hpre a ha
      rcases List.mem_cons.mp hb with e | hb
      · rw [e]; omega
      · have := hs2.1 b hb; omega
  have bnd1 : ∀ i ∈ pre.flatMap (triple lap) ++ p :: suf, 0 ≤ i ∧ i ≤ 9000000000000000000 := fun c hc => by
    rcases List.mem_append.mp hc with hc | hc
    · exact hbt c hc
    · rcases List.mem_cons.mp hc with e | hc
      · rw [e]; omega
      · exact hbs c hc
  have e1 := il3 (H := H) (a := 3) (x := p + lap) (C := qC what lap size step) (K := .clo 0 [5, 4]) (kv := some (.clo 0 [5, 4])) h3 (by rw [List.length_append, hpl, List.length_cons]; omega) (q_key l.pos bnd1) (q_keyx l.pos (by omega) (by omega)) srt0 rfl
  have srt1 := insAt_lt_sorted (x := p + lap) srt0
  rw [insL_lt srt0, put_left l hpre] at e1
  rw [put_left l hpre] at srt1
  have bnd2 : ∀ i ∈ pre.flatMap (triple lap) ++ (p + lap) :: p :: suf, 0 ≤ i ∧ i ≤ 9000000000000000000 := fun c hc => by
    rcases List.mem_append.mp hc with hc | hc
    · exact hbt c hc
    · rcases List.mem_cons.mp hc with e | hc
      · rw [e]; omega
      · rcases List.mem_cons.mp hc with e | hc
        · rw [e]; omega
        · exact hbs c hc
  have g3 : (H.set 3 (.ints (pre.flatMap (triple lap) ++ (p + lap) :: p :: suf)))[3]? = some (.ints (pre.flatMap (triple lap) ++ (p + lap) :: p :: suf)) := List.getElem?_set_self l3
  have e2 := ir3 (a := 3) (x := p + 2 * lap) (C := qC what lap size step) (K := .clo 0 [5, 4]) (kv := some (.clo 0 [5, 4])) g3 (by rw [List.length_append, hpl, List.length_cons, List.length_cons]; omega) (q_key l.pos bnd2) (q_keyx l.pos (by omega) (by omega)) srt1 rfl
  rw [insL_le srt1, put_right l hpre hs2.1, List.set_set] at e2
  generalize hX : pre.flatMap (triple lap) ++ (p + lap) :: p :: suf = X at e1 e2
  have eY : pre.flatMap (triple lap) ++ (p + lap) :: p :: (p + 2 * lap) :: suf = (pre ++ [p]).flatMap (triple lap) ++ suf := by simp [triple]
  rw [eY] at e2
  generalize (pre ++ [p]).flatMap (triple lap) ++ suf = Y at e2 ⊢
  unfold lapBody
  rw [sSeq_n (σ1 := qSt fz most pegs (some (.int p)) told turn due fewer more what lap size step (H.set 3 (.ints X)))]
  · refine sOne ?_
    refine sExpr_eq (v := .none) (σ := qSt fz most pegs (some (.int p)) told turn due fewer more what lap size step (H.set 3 (.ints X))) ?_
    rw [mCallK_eq (fv := .fn 0) (f := sem3_0) (vs := [.ref 3, .int (p + 2 * lap)]) (kv := .clo 0 [5, 4]) (H0 := H.set 3 (.ints X)) (H1 := H.set 3 (.ints X)) (H2 := H.set 3 (.ints X)) rfl rfl rfl rfl]
    exact e2
  · refine sExpr_eq (v := .none) (σ := qSt fz most pegs (some (.int p)) told turn due fewer more what lap size step H) ?_
    rw [mCallK_eq (fv := .fn 2) (f := sem3_2) (vs := [.ref 3, .int (p + lap)]) (kv := .clo 0 [5, 4]) (H0 := H) (H1 := H) (H2 := H) rfl rfl rfl rfl]
    exact e1
end
end Mine
namespace Mine
theorem lift_ints (xs : List Int) : stills (L.ints xs).vs = true := stills_ints xs
section
variable {fz : V} {most pegs lap size step : Int} {peg told turn due fewer more what : Option V} {H : List L} {row ps : List Int} {n : Nat}
theorem laps_10 (l : Lap size step lap) (r : RowOk size step n row) (hN : size ≤ 10 ^ 15) (hn9 : n ≤ 60) (h3 : H[3]? = some (.ints row)) :
    ∃ peg' H', m3_8_10 (qSt fz most pegs peg told turn due fewer more what lap size step H) = some (.next, qSt fz most pegs peg' told turn due fewer more what lap size step H') ∧ H'[3]? = some (.ints (row.flatMap (triple lap))) ∧ (∀ i, i < H.length → i ≠ 3 → H'[i]? = H[i]?) := by
  have hl := r.len
  have l3 : 3 < H.length := (List.getElem?_eq_some_iff.mp h3).1
  have e : mArgs fListL (aCons (mCel 2) aNil) (qSt fz most pegs peg told turn due fewer more what lap size step H) = some (.ref H.length, H ++ [.ints row]) := by
    rw [mArgs_eq (vs := [.ref 3]) (H1 := H) rfl]
    unfold fListL
    simp only [h3]
    rw [if_pos (by rw [lift_ints, Bool.true_and, decide_eq_true_eq]; simp only [L.vs, List.length_map]; omega)]
  rw [m3_8_10_eq]
  unfold sFor
  rw [e]
  simp only
  have srt := r.srt
  have bnd : ∀ c ∈ row, 0 ≤ c ∧ c ≤ 100 := fun c hc => by have := r.mem.mp hc; omega
  obtain ⟨σ', e1, peg', H', rfl, g1, g2, g3⟩ := for_ints (t := .loc 4) (b := lapBody) (xs := row) (src := .ref H.length)
    (fun k σ => ∃ peg H', σ = qSt fz most pegs peg told turn due fewer more what lap size step H' ∧ H'[3]? = some (.ints ((row.take k).flatMap (triple lap) ++ row.drop k)) ∧ H'[H.length]? = some (.ints row) ∧ ∀ i, i < H.length → i ≠ 3 → H'[i]? = H[i]?)
    (by rintro k σ ⟨peg, H', rfl, g1, g2, g3⟩; exact itemAt_ints g2 k)
    (by
      rintro k σ hk ⟨peg, H', rfl, g1, g2, g3⟩
      have l3' : 3 < H'.length := (List.getElem?_eq_some_iff.mp g1).1
      have hd : row.drop k = row[k] :: row.drop (k + 1) := List.drop_eq_getElem_cons hk
      have ht : row.take (k + 1) = row.take k ++ [row[k]] := List.take_succ_eq_append_getElem hk
      have hrow : row.take k ++ row[k] :: row.drop (k + 1) = row := by rw [← hd, List.take_append_drop]
      rw [hd] at g1
      have q := lap_step (fz := fz) (most := most) (pegs := pegs) (told := told) (turn := turn) (due := due) (fewer := fewer) (more := more) (what := what) l hN (by rw [hrow]; exact srt) (by rw [hrow]; exact bnd) (by rw [List.length_take, List.length_drop]; omega) g1
      refine ⟨qSt fz most pegs (some (.int row[k])) told turn due fewer more what lap size step H', _, rfl, q, _, _, rfl, ?_, ?_, ?_⟩
      · rw [List.getElem?_set_self l3', ht]
      · rw [List.getElem?_set_ne (by omega)]; exact g2
      · intro i hi hi3
        rw [List.getElem?_set_ne (by omega)]; exact g3 i hi hi3) 1000 0 (qSt fz most pegs peg told turn due fewer more what lap size step (H ++ [.ints row])) (by omega) (by omega)
    ⟨peg, _, rfl, by rw [List.getElem?_append_left l3]; simpa using h3, by simp, fun i hi _ => List.getElem?_append_left hi⟩
  refine ⟨peg', H', e1, ?_, g3⟩
  simpa using g1
theorem same_11 {d : Nat} {xs : List Int} (h3 : H[3]? = some (.ints xs)) (hd : H[d]? = some (.ints xs)) :
    m3_8_11 (qSt fz most pegs peg told turn (some (.ref d)) fewer more what lap size step H) = some (.next, qSt fz most pegs peg told turn (some (.ref d)) fewer more what lap size step H) := by
  unfold m3_8_11
  rw [sIf_f (H := H)]
  · rfl
  · refine mTest_eq (v := .bool false) ?_ rfl
    rw [mBin_eq (x := .ref 3) (y := .ref d) (H1 := H) (H2 := H) rfl rfl, fNe_ints h3 hd]
    simp
theorem cnt_tri {N s lap : Int} (l : Lap N s lap) (p : Int → Bool) : ∀ xs : List Int, (((xs.flatMap (triple lap)).map (plc N s)).filter p).length = 3 * ((xs.map (plc N s)).filter p).length
  | [] => rfl
  | x :: xs => by
    rw [List.flatMap_cons, List.map_append, List.filter_append, List.length_append, cnt_tri l p xs, List.map_cons]
    have e : (triple lap x).map (plc N s) = [plc N s x, plc N s x, plc N s x] := by simp [triple, l.per, plc_2 l]
    rw [e]
    by_cases h : p (plc N s x) = true
    · simp [h]; omega
    · simp [h]
theorem RowOk.cnt {N s : Int} (r : RowOk N s n row) {t : Nat} (ht : t < n) : cntLt (row.map (plc N s)) ((row.map (plc N s)).getD t 0) = t ∧ cntLe (row.map (plc N s)) ((row.map (plc N s)).getD t 0) = t + 1 := by
  have hl := r.len
  generalize hks : row.map (plc N s) = ks
  have hlen : ks.length = n := by rw [← hks, List.length_map, hl]
  have hs : ks.Pairwise (· ≤ ·) := by rw [← hks]; exact r.keys
  have hlt : ks.Pairwise (· < ·) := by rw [← hks, List.pairwise_map]; exact r.srt
  have at_ : ∀ i j, i < j → j < n → ks.getD i 0 < ks.getD j 0 := fun i j hij hj => by
    have := List.pairwise_iff_getElem.mp hlt i j (by omega) (by omega) hij
    rw [List.getD_eq_getElem?_getD, List.getD_eq_getElem?_getD, List.getElem?_eq_getElem (by omega), List.getElem?_eq_getElem (by omega)]
    exact this
  have c1 := cntLt_le ks (ks.getD t 0)
  have c2 := cntLe_le ks (ks.getD t 0)
  have a1 := cntLt_at hs (ks.getD t 0) t (by omega)
  have a2 := cntLe_at hs (ks.getD t 0) t (by omega)
  constructor
  · have h1 : ¬ (t : Int) < (cntLt ks (ks.getD t 0) : Int) := fun q => by have := a1.mpr q; omega
    rcases Nat.eq_zero_or_pos t with h | h
    · omega
    · have a3 := cntLt_at hs (ks.getD t 0) (t - 1) (by omega)
      have := a3.mp (at_ (t - 1) t (by omega) ht)
      omega
  · have h1 := a2.mp (by omega)
    by_cases h : t + 1 < n
    · have a3 := cntLe_at hs (ks.getD t 0) (t + 1) (by omega)
      have h2 := at_ t (t + 1) (by omega) h
      have : ¬ ((t + 1 : Nat) : Int) < (cntLe ks (ks.getD t 0) : Int) := fun q => by have := a3.mpr q; omega
      omega
    · omega
end
end Mine
namespace Mine
theorem flatMap_if {α : Type} (p : α → Bool) : ∀ xs : List α, xs.flatMap (fun x => if p x = true then [x] else []) = xs.filter p
  | [] => rfl
  | x :: xs => by
    rw [List.flatMap_cons, flatMap_if p xs]
    by_cases h : p x = true
    · rw [if_pos h, List.filter_cons_of_pos h]; rfl
    · rw [if_neg h, List.filter_cons_of_neg h]; rfl
section
variable {fz : V} {most pegs lap size step : Int} {peg told turn due fewer more what : Option V} {H : List L} {row ps : List Int} {n : Nat}
theorem some_of {w : Int} {f : F2} {p : Int → Bool} (hf : ∀ (x : Int) H, f (.int x) (.int w) H = some (.bool (p x), H)) {a : Nat} (ha : H[a]? = some (.ints ps)) (hps : ps.length ≤ 60) {m : Xm} {σ : S} (hm : m σ = some (.ref a, H)) (hcel : σ.cel = [0, 1, 2, 3, 4, 5]) (hC : σ.C = qC (some (.int w)) lap size step) :
    mArgs fLen (aCons (mComp 1000 1 [3] (putL 0) m (mTest (mBin f (mLoc 0) (mCel 0))) (cElt (mLoc 0))) aNil) σ = some (.int (ps.filter p).length, H ++ [.ints (ps.filter p)]) := by
  have hfl : (ps.filter p).length ≤ ps.length := List.length_filter_le _ _
  obtain ⟨σ', e1, x, rfl⟩ := comp_ints (src := .ref a) (put := putL 0) (t := mTest (mBin f (mLoc 0) (mCel 0))) (c := cElt (mLoc 0)) (xs := ps) (g := fun x => if p x = true then [x] else []) (fun σ => ∃ x, σ = cSt [x] [3] (qC (some (.int w)) lap size step) H)
    (by rintro σ ⟨x, rfl⟩ k; exact itemAt_ints ha k)
    (by
      rintro x hx σ vs ⟨y, rfl⟩ hvs
      have ht : mTest (mBin f (mLoc 0) (mCel 0)) (cSt [some (.int x)] [3] (qC (some (.int w)) lap size step) H) = some (p x, H) := by
        refine mTest_eq (v := .bool (p x)) (H := H) ?_ rfl
        rw [mBin_eq (x := .int x) (y := .int w) (H1 := H) (H2 := H) rfl rfl]
        exact hf x H
      refine ⟨cSt [some (.int x)] [3] (qC (some (.int w)) lap size step) H, H, rfl, ?_⟩
      by_cases h : p x = true
      · rw [h] at ht
        refine .inl ⟨ht, cSt [some (.int x)] [3] (qC (some (.int w)) lap size step) H, ?_, _, rfl⟩
        rw [if_pos h] at hvs ⊢
        exact cElt_eq (v := .int x) (H := H) rfl (by simp at hvs; omega)
      · rw [Bool.not_eq_true] at h
        rw [h] at ht
        exact .inr ⟨ht, by rw [h]; rfl, _, rfl⟩)
    1000 0 [] (cSt [none] [3] (qC (some (.int w)) lap size step) H) ⟨none, rfl⟩ (by omega) (by omega) (by
      rw [List.drop_zero, flatMap_if]; simp only [List.length_nil]; omega)
  rw [List.drop_zero, flatMap_if] at e1
  have hcomp : mComp 1000 1 [3] (putL 0) m (mTest (mBin f (mLoc 0) (mCel 0))) (cElt (mLoc 0)) σ = some (.ref H.length, H ++ [.ints (ps.filter p)]) := by
    refine mComp_eq (src := .ref a) (H := H) (τ := cSt [x] [3] (qC (some (.int w)) lap size step) H) hm (by rw [hcel]; rfl) ?_ (by omega)
    rw [hcel, hC]
    exact e1
  rw [mArgs_eq (vs := [.ref H.length]) (H1 := H ++ [.ints (ps.filter p)]) (aCons_eq hcomp rfl)]
  unfold fLen
  simp [L.vs]
noncomputable def turnA : Sm := sIf (mNot (mTest (mCall (mFn 7) (dFn 7 sem3_7) (aCons (mCel 2) (aCons (mBin fItem (mLoc 3) (mLoc 6)) (aCons (mBin fMul (mInt 3) (mLoc 6)) (aCons (mBin fAdd (mBin fMul (mInt 3) (mLoc 6)) (mInt 3)) (aCons (mCel 1) aNil)))))))) (sSeq (sRet (mBool false)) sNil) sNil
noncomputable def turnC : Sm := sAssign (.cel 3) (mBin fAdd (mBin fItem (mLoc 3) (mLoc 6)) (mBin fMod (mLoc 6) (mInt 2)))
noncomputable def turnD : Sm := sSwap [.loc 8, .loc 9] (mTup (aCons (mArgs fLen (aCons (mComp 1000 1 [3] (putL 0) (mLoc 3) (mTest (mBin fLt (mLoc 0) (mCel 0))) (cElt (mLoc 0))) aNil)) (aCons (mArgs fLen (aCons (mComp 1000 1 [3] (putL 0) (mLoc 3) (mTest (mBin fLe (mLoc 0) (mCel 0))) (cElt (mLoc 0))) aNil)) aNil)))
noncomputable def turnE : Sm := sIf (mNot (mTest (mCall (mFn 7) (dFn 7 sem3_7) (aCons (mLoc 3) (aCons (mCel 3) (aCons (mLoc 8) (aCons (mLoc 9) (aCons mNone aNil)))))))) (sSeq (sRet (mBool false)) sNil) sNil
noncomputable def turnBody : Sm := sSeq turnA (sSeq turnC (sSeq turnD (sSeq turnE sNil)))
theorem m3_8_12_eq : m3_8_12 = sFor 1000 (.loc 6) (mArgs fRange (aCons (mLoc 2) aNil)) turnBody := rfl
theorem mNot_eq {m : Bm} {σ : S} {b : Bool} {H : List L} (h : m σ = some (b, H)) : mNot m σ = some (!b, H) := by
  unfold mNot; rw [h]
theorem turn_12 (l : Lap size step lap) (r : RowOk size step n row) (hN : size ≤ 10 ^ 15) (hn9 : n ≤ 60) {t : Nat} (ht : t < n) (h3 : H[3]? = some (.ints (row.flatMap (triple lap)))) (h4 : H[4]? = some (.ints (row.map (plc size step)))) :
    ∃ fewer' more' what' H', turnBody (qSt fz most pegs peg told (some (.int t)) due fewer more what lap size step H) = some (.next, qSt fz most pegs peg told (some (.int t)) due fewer' more' what' lap size step H') ∧ H'[3]? = some (.ints (row.flatMap (triple lap))) ∧ H'[4]? = some (.ints (row.map (plc size step))) := by
  have hl := r.len
  have hlap := l.le
  have hlp := l.lpos
  have l3 : 3 < H.length := (List.getElem?_eq_some_iff.mp h3).1
  have l4 : 4 < H.length := (List.getElem?_eq_some_iff.mp h4).1
  obtain ⟨c1, c2⟩ := r.cnt ht
  have srt := r.keys
  have bnd : ∀ i ∈ row.flatMap (triple lap), 0 ≤ i ∧ i ≤ 9000000000000000000 := fun c hc => by
    obtain ⟨q, hq, e⟩ := mem_tri hc
    have := r.mem.mp hq
    omega
  have d1 : (((row.flatMap (triple lap)).map (plc size step))).Pairwise (· ≤ ·) := by
    rw [List.pairwise_map]; exact tri_sorted l r.srt
  have d2 := cnt_tri l (fun y => decide (y < (row.map (plc size step)).getD t 0)) row
  have d3 := cnt_tri l (fun y => decide (y ≤ (row.map (plc size step)).getD t 0)) row
  have d4 := triple_len lap row
  have d5 : (row.map (plc size step)).length = n := by rw [List.length_map, hl]
  generalize hD : row.flatMap (triple lap) = D at *
  generalize hP : row.map (plc size step) = P at *
  have item : ∀ (w : Option V) (σ : S), σ = qSt fz most pegs peg told (some (.int t)) due fewer more w lap size step H → mBin fItem (mLoc 3) (mLoc 6) σ = some (.int (P.getD t 0), H) := by
    rintro w σ rfl
    rw [mBin_eq (x := .ref 4) (y := .int t) (H1 := H) (H2 := H) rfl rfl, fItem_ints h4 (by omega) (by omega)]
    rfl
  -- the row
  have sA : turnA (qSt fz most pegs peg told (some (.int t)) due fewer more what lap size step H) = some (.next, qSt fz most pegs peg told (some (.int t)) due fewer more what lap size step H) := by
    have hc : mCall (mFn 7) (dFn 7 sem3_7) (aCons (mCel 2) (aCons (mBin fItem (mLoc 3) (mLoc 6)) (aCons (mBin fMul (mInt 3) (mLoc 6)) (aCons (mBin fAdd (mBin fMul (mInt 3) (mLoc 6)) (mInt 3)) (aCons (mCel 1) aNil))))) (qSt fz most pegs peg told (some (.int t)) due fewer more what lap size step H) = some (.bool true, H) := by
      rw [mCall_eq (fv := .fn 7) (f := sem3_7) (vs := [.ref 3, .int (P.getD t 0), .int (3 * (t : Int)), .int (3 * (t : Int) + 3), .clo 0 [5, 4]]) (H0 := H) (H1 := H) rfl rfl (aCons_eq (v := .ref 3) (H1 := H) rfl (aCons_eq (H1 := H) (item what _ rfl) (aCons_eq (v := .int (3 * (t : Int))) (H1 := H) rfl (aCons_eq (v := .int (3 * (t : Int) + 3)) (H1 := H) rfl rfl))))]
      exact searched3 (C := qC what lap size step) h3 (by omega) (q_key l.pos bnd) (fun T => q_key l.pos bnd) d1 (by unfold cntLt at c1 ⊢; rw [d2]; omega) (by unfold cntLe at c2 ⊢; rw [d3]; omega)
    unfold turnA
    rw [sIf_f (H := H) (mNot_eq (b := true) (mTest_eq hc rfl))]
    rfl
  -- the places
  generalize hw : P.getD t 0 + (t : Int).fmod 2 = w
  have sC : turnC (qSt fz most pegs peg told (some (.int t)) due fewer more what lap size step H) = some (.next, qSt fz most pegs peg told (some (.int t)) due fewer more (some (.int w)) lap size step H) := by
    refine sAssign_eq (v := .int w) (H1 := H) ?_ rfl
    rw [mBin_eq (x := .int (P.getD t 0)) (y := .int ((t : Int).fmod 2)) (H1 := H) (H2 := H) (item what _ rfl) rfl, ← hw]
    rfl
  let H1 := H ++ [L.ints (P.filter fun y => decide (y < w))]
  let H2 := H1 ++ [L.ints (P.filter fun y => decide (y ≤ w))]
  have sD : turnD (qSt fz most pegs peg told (some (.int t)) due fewer more (some (.int w)) lap size step H) = some (.next, qSt fz most pegs peg told (some (.int t)) due (some (.int (cntLt P w))) (some (.int (cntLe P w))) (some (.int w)) lap size step H2) := by
    have f1 := some_of (H := H) (w := w) (f := fLt) (p := fun y => decide (y < w)) (fun _ _ => rfl) h4 (by omega) (m := mLoc 3) (σ := qSt fz most pegs peg told (some (.int t)) due fewer more (some (.int w)) lap size step H) rfl rfl rfl
    have f2 := some_of (H := H1) (w := w) (f := fLe) (p := fun y => decide (y ≤ w)) (fun _ _ => rfl) (a := 4) (ps := P) (by rw [List.getElem?_append_left l4]; exact h4) (by omega) (m := mLoc 3) (σ := qSt fz most pegs peg told (some (.int t)) due fewer more (some (.int w)) lap size step H1) rfl rfl rfl
    have ft : mTup (aCons (mArgs fLen (aCons (mComp 1000 1 [3] (putL 0) (mLoc 3) (mTest (mBin fLt (mLoc 0) (mCel 0))) (cElt (mLoc 0))) aNil)) (aCons (mArgs fLen (aCons (mComp 1000 1 [3] (putL 0) (mLoc 3) (mTest (mBin fLe (mLoc 0) (mCel 0))) (cElt (mLoc 0))) aNil)) aNil)) (qSt fz most pegs peg told (some (.int t)) due fewer more (some (.int w)) lap size step H) = some (.tup [.int (cntLt P w), .int (cntLe P w)], H2) := by
      unfold mTup
      rw [aCons_eq f1 (aCons_eq f2 rfl)]
      rfl
    unfold turnD sSwap
    rw [ft]
    rfl
  have g3 : H2[3]? = some (.ints D) := by
    show (H ++ _ ++ _)[3]? = _
    rw [List.append_assoc, List.getElem?_append_left l3]; exact h3
  have g4 : H2[4]? = some (.ints P) := by
    show (H ++ _ ++ _)[4]? = _
    rw [List.append_assoc, List.getElem?_append_left l4]; exact h4
  have sE : turnE (qSt fz most pegs peg told (some (.int t)) due (some (.int (cntLt P w))) (some (.int (cntLe P w))) (some (.int w)) lap size step H2) = some (.next, qSt fz most pegs peg told (some (.int t)) due (some (.int (cntLt P w))) (some (.int (cntLe P w))) (some (.int w)) lap size step H2) := by
    have hc : mCall (mFn 7) (dFn 7 sem3_7) (aCons (mLoc 3) (aCons (mCel 3) (aCons (mLoc 8) (aCons (mLoc 9) (aCons mNone aNil))))) (qSt fz most pegs peg told (some (.int t)) due (some (.int (cntLt P w))) (some (.int (cntLe P w))) (some (.int w)) lap size step H2) = some (.bool true, H2) := by
      rw [mCall_eq (fv := .fn 7) (f := sem3_7) (vs := [.ref 4, .int w, .int (cntLt P w), .int (cntLe P w), .none]) (H0 := H2) (H1 := H2) rfl rfl rfl]
      exact searched3 (C := qC (some (.int w)) lap size step) g4 (by omega) .none (fun T => .none) srt rfl rfl
    unfold turnE
    rw [sIf_f (H := H2) (mNot_eq (b := true) (mTest_eq hc rfl))]
    rfl
  refine ⟨some (.int (cntLt P w)), some (.int (cntLe P w)), some (.int w), H2, ?_, g3, g4⟩
  unfold turnBody
  rw [sSeq_n sA, sSeq_n sC, sSeq_n sD]
  exact sOne sE
theorem turns_12 (l : Lap size step lap) (r : RowOk size step n row) (hN : size ≤ 10 ^ 15) (hn9 : n ≤ 60) (hp : pegs = n) (h3 : H[3]? = some (.ints (row.flatMap (triple lap)))) (h4 : H[4]? = some (.ints (row.map (plc size step)))) :
    ∃ turn' fewer' more' what' H', m3_8_12 (qSt fz most pegs peg told turn due fewer more what lap size step H) = some (.next, qSt fz most pegs peg told turn' due fewer' more' what' lap size step H') ∧ H'[3]? = some (.ints (row.flatMap (triple lap))) := by
  have e : mArgs fRange (aCons (mLoc 2) aNil) (qSt fz most pegs peg told turn due fewer more what lap size step H) = some (.rng 0 (n : Nat) 1, H) := by subst hp; rfl
  rw [m3_8_12_eq]
  unfold sFor
  rw [e]
  simp only
  obtain ⟨σ', e1, turn', fewer', more', what', H', rfl, g3, g4⟩ := for_rng (t := .loc 6) (b := turnBody) (n := n) (by omega)
    (fun k σ => ∃ turn fewer more what H, σ = qSt fz most pegs peg told turn due fewer more what lap size step H ∧ H[3]? = some (.ints (row.flatMap (triple lap))) ∧ H[4]? = some (.ints (row.map (plc size step)))) (by
    rintro k σ hk ⟨turn, fewer, more, what, H, rfl, g3, g4⟩
    obtain ⟨fewer', more', what', H', q1, q2, q3⟩ := turn_12 (fz := fz) (most := most) (pegs := pegs) (peg := peg) (told := told) (due := due) (fewer := fewer) (more := more) (what := what) l r hN hn9 hk g3 g4
    exact ⟨_, _, rfl, q1, _, _, _, _, _, rfl, q2, q3⟩) 1000 0 (qSt fz most pegs peg told turn due fewer more what lap size step H) (by omega) (by omega) ⟨_, _, _, _, _, rfl, h3, h4⟩
  exact ⟨turn', fewer', more', what', H', e1, g3⟩
theorem end_13 (l : Lap size step lap) {xs : List Int} (hx : xs.length ≤ 900) (h3 : H[3]? = some (.ints xs)) :
    ∃ σ', m3_8_13 (qSt fz most pegs peg told turn due fewer more what lap size step H) = some (.ret (.bool true), σ') := by
  obtain ⟨σ', e1, x, rfl⟩ := comp_ints (src := .rng 0 (4 : Nat) 1) (put := putL 0) (t := mNot (mTest (mCall (mFn 5) (dFn 5 sem3_5) (aCons (mLoc 0) (aCons (mCel 0) (aCons (mCel 1) aNil)))))) (c := cElt (mLoc 0)) (xs := rng 4) (g := fun x => []) (fun σ => ∃ x, σ = cSt [x] [2, 1] (qC what lap size step) H)
    (by rintro σ ⟨x, rfl⟩ k; exact itemAt_rng4 _ (by omega) k)
    (by
      rintro x hx4 σ vs ⟨y, rfl⟩ hvs
      have hm := mem_rng.mp hx4
      have hc : mCall (mFn 5) (dFn 5 sem3_5) (aCons (mLoc 0) (aCons (mCel 0) (aCons (mCel 1) aNil))) (cSt [some (.int x)] [2, 1] (qC what lap size step) H) = some (.bool true, H) := by
        rw [mCall_eq (fv := .fn 5) (f := sem3_5) (vs := [.int x, .ref 3, .clo 0 [5, 4]]) (H0 := H) (H1 := H) rfl rfl rfl]
        exact refused3 (y := plc size step 0) (f := loSem lm3_0 [5, 4]) hm.1 (by omega) h3 hx rfl rfl (fun H => q_lam (what := what) (lap := lap) l.pos (by omega) (by omega))
      exact ⟨cSt [some (.int x)] [2, 1] (qC what lap size step) H, H, rfl, .inr ⟨mNot_eq (b := true) (mTest_eq hc rfl), rfl, _, rfl⟩⟩)
    1000 0 [] (cSt [none] [2, 1] (qC what lap size step) H) ⟨none, rfl⟩ (by omega) (by rw [rng_len]; omega) (by decide)
  have e2 : compGo (.rng 0 (4 : Nat) 1) (putL 0) (mNot (mTest (mCall (mFn 5) (dFn 5 sem3_5) (aCons (mLoc 0) (aCons (mCel 0) (aCons (mCel 1) aNil)))))) (cElt (mLoc 0)) 1000 0 [] (cSt [none] [2, 1] (qC what lap size step) H) = some (([] : List Int).map V.int, cSt [x] [2, 1] (qC what lap size step) H) := by
    rw [e1]; simp
  have hcomp := mComp_eq (fuel := 1000) (nl := 1) (is := [2, 1]) (σ := qSt fz most pegs peg told turn due fewer more what lap size step H) (m := mArgs fRange (aCons (mInt 4) aNil)) (src := .rng 0 (4 : Nat) 1) (H := H) rfl rfl e2 (by simp)
  refine ⟨_, sRet_eq (v := .bool true) (H1 := H ++ [.ints []] ++ [.ints []]) ?_⟩
  rw [mBin_eq (x := .ref H.length) (y := .ref (H.length + 1)) (H1 := H ++ [.ints []]) (H2 := H ++ [.ints []] ++ [.ints []]) hcomp ?_, fEq_ints (xs := []) (ys := []) (by simp) (by simp)]
  · simp
  · have q := mList_eq (a := aNil) (σ := { qSt fz most pegs peg told turn due fewer more what lap size step H with H := H ++ [.ints []] }) (vs := []) (H1 := H ++ [.ints []]) rfl rfl
    rw [show (H ++ [L.ints []]).length = H.length + 1 by simp] at q
    exact q
end
theorem sSeq_assoc (a b c : Sm) : sSeq (sSeq a b) c = sSeq a (sSeq b c) := by
  funext σ
  unfold sSeq
  cases a σ with
  | none => rfl
  | some r =>
    obtain ⟨f, σ1⟩ := r
    cases f <;> rfl
theorem sSeq_nil (c : Sm) : sSeq sNil c = c := rfl
theorem body3_split (σ : S) : body3_8 σ = sSeq startB (sSeq m3_8_7 (sSeq m3_8_8 (sSeq m3_8_9 (sSeq m3_8_10 (sSeq m3_8_11 (sSeq m3_8_12 (sSeq m3_8_13 sNil))))))) σ := by
  unfold body3_8 startB
  simp only [sSeq_assoc, sSeq_nil]
theorem key3 (xs : List Int) (hx : xs.length ≤ 63) : ∃ H', sem3_8 [.frz xs] none [] [] = some (.bool true, H') := by
  obtain ⟨most, pegs, lap, size, step, n, H, e0, h3, h4, l, hN, hp, hn, hn1, hn15⟩ := start3 xs hx
  obtain ⟨peg1, told1, turn1, H1, row, e1, r, a3, a4⟩ := peg_loop (fz := .frz xs) (most := most) (told := none) (turn := none) (due := none) (fewer := none) (more := none) (what := none) (H := H) l hn (by omega) hp (peg := none) h3 h4
  have e2 := places_8 (fz := .frz xs) (most := most) (pegs := pegs) (peg := peg1) (told := told1) (turn := turn1) (due := none) (fewer := none) (more := none) (what := none) l r (by omega) a3 a4
  have hl := r.len
  have k3 : 3 < H1.length := (List.getElem?_eq_some_iff.mp a3).1
  have k4 : 4 < H1.length := (List.getElem?_eq_some_iff.mp a4).1
  have b3 : (H1 ++ [L.ints (row.map (plc size step))])[3]? = some (.ints row) := by rw [List.getElem?_append_left k3]; exact a3
  have b4 : (H1 ++ [L.ints (row.map (plc size step))])[4]? = some (.ints (row.map (plc size step))) := by rw [List.getElem?_append_left k4]; exact a4
  generalize H1 ++ [L.ints (row.map (plc size step))] = H2 at e2 b3 b4
  have e3 := due_9 (fz := .frz xs) (most := most) (pegs := pegs) (lap := lap) (size := size) (step := step) (peg := peg1) (told := told1) (turn := turn1) (due := none) (fewer := none) (more := none) (what := none) (by omega) b3
  have k23 : 3 < H2.length := (List.getElem?_eq_some_iff.mp b3).1
  have k24 : 4 < H2.length := (List.getElem?_eq_some_iff.mp b4).1
  have c3 : (H2 ++ [L.ints (row.flatMap (triple lap))])[3]? = some (.ints row) := by rw [List.getElem?_append_left k23]; exact b3
  have c4 : (H2 ++ [L.ints (row.flatMap (triple lap))])[4]? = some (.ints (row.map (plc size step))) := by rw [List.getElem?_append_left k24]; exact b4
  have c5 : (H2 ++ [L.ints (row.flatMap (triple lap))])[H2.length]? = some (.ints (row.flatMap (triple lap))) := by simp
  obtain ⟨peg4, H4, e4, d3, d4⟩ := laps_10 (fz := .frz xs) (most := most) (pegs := pegs) (peg := peg1) (told := told1) (turn := turn1) (due := some (.ref H2.length)) (fewer := none) (more := none) (what := none) l r hN (by omega) c3
  have e5 := same_11 (fz := .frz xs) (most := most) (pegs := pegs) (lap := lap) (size := size) (step := step) (peg := peg4) (told := told1) (turn := turn1) (fewer := none) (more := none) (what := none) d3 (d := H2.length) (by rw [d4 _ (by simp) (by omega)]; exact c5)
  obtain ⟨turn6, fewer6, more6, what6, H6, e6, f3⟩ := turns_12 (fz := .frz xs) (most := most) (peg := peg4) (told := told1) (turn := turn1) (due := some (.ref H2.length)) (fewer := none) (more := none) (what := none) l r hN (by omega) hp d3 (by rw [d4 4 (by simp; omega) (by omega)]; exact c4)
  have hlen := triple_len lap row
  obtain ⟨σ', e7⟩ := end_13 (fz := .frz xs) (most := most) (pegs := pegs) (peg := peg4) (told := told1) (turn := turn6) (due := some (.ref H2.length)) (fewer := fewer6) (more := more6) (what := what6) l (by rw [hlen]; omega) f3
  have eb : body3_8 (entry df3_8 [.frz xs] [] []) = some (.ret (.bool true), σ') := by
    rw [body3_split, sSeq_n e0, sSeq_n e1, sSeq_n e2, sSeq_n e3, sSeq_n e4, sSeq_n e5, sSeq_n e6]
    exact sSeq_r e7
  refine ⟨[], ?_⟩
  unfold sem3_8 fnSem
  rw [show full3_8 [V.frz xs] none = some [V.frz xs] from rfl]
  simp only
  rw [eb]
  exact expo_app (v := .bool true) (H := []) (T := σ'.H) rfl rfl
end Mine

theorem PySem.Challenge.cw_wb0001_03_holds : PySem.Challenge.rw_wb0001_03.Holds :=
  Mine.joined3 Mine.key3
