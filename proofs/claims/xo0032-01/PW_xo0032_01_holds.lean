import PyProof.Rows.All
import Wide.All
import OpenK.AllK
import Wide.FinOn
import PySem.Challenge.RW_xo0032_01
set_option Elab.async false
set_option maxRecDepth 100000
set_option linter.unusedSimpArgs false
set_option linter.unusedVariables false
namespace Mine
open PySem PySem.W PySem.Calls PyProof.Rows
inductive D where
  | none
  | bool (b : Bool)
  | int (i : Int)
  | str (s : Str)
  | bytes (b : Array UInt8)
  | tup (xs : List D)
  | lst (xs : List D)
  | dctI (ks : List Int) (vs : List D)
  | dctS (ks : List Str) (vs : List D)
  | inst (C : Addr) (ks : List Str) (vs : List D)
abbrev tupO (vs : List Value) (n : Nat) : Obj := { cls := .type "tuple", dict := none, data := .seq vs.toArray n, slots := #[] }
abbrev lstO (vs : List Value) (n : Nat) : Obj := { cls := .type "list", dict := none, data := .seq vs.toArray n, slots := #[] }
abbrev insO (C dx : Addr) : Obj := { cls := .ref C, dict := some dx, data := .plain, slots := #[] }
noncomputable def InsOf (h : Heap) (dx : Addr) (kvs : List (Str × Value)) : Prop := ∃ es n, h.get? dx = some (dictOf es n) ∧ (∀ e ∈ es, ∃ (n : Str) (t : Tok), e.key = .str n t) ∧ (∀ x : Str, (es.find? (·.key.isStr x)).map (·.val) = valueAt kvs x) ∧ es.length ≤ kvs.length
theorem InsOf.at {h h' : Heap} {dx : Addr} {kvs : List (Str × Value)} (x : InsOf h dx kvs) (k : ∀ o, h.get? dx = some o → h'.get? dx = some o) : InsOf h' dx kvs :=
  let ⟨es, n, g, r⟩ := x; ⟨es, n, k _ g, r⟩
theorem InsOf.obj {h : Heap} {dx : Addr} {kvs : List (Str × Value)} (x : InsOf h dx kvs) : ∃ o es ep, h.get? dx = some o ∧ o.data = .dict es ep := let ⟨es, n, g, _⟩ := x; ⟨_, _, _, g, rfl⟩
mutual
inductive Is (prog : Program) (w : World) (h : Heap) (P : Addr → Prop) : Value → D → Prop
  | none : Is prog w h P .none .none
  | bool (b : Bool) : Is prog w h P (.bool b) (.bool b)
  | int (i : Int) (t : Tok) : Is prog w h P (.int i t) (.int i)
  | str (x : Str) (t : Tok) : Is prog w h P (.str x t) (.str x)
  | bytes (x : Array UInt8) (t : Tok) : Is prog w h P (.bytes x t) (.bytes x)
  | tup {a : Addr} {vs : List Value} {n : Nat} {xs : List D} (p : P a) (o : h.get? a = some (tupO vs n)) (r : IsL prog w h P vs xs) : Is prog w h P (.ref a) (.tup xs)
  | lst {a : Addr} {vs : List Value} {n : Nat} {xs : List D} (p : P a) (o : h.get? a = some (lstO vs n)) (r : IsL prog w h P vs xs) : Is prog w h P (.ref a) (.lst xs)
  | dctI {a : Addr} {kvs : List (Int × Value)} {ks : List Int} {xs : List D} (p : P a) (ns : (a == sysModules) = false) (o : h.DictOf (intKind prog w) a kvs) (e : kvs.map (·.1) = ks) (r : IsL prog w h P (kvs.map (·.2)) xs) : Is prog w h P (.ref a) (.dctI ks xs)
  | dctS {a : Addr} {kvs : List (Str × Value)} {ks : List Str} {xs : List D} (p : P a) (ns : (a == sysModules) = false) (o : h.DictOf (strKind prog w) a kvs) (e : kvs.map (·.1) = ks) (r : IsL prog w h P (kvs.map (·.2)) xs) : Is prog w h P (.ref a) (.dctS ks xs)
  | inst {a dx C : Addr} {kvs : List (Str × Value)} {ks : List Str} {xs : List D} (p : P a) (q : P dx) (o : h.get? a = some (insO C dx)) (od : InsOf h dx kvs) (e : kvs.map (·.1) = ks) (r : IsL prog w h P (kvs.map (·.2)) xs) : Is prog w h P (.ref a) (.inst C ks xs)
inductive IsL (prog : Program) (w : World) (h : Heap) (P : Addr → Prop) : List Value → List D → Prop
  | nil : IsL prog w h P [] []
  | cons {v : Value} {d : D} {vs : List Value} {xs : List D} (x : Is prog w h P v d) (r : IsL prog w h P vs xs) : IsL prog w h P (v :: vs) (d :: xs)
end
section
variable {prog : Program} {w : World} {h h' : Heap} {P P' : Addr → Prop}
theorem dictOf_at {K : Type} [DecidableEq K] {knd : KeyKind prog w K} {a : Addr} {kvs : List (K × Value)} (x : h.DictOf knd a kvs) (k : ∀ o, h.get? a = some o → h'.get? a = some o) : h'.DictOf knd a kvs := let ⟨o, es, ep, e, r⟩ := x; ⟨o, es, ep, k o e, r⟩
theorem dictOf_p {K : Type} [DecidableEq K] {knd : KeyKind prog w K} {a : Addr} {kvs : List (K × Value)} (x : h.DictOf knd a kvs) (p : P a) (k : ∀ a o, P a → h.get? a = some o → P' a ∧ h'.get? a = some o) : P' a := let ⟨o, _, _, e, _⟩ := x; (k a o p e).1
theorem Is.mono (k : ∀ a o, P a → h.get? a = some o → P' a ∧ h'.get? a = some o) : ∀ {v : Value} {d : D}, Is prog w h P v d → Is prog w h' P' v d := fun x =>
  Is.rec (motive_1 := fun v d _ => Is prog w h' P' v d) (motive_2 := fun vs xs _ => IsL prog w h' P' vs xs) .none .bool .int .str .bytes
    (fun p o _ r => .tup (k _ _ p o).1 (k _ _ p o).2 r) (fun p o _ r => .lst (k _ _ p o).1 (k _ _ p o).2 r)
    (fun p z o q _ r => .dctI (dictOf_p o p k) z (dictOf_at o fun _ e => (k _ _ p e).2) q r) (fun p z o q _ r => .dctS (dictOf_p o p k) z (dictOf_at o fun _ e => (k _ _ p e).2) q r)
    (fun p p' o o' q _ r => .inst (k _ _ p o).1 (o'.obj.elim fun _ z => z.elim fun _ z => z.elim fun _ z => (k _ _ p' z.1).1) (k _ _ p o).2 (o'.at fun _ e => (k _ _ p' e).2) q r)
    .nil (fun _ _ x r => .cons x r) x
theorem IsL.ind {Q : List Value → List D → Prop} (h0 : Q [] []) (h1 : ∀ {v d vs xs}, Is prog w h P v d → IsL prog w h P vs xs → Q vs xs → Q (v :: vs) (d :: xs)) : ∀ {vs : List Value} {xs : List D}, IsL prog w h P vs xs → Q vs xs := fun r =>
  IsL.rec (motive_1 := fun _ _ _ => True) (motive_2 := fun vs xs _ => Q vs xs) trivial (fun _ => trivial) (fun _ _ => trivial) (fun _ _ => trivial) (fun _ _ => trivial) (fun _ _ _ _ => trivial) (fun _ _ _ _ => trivial) (fun _ _ _ _ _ _ => trivial) (fun _ _ _ _ _ _ => trivial) (fun _ _ _ _ _ _ _ => trivial)
    h0 (fun x r _ ih => h1 x r ih) r
theorem IsL.mono (k : ∀ a o, P a → h.get? a = some o → P' a ∧ h'.get? a = some o) {vs : List Value} {xs : List D} (r : IsL prog w h P vs xs) : IsL prog w h' P' vs xs := IsL.ind .nil (fun x _ r => .cons (x.mono k) r) r
theorem IsL.length {vs : List Value} {xs : List D} (r : IsL prog w h P vs xs) : vs.length = xs.length := IsL.ind (Q := fun vs xs => vs.length = xs.length) rfl (fun _ _ ih => congrArg (· + 1) ih) r
theorem IsL.get {vs : List Value} {xs : List D} {i : Nat} {d : D} (r : IsL prog w h P vs xs) (e : xs[i]? = some d) : ∃ v, vs[i]? = some v ∧ Is prog w h P v d :=
  IsL.ind (Q := fun vs xs => ∀ i d, xs[i]? = some d → ∃ v, vs[i]? = some v ∧ Is prog w h P v d) (fun _ _ e => nomatch show none = some _ from e) (fun x _ ih i d e => Nat.casesOn (motive := fun i => (_ :: _)[i]? = some d → ∃ v, (_ :: _)[i]? = some v ∧ Is prog w h P v d) i (fun e => ⟨_, rfl, Option.some.inj e ▸ x⟩) (fun i e => ih i d e) e) r i d e
theorem IsL.get' {vs : List Value} {xs : List D} {i : Nat} {v : Value} (r : IsL prog w h P vs xs) (e : vs[i]? = some v) : ∃ d, xs[i]? = some d ∧ Is prog w h P v d :=
  IsL.ind (Q := fun vs xs => ∀ i v, vs[i]? = some v → ∃ d, xs[i]? = some d ∧ Is prog w h P v d) (fun _ _ e => nomatch show none = some _ from e) (fun x _ ih i v e => Nat.casesOn (motive := fun i => (_ :: _)[i]? = some v → ∃ d, (_ :: _)[i]? = some d ∧ Is prog w h P v d) i (fun e => ⟨_, rfl, Option.some.inj e ▸ x⟩) (fun i e => ih i v e) e) r i v e
theorem IsL.append {vs us : List Value} {xs ys : List D} (r : IsL prog w h P vs xs) (q : IsL prog w h P us ys) : IsL prog w h P (vs ++ us) (xs ++ ys) := IsL.ind (Q := fun vs xs => IsL prog w h P (vs ++ us) (xs ++ ys)) q (fun x _ r => .cons x r) r
theorem IsL.set {vs : List Value} {xs : List D} {i : Nat} {v : Value} {d : D} (r : IsL prog w h P vs xs) (q : Is prog w h P v d) : IsL prog w h P (vs.set i v) (xs.set i d) :=
  IsL.ind (Q := fun vs xs => ∀ i : Nat, IsL prog w h P (vs.set i v) (xs.set i d)) (fun _ => .nil) (fun x r ih i => Nat.casesOn (motive := fun i => IsL prog w h P ((_ :: _).set i v) ((_ :: _).set i d)) i (.cons q r) fun i => .cons x (ih i)) r i
theorem IsL.take {vs : List Value} {xs : List D} (i : Nat) (r : IsL prog w h P vs xs) : IsL prog w h P (vs.take i) (xs.take i) :=
  IsL.ind (Q := fun vs xs => ∀ i : Nat, IsL prog w h P (vs.take i) (xs.take i)) (fun i => by rw [List.take_nil, List.take_nil]; exact .nil) (fun x _ ih i => Nat.casesOn (motive := fun i => IsL prog w h P ((_ :: _).take i) ((_ :: _).take i)) i .nil fun i => .cons x (ih i)) r i
theorem IsL.drop {vs : List Value} {xs : List D} (i : Nat) (r : IsL prog w h P vs xs) : IsL prog w h P (vs.drop i) (xs.drop i) :=
  IsL.ind (Q := fun vs xs => ∀ i : Nat, IsL prog w h P (vs.drop i) (xs.drop i)) (fun i => by rw [List.drop_nil, List.drop_nil]; exact .nil) (fun x r ih i => Nat.casesOn (motive := fun i => IsL prog w h P ((_ :: _).drop i) ((_ :: _).drop i)) i (.cons x r) fun i => ih i) r i
theorem IsL.replicate {v : Value} {d : D} (x : Is prog w h P v d) : ∀ n, IsL prog w h P (List.replicate n v) (List.replicate n d) := fun n => Nat.rec .nil (fun _ ih => .cons x ih) n
theorem IsL.inv {v : Value} {vs : List Value} {ys : List D} (r : IsL prog w h P (v :: vs) ys) : ∃ d xs, ys = d :: xs ∧ Is prog w h P v d ∧ IsL prog w h P vs xs := by cases r with | cons x r => exact ⟨_, _, rfl, x, r⟩
noncomputable def Out (prog : Program) (w : World) (h : Heap) (P : Addr → Prop) (v : Value) : D → Prop
  | .none => v = .none
  | .bool b => v = .bool b
  | .int i => ∃ t, v = .int i t
  | .str i => ∃ t, v = .str i t
  | .bytes b => ∃ t, v = .bytes b t
  | .lst xs => ∃ a vs n, v = .ref a ∧ P a ∧ h.get? a = some (lstO vs n) ∧ IsL prog w h P vs xs
  | .tup xs => ∃ a vs n, v = .ref a ∧ P a ∧ h.get? a = some (tupO vs n) ∧ IsL prog w h P vs xs
  | .dctI ks xs => ∃ a kvs, v = .ref a ∧ P a ∧ (a == sysModules) = false ∧ h.DictOf (intKind prog w) a kvs ∧ kvs.map (·.1) = ks ∧ IsL prog w h P (kvs.map (·.2)) xs
  | .dctS ks xs => ∃ a kvs, v = .ref a ∧ P a ∧ (a == sysModules) = false ∧ h.DictOf (strKind prog w) a kvs ∧ kvs.map (·.1) = ks ∧ IsL prog w h P (kvs.map (·.2)) xs
  | .inst C ks xs => ∃ a dx kvs, v = .ref a ∧ P a ∧ P dx ∧ h.get? a = some (insO C dx) ∧ InsOf h dx kvs ∧ kvs.map (·.1) = ks ∧ IsL prog w h P (kvs.map (·.2)) xs
theorem Is.out : ∀ {v : Value} {d : D}, Is prog w h P v d → Out prog w h P v d := fun x =>
  Is.rec (motive_1 := fun v d _ => Out prog w h P v d) (motive_2 := fun _ _ _ => True) rfl (fun _ => rfl) (fun _ t => ⟨t, rfl⟩) (fun _ t => ⟨t, rfl⟩) (fun _ t => ⟨t, rfl⟩)
    (fun p o r _ => ⟨_, _, _, rfl, p, o, r⟩) (fun p o r _ => ⟨_, _, _, rfl, p, o, r⟩) (fun p z o k r _ => ⟨_, _, rfl, p, z, o, k, r⟩) (fun p z o k r _ => ⟨_, _, rfl, p, z, o, k, r⟩) (fun p q o od k r _ => ⟨_, _, _, rfl, p, q, o, od, k, r⟩)
    trivial (fun _ _ _ _ => trivial) x
theorem Is.int' {v : Value} {i : Int} (x : Is prog w h P v (.int i)) : ∃ t, v = .int i t := x.out
theorem Is.str' {v : Value} {i : Str} (x : Is prog w h P v (.str i)) : ∃ t, v = .str i t := x.out
theorem Is.bool' {v : Value} {b : Bool} (x : Is prog w h P v (.bool b)) : v = .bool b := x.out
theorem Is.bytes' {v : Value} {b : Array UInt8} (x : Is prog w h P v (.bytes b)) : ∃ t, v = .bytes b t := x.out
theorem Is.none' {v : Value} (x : Is prog w h P v .none) : v = .none := x.out
theorem Is.lst' {v : Value} {xs : List D} (x : Is prog w h P v (.lst xs)) : ∃ a vs n, v = .ref a ∧ P a ∧ h.get? a = some (lstO vs n) ∧ IsL prog w h P vs xs := x.out
theorem Is.tup' {v : Value} {xs : List D} (x : Is prog w h P v (.tup xs)) : ∃ a vs n, v = .ref a ∧ P a ∧ h.get? a = some (tupO vs n) ∧ IsL prog w h P vs xs := x.out
theorem Is.dctI' {v : Value} {ks : List Int} {xs : List D} (x : Is prog w h P v (.dctI ks xs)) : ∃ a kvs, v = .ref a ∧ P a ∧ (a == sysModules) = false ∧ h.DictOf (intKind prog w) a kvs ∧ kvs.map (·.1) = ks ∧ IsL prog w h P (kvs.map (·.2)) xs := x.out
theorem Is.inst' {v : Value} {C : Addr} {ks : List Str} {xs : List D} (x : Is prog w h P v (.inst C ks xs)) : ∃ a dx kvs, v = .ref a ∧ P a ∧ P dx ∧ h.get? a = some (insO C dx) ∧ InsOf h dx kvs ∧ kvs.map (·.1) = ks ∧ IsL prog w h P (kvs.map (·.2)) xs := x.out
noncomputable def D.scalar : D → Bool
  | .none | .bool _ | .int _ | .str _ | .bytes _ => true
  | _ => false
theorem Is.scalar {v : Value} {d : D} (x : Is prog w h P v d) (e : d.scalar = true) : Is prog w h' P' v d :=
  Is.rec (motive_1 := fun v d _ => d.scalar = true → Is prog w h' P' v d) (motive_2 := fun _ _ _ => True) (fun _ => .none) (fun b _ => .bool b) (fun i t _ => .int i t) (fun x t _ => .str x t) (fun x t _ => .bytes x t)
    (fun _ _ _ _ e => nomatch e) (fun _ _ _ _ e => nomatch e) (fun _ _ _ _ _ _ e => nomatch e) (fun _ _ _ _ _ _ e => nomatch e) (fun _ _ _ _ _ _ _ e => nomatch e) trivial (fun _ _ _ _ => trivial) x e
end
inductive MV where
  | froz (d : D)
  | ownL (xs : List D)
  | ownN (xss : List (List D))
  | ownI (ks : List Int) (vs : List D)
  | ownS (ks : List Str) (vs : List D)
  | ownW (C : Addr) (ks : List Str) (vs : List D)
structure Fm where
  env : Env
  he : Heap
  P : Addr → Prop
  ex : Addr → Prop
  wr : Bool
  sx : List Addr := []
abbrev St := List (Option MV)
noncomputable def Inner (prog : Program) (w : World) (h : Heap) (P : Addr → Prop) : List Addr → List Value → List (List D) → Prop
  | [], [], [] => True
  | a :: as, v :: vs, xs :: xss => v = .ref a ∧ (∃ us n, h.get? a = some (lstO us n) ∧ IsL prog w h P us xs) ∧ Inner prog w h P as vs xss
  | _, _, _ => False
noncomputable def Rep (prog : Program) (w : World) (h : Heap) (P : Addr → Prop) (X : List Addr) (v : Value) : MV → Prop
  | .froz d => X = [] ∧ Is prog w h P v d
  | .ownL xs => ∃ a vs n, X = [a] ∧ v = .ref a ∧ h.get? a = some (lstO vs n) ∧ IsL prog w h P vs xs
  | .ownN xss => ∃ a as vs n, X = a :: as ∧ (a :: as).Nodup ∧ v = .ref a ∧ h.get? a = some (lstO vs n) ∧ Inner prog w h P as vs xss
  | .ownI ks xs => ∃ a kvs, X = [a] ∧ v = .ref a ∧ (a == sysModules) = false ∧ h.DictOf (intKind prog w) a kvs ∧ kvs.map (·.1) = ks ∧ IsL prog w h P (kvs.map (·.2)) xs
  | .ownS ks xs => ∃ a kvs, X = [a] ∧ v = .ref a ∧ (a == sysModules) = false ∧ h.DictOf (strKind prog w) a kvs ∧ kvs.map (·.1) = ks ∧ IsL prog w h P (kvs.map (·.2)) xs
  | .ownW C ks xs => ∃ a dx kvs, X = [a, dx] ∧ a ≠ dx ∧ v = .ref a ∧ h.get? a = some (insO C dx) ∧ InsOf h dx kvs ∧ kvs.map (·.1) = ks ∧ IsL prog w h P (kvs.map (·.2)) xs
noncomputable def MV.dat : MV → D
  | .froz d => d
  | .ownL xs => .lst xs
  | .ownN xss => .lst (xss.map .lst)
  | .ownI ks vs => .dctI ks vs
  | .ownS ks vs => .dctS ks vs
  | .ownW C ks vs => .inst C ks vs
noncomputable def MV.safe : MV → Bool
  | .froz _ => true
  | _ => false
noncomputable def VarAt (h : Heap) (env : Env) (x : Str) (k : NameKind) (v : Value) : Prop := match k with
  | .local => ∃ m, h.Ns env.locals m ∧ m x = some v
  | .cell => ∃ c o, env.cells.lookup x = some c ∧ h.get? c = some o ∧ o.data = .cell (some v)
  | _ => False
structure Wd (K : Frag) (h : Heap) : Prop where
  k : K.In h
  g : ∃ mg, h.Ns mainGlobals mg
  b : ∃ mb, h.Ns builtinsNs mb ∧ ∀ x : Str, x ≠ "__name__" → mb x = bootBuiltins x
  nolimit : h.NoLimit
theorem Wd.keeps {K : Frag} {h h' : Heap} (x : Wd K h) (k : ∀ b o, h.get? b = some o → h'.get? b = some o) : Wd K h' :=
  ⟨x.k.keeps k, let ⟨m, a⟩ := x.g; ⟨m, a.keeps k⟩, let ⟨m, a, b⟩ := x.b; ⟨m, a.keeps k, b⟩, x.nolimit.keeps k⟩
noncomputable def Sf (fr : Fm) (X : Nat → List Addr) : Addr → Prop := fun a => fr.P a ∧ ¬ fr.ex a ∧ ∀ i, a ∉ X i
structure Inv (prog : Program) (w : World) (K : Frag) (fr : Fm) (σ : St) (X : Nat → List Addr) (s : Shared) : Prop where
  wd : Wd K fr.he
  hk : fr.env.scope.kind = .function
  hg : fr.env.globals = mainGlobals
  hb : fr.env.builtins = builtinsNs
  nd : (fr.env.scope.names.map (·.1)).Nodup
  keeps : ∀ a o, fr.he.get? a = some o → s.heap.get? a = some o
  ns : ∃ m, s.heap.Ns fr.env.locals m
  vars : ∀ i mv, σ[i]? = some (some mv) → ∃ x k v, fr.env.scope.names[i]? = some (x, k) ∧ VarAt s.heap fr.env x k v ∧ Rep prog w s.heap (Sf fr X) (X i) v mv
  disj : ∀ i j a, a ∈ X i → a ∈ X j → i = j
  own : ∀ i a, a ∈ X i → a ≠ fr.env.locals ∧ fr.P a ∧ (∃ o, s.heap.get? a = some o) ∧ (fr.wr = true → fr.he.get? a = none ∧ ∀ p ∈ fr.env.cells, a ≠ p.2)
  dl : fr.he.get? fr.env.locals = none
  dead : ∀ a, s.heap.get? a = none → fr.P a
  pL : ¬ fr.P fr.env.locals
  pC : ∀ p ∈ fr.env.cells, ¬ fr.P p.2
  lC : ∀ p ∈ fr.env.cells, p.2 ≠ fr.env.locals
  cd : fr.wr = true → ∀ p ∈ fr.env.cells, fr.he.get? p.2 = none ∧ ∃ o v, s.heap.get? p.2 = some o ∧ o.data = .cell v
  cinj : ∀ x y c, fr.env.cells.lookup x = some c → fr.env.cells.lookup y = some c → x = y
  exl : ∀ a, fr.ex a → ∃ o, s.heap.get? a = some o
  tk1 : 0 ≤ s.toks
  anc : ∀ i C ks vs, σ[i]? = some (some (.ownW C ks vs)) → X i = fr.sx
theorem lookup_mem {α β : Type} [BEq α] [LawfulBEq α] {l : List (α × β)} {x : α} {c : β} (h : l.lookup x = some c) : (x, c) ∈ l := by
  induction l with
  | nil => cases h
  | cons p l ih =>
    obtain ⟨y, d⟩ := p
    rw [List.lookup_cons] at h
    cases e : (x == y) with
    | true => rw [e] at h; cases h; rw [eq_of_beq e]; exact .head _
    | false => rw [e] at h; exact .tail _ (ih h)
structure Kp (s s' : Shared) : Prop where
  sh : ∃ h' tk, s' = { s with heap := h', toks := tk }
  get : ∀ {a : Addr} {o : Obj}, s.heap.get? a = some o → s'.heap.get? a = some o
  tk : s.toks ≤ s'.toks
theorem Kp.alive {s s' : Shared} (k : Kp s s') {a : Addr} (e : s'.heap.get? a = none) : s.heap.get? a = none := by
  cases q : s.heap.get? a with
  | none => rfl
  | some o => rw [k.get q] at e; cases e
theorem Kp.refl (s : Shared) : Kp s s := ⟨⟨s.heap, s.toks, rfl⟩, fun e => e, Nat.le_refl _⟩
theorem Kp.trans {s s' s'' : Shared} (a : Kp s s') (b : Kp s' s'') : Kp s s'' := by
  refine ⟨?_, fun e => b.get (a.get e), Nat.le_trans a.tk b.tk⟩
  obtain ⟨h', tk, rfl⟩ := a.sh
  obtain ⟨h'', tk', rfl⟩ := b.sh
  exact ⟨h'', tk', rfl⟩
theorem Kp.push {s : Shared} (o : Obj) (t : Nat) (h : s.toks ≤ t := by first | exact Nat.le_refl _ | exact Nat.le_succ _ | (refine Nat.le_trans (Nat.le_succ _) ?_; exact Nat.le_succ _) | assumption) : Kp s { s with heap := s.heap.push o, toks := t } := ⟨⟨_, _, rfl⟩, fun e => Heap.get?_push_of_some _ e, h⟩
theorem Kp.toks {s : Shared} (t : Nat) (h : s.toks ≤ t := by first | exact Nat.le_refl _ | exact Nat.le_succ _ | (refine Nat.le_trans (Nat.le_succ _) ?_; exact Nat.le_succ _) | assumption) : Kp s { s with toks := t } := ⟨⟨_, _, rfl⟩, fun e => e, h⟩
theorem Kp.mk' {s : Shared} {h' : Heap} (t : Nat) (k : ∀ b o, s.heap.get? b = some o → h'.get? b = some o) (h : s.toks ≤ t := by first | exact Nat.le_refl _ | exact Nat.le_succ _ | (refine Nat.le_trans (Nat.le_succ _) ?_; exact Nat.le_succ _) | assumption) : Kp s { s with heap := h', toks := t } := ⟨⟨_, _, rfl⟩, fun e => k _ _ e, h⟩
theorem Is.keeps {prog : Program} {w : World} {s s' : Shared} {P : Addr → Prop} {v : Value} {d : D} (x : Is prog w s.heap P v d) (k : Kp s s') : Is prog w s'.heap P v d := x.mono fun _ _ p e => ⟨p, k.get e⟩
theorem IsL.keeps {prog : Program} {w : World} {s s' : Shared} {P : Addr → Prop} {v : List Value} {d : List D} (x : IsL prog w s.heap P v d) (k : Kp s s') : IsL prog w s'.heap P v d := x.mono fun _ _ p e => ⟨p, k.get e⟩
theorem Inner.mono {prog : Program} {w : World} {h h' : Heap} {P P' : Addr → Prop} (k : ∀ a o, P a → h.get? a = some o → P' a ∧ h'.get? a = some o) : ∀ {as : List Addr} {vs : List Value} {xss : List (List D)}, (∀ a ∈ as, ∀ o, h.get? a = some o → h'.get? a = some o) → Inner prog w h P as vs xss → Inner prog w h' P' as vs xss
  | [], [], [], _, _ => trivial
  | a :: as, v :: vs, xs :: xss, q, ⟨e, ⟨us, n, o, r⟩, z⟩ => ⟨e, ⟨us, n, q a (.head _) _ o, r.mono k⟩, z.mono k fun b hb => q b (.tail _ hb)⟩
  | [], [], _ :: _, _, h => h.elim
  | [], _ :: _, _, _, h => by cases h
  | _ :: _, [], _, _, h => by cases h
  | _ :: _, _ :: _, [], _, h => h.elim
theorem Rep.mono {prog : Program} {w : World} {h h' : Heap} {P P' : Addr → Prop} {X : List Addr} {v : Value} {mv : MV} (k : ∀ a o, P a → h.get? a = some o → P' a ∧ h'.get? a = some o) (q : ∀ a ∈ X, ∀ o, h.get? a = some o → h'.get? a = some o)
    (x : Rep prog w h P X v mv) : Rep prog w h' P' X v mv := by
  have hd : ∀ {a : Addr} {l : List Addr}, X = a :: l → a ∈ X := fun e => e ▸ .head _
  cases mv with
  | froz d => exact ⟨x.1, x.2.mono k⟩
  | ownL xs => obtain ⟨a, vs, n, e, f, o, r⟩ := x; exact ⟨a, vs, n, e, f, q a (hd e) _ o, r.mono k⟩
  | ownN xss => obtain ⟨a, as, vs, n, e, nd, f, o, r⟩ := x; exact ⟨a, as, vs, n, e, nd, f, q a (hd e) _ o, r.mono k fun b hb => q b (e ▸ .tail _ hb)⟩
  | ownI ks xs => obtain ⟨a, kvs, e, f, z, o, kk, r⟩ := x; exact ⟨a, kvs, e, f, z, dictOf_at o (q a (hd e)), kk, r.mono k⟩
  | ownS ks xs => obtain ⟨a, kvs, e, f, z, o, kk, r⟩ := x; exact ⟨a, kvs, e, f, z, dictOf_at o (q a (hd e)), kk, r.mono k⟩
  | ownW C ks xs => obtain ⟨a, dx, kvs, e, ne, f, o, od, kk, r⟩ := x; exact ⟨a, dx, kvs, e, ne, f, q a (hd e) _ o, od.at (q dx (e ▸ .tail _ (.head _))), kk, r.mono k⟩
theorem VarAt.keeps {h h' : Heap} {env : Env} {x : Str} {k : NameKind} {v : Value} (kp : ∀ a o, h.get? a = some o → h'.get? a = some o) (y : VarAt h env x k v) : VarAt h' env x k v := by
  unfold VarAt at y ⊢
  split at y
  · obtain ⟨m, n, e⟩ := y; exact ⟨m, n.keeps kp, e⟩
  · obtain ⟨c, o, l, g, d⟩ := y; exact ⟨c, o, l, kp _ _ g, d⟩
  · exact y.elim
section
variable {prog : Program} {w : World} {K : Frag} {fr : Fm} {σ : St} {X : Nat → List Addr} {s s' : Shared}
theorem Inv.step (I : Inv prog w K fr σ X s) (k : Kp s s') : Inv prog w K fr σ X s' where
  wd := I.wd
  hk := I.hk
  hg := I.hg
  hb := I.hb
  nd := I.nd
  keeps a o e := k.get (I.keeps a o e)
  ns := let ⟨m, n⟩ := I.ns; ⟨m, n.keeps fun _ _ e => k.get e⟩
  vars i mv e := let ⟨x, kd, v, a, b, c⟩ := I.vars i mv e; ⟨x, kd, v, a, b.keeps fun _ _ e => k.get e, c.mono (fun _ _ p e => ⟨p, k.get e⟩) fun _ _ _ e => k.get e⟩
  disj := I.disj
  own i a e := let ⟨p, q, ⟨o, r⟩, t⟩ := I.own i a e; ⟨p, q, ⟨o, k.get r⟩, t⟩
  dl := I.dl
  dead a e := I.dead a (k.alive e)
  pL := I.pL
  pC := I.pC
  lC := I.lC
  cd e p hp := let ⟨a, o, v, b, c⟩ := I.cd e p hp; ⟨a, o, v, k.get b, c⟩
  cinj := I.cinj
  exl a e := let ⟨o, q⟩ := I.exl a e; ⟨o, k.get q⟩
  tk1 := Nat.le_trans I.tk1 k.tk
  anc := I.anc
theorem Inv.world (I : Inv prog w K fr σ X s) : Wd K s.heap := I.wd.keeps I.keeps
structure Step (fr : Fm) (X : Nat → List Addr) (s : Shared) (X' : Nat → List Addr) (s' : Shared) : Prop where
  sh : ∃ h' tk, s' = { s with heap := h', toks := tk }
  tk : s.toks ≤ s'.toks
  kp : ∀ a o, s.heap.get? a = some o → a ≠ fr.env.locals → (∀ p ∈ fr.env.cells, a ≠ p.2) → (∀ i, a ∉ X i) → s'.heap.get? a = some o
  al : ∀ a, s'.heap.get? a = none → s.heap.get? a = none
  sub : ∀ i a, a ∈ X' i → (∃ j, a ∈ X j) ∨ s.heap.get? a = none
theorem Step.refl (fr : Fm) (X : Nat → List Addr) (s : Shared) : Step fr X s X s := ⟨⟨s.heap, s.toks, rfl⟩, Nat.le_refl _, fun _ _ e _ _ _ => e, fun _ e => e, fun i _ h => .inl ⟨i, h⟩⟩
theorem Step.of_keeps (k : Kp s s') : Step fr X s X s' := ⟨k.sh, k.tk, fun _ _ e _ _ _ => k.get e, fun _ e => k.alive e, fun i _ h => .inl ⟨i, h⟩⟩
theorem Step.trans {X₁ X₂ : Nat → List Addr} {s₁ s₂ : Shared} (a : Step fr X s X₁ s₁) (b : Step fr X₁ s₁ X₂ s₂) : Step fr X s X₂ s₂ := by
  refine ⟨?_, Nat.le_trans a.tk b.tk, fun x o e h1 h2 h3 => b.kp x o (a.kp x o e h1 h2 h3) h1 h2 fun i hi => ?_, fun x e => a.al x (b.al x e), fun i x hx => ?_⟩
  · obtain ⟨h, t, rfl⟩ := a.sh; obtain ⟨h', t', rfl⟩ := b.sh; exact ⟨h', t', rfl⟩
  · rcases a.sub i x hi with ⟨j, hj⟩ | hd
    · exact h3 j hj
    · rw [e] at hd; cases hd
  · rcases b.sub i x hx with ⟨j, hj⟩ | hd
    · exact a.sub j x hj
    · exact .inr (a.al x hd)
theorem Inv.sf_step {X' : Nat → List Addr} (I : Inv prog w K fr σ X s) (t : Step fr X s X' s') : ∀ a o, Sf fr X a → s.heap.get? a = some o → Sf fr X' a ∧ s'.heap.get? a = some o := by
  rintro a o ⟨p, q, r⟩ e
  refine ⟨⟨p, q, fun i hi => ?_⟩, t.kp a o e (fun z => I.pL (z ▸ p)) (fun c hc z => I.pC c hc (z ▸ p)) r⟩
  rcases t.sub i a hi with ⟨j, hj⟩ | hd
  · exact r j hj
  · rw [e] at hd; cases hd
theorem Is.step {X' : Nat → List Addr} {v : Value} {d : D} (x : Is prog w s.heap (Sf fr X) v d) (I : Inv prog w K fr σ X s) (t : Step fr X s X' s') : Is prog w s'.heap (Sf fr X') v d := x.mono (I.sf_step t)
theorem IsL.step {X' : Nat → List Addr} {v : List Value} {d : List D} (x : IsL prog w s.heap (Sf fr X) v d) (I : Inv prog w K fr σ X s) (t : Step fr X s X' s') : IsL prog w s'.heap (Sf fr X') v d := x.mono (I.sf_step t)
end
theorem IsL.full {prog : Program} {w : World} {h : Heap} {fr : Fm} {X : Nat → List Addr} {v : List Value} {d : List D} (x : IsL prog w h (Sf fr X) v d) : IsL prog w h fr.P v d := x.mono fun _ _ p e => ⟨p.1, e⟩
structure Ao (k : Nat) (A : Around) : Prop where
  hd : A.handled = none
  dp : A.depth + k < recursionLimit
  un : A.units + 40 * k + 40 < cLine
theorem Ao.mono {k j : Nat} {A : Around} (a : Ao k A) (h : j ≤ k) : Ao j A := ⟨a.hd, by have := a.dp; lia, by have := a.un; lia⟩
theorem Ao.deeper {k : Nat} {A : Around} (a : Ao (k + 1) A) (env : Env) : Ao k (A.deeper env) := ⟨a.hd, by have := a.dp; show A.depth + 1 + k < _; lia, by have := a.un; show A.units + 3 + _ + _ < _; lia⟩
noncomputable def Vw (fr : Fm) (X : Nat → List Addr) : Bool → Addr → Prop
  | true => Sf fr X
  | false => fr.P
abbrev Ev := St → D → Bool → Prop
abbrev Evs := St → List D → Bool → Prop
abbrev Tr := St → Bool → Prop
inductive Fl where
  | next | brk | cont
  | ret (d : D)
abbrev Ex := St → Fl → St → Prop
section
variable {prog : Program} {w : World} {K : Frag} {fr : Fm} {σ : St} {X : Nat → List Addr} {s s' : Shared}
theorem vw_dead (I : Inv prog w K fr σ X s) (b : Bool) : ∀ a, s.heap.get? a = none → Vw fr X b a := by
  intro a e
  cases b with
  | false => exact I.dead a e
  | true =>
    refine ⟨I.dead a e, fun q => ?_, fun i hi => ?_⟩
    · obtain ⟨o, h⟩ := I.exl a q; rw [e] at h; cases h
    · obtain ⟨_, _, ⟨o, h⟩, _⟩ := I.own i a hi; rw [e] at h; cases h
theorem vw_p {b : Bool} {a : Addr} (h : Vw fr X b a) : fr.P a := by cases b with | false => exact h | true => exact h.1
theorem vw_and {b c : Bool} {a : Addr} (h : Vw fr X b a) : Vw fr X (b && c) a := by
  cases b with
  | false => exact h
  | true => cases c with | true => exact h | false => exact h.1
theorem vw_and' {b c : Bool} {a : Addr} (h : Vw fr X c a) : Vw fr X (b && c) a := by rw [Bool.and_comm]; exact vw_and h
theorem Is.vand {h : Heap} {v : Value} {d : D} {b : Bool} (c : Bool) (x : Is prog w h (Vw fr X b) v d) : Is prog w h (Vw fr X (b && c)) v d := x.mono fun _ _ p e => ⟨vw_and p, e⟩
theorem Is.vand' {h : Heap} {v : Value} {d : D} {c : Bool} (b : Bool) (x : Is prog w h (Vw fr X c) v d) : Is prog w h (Vw fr X (b && c)) v d := x.mono fun _ _ p e => ⟨vw_and' p, e⟩
theorem IsL.vand {h : Heap} {v : List Value} {d : List D} {b : Bool} (c : Bool) (x : IsL prog w h (Vw fr X b) v d) : IsL prog w h (Vw fr X (b && c)) v d := x.mono fun _ _ p e => ⟨vw_and p, e⟩
theorem IsL.vand' {h : Heap} {v : List Value} {d : List D} {c : Bool} (b : Bool) (x : IsL prog w h (Vw fr X c) v d) : IsL prog w h (Vw fr X (b && c)) v d := x.mono fun _ _ p e => ⟨vw_and' p, e⟩
theorem Is.vor {h : Heap} {v : Value} {d : D} {b : Bool} (x : Is prog w h (Vw fr X b) v d) : Is prog w h (Vw fr X (b || d.scalar)) v d := by
  cases q : d.scalar with
  | true => exact x.scalar q
  | false => rw [Bool.or_false]; exact x
theorem Is.vfull {h : Heap} {v : Value} {d : D} {b : Bool} (x : Is prog w h (Vw fr X b) v d) : Is prog w h fr.P v d := x.mono fun _ _ p e => ⟨vw_p p, e⟩
end
section
variable (prog : Program) (w : World) (K : Frag) (fr : Fm)
abbrev EvQ (X : Nat → List Addr) (s : Shared) (d : D) (b : Bool) : Value → Shared → Prop := fun v s' => Kp s s' ∧ Is prog w s'.heap (Vw fr X b) v d
abbrev EsQ (X : Nat → List Addr) (s : Shared) (n : Nat) (ds : List D) (b : Bool) : List Value → Shared → Prop := fun vs s' => Kp s s' ∧ IsL prog w s'.heap (Vw fr X b) vs ds ∧ vs.length = n
abbrev TrQ (s : Shared) (b : Bool) : Bool → Shared → Prop := fun c s' => Kp s s' ∧ c = b
abbrev VlQ (s : Shared) (P : Addr → Prop) (d : D) : Value → Shared → Prop := fun v s' => Kp s s' ∧ Is prog w s'.heap P v d
end
section
variable (prog : Program) (w : World) (K : Frag) (fr : Fm) (k : Nat)
noncomputable def EvOk (e : Expr) (F : Ev) : Prop := ∀ (A : Around) (E : Value → Shared → Prop) (s : Shared) (σ : St) (X : Nat → List Addr) (d : D) (b : Bool), Ao k A → Inv prog w K fr σ X s → F σ d b →
  wpAny (model prog w) A (eval e fr.env) (EvQ prog w fr X s d b) E s
noncomputable def EsOk (pos : Pos) (es : List Expr) (F : Evs) : Prop := ∀ (A : Around) (E : Value → Shared → Prop) (s : Shared) (σ : St) (X : Nat → List Addr) (ds : List D) (b : Bool), Ao k A → Inv prog w K fr σ X s → F σ ds b →
  wpAny (model prog w) A (spliced (backTo pos (starEach es fr.env))) (EsQ prog w fr X s es.length ds b) E s
noncomputable def TrOk (e : Expr) (F : Tr) : Prop := ∀ (A : Around) (E : Value → Shared → Prop) (s : Shared) (σ : St) (X : Nat → List Addr) (b : Bool), Ao k A → Inv prog w K fr σ X s → F σ b →
  wpAny (model prog w) A (isTrue e fr.env (eval e fr.env)) (TrQ s b) E s
noncomputable def TsOk (op : BoolOp) (es : List Expr) (F : Tr) : Prop := ∀ (A : Around) (E : Value → Shared → Prop) (s : Shared) (σ : St) (X : Nat → List Addr) (b : Bool), Ao k A → Inv prog w K fr σ X s → F σ b →
  wpAny (model prog w) A (allTrue op es fr.env) (TrQ s b) E s
noncomputable def FlOk (h : Heap) : Fl → Flow → Prop
  | .next, f => f = .next
  | .brk, f => f = .brk
  | .cont, f => f = .cont
  | .ret d, f => ∃ v, f = .ret v ∧ Is prog w h fr.P v d
abbrev ExQ (X : Nat → List Addr) (s : Shared) (fl : Fl) (σ' : St) : Flow → Shared → Prop := fun f s' => ∃ X', Step fr X s X' s' ∧ Inv prog w K fr σ' X' s' ∧ FlOk prog w fr s'.heap fl f
noncomputable def ExOk (st : Stmt) (F : Ex) : Prop := ∀ (A : Around) (E : Value → Shared → Prop) (s : Shared) (σ : St) (X : Nat → List Addr) (fl : Fl) (σ' : St), Ao k A → Inv prog w K fr σ X s → F σ fl σ' →
  wpAny (model prog w) A (exec st fr.env) (ExQ prog w K fr X s fl σ') E s
noncomputable def ExsOk (sts : List Stmt) (F : Ex) : Prop := ∀ (A : Around) (E : Value → Shared → Prop) (s : Shared) (σ : St) (X : Nat → List Addr) (fl : Fl) (σ' : St), Ao k A → Inv prog w K fr σ X s → F σ fl σ' →
  wpAny (model prog w) A (execs sts fr.env) (ExQ prog w K fr X s fl σ') E s
end
inductive cK (d : D) (σ : St) : D → Bool → Prop
  | mk : cK d σ d true
inductive cV (i : Nat) (σ : St) : D → Bool → Prop
  | mk {mv : MV} (h : σ[i]? = some (some mv)) : cV i σ mv.dat mv.safe
inductive cNil (σ : St) : List D → Bool → Prop
  | mk : cNil σ [] true
inductive cCons (f : Ev) (g : Evs) (σ : St) : List D → Bool → Prop
  | mk {d : D} {ds : List D} {b c : Bool} (h1 : f σ d b) (h2 : g σ ds c) : cCons f g σ (d :: ds) (b && c)
inductive cTup (g : Evs) (σ : St) : D → Bool → Prop
  | mk {ds : List D} {b : Bool} (h : g σ ds b) : cTup g σ (.tup ds) b
inductive cLst (g : Evs) (σ : St) : D → Bool → Prop
  | mk {ds : List D} {b : Bool} (h : g σ ds b) : cLst g σ (.lst ds) b
inductive cBin (op : D → D → D → Prop) (f g : Ev) (σ : St) : D → Bool → Prop
  | mk {x y d : D} {b c : Bool} (h1 : f σ x b) (h2 : g σ y c) (h3 : op x y d) : cBin op f g σ d ((b && c) || d.scalar)
inductive cUn (op : D → D → Prop) (f : Ev) (σ : St) : D → Bool → Prop
  | mk {x d : D} {b : Bool} (h1 : f σ x b) (h2 : op x d) : cUn op f σ d (b || d.scalar)
inductive cIf (t : Tr) (f g : Ev) (σ : St) : D → Bool → Prop
  | tt {d : D} {b : Bool} (h1 : t σ true) (h2 : f σ d b) : cIf t f g σ d b
  | ff {d : D} {b : Bool} (h1 : t σ false) (h2 : g σ d b) : cIf t f g σ d b
inductive cCmp (op : D → D → Bool → Prop) (f g : Ev) (σ : St) : D → Bool → Prop
  | mk {x y : D} {b c r : Bool} (h1 : f σ x b) (h2 : g σ y c) (h3 : op x y r) : cCmp op f g σ (.bool r) true
inductive tCmp (op : D → D → Bool → Prop) (f g : Ev) (σ : St) : Bool → Prop
  | mk {x y : D} {b c r : Bool} (h1 : f σ x b) (h2 : g σ y c) (h3 : op x y r) : tCmp op f g σ r
inductive tNot (t : Tr) (σ : St) : Bool → Prop
  | mk {b : Bool} (h : t σ b) : tNot t σ (!b)
inductive tVal (tr : D → Bool → Prop) (f : Ev) (σ : St) : Bool → Prop
  | mk {x : D} {b r : Bool} (h1 : f σ x b) (h2 : tr x r) : tVal tr f σ r
inductive tNil (op : BoolOp) (σ : St) : Bool → Prop
  | mk : tNil op σ (op == .And)
inductive tAnd (t u : Tr) (σ : St) : Bool → Prop
  | ff (h : t σ false) : tAnd t u σ false
  | tt {b : Bool} (h1 : t σ true) (h2 : u σ b) : tAnd t u σ b
inductive tOr (t u : Tr) (σ : St) : Bool → Prop
  | tt (h : t σ true) : tOr t u σ true
  | ff {b : Bool} (h1 : t σ false) (h2 : u σ b) : tOr t u σ b
inductive xNil (σ : St) : Fl → St → Prop
  | mk : xNil σ .next σ
inductive xCons (f g : Ex) (σ : St) : Fl → St → Prop
  | go {σ1 σ2 : St} {fl : Fl} (h1 : f σ .next σ1) (h2 : g σ1 fl σ2) : xCons f g σ fl σ2
  | out {σ1 : St} {fl : Fl} (h : f σ fl σ1) (n : fl ≠ .next) : xCons f g σ fl σ1
inductive xIf (t : Tr) (f g : Ex) (σ : St) : Fl → St → Prop
  | tt {σ1 : St} {fl : Fl} (h1 : t σ true) (h2 : f σ fl σ1) : xIf t f g σ fl σ1
  | ff {σ1 : St} {fl : Fl} (h1 : t σ false) (h2 : g σ fl σ1) : xIf t f g σ fl σ1
inductive xRet (f : Ev) (σ : St) : Fl → St → Prop
  | mk {d : D} {b : Bool} (h : f σ d b) : xRet f σ (.ret d) σ
inductive xBrk (σ : St) : Fl → St → Prop
  | mk : xBrk σ .brk σ
inductive xCont (σ : St) : Fl → St → Prop
  | mk : xCont σ .cont σ
inductive xAsg (i : Nat) (f : Ev) (σ : St) : Fl → St → Prop
  | mk {d : D} (h : f σ d true) : xAsg i f σ .next (σ.set i (some (.froz d)))
section
variable {prog : Program} {w : World} {K : Frag} {fr : Fm} {k : Nat}
theorem wpKp {α : Type} {M : Model} {A : Around} {t : Sem α} {Q Q' : α → Shared → Prop} {E : Value → Shared → Prop} {s : Shared} (h : wpAny M A t Q E s) (f : ∀ a s', Q a s' → Q' a s') : wpAny M A t Q' E s := wpAny_mono h f fun _ _ e => e
theorem ev_int {i : Int} {n : Nat} {pos : Pos} : EvOk prog w K fr k (.Constant (.int i) n pos) (cK (.int i)) := by
  intro A E s σ X d b _ _ h; cases h
  exact wpAny_Constant_int ⟨.toks _, .int _ _⟩
theorem ev_str {x : Str} {n : Nat} {pos : Pos} : EvOk prog w K fr k (.Constant (.str x) n pos) (cK (.str x)) := by
  intro A E s σ X d b _ _ h; cases h
  exact wpAny_Constant_str ⟨.toks _, .str _ _⟩
theorem ev_bool {b : Bool} {n : Nat} {pos : Pos} : EvOk prog w K fr k (.Constant (.bool b) n pos) (cK (.bool b)) := by
  intro A E s σ X d b _ _ h; cases h
  exact wpAny_Constant_bool ⟨.refl _, .bool _⟩
theorem ev_bytes {b : List UInt8} {n : Nat} {pos : Pos} : EvOk prog w K fr k (.Constant (.bytes b) n pos) (cK (.bytes b.toArray)) := by
  intro A E s σ X d b _ _ h; cases h
  show wpAny _ _ (mkTextBytes b.toArray) _ _ _
  exact wpAny_bind (wpAny_fresh (wpAny_pure ⟨.toks _, .bytes _ _⟩))
theorem inner_dat {h : Heap} {P P' : Addr → Prop} (k : ∀ a, P a → P' a) : ∀ {as : List Addr} {vs : List Value} {xss : List (List D)}, (∀ a ∈ as, P' a) → Inner prog w h P as vs xss → IsL prog w h P' vs (xss.map .lst)
  | [], [], [], _, _ => .nil
  | a :: as, v :: vs, xs :: xss, q, ⟨e, ⟨us, n, o, r⟩, z⟩ => by
    subst e
    exact .cons (.lst (q a (.head _)) o (r.mono fun _ _ p e => ⟨k _ p, e⟩)) (inner_dat k (fun b hb => q b (.tail _ hb)) z)
  | [], [], _ :: _, _, h => h.elim
  | [], _ :: _, _, _, h => by cases h
  | _ :: _, [], _, _, h => by cases h
  | _ :: _, _ :: _, [], _, h => h.elim
theorem Rep.dat {h : Heap} {P P' : Addr → Prop} {Y : List Addr} {v : Value} {mv : MV} (k : ∀ a, P a → P' a) (q : ∀ a ∈ Y, P' a) (x : Rep prog w h P Y v mv) : Is prog w h P' v mv.dat := by
  cases mv with
  | froz d => exact x.2.mono fun _ _ p e => ⟨k _ p, e⟩
  | ownL xs => obtain ⟨a, vs, n, rfl, rfl, o, r⟩ := x; exact .lst (q a (.head _)) o (r.mono fun _ _ p e => ⟨k _ p, e⟩)
  | ownN xss => obtain ⟨a, as, vs, n, rfl, nd, rfl, o, r⟩ := x; exact .lst (q a (.head _)) o (inner_dat k (fun b hb => q b (.tail _ hb)) r)
  | ownI ks xs => obtain ⟨a, kvs, rfl, rfl, z, o, kk, r⟩ := x; exact .dctI (q a (.head _)) z o kk (r.mono fun _ _ p e => ⟨k _ p, e⟩)
  | ownS ks xs => obtain ⟨a, kvs, rfl, rfl, z, o, kk, r⟩ := x; exact .dctS (q a (.head _)) z o kk (r.mono fun _ _ p e => ⟨k _ p, e⟩)
  | ownW C ks xs => obtain ⟨a, dx, kvs, rfl, ne, rfl, o, od, kk, r⟩ := x; exact .inst (q a (.head _)) (q dx (.tail _ (.head _))) o od kk (r.mono fun _ _ p e => ⟨k _ p, e⟩)
theorem load_var {A : Around} {E : Value → Shared → Prop} {s : Shared} {x : Str} {kd : NameKind} {v : Value} {Q : Value → Shared → Prop} {env : Env} (hk : env.scope.kind = .function) (hl : env.scope.names.lookup x = some kd) (hv : VarAt s.heap env x kd v) (h : Q v s) :
    wpAny (model prog w) A (loadName env x) Q E s := by
  unfold VarAt at hv
  split at hv
  · obtain ⟨m, hn, e⟩ := hv
    exact wpAny_loadName_local hk hl hn e h
  · obtain ⟨c, o, hc, ho, hd⟩ := hv
    unfold loadName
    have ha : env.scope.kind.isAnnotationScope = false := by rw [hk]; rfl
    have hb : env.blockKind = .function := by unfold Env.blockKind; rw [ha]; exact hk
    have hkk : env.kindOf x = some .cell := hl
    simp only [ha, Bool.false_and, Bool.false_eq_true, if_false, hb, hkk]
    refine wpAny_bind ?_
    unfold cellOf
    rw [hc]
    refine wpAny_pure (wpAny_bind ?_)
    unfold cellGet
    refine wpAny_bind (wpAny_load ho ?_)
    rw [hd]
    exact wpAny_pure (wpAny_pure h)
  · exact hv.elim
theorem lookup_at : ∀ {l : List (Str × NameKind)} {i : Nat} {x : Str} {kd : NameKind}, (l.map (·.1)).Nodup → l[i]? = some (x, kd) → l.lookup x = some kd
  | (y, kd') :: l, 0, x, kd, _, e => by
    cases e; rw [List.lookup_cons]; simp
  | (y, kd') :: l, i + 1, x, kd, nd, e => by
    rw [List.map_cons, List.nodup_cons] at nd
    have e' : l[i]? = some (x, kd) := by simpa using e
    have hm : x ∈ l.map (·.1) := List.mem_map.mpr ⟨_, List.mem_of_getElem? e', rfl⟩
    have : (x == y) = false := by
      cases q : (x == y) with
      | false => rfl
      | true => rw [eq_of_beq q] at hm; exact absurd hm nd.1
    rw [List.lookup_cons, this]
    exact lookup_at nd.2 e'
theorem ev_var {i : Nat} {x : Str} {kd : NameKind} {pos : Pos} (hi : fr.env.scope.names[i]? = some (x, kd)) (hd : (x == ("__debug__" : Str)) = false) : EvOk prog w K fr k (.Name x pos) (cV i) := by
  rintro A E s σ X _ _ _ I ⟨e⟩
  rename_i mv
  obtain ⟨x', kd', v, a, b, c⟩ := I.vars i mv e
  rw [hi] at a
  cases a
  refine wpAny_Name (load_var I.hk (lookup_at I.nd hi) b ⟨.refl _, ?_⟩) hd
  cases mv with
  | froz d => exact c.2
  | _ => exact c.dat (fun _ p => p.1) fun a ha => (I.own i a ha).2.1
theorem es_nil {pos : Pos} : EsOk prog w K fr k pos [] cNil := by
  rintro A E s σ X _ _ _ I ⟨⟩
  exact wpAny_items_nil ⟨.refl _, .nil, rfl⟩
theorem es_cons {pos : Pos} {e : Expr} {es : List Expr} {f : Ev} {g : Evs} (hf : EvOk prog w K fr k e f) (hg : EsOk prog w K fr k pos es g) (hs : starEach (e :: es) fr.env = (false, eval e fr.env) :: starEach es fr.env) :
    EsOk prog w K fr k pos (e :: es) (cCons f g) := by
  rintro A E s σ X _ _ a I ⟨h1, h2⟩
  exact wpAny_items_cons (wpKp (hf A E s σ X _ _ a I h1) fun v s1 q1 => wpKp (hg A E s1 σ X _ _ a (I.step q1.1) h2) fun vs s2 q2 => ⟨q1.1.trans q2.1, .cons ((q1.2.keeps q2.1).vand _) (q2.2.1.vand' _), by rw [List.length_cons, q2.2.2]; rfl⟩) hs
theorem ev_tup {pos : Pos} {n : Nat} {es : List Expr} {g : Evs} (hg : EsOk prog w K fr k pos es g) (hl : es.length ≤ 100) : EvOk prog w K fr k (.Tuple es n pos) (cTup g) := by
  rintro A E s σ X _ _ a I ⟨h1⟩
  refine wpAny_Tuple (wpKp (hg A E s σ X _ _ a I h1) fun vs s1 q1 => ⟨by rw [q1.2.2]; exact Nat.le_trans hl (by decide), q1.1.trans (.push _ _), ?_⟩)
  exact .tup (vw_dead (I.step q1.1) _ _ (by
    cases e : s1.heap.get? s1.heap.objs.size with
    | none => rfl
    | some o => exact absurd (Heap.lt_size e) (Nat.lt_irrefl _))) (Heap.get?_push_size _ rfl) (q1.2.1.keeps (.push _ s1.toks))
theorem dead_size (h : Heap) : h.get? h.objs.size = none := by
  cases e : h.get? h.objs.size with
  | none => rfl
  | some o => exact absurd (Heap.lt_size e) (Nat.lt_irrefl _)
abbrev Ls := Evs
variable (prog w K fr k) in
noncomputable def LsOk (e : Expr) (F : Ls) : Prop := ∀ (A : Around) (E : Value → Shared → Prop) (s : Shared) (σ : St) (X : Nat → List Addr) (ds : List D) (b : Bool), Ao k A → Inv prog w K fr σ X s → F σ ds b →
  wpAny (model prog w) A (eval e fr.env) (fun v s' => Kp s s' ∧ ∃ a vs n, v = .ref a ∧ s.heap.get? a = none ∧ s'.heap.get? a = some (lstO vs n) ∧ IsL prog w s'.heap (fun c => Vw fr X b c ∧ c ≠ a) vs ds) E s
theorem IsL.off {h : Heap} {P : Addr → Prop} {vs : List Value} {xs : List D} (x : IsL prog w h P vs xs) {a : Addr} (e : h.get? a = none) : IsL prog w h (fun b => P b ∧ b ≠ a) vs xs :=
  x.mono fun b o p q => ⟨⟨p, fun z => by rw [z, e] at q; cases q⟩, q⟩
theorem ls_list {pos : Pos} {es : List Expr} {g : Evs} (hg : EsOk prog w K fr k pos es g) (hl : es.length ≤ 100) : LsOk prog w K fr k (.List es pos) g := by
  intro A E s σ X ds b a I h
  refine wpAny_List (wpKp (hg A E s σ X ds b a I h) fun vs s1 q1 => ⟨by rw [q1.2.2]; exact Nat.le_trans hl (by decide), q1.1.trans (.push _ _), _, vs, 0, rfl, q1.1.alive (dead_size _), Heap.get?_push_size _ rfl, ?_⟩)
  exact (q1.2.1.off (dead_size _)).keeps (.push _ s1.toks)
theorem ev_ls {e : Expr} {g : Ls} (hg : LsOk prog w K fr k e g) : EvOk prog w K fr k e (cLst g) := by
  rintro A E s σ X _ _ a I ⟨h1⟩
  refine wpKp (hg A E s σ X _ _ a I h1) fun v s1 q1 => ⟨q1.1, ?_⟩
  obtain ⟨_, b, vs, n, rfl, hd, ho, r⟩ := q1
  exact .lst (vw_dead I _ _ hd) ho (r.mono fun _ _ p e => ⟨p.1, e⟩)
variable (prog w) in
noncomputable def BinOk (op : Operator) (f : D → D → D → Prop) : Prop := ∀ (A : Around) (E : Value → Shared → Prop) (s : Shared) (P : Addr → Prop) (v1 v2 : Value) (d1 d2 d : D), Ao 0 A → (∀ a, s.heap.get? a = none → P a) → Is prog w s.heap P v1 d1 → Is prog w s.heap P v2 d2 → f d1 d2 d →
  wpAny (model prog w) A (binaryOp op v1 v2) (VlQ prog w s P d) E s
theorem ev_bin {op : Operator} {f : D → D → D → Prop} {l r : Expr} {pos : Pos} {g h : Ev} (ho : BinOk prog w op f) (hl : EvOk prog w K fr k l g) (hr : EvOk prog w K fr k r h) : EvOk prog w K fr k (.BinOp l op r pos) (cBin f g h) := by
  rintro A E s σ X _ _ a I ⟨h1, h2, h3⟩
  refine wpAny_BinOp (wpKp (hl A E s σ X _ _ a I h1) fun v1 s1 q1 => wpKp (hr A E s1 σ X _ _ a (I.step q1.1) h2) fun v2 s2 q2 => ?_)
  exact wpKp (ho A E s2 _ v1 v2 _ _ _ (a.mono (Nat.zero_le _)) (vw_dead ((I.step q1.1).step q2.1) _) ((q1.2.keeps q2.1).vand _) (q2.2.vand' _) h3) fun v s3 q3 => ⟨(q1.1.trans q2.1).trans q3.1, q3.2.vor⟩
noncomputable def smallI (a : Int) : Bool := decide (a.natAbs < 1000000000)
theorem smallI_bits {a : Int} (h : smallI a = true) : Builtin.Int.intBits a ≤ 64 := by
  have := of_decide_eq_true h
  exact intBits_le_64 (by lia) (by lia)
inductive addD : D → D → D → Prop
  | int {a b : Int} : addD (.int a) (.int b) (.int (a + b))
  | str {a b : Str} (h : a.length + b.length ≤ 1000000) : addD (.str a) (.str b) (.str (a ++ b))
  | lst {a b : List D} (h : a.length + b.length ≤ 1000000) : addD (.lst a) (.lst b) (.lst (a ++ b))
inductive subD : D → D → D → Prop
  | int {a b : Int} : subD (.int a) (.int b) (.int (a - b))
inductive mulD : D → D → D → Prop
  | int {a b : Int} (h : smallI a = true) : mulD (.int a) (.int b) (.int (a * b))
  | str {x : Str} {n : Int} (h : x.length * n.toNat ≤ 1000000) (h2 : smallI n = true) : mulD (.str x) (.int n) (.str (Txt.mul x n))
  | lst {xs : List D} {n : Int} (h : xs.length * n.toNat ≤ 1000000) (h2 : smallI n = true) : mulD (.lst xs) (.int n) (.lst (List.replicate n.toNat xs).flatten)
inductive divD : D → D → D → Prop
  | int {a b : Int} (h : b ≠ 0) (h2 : smallI b = true) : divD (.int a) (.int b) (.int (a.fdiv b))
inductive modD : D → D → D → Prop
  | int {a b : Int} (h : b ≠ 0) : modD (.int a) (.int b) (.int (a.fmod b))
theorem bin_sub : BinOk prog w .Sub subD := by
  rintro A E s P v1 v2 _ _ _ _ _ x y ⟨⟩
  obtain ⟨t, rfl⟩ := x.int'; obtain ⟨u, rfl⟩ := y.int'
  exact PySem.P.sub_int ⟨.toks _, .int _ _⟩
theorem bin_div : BinOk prog w .FloorDiv divD := by
  rintro A E s P v1 v2 _ _ _ _ _ x y ⟨hb, h2⟩
  obtain ⟨t, rfl⟩ := x.int'; obtain ⟨u, rfl⟩ := y.int'
  exact floordiv_int hb ⟨.toks _, .int _ _⟩ (.inl (PyProof.noPylong_small (by have := of_decide_eq_true h2; lia)))
theorem bin_mod : BinOk prog w .Mod modD := by
  rintro A E s P v1 v2 _ _ _ _ _ x y ⟨hb⟩
  obtain ⟨t, rfl⟩ := x.int'; obtain ⟨u, rfl⟩ := y.int'
  exact mod_int' hb ⟨.toks _, .int _ _⟩
theorem bin_add : BinOk prog w .Add addD := by
  intro A E s P v1 v2 d1 d2 d _ dead x y h
  cases h with
  | int =>
    obtain ⟨t, rfl⟩ := x.int'; obtain ⟨u, rfl⟩ := y.int'
    exact PySem.P.add_int ⟨.toks _, .int _ _⟩
  | str hs =>
    obtain ⟨t, rfl⟩ := x.str'; obtain ⟨u, rfl⟩ := y.str'
    exact wpAny_with_toks (Nat.le_refl s.toks) (SB.add (fun t' k htk => ⟨.toks _, .str _ _⟩) (Nat.le_trans hs (by decide)))
  | lst hs =>
    obtain ⟨a, vs, n, rfl, pa, ho, r⟩ := x.lst'
    obtain ⟨b, us, m, rfl, pb, ho2, r2⟩ := y.lst'
    have e1 := r.length; have e2 := r2.length
    refine PySem.P.add_list ho ho2 ?_ (by simp only [List.size_toArray]; exact Nat.le_trans (by lia) (show 1000000 ≤ sizeLine by decide))
    rw [List.append_toArray]
    exact ⟨.push _ _, .lst (dead _ (dead_size _)) (Heap.get?_push_size _ rfl) ((r.append r2).keeps (.push _ s.toks))⟩
theorem foldl_flat (l : List (List Value)) : ∀ acc : Array Value, List.foldl (fun x1 x2 => x1 ++ x2) acc (l.map List.toArray) = acc ++ l.flatten.toArray := by
  induction l with
  | nil => intro acc; simp
  | cons x l ih => intro acc; simp only [List.map_cons, List.foldl_cons, ih, List.flatten_cons]; simp
theorem IsL.rep {h : Heap} {P : Addr → Prop} {vs : List Value} {xs : List D} (r : IsL prog w h P vs xs) : ∀ n, IsL prog w h P (List.replicate n vs).flatten (List.replicate n xs).flatten
  | 0 => .nil
  | n + 1 => by rw [List.replicate_succ, List.replicate_succ, List.flatten_cons, List.flatten_cons]; exact r.append (r.rep n)
theorem mul_at {A : Around} {E : Value → Shared → Prop} {s : Shared} {l : Addr} {vs : List Value} {k : Nat} {x : Int} {u : Tok} {Q : Value → Shared → Prop}
    (hl : s.heap.get? l = some (lstO vs k)) (hx : smallI x = true) (hsz : vs.length * x.toNat ≤ 1000000)
    (h : Q (.ref s.heap.objs.size) { s with heap := s.heap.push (lstO (List.replicate x.toNat vs).flatten 0) }) :
    wpAny (model prog w) A (binaryOp .Mult (.ref l) (.int x u)) Q E s := by
  have hx := of_decide_eq_true hx
  have e : List.foldl (fun x1 x2 => x1 ++ x2) #[] (List.replicate (if vs.toArray.isEmpty = true then 0 else x.toNat) vs.toArray) = (List.replicate x.toNat vs).flatten.toArray := by
    cases vs with
    | nil => simp
    | cons v vs =>
      have q : List.replicate x.toNat (v :: vs).toArray = (List.replicate x.toNat (v :: vs)).map List.toArray := by simp
      simp only [List.isEmpty_toArray, List.isEmpty_cons, Bool.false_eq_true, if_false]
      rw [q, foldl_flat]; simp
  have hl2 : s.heap.get? l = some { cls := .type "list", dict := none, data := .seq vs.toArray k, slots := #[] } := hl
  refine wpAny_binaryOp_repeat_ref (T := "list") (U := "int") (by decide) ⟨_, hl, rfl⟩ (fun s' => typeIs_int s' x u) noFill_list_mul F.fills_int_mul F.slot_int_rmul repeat_list F.slot_int_index.lookup
    (call_meets F.slot_int_rmul (typeIs_int s x u) F.entry_int_rmul (F.args_int_rmul_2 _ _) (int___rmul___int_list x u l vs.toArray k)
      ⟨hl2, rfl, ⟨_, hl, rfl⟩, call_meets F.slot_list_mul ⟨_, hl, rfl⟩ F.entry_list_mul (F.args_list_mul_2 _ _)
        (AutoListH.list___mul___list_int_3 l vs.toArray k x u (by simp [Builtin.List.listFitsIndex]; lia) (by simp only [List.size_toArray]; lia) (by simp [Builtin.List.listTooLong, sizeLine]; lia))
        ⟨hl2, ?_⟩⟩)
  rw [e]
  exact h
theorem bin_mul : BinOk prog w .Mult mulD := by
  intro A E s P v1 v2 d1 d2 d _ dead x y h
  cases h with
  | int hs =>
    obtain ⟨t, rfl⟩ := x.int'; obtain ⟨u, rfl⟩ := y.int'
    exact PySem.P.mul_int ⟨.toks _, .int _ _⟩ (.of_left (smallI_bits hs))
  | str h1 h2 =>
    rename_i z n
    obtain ⟨t, rfl⟩ := x.str'; obtain ⟨u, rfl⟩ := y.int'
    have hn := of_decide_eq_true h2
    refine wpAny_with_toks (Nat.le_refl s.toks) (SB.mul ⟨?_, fun g1 _ => ?_, fun g1 _ => ?_⟩ (fun t' k htk => ⟨.toks _, .str _ _⟩))
    · rw [Bool.or_eq_false_iff]; exact ⟨decide_eq_false (by lia), decide_eq_false (by lia)⟩
    · have h3 : ((z.length * n.toNat : Nat) : Int) ≤ ((1000000 : Nat) : Int) := Int.ofNat_le.mpr h1
      rw [Int.natCast_mul, Int.toNat_of_nonneg (by lia)] at h3
      have h4 : ((z.length : Int)) ≤ (2 ^ 63 - 1) / n := (Int.le_ediv_iff_mul_le (by lia)).mpr (by lia)
      lia
    · unfold Builtin.Str.tooLong; exact decide_eq_false (Nat.not_lt.mpr (Nat.le_trans h1 (by decide)))
  | lst h1 h2 =>
    obtain ⟨a, vs, n, rfl, pa, ho, r⟩ := x.lst'; obtain ⟨u, rfl⟩ := y.int'
    refine mul_at ho h2 (by rw [r.length]; exact h1) ⟨.push _ _, ?_⟩
    exact .lst (dead _ (dead_size _)) (Heap.get?_push_size _ rfl) ((r.rep _).keeps (.push _ s.toks))
variable (prog w) in
noncomputable def CmpOk (op : CmpOp) (f : D → D → Bool → Prop) : Prop := ∀ (A : Around) (E : Value → Shared → Prop) (s : Shared) (P : Addr → Prop) (v1 v2 : Value) (d1 d2 : D) (b : Bool), Ao 0 A → Is prog w s.heap P v1 d1 → Is prog w s.heap P v2 d2 → f d1 d2 b →
  wpAny (model prog w) A (compareOp op v1 v2) (fun v s' => Kp s s' ∧ v = .bool b) E s
end
inductive eqD : Nat → D → D → Bool → Prop
  | int {n : Nat} {a b : Int} : eqD n (.int a) (.int b) (a == b)
  | str {n : Nat} {a b : Str} : eqD n (.str a) (.str b) (a == b)
  | lst {n : Nat} {xs ys : List D} (e : Nat → Bool) (hl : xs.length = ys.length) (h : ∀ (j : Nat) (x y : D), xs[j]? = some x → ys[j]? = some y → eqD n x y (e j)) : eqD (n + 1) (.lst xs) (.lst ys) ((List.range xs.length).all e)
  | lstN {n : Nat} {xs ys : List D} (hl : xs.length ≠ ys.length) : eqD (n + 1) (.lst xs) (.lst ys) false
  | tup {n : Nat} {xs ys : List D} (e : Nat → Bool) (h : ∀ (j : Nat) (x y : D), xs[j]? = some x → ys[j]? = some y → eqD n x y (e j)) : eqD (n + 1) (.tup xs) (.tup ys) ((List.range (min xs.length ys.length)).all e && xs.length == ys.length)
section
variable {prog : Program} {w : World} {K : Frag} {fr : Fm} {k : Nat}
theorem all_same {h : Heap} {P P' : Addr → Prop} {vs : List Value} {xs ys : List D} {e : Nat → Bool} (r : IsL prog w h P vs xs) (r' : IsL prog w h P' vs ys) (n : Nat) (hn : n ≤ vs.length) (ih : ∀ (j : Nat) (x y : D), xs[j]? = some x → ys[j]? = some y → ∀ v, Is prog w h P v x → Is prog w h P' v y → e j = true) : (List.range n).all e = true := by
  rw [List.all_eq_true]
  intro j hj
  have hj : j < vs.length := Nat.lt_of_lt_of_le (List.mem_range.mp hj) hn
  obtain ⟨d, hd, x⟩ := r.get' (List.getElem?_eq_getElem hj)
  obtain ⟨d', hd', y⟩ := r'.get' (List.getElem?_eq_getElem hj)
  exact ih j d d' hd hd' _ x y
theorem seq_same {h : Heap} {a : Addr} {o1 o2 : Obj} {vs us : List Value} {m m' : Nat} (e1 : o1.data = .seq vs.toArray m) (e2 : o2.data = .seq us.toArray m') (o : h.get? a = some o1) (o' : h.get? a = some o2) : vs = us := by
  rw [o] at o'
  obtain rfl := Option.some.inj o'
  rw [e1] at e2
  injection e2 with e2 _
  simpa using e2
theorem eqD_same {h : Heap} {P P' : Addr → Prop} {n : Nat} {d1 d2 : D} {b : Bool} (e : eqD n d1 d2 b) : ∀ (v : Value), Is prog w h P v d1 → Is prog w h P' v d2 → b = true := by
  induction e with
  | int => intro v x y; obtain ⟨t, rfl⟩ := x.int'; obtain ⟨u, q⟩ := y.int'; injection q with q _; subst q; simp
  | str => intro v x y; obtain ⟨t, rfl⟩ := x.str'; obtain ⟨u, q⟩ := y.str'; injection q with q _; subst q; simp
  | lst e hl _ ih =>
    intro v x y
    obtain ⟨a, vs, m, rfl, _, o, r⟩ := x.lst'
    obtain ⟨a', us, m', e', _, o', r'⟩ := y.lst'
    injection e' with e'; subst e'
    obtain rfl := seq_same rfl rfl o o'
    exact all_same r r' _ (Nat.le_of_eq r.length.symm) ih
  | lstN hl =>
    intro v x y
    obtain ⟨a, vs, m, rfl, _, o, r⟩ := x.lst'
    obtain ⟨a', us, m', e', _, o', r'⟩ := y.lst'
    injection e' with e'; subst e'
    obtain rfl := seq_same rfl rfl o o'
    exact absurd (r.length.symm.trans r'.length) hl
  | tup e _ ih =>
    intro v x y
    obtain ⟨a, vs, m, rfl, _, o, r⟩ := x.tup'
    obtain ⟨a', us, m', e', _, o', r'⟩ := y.tup'
    injection e' with e'; subst e'
    obtain rfl := seq_same rfl rfl o o'
    rw [all_same r r' _ (Nat.le_trans (Nat.min_le_left _ _) (Nat.le_of_eq r.length.symm)) ih, r.length.symm.trans r'.length]; simp
open PySem.SeqAt in
theorem eqD_ok {P P' : Addr → Prop} {s : Shared} {n : Nat} {d1 d2 : D} {b : Bool} (e : eqD n d1 d2 b) : ∀ (A : Around) (v1 v2 : Value), A.units + n + 1 < cLine → Is prog w s.heap P v1 d1 → Is prog w s.heap P' v2 d2 →
    RcAt A s v1 v2 b ∧ EqAt A s v1 v2 b := by
  have fin : ∀ {A : Around} {a a' : Addr} {b : Bool}, (Value.ref a = .ref a' → b = true) → RcAt A s (.ref a) (.ref a') b → RcAt A s (.ref a) (.ref a') b ∧ EqAt A s (.ref a) (.ref a') b := by
    intro A a a' b q rc
    refine ⟨rc, ?_⟩
    by_cases hne : a = a'
    · subst hne
      rw [q rfl]; exact .same _
    · exact .of_refs hne rc
  induction e with
  | int => intro A v1 v2 _ x y; obtain ⟨t, rfl⟩ := x.int'; obtain ⟨u, rfl⟩ := y.int'; exact ⟨.int_int _ _ _ _, .int_int _ _ _ _⟩
  | str => intro A v1 v2 _ x y; obtain ⟨t, rfl⟩ := x.str'; obtain ⟨u, rfl⟩ := y.str'; exact ⟨.str_str _ _ _ _, .str_str _ _ _ _⟩
  | lst e hl h ih =>
    intro A v1 v2 hu x y
    have same := eqD_same (P' := P') (.lst e hl h) v1 x
    obtain ⟨a, vs, m, rfl, _, o, r⟩ := x.lst'
    obtain ⟨a', us, m', rfl, _, o', r'⟩ := id y.lst'
    have rc := RcAt.lists (A := A) (s := s) (l := a) (b := a') (items := vs.toArray) (items2 := us.toArray) (e := e) ⟨_, o, rfl, _, rfl⟩ ⟨_, o', rfl, _, rfl⟩ (by simp [r.length, r'.length, hl]) (by lia) (fun j h1 h2 => by
      simp only [List.size_toArray] at h1 h2
      obtain ⟨d, hd, x⟩ := r.get' (List.getElem?_eq_getElem h1)
      obtain ⟨d', hd', y⟩ := r'.get' (List.getElem?_eq_getElem h2)
      exact (ih j d d' hd hd' A.in1 _ _ (by show A.units + 1 + _ + 1 < _; lia) x y).2)
    simp only [List.size_toArray, r.length] at rc
    exact fin (fun q => same (q ▸ y)) rc
  | lstN hl =>
    intro A v1 v2 hu x y
    have same := eqD_same (P' := P') (.lstN (n := 0) hl) v1 x
    obtain ⟨a, vs, m, rfl, _, o, r⟩ := x.lst'
    obtain ⟨a', us, m', rfl, _, o', r'⟩ := id y.lst'
    exact fin (fun q => same (q ▸ y)) (RcAt.lists_lengths (items := vs.toArray) (items2 := us.toArray) ⟨_, o, rfl, _, rfl⟩ ⟨_, o', rfl, _, rfl⟩ (by simp [r.length, r'.length, hl]) (by lia))
  | tup e h ih =>
    intro A v1 v2 hu x y
    have same := eqD_same (P' := P') (.tup e h) v1 x
    obtain ⟨a, vs, m, rfl, _, o, r⟩ := x.tup'
    obtain ⟨a', us, m', rfl, _, o', r'⟩ := id y.tup'
    have rc := RcAt.tuples (A := A) (s := s) (l := a) (b := a') (items := vs.toArray) (items2 := us.toArray) (e := e) ⟨_, o, rfl, _, rfl⟩ ⟨_, o', rfl, _, rfl⟩ (by lia) (fun j h1 h2 => by
      simp only [List.size_toArray] at h1 h2
      obtain ⟨d, hd, x⟩ := r.get' (List.getElem?_eq_getElem h1)
      obtain ⟨d', hd', y⟩ := r'.get' (List.getElem?_eq_getElem h2)
      exact (ih j d d' hd hd' A.in1 _ _ (by show A.units + 1 + _ + 1 < _; lia) x y).2)
    simp only [List.size_toArray, r.length, r'.length] at rc
    exact fin (fun q => same (q ▸ y)) rc
open PySem.SeqAt in
theorem neD_ok {P P' : Addr → Prop} {s : Shared} {n : Nat} {d1 d2 : D} {b : Bool} (e : eqD n d1 d2 b) (A : Around) (v1 v2 : Value) (hu : A.units + n + 1 < cLine) (x : Is prog w s.heap P v1 d1) (y : Is prog w s.heap P' v2 d2) : RcNeAt A s v1 v2 (!b) := by
  cases e with
  | int => obtain ⟨t, rfl⟩ := x.int'; obtain ⟨u, rfl⟩ := y.int'; exact .int_int _ _ _ _
  | str => obtain ⟨t, rfl⟩ := x.str'; obtain ⟨u, rfl⟩ := y.str'; exact .str_str _ _ _ _
  | lst e hl h =>
    obtain ⟨a, vs, m, rfl, _, o, r⟩ := x.lst'
    obtain ⟨a', us, m', rfl, _, o', r'⟩ := y.lst'
    have rc := RcNeAt.lists (A := A) (s := s) (l := a) (b := a') (items := vs.toArray) (items2 := us.toArray) (e := e) ⟨_, o, rfl, _, rfl⟩ ⟨_, o', rfl, _, rfl⟩ (by simp [r.length, r'.length, hl]) (by lia) (fun j h1 h2 => by
      simp only [List.size_toArray] at h1 h2
      obtain ⟨d, hd, x⟩ := r.get' (List.getElem?_eq_getElem h1)
      obtain ⟨d', hd', y⟩ := r'.get' (List.getElem?_eq_getElem h2)
      exact (eqD_ok (h j d d' hd hd') A.in1 _ _ (by show A.units + 1 + _ + 1 < _; lia) x y).2)
    simp only [List.size_toArray, r.length] at rc
    exact rc
  | lstN hl =>
    obtain ⟨a, vs, m, rfl, _, o, r⟩ := x.lst'
    obtain ⟨a', us, m', rfl, _, o', r'⟩ := y.lst'
    exact RcNeAt.lists_lengths (items := vs.toArray) (items2 := us.toArray) ⟨_, o, rfl, _, rfl⟩ ⟨_, o', rfl, _, rfl⟩ (by simp [r.length, r'.length, hl]) (by lia)
  | tup e h =>
    obtain ⟨a, vs, m, rfl, _, o, r⟩ := x.tup'
    obtain ⟨a', us, m', rfl, _, o', r'⟩ := y.tup'
    have rc := RcNeAt.tuples (A := A) (s := s) (l := a) (b := a') (items := vs.toArray) (items2 := us.toArray) (e := e) ⟨_, o, rfl, _, rfl⟩ ⟨_, o', rfl, _, rfl⟩ (by lia) (fun j h1 h2 => by
      simp only [List.size_toArray] at h1 h2
      obtain ⟨d, hd, x⟩ := r.get' (List.getElem?_eq_getElem h1)
      obtain ⟨d', hd', y⟩ := r'.get' (List.getElem?_eq_getElem h2)
      exact (eqD_ok (h j d d' hd hd') A.in1 _ _ (by show A.units + 1 + _ + 1 < _; lia) x y).2)
    simp only [List.size_toArray, r.length, r'.length] at rc
    exact rc
noncomputable def valI (ks : List Int) (vs : List D) (k : Int) : Option D := ((ks.zip vs).find? fun p => p.1 = k).map (·.2)
inductive eqDct (kb : List Int) (vb : List D) : List Int → List D → Bool → Prop
  | nil {vs : List D} : eqDct kb vb [] vs true
  | miss {k : Int} {v : D} {ks : List Int} {vs : List D} (h : valI kb vb k = none) : eqDct kb vb (k :: ks) (v :: vs) false
  | hit {k : Int} {v y : D} {ks : List Int} {vs : List D} {b c : Bool} (h : valI kb vb k = some y) (h1 : eqD 4 v y b) (r : eqDct kb vb ks vs c) : eqDct kb vb (k :: ks) (v :: vs) (b && c)
inductive eqT : D → D → Bool → Prop
  | dct {ka kb : List Int} {va vb : List D} {b : Bool} (hl : ka.length = kb.length) (h : eqDct kb vb ka va b) : eqT (.dctI ka va) (.dctI kb vb) b
  | dctN {ka kb : List Int} {va vb : List D} (hl : ka.length ≠ kb.length) : eqT (.dctI ka va) (.dctI kb vb) false
  | bool {a b : Bool} : eqT (.bool a) (.bool b) (a == b)
  | gen {x y : D} {b : Bool} (h : eqD 8 x y b) : eqT x y b
inductive neT : D → D → Bool → Prop
  | mk {x y : D} {b : Bool} (h : eqT x y b) : neT x y (!b)
theorem find_hit {α β : Type} [DecidableEq α] {k : α} {p : α × β} {l : List (α × β)} (h : p.1 = k) : ((p :: l).find? fun q => q.1 = k).map (·.2) = some p.2 := by
  rw [List.find?_cons, decide_eq_true h]; rfl
theorem find_miss {α β : Type} [DecidableEq α] {k : α} {p : α × β} {l : List (α × β)} (h : ¬ p.1 = k) : ((p :: l).find? fun q => q.1 = k).map (·.2) = (l.find? fun q => q.1 = k).map (·.2) := by
  rw [List.find?_cons, decide_eq_false h]
inductive ValAt (prog : Program) (w : World) (h : Heap) (P : Addr → Prop) : Option D → Option Value → Prop
  | no : ValAt prog w h P none none
  | yes {d : D} {v : Value} (x : Is prog w h P v d) : ValAt prog w h P (some d) (some v)
theorem val_go {K : Type} [DecidableEq K] {h : Heap} {P : Addr → Prop} {k : K} : ∀ {kvs : List (K × Value)} {vs : List D}, IsL prog w h P (kvs.map (·.2)) vs → ValAt prog w h P ((((kvs.map (·.1)).zip vs).find? fun p => p.1 = k).map (·.2)) (valueAt kvs k) := by
  intro kvs
  induction kvs with
  | nil => exact fun _ => .no
  | cons p kvs ih =>
    intro vs r
    obtain ⟨d, vs, rfl, x, r⟩ := r.inv
    show ValAt prog w h P ((((p.1, d) :: (kvs.map (·.1)).zip vs).find? fun p => p.1 = k).map (·.2)) (((p :: kvs).find? fun p => p.1 = k).map (·.2))
    by_cases e : p.1 = k
    · rw [find_hit e, find_hit (p := (p.1, d)) e]; exact .yes x
    · rw [find_miss e, find_miss (p := (p.1, d)) e]; exact ih r
theorem ValAt.or {h : Heap} {P : Addr → Prop} {a : Option D} {b : Option Value} (x : ValAt prog w h P a b) : (a = none ∧ b = none) ∨ ∃ d v, a = some d ∧ b = some v ∧ Is prog w h P v d := by
  cases x with
  | no => exact .inl ⟨rfl, rfl⟩
  | yes x => exact .inr ⟨_, _, rfl, rfl, x⟩
theorem eqDct_hits {P P' : Addr → Prop} {A : Around} {s : Shared} (hu : A.units + 6 < cLine) {kb : List (Int × Value)} {vb : List D} (rb : IsL prog w s.heap P' (kb.map (·.2)) vb) :
    ∀ {ka : List (Int × Value)} {va : List D} {b : Bool}, IsL prog w s.heap P (ka.map (·.2)) va → eqDct (kb.map (·.1)) vb (ka.map (·.1)) va b → KeqHits A s kb ka b := by
  intro ka
  induction ka with
  | nil =>
    intro va b _ h
    have h : eqDct (kb.map (·.1)) vb [] va b := h
    cases h with
    | nil => exact .nil
  | cons p ka ih =>
    intro va b r h
    obtain ⟨d, va, rfl, x, r⟩ := r.inv
    have z := (val_go (k := p.1) rb).or
    have h : eqDct (kb.map (·.1)) vb (p.1 :: ka.map (·.1)) (d :: va) b := h
    cases h with
    | miss e => exact z.elim (fun a => .miss a.2) fun ⟨_, _, a, _⟩ => nomatch (show _ = none from e).symm.trans a
    | hit e h1 h2 => exact z.elim (fun a => nomatch (show _ = some _ from e).symm.trans a.1) fun ⟨_, v', a, q, c⟩ => .hit q (eqD_ok h1 A p.2 v' (Nat.lt_of_succ_lt hu) x (Option.some.inj (a.symm.trans e) ▸ c)).2 (ih r h2)
theorem cmp_eqT : CmpOk prog w .Eq eqT := by
  intro A E s P v1 v2 d1 d2 b a x y h
  have au := a.un
  cases h with
  | dct hl h =>
    obtain ⟨a1, ka, rfl, _, za, oa, rfl, ra⟩ := x.dctI'
    obtain ⟨a2, kb, rfl, _, zb, ob, rfl, rb⟩ := y.dctI'
    simp only [List.length_map] at hl
    refine keq_eq za zb oa ob (by lia) (fun _ => eqDct_hits (by show A.units + 1 + 6 < _; lia) rb ra h) ?_
    rw [hl]; simp; exact .refl _
  | dctN hl =>
    obtain ⟨a1, ka, rfl, _, za, oa, rfl, ra⟩ := x.dctI'
    obtain ⟨a2, kb, rfl, _, zb, ob, rfl, rb⟩ := y.dctI'
    simp only [List.length_map] at hl
    refine keq_eq (r := false) za zb oa ob (by lia) (fun e => absurd e hl) ?_
    simp; exact .refl _
  | bool =>
    obtain rfl := x.bool'; obtain rfl := y.bool'
    exact cmp_ofEq (SeqAt.RcAt.bool_bool _ _ prog w E _ ⟨.refl _, rfl⟩)
  | gen h => exact cmp_ofEq ((eqD_ok h A v1 v2 (by lia) x y).1 prog w E _ ⟨.refl _, rfl⟩)
theorem cmp_neT : CmpOk prog w .NotEq neT := by
  rintro A E s P v1 v2 d1 d2 _ a x y ⟨h⟩
  have au := a.un
  cases h with
  | dct hl h =>
    obtain ⟨a1, ka, rfl, _, za, oa, rfl, ra⟩ := x.dctI'
    obtain ⟨a2, kb, rfl, _, zb, ob, rfl, rb⟩ := y.dctI'
    simp only [List.length_map] at hl
    refine keq_ne za zb oa ob (by lia) (fun _ => eqDct_hits (by show A.units + 1 + 6 < _; lia) rb ra h) ?_
    rw [hl]; simp; exact .refl _
  | dctN hl =>
    obtain ⟨a1, ka, rfl, _, za, oa, rfl, ra⟩ := x.dctI'
    obtain ⟨a2, kb, rfl, _, zb, ob, rfl, rb⟩ := y.dctI'
    simp only [List.length_map] at hl
    refine keq_ne (r := false) za zb oa ob (by lia) (fun e => absurd e hl) ?_
    simp; exact .refl _
  | bool =>
    obtain rfl := x.bool'; obtain rfl := y.bool'
    exact cmp_ofNotEq (SeqAt.RcNeAt.bool_bool _ _ prog w E _ ⟨.refl _, rfl⟩)
  | gen h => exact cmp_ofNotEq (neD_ok h A v1 v2 (by lia) x y prog w E _ ⟨.refl _, rfl⟩)
inductive leD : D → D → Bool → Prop
  | mk {a b : Int} : leD (.int a) (.int b) (decide (a ≤ b))
inductive gtD : D → D → Bool → Prop
  | mk {a b : Int} : gtD (.int a) (.int b) (decide (a > b))
inductive geD : D → D → Bool → Prop
  | mk {a b : Int} : geD (.int a) (.int b) (decide (a ≥ b))
theorem cmp_le : CmpOk prog w .LtE leD := by
  rintro A E s P v1 v2 _ _ _ a x y ⟨⟩
  obtain ⟨t, rfl⟩ := x.int'; obtain ⟨u, rfl⟩ := y.int'; exact PySem.P.le_int ⟨.refl _, rfl⟩
theorem cmp_gt : CmpOk prog w .Gt gtD := by
  rintro A E s P v1 v2 _ _ _ a x y ⟨⟩
  obtain ⟨t, rfl⟩ := x.int'; obtain ⟨u, rfl⟩ := y.int'; exact PySem.P.gt_int ⟨.refl _, rfl⟩
theorem cmp_ge : CmpOk prog w .GtE geD := by
  rintro A E s P v1 v2 _ _ _ a x y ⟨⟩
  obtain ⟨t, rfl⟩ := x.int'; obtain ⟨u, rfl⟩ := y.int'; exact PySem.P.ge_int ⟨.refl _, rfl⟩
inductive inotD : D → D → Bool → Prop
  | mk {a b : Bool} : inotD (.bool a) (.bool b) (!(a == b))
theorem cmp_isnot : CmpOk prog w .IsNot inotD := by
  rintro A E s P v1 v2 _ _ _ a x y ⟨⟩
  rename_i p q
  obtain rfl := x.bool'; obtain rfl := y.bool'
  refine wpAny_isNot_plain (by rfl) ⟨.refl _, ?_⟩
  cases p <;> cases q <;> rfl
variable (prog w) in
noncomputable def TruOk (f : D → Bool → Prop) : Prop := ∀ (A : Around) (E : Value → Shared → Prop) (s : Shared) (P : Addr → Prop) (v : Value) (d : D) (b : Bool), Ao 0 A → Is prog w s.heap P v d → f d b →
  wpAny (model prog w) A (truthy v) (TrQ s b) E s
inductive truD : D → Bool → Prop
  | none : truD .none false
  | bool {b : Bool} : truD (.bool b) b
  | lst {xs : List D} (h : xs.length ≤ 1000000) : truD (.lst xs) (!xs.isEmpty)
theorem tru_ok : TruOk prog w truD := by
  intro A E s P v d b a x h
  cases h with
  | none => obtain rfl := x.none'; exact truthy_none ⟨.refl _, rfl⟩
  | bool => obtain rfl := x.bool'; exact wpAny_truthy_bool ⟨.refl _, rfl⟩
  | lst hl =>
    obtain ⟨a, vs, n, rfl, _, o, r⟩ := x.lst'
    have e := r.length
    refine wpAny_truthy_list (items := vs.toArray) ⟨_, o, rfl, _, rfl⟩ (by simp only [List.size_toArray]; lia) ⟨.toks _, ?_⟩
    rename_i xs _
    cases vs <;> cases xs <;> simp_all
theorem ev_cmp {op : CmpOp} {f : D → D → Bool → Prop} {l r : Expr} {pos : Pos} {g h : Ev} (ho : CmpOk prog w op f) (hl : EvOk prog w K fr k l g) (hr : EvOk prog w K fr k r h) (hb : behindInMarks op r = false) : EvOk prog w K fr k (.Compare l [op] [r] pos) (cCmp f g h) := by
  rintro A E s σ X _ _ a I ⟨h1, h2, h3⟩
  refine wpAny_Compare1 (wpKp (hl A E s σ X _ _ a I h1) fun v1 s1 q1 => wpKp (hr A E s1 σ X _ _ a (I.step q1.1) h2) fun v2 s2 q2 => ?_) hb
  refine wpKp (ho A E s2 fr.P v1 v2 _ _ _ (a.mono (Nat.zero_le _)) (q1.2.keeps q2.1).vfull q2.2.vfull h3) fun v s3 q3 => ⟨(q1.1.trans q2.1).trans q3.1, ?_⟩
  rw [q3.2]; exact .bool _
theorem tr_cmp {op : CmpOp} {f : D → D → Bool → Prop} {l r : Expr} {pos : Pos} {g h : Ev} (ho : CmpOk prog w op f) (hl : EvOk prog w K fr k l g) (hr : EvOk prog w K fr k r h) (hb : behindInMarks op r = false) : TrOk prog w K fr k (.Compare l [op] [r] pos) (tCmp f g h) := by
  rintro A E s σ X _ a I ⟨h1, h2, h3⟩
  refine wpAny_isTrue_Compare1 (wpKp (hl A E s σ X _ _ a I h1) fun v1 s1 q1 => wpKp (hr A E s1 σ X _ _ a (I.step q1.1) h2) fun v2 s2 q2 => ?_) hb
  refine wpKp (ho A E s2 fr.P v1 v2 _ _ _ (a.mono (Nat.zero_le _)) (q1.2.keeps q2.1).vfull q2.2.vfull h3) fun v s3 q3 => ?_
  rw [q3.2]
  exact wpAny_truthy_bool ⟨(q1.1.trans q2.1).trans q3.1, rfl⟩
theorem tr_val {e : Expr} {g : Ev} {f : D → Bool → Prop} (hf : TruOk prog w f) (hg : EvOk prog w K fr k e g) (he : isTrue e fr.env (eval e fr.env) = (do let v ← eval e fr.env; standAt e.pos; holding [v] (truthy v))) : TrOk prog w K fr k e (tVal f g) := by
  rintro A E s σ X _ a I ⟨h1, h3⟩
  refine wpAny_isTrue_value (wpKp (hg A E s σ X _ _ a I h1) fun v1 s1 q1 => ?_) he
  exact wpKp (hf A E s1 fr.P v1 _ _ (a.mono (Nat.zero_le _)) q1.2.vfull h3) fun c s2 q2 => ⟨q1.1.trans q2.1, q2.2⟩
theorem tr_not {e : Expr} {pos : Pos} {g : Tr} (hg : TrOk prog w K fr k e g) : TrOk prog w K fr k (.UnaryOp .Not e pos) (tNot g) := by
  rintro A E s σ X _ a I ⟨h⟩
  exact wpAny_isTrue_Not (wpKp (hg A E s σ X _ a I h) fun c s1 q => ⟨q.1, by rw [q.2]⟩)
theorem ts_nil {op : BoolOp} : TsOk prog w K fr k op [] (tNil op) := by
  rintro A E s σ X _ a I ⟨⟩
  exact wpAny_pure ⟨.refl _, rfl⟩
theorem ts_and {e : Expr} {es : List Expr} {t u : Tr} (ht : TrOk prog w K fr k e t) (hu : TsOk prog w K fr k .And es u) : TsOk prog w K fr k .And (e :: es) (tAnd t u) := by
  intro A E s σ X b a I h
  cases h with
  | ff h1 => exact wpAny_allTrue_And_cons (wpKp (ht A E s σ X _ a I h1) fun c s1 q => by obtain ⟨q1, rfl⟩ := q; exact ⟨q1, rfl⟩)
  | tt h1 h2 => exact wpAny_allTrue_And_cons (wpKp (ht A E s σ X _ a I h1) fun c s1 q => by obtain ⟨q1, rfl⟩ := q; exact wpKp (hu A E s1 σ X _ a (I.step q1) h2) fun c s2 q2 => ⟨q1.trans q2.1, q2.2⟩)
theorem ts_or {e : Expr} {es : List Expr} {t u : Tr} (ht : TrOk prog w K fr k e t) (hu : TsOk prog w K fr k .Or es u) : TsOk prog w K fr k .Or (e :: es) (tOr t u) := by
  intro A E s σ X b a I h
  cases h with
  | tt h1 => exact wpAny_allTrue_Or_cons (wpKp (ht A E s σ X _ a I h1) fun c s1 q => by obtain ⟨q1, rfl⟩ := q; exact ⟨q1, rfl⟩)
  | ff h1 h2 => exact wpAny_allTrue_Or_cons (wpKp (ht A E s σ X _ a I h1) fun c s1 q => by obtain ⟨q1, rfl⟩ := q; exact wpKp (hu A E s1 σ X _ a (I.step q1) h2) fun c s2 q2 => ⟨q1.trans q2.1, q2.2⟩)
theorem tr_bool {op : BoolOp} {es : List Expr} {pos : Pos} {t : Tr} (ht : TsOk prog w K fr k op es t) : TrOk prog w K fr k (.BoolOp op es pos) t := by
  intro A E s σ X b a I hF
  exact wpAny_isTrue_BoolOp (ht A E s σ X b a I hF)
theorem ev_ifexp {t b o : Expr} {pos : Pos} {tt : Tr} {f g : Ev} (ht : TrOk prog w K fr k t tt) (hf : EvOk prog w K fr k b f) (hg : EvOk prog w K fr k o g) : EvOk prog w K fr k (.IfExp t b o pos) (cIf tt f g) := by
  intro A E s σ X d c a I h
  cases h with
  | tt h1 h2 => exact wpAny_IfExp (wpKp (ht A E s σ X _ a I h1) fun c s1 q => by obtain ⟨q1, rfl⟩ := q; exact wpKp (hf A E s1 σ X _ _ a (I.step q1) h2) fun c s2 q2 => ⟨q1.trans q2.1, q2.2⟩)
  | ff h1 h2 => exact wpAny_IfExp (wpKp (ht A E s σ X _ a I h1) fun c s1 q => by obtain ⟨q1, rfl⟩ := q; exact wpKp (hg A E s1 σ X _ _ a (I.step q1) h2) fun c s2 q2 => ⟨q1.trans q2.1, q2.2⟩)
variable (prog w) in
noncomputable def UnOk (op : UnaryOp) (f : D → D → Prop) : Prop := ∀ (A : Around) (E : Value → Shared → Prop) (s : Shared) (P : Addr → Prop) (v : Value) (d r : D), Ao 0 A → Is prog w s.heap P v d → f d r →
  wpAny (model prog w) A (unaryOp op v) (VlQ prog w s P r) E s
inductive negD : D → D → Prop
  | mk {a : Int} : negD (.int a) (.int (-a))
theorem un_neg : UnOk prog w .USub negD := by
  rintro A E s P v _ _ a x ⟨⟩
  obtain ⟨t, rfl⟩ := x.int'; exact PySem.P.neg_int ⟨.toks _, .int _ _⟩
theorem ev_un {op : UnaryOp} {f : D → D → Prop} {e : Expr} {pos : Pos} {g : Ev} (ho : UnOk prog w op f) (hg : EvOk prog w K fr k e g) : EvOk prog w K fr k (.UnaryOp op e pos) (cUn f g) := by
  rintro A E s σ X _ _ a I ⟨h1, h3⟩
  refine wpAny_UnaryOp (wpKp (hg A E s σ X _ _ a I h1) fun v1 s1 q1 => ?_)
  exact wpKp (ho A E s1 _ v1 _ _ (a.mono (Nat.zero_le _)) q1.2 h3) fun v s3 q3 => ⟨q1.1.trans q3.1, q3.2.vor⟩
end
theorem ns_unique {h : Heap} {a : Addr} {m m' : Str → Option Value} (x : h.Ns a m) (y : h.Ns a m') : m = m' := by
  obtain ⟨o, es, ep, ho, hd, _, hf⟩ := x
  obtain ⟨o', es', ep', ho', hd', _, hf'⟩ := y
  rw [ho] at ho'; cases ho'
  rw [hd] at hd'; cases hd'
  exact funext fun n => (hf n).symm.trans (hf' n)
theorem names_ne {l : List (Str × NameKind)} {i j : Nat} {p q : Str × NameKind} (nd : (l.map (·.1)).Nodup) (hi : l[i]? = some p) (hj : l[j]? = some q) (ne : i ≠ j) : p.1 ≠ q.1 := by
  intro e
  have h1 : (l.map (·.1))[i]? = some p.1 := by rw [List.getElem?_map, hi]; rfl
  have h2 : (l.map (·.1))[j]? = some q.1 := by rw [List.getElem?_map, hj]; rfl
  rw [e] at h1
  obtain ⟨li, ei⟩ := List.getElem?_eq_some_iff.mp h1
  obtain ⟨lj, ej⟩ := List.getElem?_eq_some_iff.mp h2
  exact ne ((List.getElem_inj nd).mp (ei.trans ej.symm))
noncomputable def updX (X : Nat → List Addr) (i : Nat) (Y : List Addr) : Nat → List Addr := fun j => if j = i then Y else X j
section
variable {prog : Program} {w : World} {K : Frag} {fr : Fm} {k : Nat} {σ : St} {X : Nat → List Addr} {s0 s1 : Shared}
theorem stored_inv {h' : Heap} {tk : Nat} {i : Nat} {x : Str} {kd : NameKind} {v : Value} {mv : MV} {Y : List Addr} {z : Addr}
    (I : Inv prog w K fr σ X s0) (kp : Kp s0 s1) (hi : fr.env.scope.names[i]? = some (x, kd))
    (hz : z = fr.env.locals ∨ (fr.wr = true ∧ ∃ p ∈ fr.env.cells, z = p.2)) (hs : Heap.SameBut z s1.heap h') (hal : ∃ o, h'.get? z = some o)
    (hns : ∃ m, h'.Ns fr.env.locals m) (hcd : fr.wr = true → ∀ p ∈ fr.env.cells, ∃ o v, h'.get? p.2 = some o ∧ o.data = .cell v)
    (hv : VarAt h' fr.env x kd v) (ho : ∀ y kd' v', y ≠ x → VarAt s1.heap fr.env y kd' v' → VarAt h' fr.env y kd' v')
    (hY : ∀ a ∈ Y, s0.heap.get? a = none ∧ ∃ o, s1.heap.get? a = some o) (R : Rep prog w s1.heap (fun a => Sf fr X a ∧ a ∉ Y) Y v mv) (htk : s1.toks ≤ tk) (hmv : ∀ C ks vs, mv ≠ .ownW C ks vs) :
    Step fr X s0 (updX X i Y) { s1 with heap := h', toks := tk } ∧ Inv prog w K fr (σ.set i (some mv)) (updX X i Y) { s1 with heap := h', toks := tk } := by
  have zP : ∀ a, fr.P a → a ≠ z := by
    intro a p e
    rcases hz with hz | ⟨_, q, hq, hz⟩
    · exact I.pL (hz ▸ e ▸ p)
    · exact I.pC q hq (hz ▸ e ▸ p)
  have I1 := I.step kp
  have zalive : ∃ o, s1.heap.get? z = some o := by
    rcases hz with hz | ⟨hw, q, hq, hz⟩
    · obtain ⟨m, o, es, ep, e, _⟩ := I1.ns; exact ⟨o, hz ▸ e⟩
    · obtain ⟨_, o, _, e, _⟩ := I1.cd hw q hq; exact ⟨o, hz ▸ e⟩
  have zhe : fr.he.get? z = none := by
    rcases hz with hz | ⟨hw, q, hq, hz⟩
    · rw [hz]; exact I.dl
    · rw [hz]; exact (I.cd hw q hq).1
  have back : ∀ a, h'.get? a = none → s1.heap.get? a = none := by
    intro a e
    by_cases q : a = z
    · subst q; obtain ⟨o, ho⟩ := hal; rw [ho] at e; cases e
    · rw [hs.2 a q] at e; exact e
  have fwd : ∀ a o, a ≠ z → s1.heap.get? a = some o → h'.get? a = some o := fun a o q e => (hs.2 a q).trans e
  have ownz : ∀ j a, a ∈ X j → a ≠ z := by
    intro j a ha e
    obtain ⟨q1, q2, q3, q4⟩ := I1.own j a ha
    exact zP a q2 e
  have sub : ∀ j a, a ∈ updX X i Y j → (∃ j, a ∈ X j) ∨ s0.heap.get? a = none := by
    intro j a ha
    unfold updX at ha
    split at ha
    · exact .inr (hY a ha).1
    · exact .inl ⟨j, ha⟩
  have sfmono : ∀ a o, Sf fr X a → s0.heap.get? a = some o → Sf fr (updX X i Y) a := by
    rintro a o ⟨p, q, r⟩ e
    refine ⟨p, q, fun j hj => ?_⟩
    rcases sub j a hj with ⟨j', hj'⟩ | hd
    · exact r j' hj'
    · rw [e] at hd; cases hd
  constructor
  · refine ⟨?_, Nat.le_trans kp.tk htk, fun a o e h1 h2 h3 => fwd a o ?_ (kp.get e), fun a e => kp.alive (back a e), sub⟩
    · obtain ⟨h, t, rfl⟩ := kp.sh; exact ⟨_, _, rfl⟩
    · intro q
      rcases hz with hz | ⟨_, p, hp, hz⟩
      · exact h1 (q.trans hz)
      · exact h2 p hp (q.trans hz)
  · exact {
      wd := I.wd
      hk := I.hk
      hg := I.hg
      hb := I.hb
      nd := I.nd
      keeps := fun a o e => fwd a o (fun q => by rw [q, zhe] at e; cases e) (I1.keeps a o e)
      ns := hns
      vars := by
        intro j mv' e
        by_cases q : j = i
        · subst q
          rw [List.getElem?_set] at e
          simp only [if_true] at e
          split at e
          · cases e
            refine ⟨x, kd, v, hi, hv, ?_⟩
            have : updX X j Y j = Y := by simp [updX]
            rw [this]
            refine R.mono (fun a o p e => ⟨⟨p.1.1, p.1.2.1, fun j' hj' => ?_⟩, fwd a o (zP a p.1.1) e⟩) fun a ha o e => fwd a o (zP a (I.dead a (hY a ha).1)) e
            unfold updX at hj'
            split at hj'
            · exact p.2 hj'
            · exact p.1.2.2 j' hj'
          · cases e
        · rw [List.getElem?_set] at e
          rw [if_neg (Ne.symm q)] at e
          obtain ⟨y, kd', v', a, b, c⟩ := I.vars j mv' e
          refine ⟨y, kd', v', a, ho y kd' v' (fun z => names_ne I.nd a hi q z) (b.keeps fun _ _ e => kp.get e), ?_⟩
          have : updX X i Y j = X j := by simp [updX, q]
          rw [this]
          exact c.mono (fun a o p e => ⟨sfmono a o p e, fwd a o (zP a p.1) (kp.get e)⟩) fun a ha o e => fwd a o (ownz j a ha) (kp.get e)
      disj := by
        intro j j' a h1 h2
        unfold updX at h1 h2
        split at h1 <;> split at h2
        · lia
        · obtain ⟨_, _, ⟨o, e⟩, _⟩ := I.own _ a h2; rw [(hY a h1).1] at e; cases e
        · obtain ⟨_, _, ⟨o, e⟩, _⟩ := I.own _ a h1; rw [(hY a h2).1] at e; cases e
        · exact I.disj _ _ a h1 h2
      own := by
        intro j a h1
        unfold updX at h1
        split at h1
        · obtain ⟨hd, o, e⟩ := hY a h1
          have p := I.dead a hd
          refine ⟨fun q => I.pL (q ▸ p), p, ⟨o, fwd a o (zP a p) e⟩, fun hw => ⟨?_, fun c hc q => I.pC c hc (q ▸ p)⟩⟩
          cases q : fr.he.get? a with
          | none => rfl
          | some o' => rw [I.keeps a o' q] at hd; cases hd
        · obtain ⟨q1, q2, ⟨o, e⟩, q4⟩ := I1.own j a h1
          exact ⟨q1, q2, ⟨o, fwd a o (ownz j a h1) e⟩, q4⟩
      dl := I.dl
      dead := fun a e => I1.dead a (back a e)
      pL := I.pL
      pC := I.pC
      lC := I.lC
      cd := fun hw p hp => ⟨(I.cd hw p hp).1, hcd hw p hp⟩
      cinj := I.cinj
      exl := by
        intro a e
        obtain ⟨o, q⟩ := I1.exl a e
        by_cases q2 : a = z
        · subst q2; exact hal
        · exact ⟨o, fwd a o q2 q⟩
      tk1 := Nat.le_trans I1.tk1 htk
      anc := by
        intro j C ks vs e
        by_cases q : j = i
        · subst q
          rw [List.getElem?_set] at e
          simp only [if_true] at e
          split at e
          · cases e; exact absurd rfl (hmv _ _ _)
          · cases e
        · rw [List.getElem?_set] at e
          rw [if_neg (Ne.symm q)] at e
          have : updX X i Y j = X j := by simp [updX, q]
          rw [this]; exact I.anc j C ks vs e }
theorem stored_loc {h' : Heap} {tk : Nat} {i : Nat} {x : Str} {v : Value} {mv : MV} {Y : List Addr} {m : Str → Option Value}
    (I : Inv prog w K fr σ X s0) (kp : Kp s0 s1) (hi : fr.env.scope.names[i]? = some (x, .local)) (hn : s1.heap.Ns fr.env.locals m) (hn' : h'.Ns fr.env.locals fun y => if y = x then some v else m y) (hs' : Heap.SameBut fr.env.locals s1.heap h')
    (hY : ∀ a ∈ Y, s0.heap.get? a = none ∧ ∃ o, s1.heap.get? a = some o) (R : Rep prog w s1.heap (fun a => Sf fr X a ∧ a ∉ Y) Y v mv) (htk : s1.toks ≤ tk) (hmv : ∀ C ks vs, mv ≠ .ownW C ks vs) :
    Step fr X s0 (updX X i Y) { s1 with heap := h', toks := tk } ∧ Inv prog w K fr (σ.set i (some mv)) (updX X i Y) { s1 with heap := h', toks := tk } := by
  refine stored_inv (z := fr.env.locals) I kp hi (.inl rfl) hs' ?_ ⟨_, hn'⟩ ?_ ⟨_, hn', by simp⟩ ?_ hY R htk hmv
  · obtain ⟨o, _, _, e, _⟩ := hn'; exact ⟨o, e⟩
  · intro hw p hp
    obtain ⟨_, o, v, e, q⟩ := (I.step kp).cd hw p hp
    exact ⟨o, v, (hs'.2 _ (I.lC p hp)).trans e, q⟩
  · intro y kd' v' ne hv
    unfold VarAt at hv ⊢
    split at hv
    · obtain ⟨m', n', e⟩ := hv
      rw [ns_unique n' hn] at e
      exact ⟨_, hn', by simp only [if_neg ne]; exact e⟩
    · obtain ⟨c, o, l, g, d⟩ := hv
      exact ⟨c, o, l, (hs'.2 _ (I.lC _ (lookup_mem l))).trans g, d⟩
    · exact hv.elim
theorem store_varX {A : Around} {E : Value → Shared → Prop} {i : Nat} {x : Str} {kd : NameKind} {v : Value} {mv : MV} {Y : List Addr}
    (I : Inv prog w K fr σ X s0) (kp : Kp s0 s1) (hi : fr.env.scope.names[i]? = some (x, kd)) (hkd : kd = .local ∨ (kd = .cell ∧ fr.wr = true ∧ (fr.env.cells.lookup x).isSome = true))
    (hY : ∀ a ∈ Y, s0.heap.get? a = none ∧ ∃ o, s1.heap.get? a = some o) (R : Rep prog w s1.heap (fun a => Sf fr X a ∧ a ∉ Y) Y v mv) (hmv : ∀ C ks vs, mv ≠ .ownW C ks vs := by intro _ _ _ h; cases h) :
    wpAny (model prog w) A (storeName fr.env x v) (fun _ s' => Step fr X s0 (updX X i Y) s' ∧ Inv prog w K fr (σ.set i (some mv)) (updX X i Y) s') E s1 := by
  have I1 := I.step kp
  have hl := lookup_at I.nd hi
  have hb : fr.env.blockKind = .function := by
    have ha : fr.env.scope.kind.isAnnotationScope = false := by rw [I.hk]; rfl
    unfold Env.blockKind; rw [ha]; exact I.hk
  rcases hkd with rfl | ⟨rfl, hw, hc⟩
  · obtain ⟨m, hn⟩ := I1.ns
    refine wpAny_storeName_local (m := m) hl hn (fun h' hn' hs' => ?_) (by rw [I.hk]; rfl)
    exact stored_loc I kp hi hn hn' hs' hY R (Nat.le_succ _) hmv
  · obtain ⟨c, hc⟩ := Option.isSome_iff_exists.mp hc
    have hm := lookup_mem hc
    have hkk : fr.env.kindOf x = some .cell := hl
    unfold storeName
    have hne1 : (some NameKind.cell == some NameKind.globalImplicit) = false := by decide
    have hcls : (fr.env.scope.kind == .class) = false := by rw [I.hk]; rfl
    simp only [hkk, hne1, Bool.false_and, Bool.false_eq_true, if_false, hcls]
    refine wpAny_bind ?_
    unfold cellOf
    rw [hc]
    refine wpAny_pure ?_
    obtain ⟨_, o, v0, e, q⟩ := I1.cd hw _ hm
    unfold cellSet
    refine wpAny_bind (wpAny_load e ?_)
    rw [q]
    have hf : ({ o with data := .cell (some v) } : Obj).isFreed = false := rfl
    refine wpAny_update e ?_
    have g1 : (s1.heap.update c fun o => { o with data := .cell (some v) }).get? c = some { o with data := .cell (some v) } := Heap.get?_update_self _ e hf
    have hs' : Heap.SameBut c s1.heap (s1.heap.update c fun o => { o with data := .cell (some v) }) := Heap.SameBut.update ..
    refine stored_inv (z := c) (tk := s1.toks) I kp hi (.inr ⟨hw, _, hm, rfl⟩) hs' ⟨_, g1⟩ ?_ ?_ ⟨c, _, hc, g1, rfl⟩ ?_ hY R (Nat.le_refl _) hmv
    · obtain ⟨m, hn⟩ := I1.ns
      exact ⟨m, hn.sameBut hs' (Ne.symm (I.lC _ hm))⟩
    · intro _ p hp
      by_cases ee : p.2 = c
      · rw [ee]; exact ⟨_, _, g1, rfl⟩
      · obtain ⟨_, o', v', e', q'⟩ := I1.cd hw p hp
        exact ⟨o', v', (hs'.2 _ ee).trans e', q'⟩
    · intro y kd' v' ne hv
      unfold VarAt at hv ⊢
      split at hv
      · obtain ⟨m', n', e'⟩ := hv
        exact ⟨m', n'.sameBut hs' (Ne.symm (I.lC _ hm)), e'⟩
      · obtain ⟨c', o', l, g, d⟩ := hv
        refine ⟨c', o', l, (hs'.2 _ fun z => ne ?_).trans g, d⟩
        subst z; exact I.cinj _ _ _ l hc
      · exact hv.elim
theorem store_var {A : Around} {E : Value → Shared → Prop} {i : Nat} {x : Str} {kd : NameKind} {v : Value} {mv : MV} {Y : List Addr}
    (I : Inv prog w K fr σ X s0) (kp : Kp s0 s1) (hi : fr.env.scope.names[i]? = some (x, kd)) (hkd : kd = .local ∨ (kd = .cell ∧ fr.wr = true ∧ (fr.env.cells.lookup x).isSome = true))
    (hY : ∀ a ∈ Y, s0.heap.get? a = none ∧ ∃ o, s1.heap.get? a = some o) (R : Rep prog w s1.heap (fun a => Sf fr X a ∧ a ∉ Y) Y v mv) (hmv : ∀ C ks vs, mv ≠ .ownW C ks vs := by intro _ _ _ h; cases h) :
    wpAny (model prog w) A (storeName fr.env x v) (fun _ s' => ∃ X', Step fr X s0 X' s' ∧ Inv prog w K fr (σ.set i (some mv)) X' s') E s1 :=
  wpKp (store_varX I kp hi hkd hY R hmv) fun _ _ q => ⟨_, q⟩
noncomputable def kindOk (fr : Fm) (x : Str) (kd : NameKind) : Prop := kd = .local ∨ (kd = .cell ∧ fr.wr = true ∧ (fr.env.cells.lookup x).isSome = true)
theorem xs_nil : ExsOk prog w K fr k [] xNil := by
  rintro A E s σ X _ _ _ I ⟨⟩
  exact wpAny_execs_nil ⟨X, .refl _ _ _, I, rfl⟩
theorem xs_cons {st : Stmt} {sts : List Stmt} {f g : Ex} (hf : ExOk prog w K fr k st f) (hg : ExsOk prog w K fr k sts g) : ExsOk prog w K fr k (st :: sts) (xCons f g) := by
  intro A E s σ X r σ' a I h
  cases h with
  | go h1 h2 =>
    refine wpAny_execs_cons (wpKp (hf A E s σ X _ _ a I h1) fun fl s1 q1 => ?_)
    obtain ⟨X1, t1, I1, q⟩ := q1
    have q : fl = .next := q
    subst q
    refine wpKp (hg A E s1 _ X1 _ _ a I1 h2) fun fl s2 q2 => ?_
    obtain ⟨X2, t2, I2, q2⟩ := q2
    exact ⟨X2, t1.trans t2, I2, q2⟩
  | out h1 n =>
    refine wpAny_execs_cons (wpKp (hf A E s σ X _ _ a I h1) fun fl s1 q1 => ?_)
    obtain ⟨X1, t1, I1, q⟩ := q1
    cases r with
    | next => exact absurd rfl n
    | brk => have q' : fl = .brk := q; subst q'; exact ⟨X1, t1, I1, q⟩
    | cont => have q' : fl = .cont := q; subst q'; exact ⟨X1, t1, I1, q⟩
    | ret d => obtain ⟨v, q', z⟩ := q; subst q'; exact ⟨X1, t1, I1, v, rfl, z⟩
theorem x_if {t : Expr} {b o : List Stmt} {pos : Pos} {tt : Tr} {f g : Ex} (ht : TrOk prog w K fr k t tt) (hf : ExsOk prog w K fr k b f) (hg : ExsOk prog w K fr k o g) : ExOk prog w K fr k (.If t b o pos) (xIf tt f g) := by
  intro A E s σ X r σ' a I h
  cases h with
  | tt h1 h2 =>
    refine wpAny_If (wpKp (ht A E s σ X _ a I h1) fun c s1 q1 => ?_)
    obtain ⟨q1, rfl⟩ := q1
    rw [if_pos rfl]
    refine wpKp (hf A E s1 σ X _ _ a (I.step q1) h2) fun fl s2 q2 => ?_
    obtain ⟨X2, t2, r2⟩ := q2; exact ⟨X2, (Step.of_keeps q1).trans t2, r2⟩
  | ff h1 h2 =>
    refine wpAny_If (wpKp (ht A E s σ X _ a I h1) fun c s1 q1 => ?_)
    obtain ⟨q1, rfl⟩ := q1
    rw [if_neg (by decide)]
    refine wpKp (hg A E s1 σ X _ _ a (I.step q1) h2) fun fl s2 q2 => ?_
    obtain ⟨X2, t2, r2⟩ := q2; exact ⟨X2, (Step.of_keeps q1).trans t2, r2⟩
theorem x_ret {e : Expr} {pos : Pos} {f : Ev} (hf : EvOk prog w K fr k e f) : ExOk prog w K fr k (.Return (some e) pos) (xRet f) := by
  rintro A E s σ X _ _ a I ⟨h1⟩
  exact wpAny_Return_some (wpKp (hf A E s σ X _ _ a I h1) fun v s1 q => ⟨X, .of_keeps q.1, I.step q.1, v, rfl, q.2.vfull⟩)
theorem x_brk {pos : Pos} : ExOk prog w K fr k (.Break pos) xBrk := by
  rintro A E s σ X _ _ a I ⟨⟩
  exact wpAny_Break ⟨X, .refl _ _ _, I, rfl⟩
theorem x_cont {pos : Pos} : ExOk prog w K fr k (.Continue pos) xCont := by
  rintro A E s σ X _ _ a I ⟨⟩
  exact wpAny_Continue ⟨X, .refl _ _ _, I, rfl⟩
theorem rep_froz {h : Heap} {Pv : Addr → Prop} {v : Value} {d : D} (x : Is prog w h Pv v d) : Rep prog w h (fun a => Pv a ∧ a ∉ ([] : List Addr)) [] v (.froz d) := ⟨rfl, x.mono fun _ _ p e => ⟨⟨p, by simp⟩, e⟩⟩
theorem x_asg {i : Nat} {x : Str} {kd : NameKind} {px pos : Pos} {e : Expr} {f : Ev} (hf : EvOk prog w K fr k e f) (hi : fr.env.scope.names[i]? = some (x, kd)) (hkd : kindOk fr x kd)
    (hs : swapsWith e (some (.Name x px)) pos.line fr.env = pure false) : ExOk prog w K fr k (.Assign [.Name x px] e pos) (xAsg i f) := by
  rintro A E s σ X _ _ a I ⟨h⟩
  refine wpAny_Assign_Name (wpKp (hf A E s σ X _ _ a I h) fun v s1 q => ?_) hs
  refine wpKp (store_var I q.1 hi hkd (Y := []) (by simp) (rep_froz q.2)) fun _ s2 q2 => ?_
  obtain ⟨X2, t2, I2⟩ := q2
  exact ⟨X2, t2, I2, rfl⟩
inductive xOwn (i : Nat) (f : Ls) (σ : St) : Fl → St → Prop
  | mk {ds : List D} (h : f σ ds true) : xOwn i f σ .next (σ.set i (some (.ownL ds)))
theorem rep_ownL {h : Heap} {Pv : Addr → Prop} {a : Addr} {vs : List Value} {n : Nat} {xs : List D} (o : h.get? a = some (lstO vs n)) (r : IsL prog w h (fun b => Pv b ∧ b ≠ a) vs xs) : Rep prog w h (fun b => Pv b ∧ b ∉ [a]) [a] (.ref a) (.ownL xs) :=
  ⟨a, vs, n, rfl, rfl, o, r.mono fun _ _ p e => ⟨⟨p.1, by simpa using p.2⟩, e⟩⟩
theorem x_own {i : Nat} {x : Str} {kd : NameKind} {px pos : Pos} {e : Expr} {f : Ls} (hf : LsOk prog w K fr k e f) (hi : fr.env.scope.names[i]? = some (x, kd)) (hkd : kindOk fr x kd)
    (hs : swapsWith e (some (.Name x px)) pos.line fr.env = pure false) : ExOk prog w K fr k (.Assign [.Name x px] e pos) (xOwn i f) := by
  rintro A E s σ X _ _ a I ⟨h⟩
  refine wpAny_Assign_Name (wpKp (hf A E s σ X _ _ a I h) fun v s1 q => ?_) hs
  obtain ⟨q1, b, vs, n, rfl, hd, ho, r⟩ := q
  refine wpKp (store_var I q1 hi hkd (Y := [b]) (by intro c hc; rw [List.mem_singleton.mp hc]; exact ⟨hd, _, ho⟩) (rep_ownL ho r)) fun _ s2 q2 => ?_
  obtain ⟨X2, t2, I2⟩ := q2
  exact ⟨X2, t2, I2, rfl⟩
end
noncomputable def Cn (prog : Program) (w : World) (h : Heap) (P : Addr → Prop) (v : Value) : D → Prop
  | .lst xs => ∃ a vs n, v = .ref a ∧ h.get? a = some (lstO vs n) ∧ IsL prog w h P vs xs
  | .tup xs => ∃ a vs n, v = .ref a ∧ h.get? a = some (tupO vs n) ∧ IsL prog w h P vs xs
  | .dctI ks xs => ∃ a kvs, v = .ref a ∧ (a == sysModules) = false ∧ h.DictOf (intKind prog w) a kvs ∧ kvs.map (·.1) = ks ∧ IsL prog w h P (kvs.map (·.2)) xs
  | .dctS ks xs => ∃ a kvs, v = .ref a ∧ (a == sysModules) = false ∧ h.DictOf (strKind prog w) a kvs ∧ kvs.map (·.1) = ks ∧ IsL prog w h P (kvs.map (·.2)) xs
  | .str x => ∃ t, v = .str x t
  | d => Is prog w h P v d
noncomputable def MV.elem : MV → Bool
  | .froz _ | .ownL _ | .ownI .. | .ownS .. => true
  | _ => false
inductive cVc (i : Nat) (σ : St) : D → Bool → Prop
  | mk {mv : MV} (h : σ[i]? = some (some mv)) : cVc i σ mv.dat mv.elem
section
variable {prog : Program} {w : World} {K : Frag} {fr : Fm} {k : Nat}
theorem Is.cn {h : Heap} {P : Addr → Prop} {v : Value} {d : D} (x : Is prog w h P v d) : Cn prog w h P v d := by
  cases x with
  | tup p o r => exact ⟨_, _, _, rfl, o, r⟩
  | lst p o r => exact ⟨_, _, _, rfl, o, r⟩
  | dctI p z o e r => exact ⟨_, _, rfl, z, o, e, r⟩
  | dctS p z o e r => exact ⟨_, _, rfl, z, o, e, r⟩
  | str x t => exact ⟨_, rfl⟩
  | none => exact .none
  | bool b => exact .bool b
  | int i t => exact .int i t
  | bytes x t => exact .bytes x t
  | inst p q o od e r => exact .inst p q o od e r
theorem Cn.mono {h h' : Heap} {P P' : Addr → Prop} {v : Value} {d : D} (x : Cn prog w h P v d) (k : ∀ a o, h.get? a = some o → h'.get? a = some o) (q : ∀ a, P a → P' a) : Cn prog w h' P' v d := by
  cases d with
  | tup xs => obtain ⟨a, vs, n, e, o, r⟩ := x; exact ⟨a, vs, n, e, k _ _ o, r.mono fun a o p e => ⟨q a p, k a o e⟩⟩
  | lst xs => obtain ⟨a, vs, n, e, o, r⟩ := x; exact ⟨a, vs, n, e, k _ _ o, r.mono fun a o p e => ⟨q a p, k a o e⟩⟩
  | dctI ks xs => obtain ⟨a, kvs, e, z, o, e2, r⟩ := x; exact ⟨a, kvs, e, z, dictOf_at o (k a), e2, r.mono fun a o p e => ⟨q a p, k a o e⟩⟩
  | dctS ks xs => obtain ⟨a, kvs, e, z, o, e2, r⟩ := x; exact ⟨a, kvs, e, z, dictOf_at o (k a), e2, r.mono fun a o p e => ⟨q a p, k a o e⟩⟩
  | str y => exact x
  | none => exact Is.mono (fun a o p e => ⟨q a p, k a o e⟩) x
  | bool b => exact Is.mono (fun a o p e => ⟨q a p, k a o e⟩) x
  | int i => exact Is.mono (fun a o p e => ⟨q a p, k a o e⟩) x
  | bytes b => exact Is.mono (fun a o p e => ⟨q a p, k a o e⟩) x
  | inst C ks vs => exact Is.mono (fun a o p e => ⟨q a p, k a o e⟩) x
variable (prog w K fr k) in
noncomputable def CnOk (e : Expr) (F : Ev) : Prop := ∀ (A : Around) (E : Value → Shared → Prop) (s : Shared) (σ : St) (X : Nat → List Addr) (d : D) (b : Bool), Ao k A → Inv prog w K fr σ X s → F σ d b →
  wpAny (model prog w) A (eval e fr.env) (fun v s' => Kp s s' ∧ Cn prog w s'.heap (Vw fr X b) v d) E s
theorem cn_ev {e : Expr} {F : Ev} (h : EvOk prog w K fr k e F) : CnOk prog w K fr k e F := by
  intro A E s σ X d b a I hF
  exact wpKp (h A E s σ X d b a I hF) fun v s1 q => ⟨q.1, q.2.cn⟩
theorem cn_var {i : Nat} {x : Str} {kd : NameKind} {pos : Pos} (hi : fr.env.scope.names[i]? = some (x, kd)) (hd : (x == ("__debug__" : Str)) = false) : CnOk prog w K fr k (.Name x pos) (cVc i) := by
  rintro A E s σ X _ _ _ I ⟨e⟩
  rename_i mv
  obtain ⟨x', kd', v, a, b, c⟩ := I.vars i mv e
  rw [hi] at a
  cases a
  refine wpAny_Name (load_var I.hk (lookup_at I.nd hi) b ⟨.refl _, ?_⟩) hd
  have full := c.dat (P' := fr.P) (fun _ p => p.1) fun a ha => (I.own i a ha).2.1
  cases mv with
  | froz d => exact c.2.cn
  | ownL xs => obtain ⟨a, vs, n, _, rfl, o, r⟩ := c; exact ⟨a, vs, n, rfl, o, r⟩
  | ownI ks xs => obtain ⟨a, kvs, _, rfl, z, o, kk, r⟩ := c; exact ⟨a, kvs, rfl, z, o, kk, r⟩
  | ownS ks xs => obtain ⟨a, kvs, _, rfl, z, o, kk, r⟩ := c; exact ⟨a, kvs, rfl, z, o, kk, r⟩
  | ownN xss => exact full.cn
  | ownW C ks xs => exact full.cn
noncomputable def valS (ks : List Str) (vs : List D) (k : Str) : Option D := ((ks.zip vs).find? fun p => p.1 = k).map (·.2)
theorem valS_at {h : Heap} {P : Addr → Prop} {k : Str} {kvs : List (Str × Value)} {vs : List D} (r : IsL prog w h P (kvs.map (·.2)) vs) :
    (valS (kvs.map (·.1)) vs k = none ∧ valueAt kvs k = none) ∨ ∃ d v, valS (kvs.map (·.1)) vs k = some d ∧ valueAt kvs k = some v ∧ Is prog w h P v d := (val_go r).or
noncomputable def chStr (c : Nat) : Str := ⟨#[c]⟩
inductive idxD : D → D → D → Prop
  | lst {xs : List D} {n : Nat} {d : D} (h : xs[n]? = some d) (hn : n < 1000000000) : idxD (.lst xs) (.int n) d
  | tup {xs : List D} {n : Nat} {d : D} (h : xs[n]? = some d) (hn : n < 1000000000) : idxD (.tup xs) (.int n) d
  | str {x : Str} {i : Int} {c : Nat} (h : (seqIndex? i x.length).bind (x.cps[·]?) = some c) (hi : smallI i = true) : idxD (.str x) (.int i) (.str (chStr c))
  | dctS {ks : List Str} {vs : List D} {k : Str} {d : D} (h : valS ks vs k = some d) : idxD (.dctS ks vs) (.str k) d
theorem idx_ok {A : Around} {E : Value → Shared → Prop} {s : Shared} {P P' : Addr → Prop} {v vi : Value} {d di r : D} {value slice : Expr} (x : Cn prog w s.heap P v d) (y : Is prog w s.heap P' vi di) (h : idxD d di r)
    (hs : ∀ o i, subscripted slice false o i = operate [o, i] (getItem o i)) : wpAny (model prog w) A (subscriptTail value slice v vi) (VlQ prog w s P r) E s := by
  cases h with
  | lst h hn =>
    obtain ⟨a, vs, n, rfl, o, q⟩ := x
    obtain ⟨t, rfl⟩ := y.int'
    obtain ⟨u, hu, z⟩ := q.get h
    have hL : s.heap.IsList a vs.toArray := ⟨_, o, rfl, _, rfl⟩
    exact tail_any hL.typeIs slot_list_getitem.lookup (wpAny_getItem_list hL (Int.natCast_nonneg _) (by lia) (by simpa using hu) ⟨.refl _, z⟩) (hs _ _)
  | tup h hn =>
    rename_i xs i
    obtain ⟨a, vs, n, rfl, o, q⟩ := x
    obtain ⟨t, rfl⟩ := y.int'
    obtain ⟨u, hu, z⟩ := q.get h
    obtain ⟨hlt, _⟩ := List.getElem?_eq_some_iff.mp hu
    refine item_tupleT (l := vs) (x := u) ⟨_, o, rfl, _, rfl⟩ (by lia) (by lia) ?_ hu ⟨.refl _, z⟩ (hs _ _)
    unfold seqIndex?
    have h1 : ¬ (i : Int) < 0 := by lia
    have h2 : (decide (0 ≤ (i : Int)) && decide ((i : Int) < (vs.length : Int))) = true := by
      rw [Bool.and_eq_true]; exact ⟨decide_eq_true (by lia), decide_eq_true (by lia)⟩
    simp only [h1, if_false, h2, if_true, Int.toNat_natCast]
  | str hc hb =>
    obtain ⟨t, rfl⟩ := x
    obtain ⟨u, rfl⟩ := y.int'
    have := of_decide_eq_true hb
    refine tail_any (typeIs_str _ _ _) F.slot_str_getitem.lookup (PySem.P.getItem_str ?_ hc ⟨.toks _, .str _ _⟩) (hs _ _)
    rw [Bool.or_eq_false_iff]; exact ⟨decide_eq_false (by lia), decide_eq_false (by lia)⟩
  | dctS h =>
    obtain ⟨a, kvs, rfl, _, o, rfl, q⟩ := x
    obtain ⟨t, rfl⟩ := y.str'
    rcases valS_at (k := _) q with ⟨e, _⟩ | ⟨d', v', e, e2, z⟩
    · rw [e] at h; cases h
    · rw [e] at h; obtain rfl := Option.some.inj h
      exact tail_any o.typeIs slot_dict_getitem.lookup (wpAny_getItem_of (strKind_is prog w _ t) o.mapOf e2 ⟨.toks _, z⟩) (hs _ _)
inductive cIdx (f g : Ev) (σ : St) : D → Bool → Prop
  | mk {x y d : D} {b c : Bool} (h1 : f σ x b) (h2 : g σ y c) (h3 : idxD x y d) : cIdx f g σ d (b || d.scalar)
theorem ev_idx {value slice : Expr} {pos : Pos} {f g : Ev} (hf : CnOk prog w K fr k value f) (hg : EvOk prog w K fr k slice g) (hs : ∀ o i, subscripted slice false o i = operate [o, i] (getItem o i)) :
    EvOk prog w K fr k (.Subscript value slice pos) (cIdx f g) := by
  rintro A E s σ X _ _ a I ⟨h1, h2, h3⟩
  refine Subscript_ (wpKp (hf A E s σ X _ _ a I h1) fun v1 s1 q1 => wpKp (hg A E s1 σ X _ _ a (I.step q1.1) h2) fun v2 s2 q2 => ?_)
  exact wpKp (idx_ok (q1.2.mono (fun _ _ e => q2.1.get e) fun _ p => p) q2.2 h3 hs) fun u s3 q3 => ⟨(q1.1.trans q2.1).trans q3.1, q3.2.vor⟩
inductive fromD : D → D → D → Prop
  | lst {xs : List D} {n : Nat} (h : xs.length ≤ 1000000) : fromD (.lst xs) (.int n) (.lst (xs.drop n))
  | str {x : Str} {n : Nat} (h : x.length ≤ 1000000) : fromD (.str x) (.int n) (.str ⟨(x.cps.toList.drop n).toArray⟩)
inductive uptoD : D → D → D → Prop
  | lst {xs : List D} {n : Nat} (h : xs.length ≤ 1000000) : uptoD (.lst xs) (.int n) (.lst (xs.take n))
  | str {x : Str} (h : x.length ≤ 1000000) : uptoD (.str x) (.int (-1)) (.str ⟨(x.cps.toList.take (x.length - 1)).toArray⟩)
theorem from_idx (n : Nat) {i : Int} (h0 : 0 ≤ i) : Builtin.Str.strSliceIndices (some i) none 1 n = Builtin.Str.strSliceIndices (some ((min i.toNat n : Nat) : Int)) (some ((n : Nat) : Int)) 1 n := by
  unfold Builtin.Str.strSliceIndices
  have h1 : ¬ i < 0 := by lia
  have h2 : ¬ (((min i.toNat n : Nat) : Int) < 0) := by lia
  have h3 : ¬ ((n : Int) < 0) := by lia
  have e1 : max 0 (min i (n : Int)) = max 0 (min (((min i.toNat n : Nat) : Int)) (n : Int)) := by lia
  have e2 : (n : Int) = max 0 (min (n : Int) (n : Int)) := by lia
  simp only [h1, h2, h3, if_false, e1, show ((1 : Int) > 0) = True from by simp, if_true, ← e2]
theorem last_idx (n : Nat) : Builtin.Str.strSliceIndices none (some (-1)) 1 n = Builtin.Str.strSliceIndices (some ((0 : Nat) : Int)) (some ((n - 1 : Nat) : Int)) 1 n := by
  unfold Builtin.Str.strSliceIndices
  have h2 : ¬ (((0 : Nat) : Int) < 0) := by lia
  have h3 : ¬ (((n - 1 : Nat) : Int) < 0) := by lia
  have e1 : max 0 (min (-1 + (n : Int)) (n : Int)) = max 0 (min (((n - 1 : Nat) : Int)) (n : Int)) := by lia
  have e2 : (0 : Int) = max 0 (min ((0 : Nat) : Int) (n : Int)) := by lia
  simp only [h2, h3, if_false, e1, show ((1 : Int) > 0) = True from by simp, show ((-1 : Int) < 0) = True from by simp, if_true, ← e2]
theorem str_list_len (x : Str) : x.length = x.cps.toList.length := by simp [Str.length]
theorem sliced_from {s : Shared} {x : Str} {t : Tok} {i : Int} {u : Tok} {Q : Value → Shared → Prop} (h0 : 0 ≤ i) (hsz : x.length ≤ 1000000)
    (h : ∀ t' k, Q (.str ⟨(x.cps.toList.drop i.toNat).toArray⟩ t') { s with toks := k }) : (sliceMade x t (some (i, u)) none none).post Q s := by
  have hl := str_list_len x
  have e : ((slicePicked x (some (i, u)) none none).filterMap (x.cps[·]?)) = x.cps.toList.drop i.toNat := by
    show (Builtin.Str.strSliceIndices (some i) none 1 x.length).filterMap (x.cps[·]?) = _
    rw [from_idx _ h0, StrLaws.sliced_plain x (Nat.min_le_right _ _) (Nat.le_refl _)]
    by_cases q : i.toNat ≤ x.length
    · rw [Nat.min_eq_left q, List.take_of_length_le (by rw [List.length_drop]; lia)]
    · rw [Nat.min_eq_right (by lia), List.drop_eq_nil_of_le (by lia), List.drop_eq_nil_of_le (by lia)]; simp
  unfold sliceMade
  split
  · rename_i hw
    simp only [Bool.and_eq_true, beq_iff_eq] at hw
    have hw := hw.2
    have hlen : (slicePicked x (some (i, u)) none none).length = x.length - min i.toNat x.length := by
      show (Builtin.Str.strSliceIndices (some i) none 1 x.length).length = _
      rw [from_idx _ h0, StrLaws.strSliceIndices_plain (Nat.min_le_right _ _) (Nat.le_refl _), List.length_map, List.length_range]
    have := h t s.toks
    have e2 : x.cps.toList.drop i.toNat = x.cps.toList := by
      by_cases z : x.length = 0
      · have : x.cps.toList = [] := List.length_eq_zero_iff.mp (by lia)
        rw [this]; simp
      · have : i.toNat = 0 := by lia
        rw [this]; rfl
    rw [e2] at this
    exact this
  · refine ⟨?_, by rw [e]; exact h _ _⟩
    rw [e]
    show (List.toArray _).size ≤ _
    rw [List.size_toArray, List.length_drop]
    exact Nat.le_trans (by lia) (show 1000000 ≤ sizeLine by decide)
theorem sliced_last {s : Shared} {x : Str} {t : Tok} {u : Tok} {Q : Value → Shared → Prop} (hsz : x.length ≤ 1000000)
    (h : ∀ t' k, Q (.str ⟨(x.cps.toList.take (x.length - 1)).toArray⟩ t') { s with toks := k }) : (sliceMade x t none (some (-1, u)) none).post Q s := by
  have hl := str_list_len x
  have e : ((slicePicked x none (some (-1, u)) none).filterMap (x.cps[·]?)) = x.cps.toList.take (x.length - 1) := by
    show (Builtin.Str.strSliceIndices none (some (-1)) 1 x.length).filterMap (x.cps[·]?) = _
    rw [last_idx, StrLaws.sliced_plain x (Nat.zero_le _) (by lia)]; simp
  unfold sliceMade
  split
  · rename_i hw
    simp only [Bool.and_eq_true, beq_iff_eq] at hw
    have hw := hw.2
    have hlen : (slicePicked x none (some (-1, u)) none).length = x.length - 1 - 0 := by
      show (Builtin.Str.strSliceIndices none (some (-1)) 1 x.length).length = _
      rw [last_idx, StrLaws.strSliceIndices_plain (Nat.zero_le _) (by lia), List.length_map, List.length_range]
    have := h t s.toks
    have z : x.length = 0 := by lia
    have e2 : x.cps.toList.take (x.length - 1) = x.cps.toList := by
      have : x.cps.toList = [] := List.length_eq_zero_iff.mp (by lia)
      rw [this]; simp
    rw [e2] at this
    exact this
  · refine ⟨?_, by rw [e]; exact h _ _⟩
    rw [e]
    show (List.toArray _).size ≤ _
    rw [List.size_toArray, List.length_take]
    exact Nat.le_trans (by lia) (show 1000000 ≤ sizeLine by decide)
inductive cFrom (f g : Ev) (σ : St) : D → Bool → Prop
  | mk {x y d : D} {b c : Bool} (h1 : f σ x b) (h2 : g σ y c) (h3 : fromD x y d) : cFrom f g σ d (b || d.scalar)
inductive cUpto (f g : Ev) (σ : St) : D → Bool → Prop
  | mk {x y d : D} {b c : Bool} (h1 : f σ x b) (h2 : g σ y c) (h3 : uptoD x y d) : cUpto f g σ d (b || d.scalar)
theorem part_none {env : Env} : evalPart none env = pure .none := rfl
theorem from_ok {A : Around} {E : Value → Shared → Prop} {s : Shared} {P P' : Addr → Prop} {v vi : Value} {d di r : D} {value lo : Expr} {p : Pos} {sl : Addr} (dead : ∀ a, s.heap.get? a = none → P a) (x : Cn prog w s.heap P v d) (y : Is prog w s.heap P' vi di) (h : fromD d di r)
    (hsl : s.heap.get? sl = some { cls := .type "slice", data := .fields #[vi, .none, .none] }) :
    wpAny (model prog w) A (subscriptTail value (.Slice (some lo) none none p) v (.ref sl)) (VlQ prog w s P r) E s := by
  cases h with
  | lst hb =>
    obtain ⟨a, vs, n, rfl, o, q⟩ := x
    obtain ⟨t, rfl⟩ := y.int'
    have hL : s.heap.IsList a vs.toArray := ⟨_, o, rfl, _, rfl⟩
    have hl := q.length
    refine tail_any (ops := [.ref sl, .ref a]) hL.typeIs slot_list_getitem.lookup (wpAny_getItem_list_slice hL ⟨_, hsl, rfl, rfl⟩ (.int _ _) .none .none (by simp) ?_ (by simp only [List.size_toArray]; exact Nat.le_trans (by lia) (show 1000000 ≤ sizeLine by decide))) rfl
    rw [slicePick_from' vs.toArray, List.toList_toArray]
    exact ⟨.push _ _, .lst (dead _ (dead_size _)) (Heap.get?_push_size _ rfl) ((q.drop _).keeps (.push _ s.toks))⟩
  | str hb =>
    obtain ⟨t, rfl⟩ := x
    obtain ⟨u, rfl⟩ := y.int'
    exact wpAny_with_toks (Nat.le_refl s.toks) <| tail_any (ops := [.ref sl, .str _ t]) (typeIs_str _ _ _) F.slot_str_getitem.lookup (wpAny_getItem_str_slice (l := some (_, u)) (u := none) (st := none) ⟨_, hsl, rfl, rfl⟩ rfl (sliced_from (Int.natCast_nonneg _) hb fun t' k htk => ⟨.toks _, .str _ _⟩)) rfl
theorem upto_ok {A : Around} {E : Value → Shared → Prop} {s : Shared} {P P' : Addr → Prop} {v vi : Value} {d di r : D} {value hi : Expr} {p : Pos} {sl : Addr} (dead : ∀ a, s.heap.get? a = none → P a) (x : Cn prog w s.heap P v d) (y : Is prog w s.heap P' vi di) (h : uptoD d di r)
    (hsl : s.heap.get? sl = some { cls := .type "slice", data := .fields #[.none, vi, .none] }) :
    wpAny (model prog w) A (subscriptTail value (.Slice none (some hi) none p) v (.ref sl)) (VlQ prog w s P r) E s := by
  cases h with
  | lst hb =>
    obtain ⟨a, vs, n, rfl, o, q⟩ := x
    obtain ⟨t, rfl⟩ := y.int'
    have hL : s.heap.IsList a vs.toArray := ⟨_, o, rfl, _, rfl⟩
    have hl := q.length
    refine tail_any (ops := [.ref sl, .ref a]) hL.typeIs slot_list_getitem.lookup (wpAny_getItem_list_slice hL ⟨_, hsl, rfl, rfl⟩ .none (.int _ _) .none (by simp) ?_ (by simp only [List.size_toArray]; exact Nat.le_trans (by lia) (show 1000000 ≤ sizeLine by decide))) rfl
    rw [slicePick_upto' vs.toArray, List.toList_toArray]
    exact ⟨.push _ _, .lst (dead _ (dead_size _)) (Heap.get?_push_size _ rfl) ((q.take _).keeps (.push _ s.toks))⟩
  | str hb =>
    obtain ⟨t, rfl⟩ := x
    obtain ⟨u, rfl⟩ := y.int'
    exact wpAny_with_toks (Nat.le_refl s.toks) <| tail_any (ops := [.ref sl, .str _ t]) (typeIs_str _ _ _) F.slot_str_getitem.lookup (wpAny_getItem_str_slice (l := none) (u := some (-1, u)) (st := none) ⟨_, hsl, rfl, rfl⟩ rfl (sliced_last hb fun t' k htk => ⟨.toks _, .str _ _⟩)) rfl
theorem ev_from {value lo : Expr} {p pos : Pos} {f g : Ev} (hf : CnOk prog w K fr k value f) (hg : EvOk prog w K fr k lo g) : EvOk prog w K fr k (.Subscript value (.Slice (some lo) none none p) pos) (cFrom f g) := by
  rintro A E s σ X _ _ a I ⟨h1, h2, h3⟩
  refine Subscript_ (wpKp (hf A E s σ X _ _ a I h1) fun v1 s1 q1 => wpAny_Slice (wpKp (hg A E s1 σ X _ _ a (I.step q1.1) h2) fun v2 s2 q2 => ?_))
  rw [part_none]
  refine wpAny_pure (wpAny_pure ?_)
  have I3 := ((I.step q1.1).step q2.1).step (.push { cls := .type "slice", data := .fields #[v2, .none, .none] } s2.toks)
  exact wpKp (from_ok (vw_dead I3 _) (q1.2.mono (fun _ _ e => Heap.get?_push_of_some _ (q2.1.get e)) fun _ p => p) (q2.2.keeps (.push _ s2.toks)) h3 (Heap.get?_push_size _ rfl)) fun u s3 q3 => ⟨((q1.1.trans q2.1).trans (.push _ s2.toks)).trans q3.1, q3.2.vor⟩
theorem ev_upto {value hi : Expr} {p pos : Pos} {f g : Ev} (hf : CnOk prog w K fr k value f) (hg : EvOk prog w K fr k hi g) : EvOk prog w K fr k (.Subscript value (.Slice none (some hi) none p) pos) (cUpto f g) := by
  rintro A E s σ X _ _ a I ⟨h1, h2, h3⟩
  refine Subscript_ (wpKp (hf A E s σ X _ _ a I h1) fun v1 s1 q1 => wpAny_Slice ?_)
  rw [part_none]
  refine wpAny_pure (wpKp (hg A E s1 σ X _ _ a (I.step q1.1) h2) fun v2 s2 q2 => wpAny_pure ?_)
  have I3 := ((I.step q1.1).step q2.1).step (.push { cls := .type "slice", data := .fields #[.none, v2, .none] } s2.toks)
  exact wpKp (upto_ok (vw_dead I3 _) (q1.2.mono (fun _ _ e => Heap.get?_push_of_some _ (q2.1.get e)) fun _ p => p) (q2.2.keeps (.push _ s2.toks)) h3 (Heap.get?_push_size _ rfl)) fun u s3 q3 => ⟨((q1.1.trans q2.1).trans (.push _ s2.toks)).trans q3.1, q3.2.vor⟩
inductive inD : D → D → Bool → Prop
  | lstS {x : Str} {ys : List Str} : inD (.str x) (.lst (ys.map .str)) (ys.contains x)
  | dctI {x : Int} {ks : List Int} {vs : List D} : inD (.int x) (.dctI ks vs) (ks.contains x)
theorem strs_at {h : Heap} {P : Addr → Prop} : ∀ {vs : List Value} {ys : List Str}, IsL prog w h P vs (ys.map .str) → (∀ v ∈ vs, ∃ y t, v = .str y t) ∧ ∀ x : Str, (vs.any fun v => match v with | .str z _ => z == x | _ => false) = ys.contains x := by
  intro vs ys
  induction ys generalizing vs with
  | nil => exact fun r => (List.eq_nil_of_length_eq_zero r.length) ▸ ⟨fun _ h => absurd h List.not_mem_nil, fun _ => rfl⟩
  | cons y ys ih =>
    intro r
    cases vs with
    | nil => exact absurd r.length nofun
    | cons v vs =>
    obtain ⟨d, xs, e, z, q⟩ := r.inv
    rw [← (List.cons.inj e).1] at z
    rw [← (List.cons.inj e).2] at q
    obtain ⟨t, rfl⟩ := z.str'
    obtain ⟨h1, h2⟩ := ih q
    refine ⟨fun v hv => ?_, fun x => ?_⟩
    · rcases List.mem_cons.mp hv with rfl | hv
      · exact ⟨_, _, rfl⟩
      · exact h1 v hv
    · rw [List.any_cons, h2, List.contains_cons]
      have : (y == x) = (x == y) := Bool.eq_iff_iff.mpr (by rw [beq_iff_eq, beq_iff_eq]; exact eq_comm)
      show ((y == x) || _) = _
      rw [this]
theorem valueAt_contains {α : Type} [DecidableEq α] : ∀ (kvs : List (α × Value)) (x : α), (valueAt kvs x).isSome = (kvs.map (·.1)).contains x
  | [], _ => rfl
  | (k, v) :: kvs, x => by
    have ih := valueAt_contains kvs x
    unfold valueAt at ih ⊢
    rw [List.find?_cons, List.map_cons, List.contains_cons]
    by_cases e : k = x
    · subst e; simp
    · have h1 : decide (k = x) = false := decide_eq_false e
      have h2 : (x == k) = false := by simpa using fun z => e z.symm
      simp only [h1, h2, Bool.false_or]; exact ih
open PySem.SeqAt in
theorem cmp_in : CmpOk prog w .In inD := by
  intro A E s P v1 v2 d1 d2 b a x y h
  cases h with
  | lstS =>
    rename_i xx ys
    obtain ⟨t, rfl⟩ := x.str'
    obtain ⟨l, vs, n, rfl, _, o, r⟩ := y.lst'
    obtain ⟨h1, h2⟩ := strs_at r
    refine SeqAt.in_listAt (items := vs.toArray) (fun v => match v with | .str z _ => z == xx | _ => false) ⟨_, o, rfl, _, rfl⟩ (fun v hv => ?_) ⟨.refl _, by rw [← h2]; simp⟩
    obtain ⟨y, u, rfl⟩ := h1 v (List.mem_toArray.mp hv)
    exact EqAt.of_in1 (.str_str _ _ _ _)
  | dctI =>
    obtain ⟨t, rfl⟩ := x.int'
    obtain ⟨a, kvs, rfl, _, z, o, rfl, r⟩ := y.dctI'
    refine wpAny_in_of (intKind_is prog w _ t) z o.mapOf ⟨.toks _, ?_⟩
    rw [valueAt_contains]
end
end Mine
namespace Mine
open PySem PySem.W PySem.Calls PyProof.Rows
open PySem.Spec (ltCps)
noncomputable def maxZ : List Int → Int
  | [] => 0
  | x :: r => r.foldl max x
noncomputable def leS (x y : Str) : Bool := !ltCps y.cps.toList x.cps.toList
noncomputable def insS (x : Str) : List Str → List Str
  | [] => [x]
  | y :: r => if leS x y then x :: y :: r else y :: insS x r
noncomputable def sortS : List Str → List Str
  | [] => []
  | x :: r => insS x (sortS r)
theorem ltCps_irrefl : ∀ a : List Nat, ltCps a a = false
  | [] => rfl
  | a :: r => by simp [ltCps, ltCps_irrefl r]
theorem ltCps_trans : ∀ {a b c : List Nat}, ltCps a b = true → ltCps b c = true → ltCps a c = true
  | [], [], _, h, _ => by cases h
  | [], _ :: _, [], _, h => by cases h
  | [], _ :: _, _ :: _, _, _ => rfl
  | _ :: _, [], _, h, _ => by cases h
  | _ :: _, _ :: _, [], _, h => by cases h
  | a :: r, b :: t, c :: u, h1, h2 => by
    simp only [ltCps, Bool.or_eq_true, decide_eq_true_eq, Bool.and_eq_true, beq_iff_eq] at h1 h2 ⊢
    rcases h1 with h1 | ⟨rfl, h1⟩ <;> rcases h2 with h2 | ⟨rfl, h2⟩
    · exact .inl (Nat.lt_trans h1 h2)
    · exact .inl h1
    · exact .inl h2
    · exact .inr ⟨rfl, ltCps_trans h1 h2⟩
theorem ltCps_total : ∀ {a b : List Nat}, ltCps a b = false → ltCps b a = false → a = b
  | [], [], _, _ => rfl
  | [], _ :: _, h, _ => by cases h
  | _ :: _, [], _, h => by cases h
  | a :: r, b :: t, h1, h2 => by
    simp only [ltCps, Bool.or_eq_false_iff, decide_eq_false_iff_not, Bool.and_eq_false_iff, beq_eq_false_iff_ne] at h1 h2
    have : a = b := by lia
    subst this
    rw [ltCps_total (h1.2.resolve_left (fun z => z rfl)) (h2.2.resolve_left (fun z => z rfl))]
theorem leS_trans {x y z : Str} (h1 : leS x y = true) (h2 : leS y z = true) : leS x z = true := by
  unfold leS at *
  simp only [Bool.not_eq_true'] at *
  cases q : ltCps z.cps.toList x.cps.toList with
  | false => rfl
  | true =>
    exfalso
    cases p : ltCps x.cps.toList y.cps.toList with
    | true => rw [ltCps_trans q p] at h2; cases h2
    | false =>
      have := ltCps_total h1 p
      rw [this, q] at h2; cases h2
theorem leS_antisymm {x y : Str} (h1 : leS x y = true) (h2 : leS y x = true) : x = y := by
  unfold leS at *
  simp only [Bool.not_eq_true'] at *
  have := ltCps_total h2 h1
  obtain ⟨⟨a⟩⟩ := x; obtain ⟨⟨b⟩⟩ := y
  simp at this; rw [this]
theorem leS_total {x y : Str} (h : leS x y = false) : leS y x = true := by
  unfold leS at *
  simp only [Bool.not_eq_false', Bool.not_eq_true'] at *
  cases q : ltCps x.cps.toList y.cps.toList with
  | false => rfl
  | true => have := ltCps_trans h q; rw [ltCps_irrefl] at this; cases this
theorem insS_perm (x : Str) : ∀ l, (insS x l).Perm (x :: l)
  | [] => .refl _
  | y :: r => by
    unfold insS
    split
    · exact .refl _
    · exact ((insS_perm x r).cons y).trans (.swap x y r)
theorem sortS_perm : ∀ l, (sortS l).Perm l
  | [] => .refl _
  | x :: r => (insS_perm x _).trans ((sortS_perm r).cons x)
theorem insS_sorted (x : Str) : ∀ l, l.Pairwise (fun a b => leS a b = true) → (insS x l).Pairwise (fun a b => leS a b = true)
  | [], _ => List.pairwise_singleton _ _
  | y :: r, h => by
    rw [List.pairwise_cons] at h
    unfold insS
    split
    · rename_i q
      refine List.pairwise_cons.mpr ⟨fun z hz => ?_, List.pairwise_cons.mpr h⟩
      rcases List.mem_cons.mp hz with rfl | hz
      · exact q
      · exact leS_trans q (h.1 z hz)
    · rename_i q
      refine List.pairwise_cons.mpr ⟨fun z hz => ?_, insS_sorted x r h.2⟩
      rcases List.mem_cons.mp ((insS_perm x r).mem_iff.mp hz) with rfl | hz
      · exact leS_total (by simpa using q)
      · exact h.1 z hz
theorem sortS_sorted : ∀ l, (sortS l).Pairwise (fun a b => leS a b = true)
  | [] => .nil
  | x :: r => insS_sorted x _ (sortS_sorted r)
theorem risingS_pairwise : ∀ (p : Str) (l : List Str), risingS p l = true → (p :: l).Pairwise (fun a b => leS a b = true)
  | p, [], _ => List.pairwise_singleton _ _
  | p, x :: r, h => by
    unfold risingS at h
    rw [Bool.and_eq_true] at h
    have ih := risingS_pairwise x r h.2
    refine List.pairwise_cons.mpr ⟨fun z hz => ?_, ih⟩
    rcases List.mem_cons.mp hz with rfl | hz
    · exact h.1
    · exact leS_trans h.1 ((List.pairwise_cons.mp ih).1 z hz)
theorem sortedS_pairwise : ∀ (l : List Str), sortedS l = true → l.Pairwise (fun a b => leS a b = true)
  | [], _ => .nil
  | x :: r, h => risingS_pairwise x r h
theorem sorted_unique {l l' : List Str} (p : l.Perm l') (h : l.Pairwise (fun a b => leS a b = true)) (h' : l'.Pairwise (fun a b => leS a b = true)) : l = l' :=
  p.eq_of_pairwise (fun _ _ _ _ a b => leS_antisymm a b) h h'
theorem sortS_congr {l l' : List Str} (p : l.Perm l') : sortS l = sortS l' := sorted_unique ((sortS_perm l).trans (p.trans (sortS_perm l').symm)) (sortS_sorted l) (sortS_sorted l')
inductive lenF : List D → D → Prop
  | lst {xs : List D} (h : xs.length ≤ 1000000) : lenF [.lst xs] (.int xs.length)
  | tup {xs : List D} (h : xs.length ≤ 1000000) : lenF [.tup xs] (.int xs.length)
inductive divmodF : List D → D → Prop
  | mk {a b : Int} (h : b ≠ 0) (h2 : smallI b = true) : divmodF [.int a, .int b] (.tup [.int (a.fdiv b), .int (a.fmod b)])
inductive maxF : List D → D → Prop
  | two {a b : Int} : maxF [.int a, .int b] (.int (max a b))
  | lst {ns : List Int} (h : ns ≠ []) : maxF [.lst (ns.map .int)] (.int (maxZ ns))
  | dct {ks : List Int} {vs : List D} (h : ks ≠ []) : maxF [.dctI ks vs] (.int (maxZ ks))
inductive sumF : List D → D → Prop
  | mk {ns : List Int} : sumF [.lst (ns.map .int)] (.int ns.sum)
inductive sortedF : List D → D → Prop
  | mk {ss : List Str} (h : ss.length < 64) : sortedF [.lst (ss.map .str)] (.lst ((sortS ss).map .str))
section
variable {prog : Program} {w : World} {K : Frag} {fr : Fm} {k : Nat}
variable (prog w) in
noncomputable def FunOk (fv : Value) (f : List D → D → Prop) : Prop := ∀ (A : Around) (E : Value → Shared → Prop) (s : Shared) (P : Addr → Prop) (vs : List Value) (ds : List D) (d : D), Ao 1 A → s.heap.NoLimit → (∀ a, s.heap.get? a = none → P a) → IsL prog w s.heap P vs ds → f ds d →
  wpAny (model prog w) A (call fv vs) (VlQ prog w s P d) E s
theorem IsL.one {h : Heap} {P : Addr → Prop} {vs : List Value} {d : D} (x : IsL prog w h P vs [d]) : ∃ v, vs = [v] ∧ Is prog w h P v d := by
  cases x with | cons a r => cases r; exact ⟨_, rfl, a⟩
theorem IsL.two {h : Heap} {P : Addr → Prop} {vs : List Value} {d e : D} (x : IsL prog w h P vs [d, e]) : ∃ v u, vs = [v, u] ∧ Is prog w h P v d ∧ Is prog w h P u e := by
  cases x with | cons a r => obtain ⟨u, rfl, b⟩ := r.one; exact ⟨_, _, rfl, a, b⟩
theorem IsL.three {h : Heap} {P : Addr → Prop} {vs : List Value} {d e f : D} (x : IsL prog w h P vs [d, e, f]) : ∃ v u t, vs = [v, u, t] ∧ Is prog w h P v d ∧ Is prog w h P u e ∧ Is prog w h P t f := by
  cases x with | cons a r => obtain ⟨u, t, rfl, b, c⟩ := r.two; exact ⟨_, _, _, rfl, a, b, c⟩
theorem ints_of {h : Heap} {P : Addr → Prop} : ∀ {vs : List Value} {ns : List Int}, IsL prog w h P vs (ns.map .int) → ∃ ps : List (Int × Tok), vs = ps.map (fun p => .int p.1 p.2) ∧ ps.map (·.1) = ns
  | [], [], _ => ⟨[], rfl, rfl⟩
  | v :: vs, i :: ns, .cons x r => by
    obtain ⟨t, rfl⟩ := x.int'
    obtain ⟨ps, rfl, rfl⟩ := ints_of r
    exact ⟨(i, t) :: ps, rfl, rfl⟩
theorem strs_of {h : Heap} {P : Addr → Prop} : ∀ {vs : List Value} {ns : List Str}, IsL prog w h P vs (ns.map .str) → StrsAre vs ns
  | [], [], _ => .nil
  | v :: vs, i :: ns, .cons x r => by
    obtain ⟨t, rfl⟩ := x.str'
    exact .cons _ _ (strs_of r)
theorem strsAre_length : ∀ {vs : List Value} {ns : List Str}, StrsAre vs ns → vs.length = ns.length
  | _, _, .nil => rfl
  | _, _, .cons _ _ r => congrArg (· + 1) (strsAre_length r)
theorem of_strs {h : Heap} {P : Addr → Prop} : ∀ {vs : List Value} {ns : List Str}, StrsAre vs ns → IsL prog w h P vs (ns.map .str)
  | _, _, .nil => .nil
  | _, _, .cons y t r => .cons (.str y t) (of_strs r)
theorem fun_len : FunOk prog w (.builtin "len") lenF := by
  intro A E s P vs ds d a _ dead x h
  cases h with
  | lst hl =>
    obtain ⟨v, rfl, x1⟩ := x.one
    obtain ⟨l, vs, n, rfl, _, o, r⟩ := x1.lst'
    have e := r.length
    refine call_len_list (items := vs.toArray) ⟨_, o, rfl, _, rfl⟩ (by simp only [List.size_toArray]; lia) ⟨.toks _, ?_⟩
    simp only [List.size_toArray, e]; exact .int _ _
  | tup hl =>
    obtain ⟨v, rfl, x1⟩ := x.one
    obtain ⟨l, vs, n, rfl, _, o, r⟩ := x1.tup'
    have e := r.length
    refine PySem.P.len_tuple (items := vs.toArray) o (by simp only [List.size_toArray]; lia) ⟨.toks _, ?_⟩
    simp only [List.size_toArray, e]; exact .int _ _
theorem fun_divmod : FunOk prog w (.builtin "divmod") divmodF := by
  rintro A E s P vs _ _ a _ dead x ⟨hb, h2⟩
  obtain ⟨v, u, rfl, x1, y⟩ := x.two
  obtain ⟨t, rfl⟩ := x1.int'
  obtain ⟨t', rfl⟩ := y.int'
  refine divmod_int hb ⟨⟨⟨_, _, rfl⟩, fun e => Heap.get?_push_of_some _ e, Nat.le_trans (Nat.le_succ _) (Nat.le_succ _)⟩, ?_⟩ (.inl (PyProof.noPylong_small (by have := of_decide_eq_true h2; lia)))
  exact .tup (dead _ (dead_size _)) (Heap.get?_push_size _ rfl) (.cons (.int _ _) (.cons (.int _ _) .nil))
theorem maxZ_spec {ns : List Int} {r : Int} (hm : r ∈ ns) (hle : ∀ x ∈ ns, x ≤ r) : maxZ ns = r := by
  cases ns with
  | nil => cases hm
  | cons x ns =>
    have key : ∀ (l : List Int) (a : Int), (l.foldl max a = a ∨ l.foldl max a ∈ l) ∧ a ≤ l.foldl max a ∧ ∀ y ∈ l, y ≤ l.foldl max a := by
      intro l
      induction l with
      | nil => intro a; exact ⟨.inl rfl, Int.le_refl _, by simp⟩
      | cons y l ih =>
        intro a
        obtain ⟨p, q, t⟩ := ih (max a y)
        refine ⟨?_, by simp only [List.foldl_cons]; lia, ?_⟩
        · simp only [List.foldl_cons]
          rcases p with p | p
          · rw [p]
            rcases Int.le_total a y with z | z
            · right; rw [Int.max_eq_right z]; exact .head _
            · left; rw [Int.max_eq_left z]
          · right; exact .tail _ p
        · intro z hz
          simp only [List.foldl_cons]
          rcases List.mem_cons.mp hz with rfl | hz
          · lia
          · exact t z hz
    obtain ⟨p, q, t⟩ := key ns x
    show ns.foldl max x = r
    have h1 : ns.foldl max x ≤ r := by
      rcases p with p | p
      · rw [p]; exact hle x (.head _)
      · exact hle _ (.tail _ p)
    have h2 : r ≤ ns.foldl max x := by
      rcases List.mem_cons.mp hm with rfl | hm
      · exact q
      · exact t r hm
    lia
theorem maxZ_best (ns : List Int) (h : ns ≠ []) : maxZ ns = ns.getD (argBest (fun i j => decide (ns.getD i 0 > ns.getD j 0)) (ns.length - 1)) 0 := by
  have hl : 0 < ns.length := List.length_pos_iff.mpr h
  obtain ⟨a, b⟩ := argBest_gt (fun i => ns.getD i 0) (ns.length - 1)
  refine maxZ_spec ?_ fun x hx => ?_
  · rw [List.getD_eq_getElem?_getD, List.getElem?_eq_getElem (by lia)]; exact List.getElem_mem _
  · obtain ⟨i, hi, rfl⟩ := List.getElem_of_mem hx
    have := b i (by lia)
    rwa [List.getD_eq_getElem?_getD, List.getElem?_eq_getElem hi] at this
theorem fun_max : FunOk prog w (.builtin "max") maxF := by
  intro A E s P vs ds d a _ dead x h
  cases h with
  | two =>
    rename_i i j
    obtain ⟨v, u, rfl, x1, y⟩ := x.two
    obtain ⟨t, rfl⟩ := x1.int'
    obtain ⟨t', rfl⟩ := y.int'
    refine wpAny_with_toks (Nat.le_refl s.toks) (max_two_ints a.hd fun h' tk kp htk => ⟨.mk' _ kp, ?_⟩)
    split
    · rw [Int.max_eq_right (by lia)]; exact .int _ _
    · rw [Int.max_eq_left (by lia)]; exact .int _ _
  | lst hne =>
    obtain ⟨v, rfl, x1⟩ := x.one
    obtain ⟨l, vs, n, rfl, _, o, r⟩ := x1.lst'
    obtain ⟨ps, rfl, rfl⟩ := ints_of r
    have hi : (ps.map fun p => Value.int p.1 p.2).toArray = intItems ps.toArray := by simp [intItems]
    have hn : ∀ i, numAt ps.toArray i = (ps.map (·.1)).getD i 0 := fun i => by unfold numAt; rw [List.getD_eq_getElem?_getD, List.getElem?_map]; simp
    refine wpAny_with_toks (Nat.le_refl s.toks) <| max_intList a.hd (xs := ps.toArray) ⟨_, o, rfl, n, by show Data.seq _ n = _; rw [hi]⟩ (by rw [List.size_toArray]; exact List.length_pos_iff.mpr (by simpa using hne)) fun v h' tk e kp htk => ⟨.mk' _ kp, ?_⟩
    obtain ⟨t, rfl⟩ := intItems_at e
    have e2 : (fun i j => decide (numAt ps.toArray i > numAt ps.toArray j)) = fun i j => decide ((ps.map (·.1)).getD i 0 > (ps.map (·.1)).getD j 0) := by funext i j; rw [hn, hn]
    rw [hn, e2, maxZ_best _ hne, List.length_map, List.size_toArray]
    exact .int _ _
  | dct hne =>
    obtain ⟨v, rfl, x1⟩ := x.one
    obtain ⟨dd, kvs, rfl, _, z, o, rfl, r⟩ := x1.dctI'
    obtain ⟨ep, dat⟩ := o.dictAt
    have hlt : dd < s.heap.objs.size := dat.lt_size
    refine wpAny_with_toks (Nat.le_refl s.toks) <| call_max_walk (wpAny_pyIter_dict z dat ?_)
    have dat2 := dat.push { cls := .type "dict_keyiterator", data := .fields #[.ref dd, .int 0 0, .int kvs.length 0, .int ep 0] }
    refine ⟨_, _, _, _, _, _, _, rfl, Walks.dictKeys (A := A.in1) a.hd _ dd (Nat.ne_of_lt hlt) kvs ep, ⟨⟨_, Heap.get?_push_size _ rfl, rfl, rfl⟩, dat2⟩, ?_, by simpa using List.length_pos_iff.mpr hne, CmpOf.ints_gt (fun i => (kvs.map (·.1)).getD i 0) ?_, fun v h' tk hp kp htk => ⟨.mk' _ ?_ htk, ?_⟩⟩
    · intro b hb
      show b < (s.heap.push _).objs.size
      rw [Heap.size_push]
      simp only [List.mem_cons, List.not_mem_nil, or_false] at hb
      rcases hb with rfl | rfl
      · exact Nat.lt_succ_self _
      · exact Nat.lt_succ_of_lt hlt
    · rintro i v ⟨kk, x, e, q⟩
      obtain ⟨t, rfl⟩ := Value.isInt_shape q
      refine ⟨t, ?_⟩
      simp [List.getD_eq_getElem?_getD, e]
    · intro b o e
      refine kp b o (fun hm => ?_) (Heap.get?_push_of_some _ e)
      rw [List.mem_singleton.mp hm, dead_size] at e; cases e
    · obtain ⟨kk, x, e, q⟩ := hp
      obtain ⟨t, rfl⟩ := Value.isInt_shape q
      have e3 : (kvs.map (·.1)).getD (argBest (fun i j => decide ((kvs.map (·.1)).getD i 0 > (kvs.map (·.1)).getD j 0)) (kvs.length - 1)) 0 = kk := by
        rw [List.getD_eq_getElem?_getD, List.getElem?_map, e]; rfl
      rw [maxZ_best _ hne, List.length_map, e3]
      exact .int _ _
theorem preSum_eq (ps : List (Int × Tok)) : preSum (numAt ps.toArray) ps.length = (ps.map (·.1)).sum := by
  have key : ∀ n, n ≤ ps.length → preSum (numAt ps.toArray) n = ((ps.map (·.1)).take n).sum := by
    intro n
    induction n with
    | zero => intro _; rfl
    | succ n ih =>
      intro hn
      have hlt : n < (ps.map (·.1)).length := by rw [List.length_map]; lia
      rw [preSum, ih (by lia), List.take_succ_eq_append_getElem hlt, List.sum_append]
      simp [numAt, List.getElem?_eq_getElem (show n < ps.length by lia)]
  rw [key _ (Nat.le_refl _), List.take_of_length_le (by rw [List.length_map]; exact Nat.le_refl _)]
theorem fun_sum : FunOk prog w (.builtin "sum") sumF := by
  rintro A E s P vs _ _ a _ dead x ⟨⟩
  obtain ⟨v, rfl, x1⟩ := x.one
  obtain ⟨l, vs, n, rfl, _, o, r⟩ := x1.lst'
  obtain ⟨ps, rfl, rfl⟩ := ints_of r
  have hi : (ps.map fun p => Value.int p.1 p.2).toArray = intItems ps.toArray := by simp [intItems]
  refine wpAny_with_toks (Nat.le_refl s.toks) <| sum_intListG a.hd (xs := ps.toArray) ⟨_, o, rfl, n, by show Data.seq _ n = _; rw [hi]⟩ fun h' tk t' kp htk => ⟨.mk' _ kp, ?_⟩
  rw [List.size_toArray, preSum_eq]
  exact .int _ _
theorem fun_sorted : FunOk prog w (.builtin "sorted") sortedF := by
  rintro A E s P vs _ _ a _ dead x ⟨hl⟩
  rename_i ss
  obtain ⟨v, rfl, x1⟩ := x.one
  obtain ⟨l, vs, n, rfl, _, o, r⟩ := x1.lst'
  have hs := strs_of r
  have hlen : vs.length = ss.length := strsAre_length hs
  refine sorted_strs (vs := vs) ⟨_, o, rfl, _, rfl⟩ hs (by rw [hlen]; exact hl) fun out ss' a1 a2 a3 => ?_
  obtain ⟨e, he⟩ := sortedAll_at s.heap vs out
  have e2 : ss' = sortS ss := sorted_unique (a2.trans (sortS_perm ss).symm) (sortedS_pairwise _ a3) (sortS_sorted _)
  subst e2
  refine ⟨.mk' _ fun _ _ => sortedAll_old, .lst (n := e) (vs := out.toList) (dead _ ?_) he (of_strs a1)⟩
  cases q : s.heap.get? (s.heap.objs.size + 1) with
  | none => rfl
  | some o => exact absurd (Heap.lt_size q) (Nat.not_lt.mpr (Nat.le_succ _))
end
end Mine
namespace Mine
open PySem PySem.W PySem.Calls PyProof.Rows
section
variable {prog : Program} {w : World} {K : Frag} {fr : Fm} {k : Nat}
variable (prog w K) in
noncomputable def GOk (k : Nat) (fv : Value) (f : List D → D → Prop) : Prop := ∀ (A : Around) (E : Value → Shared → Prop) (s : Shared) (P : Addr → Prop) (vs : List Value) (ds : List D) (d : D), Ao k A → Wd K s.heap → 0 ≤ s.toks → (∀ a, s.heap.get? a = none → P a) → IsL prog w s.heap P vs ds → f ds d →
  wpAny (model prog w) A (call fv vs) (VlQ prog w s P d) E s
theorem GOk.of {fv : Value} {f : List D → D → Prop} (h : FunOk prog w fv f) : GOk prog w K 1 fv f :=
  fun A E s P vs ds d a b _ e r z => h A E s P vs ds d a b.nolimit e r z
theorem GOk.up {j : Nat} {fv : Value} {f : List D → D → Prop} (h : GOk prog w K k fv f) (e : k ≤ j) : GOk prog w K j fv f :=
  fun A E s P vs ds d a => h A E s P vs ds d (a.mono e)
variable (prog w K fr) in
noncomputable def NmOk (x : Str) (v : Value) : Prop := ∀ (pos : Pos) (A : Around) (E : Value → Shared → Prop) (s : Shared) (σ : St) (X : Nat → List Addr) (Q : Value → Shared → Prop), Inv prog w K fr σ X s → Q v s → wpAny (model prog w) A (eval (.Name x pos) fr.env) Q E s
theorem nm_global {x : Str} {v : Value} (hx : fr.env.scope.names.lookup x = some .globalImplicit) (e : nsIn K mainGlobals x = some (some v)) (hd : (x == ("__debug__" : Str)) = false) : NmOk prog w K fr x v := by
  intro pos A E s σ X Q I q
  obtain ⟨mg, G⟩ := I.world.g
  exact Name_function_global I.hk hx (loadGlobal_global (by rw [I.hg]; exact G) (mg_of I.world.k G e) q) hd
theorem nm_builtin {x : Str} {v : Value} (hx : fr.env.scope.names.lookup x = some .globalImplicit) (e : nsIn K mainGlobals x = some none) (hb : bootBuiltins x = some v) (hn : (x == ("__name__" : Str)) = false) (hd : (x == ("__debug__" : Str)) = false) : NmOk prog w K fr x v := by
  intro pos A E s σ X Q I q
  obtain ⟨mg, G⟩ := I.world.g
  obtain ⟨mb, B, hB⟩ := I.world.b
  refine Name_function_global I.hk hx (loadGlobal_builtin (by rw [I.hg]; exact G) (mg_none_of I.world.k G e) (by rw [I.hb]; exact B) ?_ q) hd
  rw [hB x (fun z => by rw [z] at hn; simp at hn)]
  exact hb
theorem callWith_any {A : Around} {E : Value → Shared → Prop} {s : Shared} {fv : Value} {pos : Pos} {x : Sem Value} {rest : List (Bool × Sem Value)} {Q : Value → Shared → Prop} {f : List D → D → Prop}
    (g : GOk prog w K k fv f) (hc : (∃ n, fv = .builtin n) ∨ (∃ n, fv = .type n) ∨ ∃ a, fv = .ref a ∧ ∃ o fd, K.lookup a = some o ∧ o.data = .func fd) (ht : rest.any (·.1) = false)
    (h : wpAny (model prog w) A (spliced ((false, x) :: rest)) (fun vs s₁ => K.In s₁.heap ∧ wpAny (model prog w) A (call fv vs) Q E s₁) E s) :
    wpAny (model prog w) A (callWith pos fv [] ((false, x) :: rest) []) Q E s := by
  rcases hc with ⟨n, rfl⟩ | ⟨n, rfl⟩ | ⟨a, rfl, o, fd, e1, e2⟩
  · exact callWith_builtin (by rw [List.any_cons, ht]; rfl) (evalArgs_plain (wpKp h fun vs s1 q => q.2))
  · exact PyProof.Rows.callWith_type (by rw [List.any_cons, ht]; rfl) (evalArgs_plain (wpKp h fun vs s1 q => q.2))
  · exact callWith_function (o := o) (fd := fd) (evalArgs_plain (wpKp h fun vs s1 q => ⟨⟨q.1 _ _ e1, e2⟩, q.2⟩))
inductive cFun (f : List D → D → Prop) (g : Evs) (σ : St) : D → Bool → Prop
  | mk {ds : List D} {d : D} {b : Bool} (h1 : g σ ds b) (h2 : f ds d) : cFun f g σ d (b || d.scalar)
theorem ev_fun {x : Str} {p pos : Pos} {e : Expr} {es : List Expr} {fv : Value} {f : List D → D → Prop} {g : Evs} (hn : NmOk prog w K fr x fv) (hg : EsOk prog w K fr k pos (e :: es) g) (hf : GOk prog w K k fv f)
    (hs : starEach (e :: es) fr.env = (false, eval e fr.env) :: starEach es fr.env) (ht : (backTo pos (starEach es fr.env)).any (·.1) = false)
    (hc : (∃ n, fv = .builtin n) ∨ (∃ n, fv = .type n) ∨ ∃ a, fv = .ref a ∧ ∃ o fd, K.lookup a = some o ∧ o.data = .func fd) : EvOk prog w K fr k (.Call (.Name x p) (e :: es) [] pos) (cFun f g) := by
  rintro A E s σ X _ _ a I ⟨h1, h2⟩
  refine wpAny_Call_Name_kw (hn p A E s σ X _ I ?_)
  have hgg := hg A E s σ X _ _ a I h1
  rw [hs] at hgg ⊢
  refine callWith_any hf hc ht (wpKp hgg fun vs s1 q => ⟨(I.step q.1).world.k, ?_⟩)
  have I1 := I.step q.1
  exact wpKp (hf A E s1 _ vs _ _ a I1.world I1.tk1 (vw_dead I1 _) q.2.1 h2) fun v s2 q2 => ⟨q.1.trans q2.1, q2.2.vor⟩
noncomputable def inits (names : List (Str × NameKind)) (ps : List (Str × D)) : St := names.map fun p => (ps.lookup p.1).map MV.froz
noncomputable def cFm (fd : FuncData) (L f : Addr) (he : Heap) (P : Addr → Prop) : Fm where
  env := callEnvC fd L f
  he := he
  P := fun a => P a ∧ a ≠ L ∧ ∀ p ∈ cellsFrom (L + 1) fd.scope.names [], a ≠ p.2
  ex := fun _ => False
  wr := true
inductive xFun (params : List Str) (names : List (Str × NameKind)) (body : Ex) : List D → D → Prop
  | ret {ds : List D} {d : D} {σ' : St} (hl : ds.length = params.length) (h : body (inits names (params.zip ds)) (.ret d) σ') : xFun params names body ds d
theorem bindL_miss {kindOf : Str → Option NameKind} {x : Str} : ∀ (bs : List (Str × Value)) (m : Str → Option Value), (∀ b ∈ bs, b.1 ≠ x) → bindL kindOf bs m x = m x
  | [], _, _ => rfl
  | (n, v) :: r, m, h => by
    unfold bindL
    rw [bindL_miss r _ fun b hb => h b (.tail _ hb)]
    have := h (n, v) (.head _)
    split
    · simp only; rw [if_neg (Ne.symm this)]
    · rfl
theorem bindC_miss {kindOf : Str → Option NameKind} {x : Str} : ∀ (bs : List (Str × Value)) (m : Str → Option Value), (∀ b ∈ bs, b.1 ≠ x) → bindC kindOf bs m x = m x
  | [], _, _ => rfl
  | (n, v) :: r, m, h => by
    unfold bindC
    rw [bindC_miss r _ fun b hb => h b (.tail _ hb)]
    have := h (n, v) (.head _)
    split
    · rfl
    · simp only; rw [if_neg (Ne.symm this)]
theorem bindL_hit {kindOf : Str → Option NameKind} {x : Str} {v : Value} (hk : kindOf x = some .local) : ∀ (bs : List (Str × Value)) (m : Str → Option Value), (bs.map (·.1)).Nodup → bs.lookup x = some v → bindL kindOf bs m x = some v
  | [], _, _, h => by cases h
  | (n, u) :: r, m, nd, h => by
    rw [List.map_cons, List.nodup_cons] at nd
    rw [List.lookup_cons] at h
    unfold bindL
    cases e : (x == n) with
    | true =>
      rw [e] at h; cases h
      have e := eq_of_beq e
      subst e
      rw [bindL_miss r _ fun b hb z => nd.1 (List.mem_map.mpr ⟨b, hb, z⟩), if_pos hk]
      simp
    | false =>
      rw [e] at h
      exact bindL_hit hk r _ nd.2 h
theorem bindC_hit {kindOf : Str → Option NameKind} {x : Str} {v : Value} (hk : kindOf x ≠ some .local) : ∀ (bs : List (Str × Value)) (m : Str → Option Value), (bs.map (·.1)).Nodup → bs.lookup x = some v → bindC kindOf bs m x = some v
  | [], _, _, h => by cases h
  | (n, u) :: r, m, nd, h => by
    rw [List.map_cons, List.nodup_cons] at nd
    rw [List.lookup_cons] at h
    unfold bindC
    cases e : (x == n) with
    | true =>
      rw [e] at h; cases h
      have e := eq_of_beq e
      subst e
      rw [bindC_miss r _ fun b hb z => nd.1 (List.mem_map.mpr ⟨b, hb, z⟩), if_neg hk]
      simp
    | false =>
      rw [e] at h
      exact bindC_hit hk r _ nd.2 h
theorem cellsFrom_keys : ∀ (names : List (Str × NameKind)) (n : Nat) (acc : List (Str × Addr)), (cellsFrom n names acc).map (·.1) = ((names.filter (·.2 == .cell)).map (·.1)).reverse ++ acc.map (·.1)
  | [], _, _ => by simp [cellsFrom]
  | (x, k) :: r, n, acc => by
    unfold cellsFrom
    by_cases h : (k == .cell) = true
    · rw [if_pos h, cellsFrom_keys r]; simp [List.filter_cons, h]
    · rw [if_neg h, cellsFrom_keys r]; simp [List.filter_cons, h]
theorem lookup_of_mem {β : Type} : ∀ {l : List (Str × β)} {x : Str} {c : β}, (l.map (·.1)).Nodup → (x, c) ∈ l → l.lookup x = some c
  | (y, d) :: l, x, c, nd, h => by
    rw [List.map_cons, List.nodup_cons] at nd
    rw [List.lookup_cons]
    rcases List.mem_cons.mp h with h | h
    · cases h; simp
    · cases e : (x == y) with
      | true => exact absurd (eq_of_beq e ▸ List.mem_map_of_mem (f := (·.1)) h) nd.1
      | false => exact lookup_of_mem nd.2 h
theorem nodup_reverse {α : Type} {l : List α} (h : l.Nodup) : l.reverse.Nodup := List.pairwise_reverse.mpr (h.imp fun a b => a b.symm)
theorem zip_lookup {h : Heap} {P : Addr → Prop} {x : Str} {d : D} : ∀ {ps : List Str} {vs : List Value} {ds : List D}, IsL prog w h P vs ds → (ps.zip ds).lookup x = some d → ∃ v, (ps.zip vs).lookup x = some v ∧ Is prog w h P v d
  | [], _, _, _, e => by simp at e
  | _ :: _, _, _, .nil, e => by simp at e
  | p :: ps, _, _, .cons z r, e => by
    rw [List.zip_cons_cons, List.lookup_cons] at e ⊢
    cases q : (x == p) with
    | true => rw [q] at e; cases e; exact ⟨_, rfl, z⟩
    | false => rw [q] at e; exact zip_lookup r e
theorem fn_ok {fd : FuncData} {f : Addr} {o : Obj} {body : List Stmt} {params : List Str} {F : Ex}
    (ho : K.lookup f = some o) (hdata : o.data = .func fd) (hcd : codeIn K fd.code fd.qualname = true) (hbody : fd.body = .stmts body) (hclo : fd.closure = []) (hgl : fd.globals = mainGlobals) (hbu : fd.builtins = builtinsNs)
    (hbind : ∀ (s : Shared) (vs : List Value), K.In s.heap → vs.length = params.length → BindsTo s fd ⟨vs, []⟩ (params.zip vs))
    (hkind : (params.all fun y => fd.scope.names.lookup y == some .local || fd.scope.names.lookup y == some .cell) = true) (hpn : params.Nodup) (hnd : (fd.scope.names.map (·.1)).Nodup)
    (hco : fd.scope.isCoroutine = false) (hgen : fd.scope.isGenerator = false) (hk : fd.scope.kind = .function)
    (hF : ∀ (L : Addr) (he : Heap) (P : Addr → Prop), ExsOk prog w K (cFm fd L f he P) k body F) : GOk prog w K (k + 1) (.ref f) (xFun params fd.scope.names F) := by
  rintro A E s P vs ds d a W tk1 dead x ⟨hlen, h1⟩
  · have hlv : vs.length = params.length := x.length.trans hlen
    refine wpAny_call (codeAny_call_function (a.mono (Nat.zero_le _)).dp (W.k _ _ ho) hdata hco hgen hbody (codeRec_of W.k hcd) ?_)
    refine hbind s vs W.k hlv _ _ _ _ ?_
    rw [hclo]
    have hkinds : ∀ y ∈ params.zip vs, fd.scope.names.lookup y.1 = some .local ∨ (fd.scope.names.lookup y.1 = some .cell ∧ ((cellsFrom (s.heap.objs.size + 1) fd.scope.names []).lookup y.1).isSome = true) :=
      kindsX (by rw [List.all_eq_true] at hkind ⊢; exact fun y hy => hkind y.1 (List.of_mem_zip hy).1) _
    refine wpAny_with_toks (Nat.le_refl s.toks) (wpAny_newFunctionEnv_cells hk hkinds fun env he s1 C htk => ⟨W.nolimit.keeps C.toInCall.keep, codeAny_func ?_⟩)
    subst he
    let fr : Fm := cFm fd s.heap.objs.size f s.heap P
    have henv : newEnv fd.scope s.heap.objs.size fd.globals (cellsFrom (s.heap.objs.size + 1) fd.scope.names []) (fd.qualname ++ ".<locals>.") (some f) fd.code none fd.builtins = fr.env := rfl
    rw [henv] at C ⊢
    have hcell : fr.env.cells = cellsFrom (s.heap.objs.size + 1) fd.scope.names [] := rfl
    have keysnd : (fr.env.cells.map (·.1)).Nodup := by
      rw [hcell, cellsFrom_keys]
      simp only [List.map_nil, List.append_nil]
      exact nodup_reverse (hnd.sublist (List.Sublist.map _ List.filter_sublist))
    have cellAt : ∀ p ∈ fr.env.cells, fr.env.cells.lookup p.1 = some p.2 := fun p hp => lookup_of_mem keysnd hp
    have cellO : ∀ p ∈ fr.env.cells, ∃ o v, s1.heap.get? p.2 = some o ∧ o.data = .cell v := fun p hp => let ⟨o, a, b⟩ := C.cell _ _ (cellAt p hp); ⟨o, _, a, b⟩
    have cellLt : ∀ p ∈ fr.env.cells, s.heap.objs.size < p.2 := fun p hp => C.above p.1 p.2 hp
    have cellNone : ∀ p ∈ fr.env.cells, s.heap.get? p.2 = none := fun p hp => by
      cases q : s.heap.get? p.2 with
      | none => rfl
      | some o => exact absurd (Heap.lt_size q) (Nat.not_lt.mpr (Nat.le_of_lt (cellLt p hp)))
    have frP : ∀ a, P a → (∃ o, s.heap.get? a = some o) → fr.P a := by
      rintro a p ⟨o, e⟩
      refine ⟨p, fun z => ?_, fun c hc z => ?_⟩
      · rw [z, dead_size] at e; cases e
      · rw [z, cellNone c hc] at e; cases e
    have I1 : Inv prog w K fr (inits fd.scope.names (params.zip ds)) (fun _ => []) s1 := {
      wd := W
      hk := hk
      hg := hgl
      hb := hbu
      nd := hnd
      keeps := C.toInCall.keep
      ns := ⟨_, C.toInCall.ns⟩
      vars := by
        intro i mv e
        unfold inits at e
        rw [List.getElem?_map] at e
        obtain ⟨p, e1, e2⟩ := Option.map_eq_some_iff.mp e
        obtain ⟨xn, kd⟩ := p
        obtain ⟨dd, e3, rfl⟩ := Option.map_eq_some_iff.mp e2
        obtain ⟨v, e4, z⟩ := zip_lookup x e3
        have hm := lookup_mem e4
        have hpv : ((params.zip vs).map (·.1)).Nodup := by
          rw [List.map_fst_zip (Nat.le_of_eq hlv.symm)]; exact hpn
        have hl := lookup_at hnd e1
        refine ⟨xn, kd, v, e1, ?_, rfl, z.mono fun a o p e => ⟨⟨frP a p ⟨o, e⟩, id, fun _ => by simp⟩, C.toInCall.keep _ _ e⟩⟩
        rcases hkinds _ hm with q | ⟨q, q2⟩
        · rw [hl] at q; cases q
          exact ⟨_, C.toInCall.ns, bindL_hit hl _ _ hpv e4⟩
        · rw [hl] at q; cases q
          obtain ⟨c, hc⟩ := Option.isSome_iff_exists.mp q2
          have hne : fr.env.kindOf xn ≠ some .local := by
            show fd.scope.names.lookup xn ≠ _
            rw [hl]; simp
          obtain ⟨o', g1, g2⟩ := C.cell xn c hc
          exact ⟨c, o', hc, g1, by rw [g2, bindC_hit hne _ _ hpv e4]⟩
      disj := fun i j a h => by cases h
      own := fun i a h => by cases h
      dl := dead_size _
      dead := by
        intro a e
        refine ⟨dead a ?_, fun z => ?_, fun p hp z => ?_⟩
        · cases q : s.heap.get? a with
          | none => rfl
          | some o => rw [C.toInCall.keep _ _ q] at e; cases e
        · obtain ⟨o, es, ep, g, _⟩ := C.toInCall.ns
          have g : s1.heap.get? s.heap.objs.size = some o := g
          rw [z, g] at e; cases e
        · obtain ⟨o, v, g, _⟩ := cellO p hp
          rw [z, g] at e; cases e
      pL := fun h => h.2.1 rfl
      pC := fun p hp h => h.2.2 p hp rfl
      lC := fun p hp => Nat.ne_of_gt (cellLt p hp)
      cd := fun _ p hp => ⟨cellNone p hp, cellO p hp⟩
      cinj := fun x y c h1 h2 => name_of_addr C.apart (lookup_mem h1) (lookup_mem h2)
      exl := fun a h => h.elim
      tk1 := Nat.le_trans tk1 htk
      anc := by
        intro i C ks vs e
        unfold inits at e
        rw [List.getElem?_map] at e
        obtain ⟨p, _, e2⟩ := Option.map_eq_some_iff.mp e
        obtain ⟨dd, _, e4⟩ := Option.map_eq_some_iff.mp e2
        cases e4 }
    have ab := a.deeper fr.env
    refine wpKp (hF _ _ _ _ _ _ _ _ _ _ ab I1 h1) fun fl s2 q => ?_
    obtain ⟨X2, st, I2, q⟩ := q
    have kk : Kp s s2 := by
      refine ⟨?_, fun e => I2.keeps _ _ e, Nat.le_trans htk st.tk⟩
      obtain ⟨h1, t1, e1⟩ := C.toInCall.same
      obtain ⟨h2, t2, e2⟩ := st.sh
      exact ⟨h2, t2, by rw [e2, e1]⟩
    obtain ⟨v, q', z⟩ := q; subst q'
    exact ⟨kk, z.mono fun a o p e => ⟨p.1, e⟩⟩
end
end Mine
namespace Mine
open PySem PySem.W PySem.Calls PyProof.Rows
open Builtin._codecs
noncomputable def asciiB (x : Str) : Array UInt8 := (x.cps.toList.map Nat.toUInt8).toArray
section
variable {M : Model} {A : Around} {E : Value → Shared → Prop} {s : Shared} {x : Str} {t : Tok}
theorem ascii_fold : ∀ (l : List Nat) (acc : Array UInt8), (∀ c ∈ l, c < 128) → l.foldl (fun acc y => acc ++ (utf8Codec.bytesOf y).toArray) acc = acc ++ (l.map Nat.toUInt8).toArray
  | [], acc, _ => by simp
  | c :: l, acc, h => by
    have hc : utf8Codec.bytesOf c = [c.toUInt8] := by
      show Str.utf8Of c = _
      unfold Str.utf8Of
      rw [if_pos (by have := h c (.head _); lia)]
    rw [List.foldl_cons, ascii_fold l _ fun d hd => h d (.tail _ hd), hc]
    simp
theorem encode_narrow (h : ∀ c ∈ x.cps.toList, c < 128) (hl : x.length ≤ 1000000) {Q : Array UInt8 → Shared → Prop} (q : Q (asciiB x) s) :
    wpAny M A (encodeNarrow "str.encode" utf8Codec none (.str x t) x) Q E s := by
  have bad : ∀ c ∈ x.cps.toList, utf8Codec.bad c = false := by
    intro c hc
    show Str.isSurrogate c = false
    unfold Str.isSurrogate
    rw [Bool.and_eq_false_iff]; left
    exact decide_eq_false (by have := h c hc; lia)
  have bad' : ∀ c ∈ x.cps, utf8Codec.bad c = false := fun c hc => bad c (Array.mem_toList_iff.mpr hc)
  unfold encodeNarrow
  simp only []
  rw [Std.Legacy.Range.forIn_eq_forIn_range']
  refine wpAny_bind ?_
  refine wpAny_forIn_list _ (fun rest b s' => s' = s ∧ ((b = (0, #[], {}) ∧ rest.length = x.length) ∨ (b.1 = x.length ∧ b.2.1 = asciiB x ∧ rest.length < x.length) )) _ ?_ ?_ _ _ ⟨rfl, .inl ⟨rfl, by simp [Std.Legacy.Range.size]⟩⟩
  · rintro j rest b s' ⟨rfl, hb⟩
    have hsz : ¬ (b.2.1.size > sizeLine) := by
      rcases hb with ⟨rfl, _⟩ | ⟨_, e, _⟩
      · simp
      · rw [e]; unfold asciiB; simp only [List.size_toArray, List.length_map, Array.length_toList]; exact Nat.not_lt.mpr (Nat.le_trans hl (by decide))
    rw [if_neg hsz]
    rcases hb with ⟨rfl, hr⟩ | ⟨e1, e2, hr⟩
    · have hpos : 0 < x.cps.size := by show 0 < x.length; rw [← hr]; simp
      have e0 : x.cps[(0 : Nat)]? = some x.cps[0] := by simp [hpos]
      simp only [e0]
      have hb0 : utf8Codec.bad x.cps[0] = false := bad' _ (Array.getElem_mem hpos)
      rw [hb0]
      have hex : x.cps.extract 0 x.cps.size = x.cps := by simp
      have hfi : (x.cps.findIdx? utf8Codec.bad) = none := Array.findIdx?_eq_none_iff.mpr fun c hc => by simp [bad' c hc]
      simp only [hex, hfi, Option.getD_none, Nat.zero_add, Bool.not_false, if_true]
      refine wpAny_pure ⟨rfl, .inr ⟨rfl, ?_, ?_⟩⟩
      · show Array.foldl (fun acc y => acc ++ (utf8Codec.bytesOf y).toArray) #[] x.cps = _
        rw [← Array.foldl_toList, ascii_fold _ _ h]; simp [asciiB]
      · rw [List.length_cons] at hr; lia
    · have e0 : x.cps[b.1]? = none := by rw [e1]; simp [Str.length]
      simp only [e0]
      exact wpAny_pure (wpAny_pure (by rw [e2]; exact q))
  · rintro b s' ⟨rfl, hb⟩
    rcases hb with ⟨rfl, hr⟩ | ⟨e1, e2, hr⟩
    · have : x.cps.toList = [] := by
        have : x.cps.toList.length = 0 := by rw [Array.length_toList]; exact hr.symm
        exact List.length_eq_zero_iff.mp this
      have e : asciiB x = #[] := by unfold asciiB; rw [this]; rfl
      rw [e] at q; exact wpAny_pure q
    · exact wpAny_pure (by rw [e2]; exact q)
end
end Mine
namespace Mine
open PySem PySem.W PySem.Calls PyProof.Rows
open PySem.Builtin.Str
noncomputable def tyS : D → Option String
  | .str _ => some "str"
  | .lst _ => some "list"
  | .tup _ => some "tuple"
  | .bytes _ => some "bytes"
  | .dctI .. | .dctS .. => some "dict"
  | _ => none
section
variable {prog : Program} {w : World} {K : Frag} {fr : Fm} {k : Nat}
theorem dictOf_plain {KK : Type} [DecidableEq KK] {knd : KeyKind prog w KK} {h : Heap} {a : Addr} {kvs : List (KK × Value)} (x : h.DictOf knd a kvs) : ∃ ob, h.get? a = some ob ∧ ob.dict = none := by
  obtain ⟨o, es, ep, g, e, _⟩ := x
  exact ⟨o, g, e.2.1⟩
theorem is_ty {s : Shared} {P : Addr → Prop} {v : Value} {d : D} {T : String} (x : Is prog w s.heap P v d) (e : tyS d = some T) : s.TypeIs v T ∧ ∀ a, v = .ref a → ∃ ob, s.heap.get? a = some ob ∧ ob.dict = none := by
  cases x with
  | tup p o r => cases e; exact ⟨⟨_, o, rfl⟩, fun _ h => by cases h; exact ⟨_, o, rfl⟩⟩
  | lst p o r => cases e; exact ⟨⟨_, o, rfl⟩, fun _ h => by cases h; exact ⟨_, o, rfl⟩⟩
  | dctI p z o q r => cases e; exact ⟨o.typeIs, fun _ h => by cases h; exact dictOf_plain o⟩
  | dctS p z o q r => cases e; exact ⟨o.typeIs, fun _ h => by cases h; exact dictOf_plain o⟩
  | str y t => cases e; exact ⟨typeIs_str _ _ _, fun _ h => by cases h⟩
  | bytes y t => cases e; exact ⟨typeIs_bytes _ _ _, fun _ h => by cases h⟩
  | none => cases e
  | bool b => cases e
  | int i t => cases e
  | inst p q o od e' r => cases e
inductive cMth (T : String) (f : List D → D → Prop) (g : Ev) (h : Evs) (σ : St) : D → Bool → Prop
  | mk {x d : D} {ds : List D} {b c : Bool} (h1 : g σ x b) (h0 : tyS x = some T) (h2 : h σ ds c) (h3 : f (x :: ds) d) : cMth T f g h σ d ((b && c) || d.scalar)
theorem method_ok {A : Around} {E : Value → Shared → Prop} {s : Shared} {id : String} {ov : Value} {pos : Pos} {trees : List (Bool × Sem Value)} {Q : Value → Shared → Prop} (ht : trees.any (·.1) = false)
    (h : wpAny (model prog w) A (spliced trees) (fun vs s₁ => wpAny (model prog w) A (call (.builtin id) (ov :: vs)) Q E s₁) E s) :
    wpAny (model prog w) A (callWith pos (.builtin id) [ov] trees []) Q E s := by
  refine callWith_builtin ht ?_
  cases trees with
  | nil =>
    refine PySem.evalArgs_none ?_
    have h : wpAny (model prog w) A (pure []) (fun vs s₁ => wpAny (model prog w) A (call (.builtin id) (ov :: vs)) Q E s₁) E s := h
    intro Γ p hΓ
    exact h Γ p hΓ Γ p hΓ
  | cons t ts =>
    obtain ⟨b, t⟩ := t
    rw [List.any_cons, Bool.or_eq_false_iff] at ht
    have hb : b = false := ht.1
    subst hb
    exact evalArgs_plain (wpKp h fun vs s1 q => q)
theorem ev_mth {o : Expr} {name : Str} {apos pos : Pos} {args : List Expr} {T id : String} {f : List D → D → Prop} {g : Ev} {h : Evs} (hg : EvOk prog w K fr k o g) (hh : EsOk prog w K fr k pos args h) (hf : FunOk prog w (.builtin id) f)
    (pa : PlainAttrs T) (slot : Slot T name id) (hty : typeOf (.builtin id) = pure (.type "method_descriptor"))
    (hbase : attributeBase o name fr.env (eval o fr.env) = eval o fr.env)
    (hfew : ((backTo pos (starEach args fr.env)).all (fun x => !x.1) && (backToKw pos (keywordEach [] fr.env)).all (fun x => x.1.isSome)
      && decide (args.length + ([] : List Keyword).length + (if ([] : List Keyword).isEmpty then 0 else 1) < 30)) = true)
    (hline : (apos.endLine == pos.line) = true) (ht : (backTo pos (starEach args fr.env)).any (·.1) = false) (hk : 1 ≤ k := by decide) : EvOk prog w K fr k (.Call (.Attribute o name apos) args [] pos) (cMth T f g h) := by
  rintro A E s σ X _ _ a I ⟨h1, hT, h2, h3⟩
  refine wpAny_Call_method hbase hfew hline pa slot hty (wpKp (hg A E s σ X _ _ a I h1) fun ov s1 q1 => ⟨(is_ty q1.2 hT).1, (is_ty q1.2 hT).2, ?_⟩)
  refine method_ok ht (wpKp (hh A E s1 σ X _ _ a (I.step q1.1) h2) fun vs s2 q2 => ?_)
  have I2 := (I.step q1.1).step q2.1
  exact wpKp (hf A E s2 _ (ov :: vs) _ _ (a.mono hk) I2.world.nolimit (vw_dead I2 _) (.cons ((q1.2.keeps q2.1).vand _) (q2.2.1.vand' _)) h3) fun v s3 q3 => ⟨(q1.1.trans q2.1).trans q3.1, q3.2.vor⟩
inductive lowerF : List D → D → Prop
  | mk {x : Str} (h : (Txt.lower x).length ≤ 1000000) : lowerF [.str x] (.str (Txt.lower x))
inductive rfindF : List D → D → Prop
  | mk {x y : Str} : rfindF [.str x, .str y] (.int (Txt.rfind x y))
inductive findF : List D → D → Prop
  | mk {x y : Str} : findF [.str x, .str y] (.int (Txt.find x y))
inductive startF : List D → D → Prop
  | mk {x y : Str} : startF [.str x, .str y] (.bool (Txt.startswith x y))
inductive splitF : List D → D → Prop
  | mk {x y : Str} (h : y.length ≠ 0) (h2 : x.length ≤ 1000000) : splitF [.str x, .str y] (.lst ((Txt.split x y).map .str))
inductive joinF : List D → D → Prop
  | mk {x : Str} {ss : List Str} (h : JoinOk x ss = true) : joinF [.str x, .lst (ss.map .str)] (.str (Txt.join x ss))
inductive encodeF : List D → D → Prop
  | mk {x : Str} (h : ∀ c ∈ x.cps.toList, c < 128) (h2 : x.length ≤ 1000000) : encodeF [.str x] (.bytes (asciiB x))
theorem fun_lower : FunOk prog w (.builtin "str.lower") lowerF := by
  rintro A E s P vs _ _ a _ dead x ⟨hl⟩
  obtain ⟨v, rfl, x1⟩ := x.one
  obtain ⟨t, rfl⟩ := x1.str'
  exact SC.lower (by unfold tooLong; exact decide_eq_false (Nat.not_lt.mpr (Nat.le_trans hl (by decide)))) ⟨.toks _, .str _ _⟩
theorem fun_rfind : FunOk prog w (.builtin "str.rfind") rfindF := by
  rintro A E s P vs _ _ a _ dead x ⟨⟩
  obtain ⟨v, u, rfl, x1, y⟩ := x.two
  obtain ⟨t, rfl⟩ := x1.str'
  obtain ⟨t', rfl⟩ := y.str'
  exact SC.rfind ⟨.toks _, .int _ _⟩
theorem fun_find : FunOk prog w (.builtin "str.find") findF := by
  rintro A E s P vs _ _ a _ dead x ⟨⟩
  obtain ⟨v, u, rfl, x1, y⟩ := x.two
  obtain ⟨t, rfl⟩ := x1.str'
  obtain ⟨t', rfl⟩ := y.str'
  exact SC.find ⟨.toks _, .int _ _⟩
theorem fun_start : FunOk prog w (.builtin "str.startswith") startF := by
  rintro A E s P vs _ _ a _ dead x ⟨⟩
  obtain ⟨v, u, rfl, x1, y⟩ := x.two
  obtain ⟨t, rfl⟩ := x1.str'
  obtain ⟨t', rfl⟩ := y.str'
  exact SC.startswith ⟨.refl _, .bool _⟩
theorem values_is {h : Heap} {P : Addr → Prop} : ∀ (l : List (Str × Tok)), IsL prog w h P (strValues l) ((l.map (·.1)).map .str)
  | [] => .nil
  | p :: l => .cons (.str _ _) (values_is l)
theorem fun_split : FunOk prog w (.builtin "str.split") splitF := by
  rintro A E s P vs _ _ a _ dead x ⟨hy0, hx0⟩
  rename_i xx yy
  obtain ⟨v, u, rfl, x1, y⟩ := x.two
  obtain ⟨t, rfl⟩ := x1.str'
  obtain ⟨t', rfl⟩ := y.str'
  have hsz : xx.length + 2 ≤ sizeLine := Nat.le_trans (by lia) (show 1000002 ≤ sizeLine by decide)
  have hn : (partsBetween xx (occurrences xx yy 0 xx.length (xx.length + 1)) yy.length).length ≤ sizeLine := by
    have e1 := StrLaws.occ_length_le xx yy 0 xx.length (xx.length + 1)
    rw [length_partsBetween]; lia
  have fin : ∀ (l : List (Str × Tok)) (n : Nat), l.map (·.1) = Txt.split xx yy → s.toks ≤ n → Kp s { s with heap := s.heap.push (lstO (strValues l) 0), toks := n } ∧ Is prog w (s.heap.push (lstO (strValues l) 0)) P (.ref s.heap.objs.size) (.lst ((Txt.split xx yy).map .str)) := by
    intro l n e hn
    refine ⟨.push _ _ hn, .lst (n := 0) (dead _ (dead_size _)) (Heap.get?_push_size _ rfl) ?_⟩
    rw [← e]; exact values_is l
  have hy : (yy.length == 0) = false := by simpa using hy0
  cases h1 : (decide (xx.length < yy.length) || decide (PySem.Builtin.Str.strKind xx < PySem.Builtin.Str.strKind yy))
  · cases hf : (occurrences xx yy 0 xx.length (xx.length + 1)).isEmpty
    · refine call_meets F.slot_str_split (typeIs_str _ _ _) F.entry_str_split (F.args_str_split_2 _ _) (meets_str_split_sep xx yy t t' h1 hy hf (by lia) hn) ?_
      show wants _ E _ { s with toks := _, heap := s.heap.push { cls := .type "list", data := .seq (strsFrom s.toks (partsBetween xx (occurrences xx yy 0 xx.length (xx.length + 1)) yy.length)).toArray } }
      rw [strsFrom_eq]
      exact fin (numbered s.toks _) _ ((numbered_texts _ _).trans ((if_neg (ne_true_of_eq_false h1)).trans (if_neg (ne_true_of_eq_false hf))).symm) (Nat.le_add_right _ _)
    · exact call_meets F.slot_str_split (typeIs_str _ _ _) F.entry_str_split (F.args_str_split_2 _ _) (meets_str_split_not_found xx yy t t' h1 hy hf)
        (fin [(xx, t)] s.toks ((if_neg (ne_true_of_eq_false h1)).trans (if_pos hf)).symm (Nat.le_refl _))
  · exact call_meets F.slot_str_split (typeIs_str _ _ _) F.entry_str_split (F.args_str_split_2 _ _) (meets_str_split_cannot_occur xx yy t t' h1)
      (fin [(xx, t)] s.toks (if_pos h1).symm (Nat.le_refl _))
theorem strs_pairs {vs : List Value} {ss : List Str} (hs : StrsAre vs ss) : ∃ ps : List (Str × Tok), vs = strValues ps ∧ ps.map (·.1) = ss := by
  induction hs with
  | nil => exact ⟨[], rfl, rfl⟩
  | cons y t r ih => obtain ⟨ps, e1, e2⟩ := ih; exact ⟨(y, t) :: ps, by rw [e1]; rfl, by rw [List.map_cons, e2]⟩
theorem fun_join : FunOk prog w (.builtin "str.join") joinF := by
  rintro A E s P vs _ _ a _ dead x ⟨hok⟩
  obtain ⟨v, u, rfl, x1, y⟩ := x.two
  obtain ⟨t, rfl⟩ := x1.str'
  obtain ⟨l, vs, n, rfl, _, o, r⟩ := y.lst'
  obtain ⟨ps, rfl, e⟩ := strs_pairs (strs_of r)
  exact wpAny_with_toks (Nat.le_refl s.toks) (SC.join (l := ps) ⟨_, o, rfl, _, rfl⟩ e hok fun t' k htk => ⟨.toks _, .str _ _⟩)
theorem fun_encode : FunOk prog w (.builtin "str.encode") encodeF := by
  rintro A E s P vs _ _ a _ dead x ⟨h1, h2⟩
  rename_i xx
  obtain ⟨v, rfl, x1⟩ := x.one
  obtain ⟨t, rfl⟩ := x1.str'
  refine call_gives F.slot_str_encode (typeIs_str _ _ _) F.entry_str_encode (F.args_str_encode_1 _) (m := .bytes (asciiB xx)) (.of_wp fun M A E s Q hq => ?_) ⟨?_, .toks _, .bytes _ _⟩
  · rw [encode_tree, encodeRoad_utf8]
    refine wpAny_bind (wpAny_bind (encode_narrow h1 h2 ?_))
    exact wpAny_mkBytes (wpAny_pure ⟨_, rfl, hq.2⟩) hq.1
  · unfold asciiB; simp only [List.size_toArray, List.length_map, Array.length_toList]; exact Nat.le_trans h2 (by decide)
theorem slot_bytes_count : Slot "bytes" "count" "bytes.count" :=
  .of (owner := "bytes") (n := "count") (by rw [typeLookup_type, builtinLookup_eq_fast]; kernel_rfl) (by decide +kernel) (by decide +kernel) (by decide +kernel)
    (by first | exact .inl (by decide +kernel) | exact .inr (by decide +kernel)) (by rw [isSubtype_type]; kernel_rfl)
theorem type_bytes_count : typeOf (.builtin "bytes.count") = pure (.type "method_descriptor") := by show builtinType _ = _; rw [builtinType_eq_fast]; kernel_rfl
theorem entry_bytes_count : entryFor table "bytes.count" = some Builtin.«bytes.count» := entryFor_of_tree (by kernel_rfl)
theorem args_bytes_count_2 (a b : Value) : argsOk "bytes.count" ⟨[a, b], []⟩ := by
  unfold argsOk; rw [signature?_of (id := "bytes.count") (n := ['t', 'n', 'u', 'o', 'c']) (o := ['s', 'e', 't', 'y', 'b']) (by kernel_rfl) FB.owner_bytes]; kernel_rfl
noncomputable def countB (b c : Array UInt8) : Int := if b.size < c.size then 0 else (PySem.Builtin.Bytes.occurrences b c 0 b.size).length
inductive countF : List D → D → Prop
  | mk {b c : Array UInt8} (h : c.size ≠ 0) : countF [.bytes b, .bytes c] (.int (countB b c))
theorem gives_bytes_count (b c : Array UInt8) (t u : Tok) (hc : c.size ≠ 0) : Gives (PySem.Builtin.«bytes.count» ⟨[.bytes b t, .bytes c u], []⟩) (.int (countB b c)) := by
  refine .of_wp fun M A E s Q hq => ?_
  unfold PySem.Builtin.«bytes.count» PySem.Builtin.Bytes.countM PySem.Builtin.Bytes.searchArgs
  refine wpAny_bind (wpAny_bind (wpAny_of_eq (a := (.bytes b t, [.bytes c u])) rfl ?_))
  refine wpAny_bind (wpAny_of_eq (a := none) rfl (wpAny_bind (wpAny_of_eq (a := none) rfl ?_)))
  refine wpAny_bind (wpAny_of_eq KBy.buffer_eq (wpAny_bind (wpAny_pure ?_)))
  refine wpAny_bind (wpAny_of_eq (a := b) rfl ?_)
  have hw : PySem.Builtin.Bytes.window b.size none none = (0, (b.size : Int)) := by
    unfold PySem.Builtin.Bytes.window
    have h1 : ¬ ((b.size : Int) < 0) := by lia
    simp [h1]
  rw [hw]
  refine wpAny_pure ?_
  unfold countB at hq
  by_cases h : b.size < c.size
  · rw [if_pos h] at hq
    have h' : ((b.size : Int) - 0 < (c.size : Int)) := by lia
    simp only [h', if_true]
    exact wpAny_bind (wpAny_mkInt (wpAny_pure ⟨_, rfl, hq⟩))
  · rw [if_neg h] at hq
    have h' : ¬ ((b.size : Int) - 0 < (c.size : Int)) := by lia
    have he : ¬ (c.isEmpty = true) := by simpa using hc
    simp only [h', if_false, he, Int.toNat_natCast, Int.toNat_zero]
    exact wpAny_bind (wpAny_mkInt (wpAny_pure ⟨_, rfl, hq⟩))
theorem fun_count : FunOk prog w (.builtin "bytes.count") countF := by
  rintro A E s P vs _ _ a _ dead x ⟨hc⟩
  obtain ⟨v, u, rfl, x1, y⟩ := x.two
  obtain ⟨t, rfl⟩ := x1.bytes'
  obtain ⟨t', rfl⟩ := y.bytes'
  exact call_gives slot_bytes_count (typeIs_bytes _ _ _) entry_bytes_count (args_bytes_count_2 _ _) (gives_bytes_count _ _ _ _ hc) ⟨.toks _, .int _ _⟩
variable (prog w K fr k) in
noncomputable def EvTk (e : Expr) (F : Ev) : Prop := ∀ (A : Around) (E : Value → Shared → Prop) (s : Shared) (σ : St) (X : Nat → List Addr) (d : D) (b : Bool), Ao k A → Inv prog w K fr σ X s → F σ d b →
  wpAny (model prog w) A (eval e fr.env) (fun v s' => EvQ prog w fr X s d b v s' ∧ 1 ≤ s'.toks) E s
variable (prog w K fr k) in
noncomputable def EsTk (pos : Pos) (es : List Expr) (F : Evs) : Prop := ∀ (A : Around) (E : Value → Shared → Prop) (s : Shared) (σ : St) (X : Nat → List Addr) (ds : List D) (b : Bool), Ao k A → Inv prog w K fr σ X s → F σ ds b →
  wpAny (model prog w) A (spliced (backTo pos (starEach es fr.env))) (fun vs s' => (Kp s s' ∧ IsL prog w s'.heap (Vw fr X b) vs ds) ∧ 1 ≤ s'.toks) E s
theorem EvTk.ok {e : Expr} {F : Ev} (h : EvTk prog w K fr k e F) : EvOk prog w K fr k e F := fun A E s σ X d b a I hF => wpKp (h A E s σ X d b a I hF) fun _ _ q => q.1
theorem etk_str {x : Str} {n : Nat} {pos : Pos} : EvTk prog w K fr k (.Constant (.str x) n pos) (cK (.str x)) := by
  rintro A E s σ X _ _ _ _ ⟨⟩
  exact wpAny_Constant_str ⟨⟨.toks _, .str _ _⟩, Nat.le_add_left 1 _⟩
theorem etk_one {pos : Pos} {e : Expr} {f : Ev} (hf : EvTk prog w K fr k e f) (hs : starEach [e] fr.env = (false, eval e fr.env) :: starEach [] fr.env) : EsTk prog w K fr k pos [e] (cCons f cNil) := by
  rintro A E s σ X _ _ a I ⟨h1, h2⟩
  exact wpAny_items_cons (wpKp (hf A E s σ X _ _ a I h1) fun v s1 q1 => wpKp (es_nil (pos := pos) A E s1 σ X _ _ a (I.step q1.1.1) h2) fun vs s2 q2 => ⟨⟨q1.1.1.trans q2.1, .cons ((q1.1.2.keeps q2.1).vand _) (q2.2.1.vand' _)⟩, Nat.le_trans q1.2 q2.1.tk⟩) hs
theorem etk_mth {o : Expr} {name : Str} {apos pos : Pos} {args : List Expr} {T id : String} {f : List D → D → Prop} {g : Ev} {h : Evs} (hg : EvOk prog w K fr k o g) (hh : EsTk prog w K fr k pos args h) (hf : FunOk prog w (.builtin id) f)
    (pa : PlainAttrs T) (slot : Slot T name id) (hty : typeOf (.builtin id) = pure (.type "method_descriptor"))
    (hbase : attributeBase o name fr.env (eval o fr.env) = eval o fr.env)
    (hfew : ((backTo pos (starEach args fr.env)).all (fun x => !x.1) && (backToKw pos (keywordEach [] fr.env)).all (fun x => x.1.isSome)
      && decide (args.length + ([] : List Keyword).length + (if ([] : List Keyword).isEmpty then 0 else 1) < 30)) = true)
    (hline : (apos.endLine == pos.line) = true) (ht : (backTo pos (starEach args fr.env)).any (·.1) = false) (hk : 1 ≤ k := by decide) : EvTk prog w K fr k (.Call (.Attribute o name apos) args [] pos) (cMth T f g h) := by
  rintro A E s σ X _ _ a I ⟨h1, hT, h2, h3⟩
  refine wpAny_Call_method hbase hfew hline pa slot hty (wpKp (hg A E s σ X _ _ a I h1) fun ov s1 q1 => ⟨(is_ty q1.2 hT).1, (is_ty q1.2 hT).2, ?_⟩)
  refine method_ok ht (wpKp (hh A E s1 σ X _ _ a (I.step q1.1) h2) fun vs s2 q2 => ?_)
  have I2 := (I.step q1.1).step q2.1.1
  exact wpKp (hf A E s2 _ (ov :: vs) _ _ (a.mono hk) I2.world.nolimit (vw_dead I2 _) (.cons ((q1.2.keeps q2.1.1).vand _) (q2.1.2.vand' _)) h3) fun v s3 q3 => ⟨⟨(q1.1.trans q2.1.1).trans q3.1, q3.2.vor⟩, Nat.le_trans q2.2 q3.1.tk⟩
theorem etk_idx {value slice : Expr} {pos : Pos} {f g : Ev} (hf : EvTk prog w K fr k value f) (hg : EvOk prog w K fr k slice g) (hs : ∀ o i, subscripted slice false o i = operate [o, i] (getItem o i)) :
    EvTk prog w K fr k (.Subscript value slice pos) (cIdx f g) := by
  rintro A E s σ X _ _ a I ⟨h1, h2, h3⟩
  refine Subscript_ (wpKp (hf A E s σ X _ _ a I h1) fun v1 s1 q1 => wpKp (hg A E s1 σ X _ _ a (I.step q1.1.1) h2) fun v2 s2 q2 => ?_)
  exact wpKp (idx_ok (q1.1.2.cn.mono (fun _ _ e => q2.1.get e) fun _ p => p) q2.2 h3 hs) fun u s3 q3 => ⟨⟨(q1.1.1.trans q2.1).trans q3.1, q3.2.vor⟩, Nat.le_trans q1.2 (Nat.le_trans q2.1.tk q3.1.tk)⟩
inductive cRep (y z : Str) (f : Ev) (σ : St) : D → Bool → Prop
  | mk {x : Str} {b : Bool} (h : f σ (.str x) b) (h1 : x.length + (x.length + 1) * z.length ≤ 1000000) (h2 : (y == z) = false) : cRep y z f σ (.str (Txt.replace x y z)) true
theorem etk_rep {o : Expr} {apos pos p1 p2 : Pos} {n1 n2 : Nat} {y z : Str} {g : Ev} (hg : EvTk prog w K fr k o g) (hbase : attributeBase o (Str.ofString "replace") fr.env (eval o fr.env) = eval o fr.env)
    (hfew : ((backTo pos (starEach [.Constant (.str y) n1 p1, .Constant (.str z) n2 p2] fr.env)).all (fun x => !x.1) && (backToKw pos (keywordEach [] fr.env)).all (fun x => x.1.isSome)
      && decide ([Expr.Constant (.str y) n1 p1, .Constant (.str z) n2 p2].length + ([] : List Keyword).length + (if ([] : List Keyword).isEmpty then 0 else 1) < 30)) = true)
    (hline : (apos.endLine == pos.line) = true) : EvTk prog w K fr k (.Call (.Attribute o (Str.ofString "replace") apos) [.Constant (.str y) n1 p1, .Constant (.str z) n2 p2] [] pos) (cRep y z g) := by
  rintro A E s σ X _ _ a I ⟨h1, hc, hyz⟩
  refine wpAny_Call_method hbase hfew hline F.plainAttrs_str F.slot_str_replace F.type_str_replace (wpKp (hg A E s σ X _ _ a I h1) fun ov s1 q1 => ?_)
  obtain ⟨⟨q0, q1⟩, tk⟩ := q1
  obtain ⟨t, rfl⟩ := q1.str'
  refine ⟨typeIs_str _ _ _, fun _ h => (by cases h), method_ok rfl ?_⟩
  refine spliced_cons (x := eval (.Constant (.str y) n1 p1) fr.env) (wpAny_Constant_str (spliced_cons (x := eval (.Constant (.str z) n2 p2) fr.env) (wpAny_Constant_str (spliced_nil ?_))))
  refine wpAny_with_toks (Nat.le_refl _) (SC.replace (Nat.ne_of_gt tk) (Nat.succ_ne_zero _) (Nat.ne_of_lt (Nat.lt_succ_self _)) hyz (Nat.le_trans hc (by decide)) fun t' k htk => ⟨⟨q0.trans (.toks _ ?_), .str _ _⟩, ?_⟩)
  · exact Nat.le_trans (Nat.le_trans (Nat.le_succ _) (Nat.le_succ _)) htk
  · exact Nat.le_trans tk (Nat.le_trans (Nat.le_trans (Nat.le_succ _) (Nat.le_succ _)) htk)
inductive cGet (f g h : Ev) (σ : St) : D → Bool → Prop
  | mk {ks : List Str} {vs : List D} {k : Str} {d : D} {b c e : Bool} (h1 : f σ (.dctS ks vs) b) (h2 : g σ (.str k) c) (h3 : h σ d e) : cGet f g h σ ((valS ks vs k).getD d) (b && e)
theorem ev_get {o e1 e2 : Expr} {apos pos : Pos} {f g h : Ev} (hf : CnOk prog w K fr k o f) (hg : EvOk prog w K fr k e1 g) (hh : EvOk prog w K fr k e2 h)
    (hbase : attributeBase o (Str.ofString "get") fr.env (eval o fr.env) = eval o fr.env)
    (hfew : ((backTo pos (starEach [e1, e2] fr.env)).all (fun x => !x.1) && (backToKw pos (keywordEach [] fr.env)).all (fun x => x.1.isSome)
      && decide ([e1, e2].length + ([] : List Keyword).length + (if ([] : List Keyword).isEmpty then 0 else 1) < 30)) = true)
    (hline : (apos.endLine == pos.line) = true) (hs : backTo pos (starEach [e1, e2] fr.env) = [(false, eval e1 fr.env), (false, eval e2 fr.env)]) :
    EvOk prog w K fr k (.Call (.Attribute o (Str.ofString "get") apos) [e1, e2] [] pos) (cGet f g h) := by
  rintro A E s σ X _ _ a I ⟨h1, h2, h3⟩
  rename_i kk _ _ _ _
  refine wpAny_Call_method (T := "dict") hbase hfew hline F.plainAttrs_dict F.slot_dict_get F.type_dict_get (wpKp (hf A E s σ X _ _ a I h1) fun ov s1 q1 => ?_)
  obtain ⟨q0, dd, kvs, rfl, hz, o1, e5, r5⟩ := q1
  refine ⟨o1.typeIs, fun _ h => (by cases h; exact dictOf_plain o1), ?_⟩
  rw [hs]
  refine wpAny_dict_get2 (knd := PySem.strKind prog w) hz (wpKp (hg A E s1 σ X _ _ a (I.step q0) h2) fun kv s2 q2 => wpKp (hh A E s2 σ X _ _ a ((I.step q0).step q2.1) h3) fun dv s3 q3 => ?_)
  obtain ⟨q2, x2⟩ := q2
  obtain ⟨q3, x3⟩ := q3
  obtain ⟨t, rfl⟩ := x2.str'
  have o3 : s3.heap.DictOf (PySem.strKind prog w) dd kvs := dictOf_at o1 fun _ e => q3.get (q2.get e)
  have kk3 : Kp s { s3 with toks := s3.toks + 1 } := ((q0.trans q2).trans q3).trans (.toks _)
  refine ⟨_, _, PySem.strKind_is prog w _ t, o3.mapOf, kk3, ?_⟩
  subst e5
  rcases valS_at (k := kk) (r5.keeps (q2.trans q3)) with ⟨e, e'⟩ | ⟨d', v', e, e', z⟩
  · rw [e, e']; exact x3.vand' _
  · rw [e, e']; exact z.vand _
end
end Mine
namespace Mine
open PySem PySem.W PySem.Calls PyProof.Rows
section
variable {prog : Program} {w : World} {K : Frag} {fr : Fm} {k : Nat} {σ : St} {X : Nat → List Addr} {s : Shared}
theorem mutated {h' : Heap} {tk : Nat} {i : Nat} {x : Str} {kd : NameKind} {v : Value} {mv' : MV} {z : Addr}
    (I : Inv prog w K fr σ X s) (hw : fr.wr = true) (hi : fr.env.scope.names[i]? = some (x, kd)) (hz : z ∈ X i) (hs : Heap.SameBut z s.heap h') (hal : ∃ o, h'.get? z = some o)
    (hv : VarAt s.heap fr.env x kd v) (R : Rep prog w h' (Sf fr X) (X i) v mv') (htk : s.toks ≤ tk) (hmv : ∀ C ks vs, mv' = .ownW C ks vs → X i = fr.sx := by intro _ _ _ h; cases h) :
    Step fr X s X { s with heap := h', toks := tk } ∧ Inv prog w K fr (σ.set i (some mv')) X { s with heap := h', toks := tk } := by
  obtain ⟨z1, z2, z3, z4⟩ := I.own i z hz
  obtain ⟨z5, z6⟩ := z4 hw
  have back : ∀ a, h'.get? a = none → s.heap.get? a = none := by
    intro a e
    by_cases q : a = z
    · subst q; obtain ⟨o, ho⟩ := hal; rw [ho] at e; cases e
    · rw [hs.2 a q] at e; exact e
  have fwd : ∀ a o, a ≠ z → s.heap.get? a = some o → h'.get? a = some o := fun a o q e => (hs.2 a q).trans e
  have fwdE : ∀ a o, s.heap.get? a = some o → ∃ o', h'.get? a = some o' := by
    intro a o e
    by_cases q : a = z
    · subst q; exact hal
    · exact ⟨o, fwd a o q e⟩
  have var : ∀ y kd' v', VarAt s.heap fr.env y kd' v' → VarAt h' fr.env y kd' v' := by
    intro y kd' v' hv
    unfold VarAt at hv ⊢
    split at hv
    · obtain ⟨m', n', e⟩ := hv
      exact ⟨m', n'.sameBut hs (Ne.symm z1), e⟩
    · obtain ⟨c, o, l, g, d⟩ := hv
      exact ⟨c, o, l, fwd _ _ (Ne.symm (z6 _ (lookup_mem l))) g, d⟩
    · exact hv.elim
  constructor
  · exact ⟨⟨_, _, rfl⟩, htk, fun a o e _ _ h3 => fwd a o (fun q => h3 i (q ▸ hz)) e, back, fun j a ha => .inl ⟨j, ha⟩⟩
  · exact {
      wd := I.wd
      hk := I.hk
      hg := I.hg
      hb := I.hb
      nd := I.nd
      keeps := fun a o e => fwd a o (fun q => by rw [q, z5] at e; cases e) (I.keeps a o e)
      ns := let ⟨m, n⟩ := I.ns; ⟨m, n.sameBut hs (Ne.symm z1)⟩
      vars := by
        intro j mv e
        by_cases q : j = i
        · subst q
          rw [List.getElem?_set] at e
          simp only [if_true] at e
          split at e
          · cases e
            exact ⟨x, kd, v, hi, var _ _ _ hv, R⟩
          · cases e
        · rw [List.getElem?_set] at e
          rw [if_neg (Ne.symm q)] at e
          obtain ⟨y, kd', v', a, b, c⟩ := I.vars j mv e
          exact ⟨y, kd', v', a, var _ _ _ b, c.mono (fun a o p e => ⟨p, fwd a o (fun q => p.2.2 i (q ▸ hz)) e⟩) fun a ha o e => fwd a o (fun q2 => q (I.disj _ _ a ha (q2 ▸ hz))) e⟩
      disj := I.disj
      own := fun j a ha => let ⟨p, q, ⟨o, r⟩, t⟩ := I.own j a ha; ⟨p, q, fwdE a o r, t⟩
      dl := I.dl
      dead := fun a e => I.dead a (back a e)
      pL := I.pL
      pC := I.pC
      lC := I.lC
      cd := fun e p hp => let ⟨a, o, v, b, c⟩ := I.cd e p hp; ⟨a, o, v, fwd _ _ (Ne.symm (z6 _ hp)) b, c⟩
      cinj := I.cinj
      exl := fun a e => let ⟨o, q⟩ := I.exl a e; fwdE a o q
      tk1 := Nat.le_trans I.tk1 htk
      anc := by
        intro j C ks vs e
        by_cases q : j = i
        · subst q
          rw [List.getElem?_set] at e
          simp only [if_true] at e
          split at e
          · cases e; exact hmv _ _ _ rfl
          · cases e
        · rw [List.getElem?_set] at e
          rw [if_neg (Ne.symm q)] at e
          exact I.anc j C ks vs e }
theorem lst_update {h : Heap} {l : Addr} {vs : List Value} {n : Nat} (o : h.get? l = some (lstO vs n)) (f : Array Value → Array Value) : ∃ m, (h.update l (Obj.mapSeq f)).get? l = some (lstO (f vs.toArray).toList m) := by
  have := PySem.IsL.update (h := h) (l := l) (items := vs.toArray) (n := n) o f
  exact ⟨_, this⟩
inductive xApp (i : Nat) (f : Ev) (σ : St) : Fl → St → Prop
  | mk {d : D} {xs : List D} (h1 : f σ d true) (h2 : σ[i]? = some (some (.ownL xs))) (hl : xs.length ≤ 1000000) : xApp i f σ .next (σ.set i (some (.ownL (xs ++ [d]))))
theorem x_app {i : Nat} {x : Str} {kd : NameKind} {px apos pos spos : Pos} {e : Expr} {f : Ev} (hf : EvOk prog w K fr k e f) (hi : fr.env.scope.names[i]? = some (x, kd)) (hd : (x == ("__debug__" : Str)) = false) (hw : fr.wr = true)
    (hbase : attributeBase (.Name x px) (Str.ofString "append") fr.env (eval (.Name x px) fr.env) = eval (.Name x px) fr.env)
    (hfew : ((backTo pos (starEach [e] fr.env)).all (fun x => !x.1) && (backToKw pos (keywordEach [] fr.env)).all (fun x => x.1.isSome)
      && decide ([e].length + ([] : List Keyword).length + (if ([] : List Keyword).isEmpty then 0 else 1) < 30)) = true)
    (hline : (apos.endLine == pos.line) = true) (hst : backTo pos (starEach [e] fr.env) = [(false, eval e fr.env)])
    (hin : interactive fr.env = false) (hs : swapsWith (.Call (.Attribute (.Name x px) (Str.ofString "append") apos) [e] [] pos) none spos.line fr.env = pure false) :
    ExOk prog w K fr k (.Expr (.Call (.Attribute (.Name x px) (Str.ofString "append") apos) [e] [] pos) spos) (xApp i f) := by
  rintro A E s σ X _ _ a I ⟨h1, h2, hlen⟩
  rename_i d xs
  · obtain ⟨x', kd', v, e1, e2, a0, vs, n, e3, e4, o, rr⟩ := I.vars i _ h2
    rw [hi] at e1; cases e1
    subst e4
    refine wpAny_Expr ?_ hin hs
    refine wpAny_Call_method (T := "list") hbase hfew hline F.plainAttrs_list F.slot_list_append F.type_list_append (wpAny_Name (load_var I.hk (lookup_at I.nd hi) e2 ?_) hd)
    refine ⟨⟨_, o, rfl⟩, fun _ h => (by cases h; exact ⟨_, o, rfl⟩), ?_⟩
    rw [hst]
    refine PySem.P.append_list (wpKp (hf A E s σ X _ _ a I h1) fun u s1 q => ?_)
    obtain ⟨q0, q⟩ := q
    have o1 := q0.get o
    have I1 := I.step q0
    have hl := rr.length
    refine ⟨vs.toArray, n, by simp only [List.size_toArray]; exact Nat.le_trans (by lia) (show 1000000 ≤ sizeLine by decide), o1, ?_⟩
    obtain ⟨m, o2⟩ := lst_update o1 (fun xs => xs.push u)
    have e6 : (vs.toArray.push u).toList = vs ++ [u] := by simp
    rw [e6] at o2
    have hz : a0 ∈ X i := by rw [e3]; exact .head _
    have M := mutated (z := a0) (mv' := .ownL (xs ++ [d])) (tk := s1.toks) I1 hw hi hz (Heap.SameBut.update ..) ⟨_, o2⟩ (e2.keeps fun _ _ e => q0.get e)
      ⟨a0, _, m, e3, rfl, o2, ((rr.keeps q0).append (.cons q .nil)).mono fun a o p e => ⟨p, (Heap.get?_update_other _ _ (fun z => p.2.2 i (z ▸ hz))).trans e⟩⟩ (Nat.le_refl _)
    exact ⟨X, (Step.of_keeps q0).trans M.1, M.2, rfl⟩
theorem set_lst {A : Around} {E : Value → Shared → Prop} {l : Addr} {vs : List Value} {n : Nat} {j : Int} {t : Tok} {v : Value} {Q : Unit → Shared → Prop} (o : s.heap.get? l = some (lstO vs n)) (h0 : 0 ≤ j) (hfit : j < 2 ^ 63) (hn : j < vs.length)
    (hQ : ∀ h' m, h'.get? l = some (lstO (vs.set j.toNat v) m) → Heap.SameBut l s.heap h' → Q () { s with heap := h' }) : wpAny (model prog w) A (setItem (.ref l) (.int j t) v) Q E s := by
  have hl : s.heap.IsList l vs.toArray := ⟨_, o, rfl, _, rfl⟩
  unfold setItem
  try with_reducible refine wpAny_holding ?_
  first | refine wpAny_bind (wpAny_pure ?_) | skip
  refine wpAny_bind (wpAny_sequenceKey hl.typeIs (by decide) ?_)
  refine wpAny_bind (wpAny_callSpecial?_slot (name := Str.ofString "__setitem__") hl.typeIs slot_list_setitem
    (wpAny_call_entry slot_list_setitem hl.typeIs entry_list_setitem ?_ (args_list_setitem _ _ _)))
  show wpAny _ _ (Builtin.List.listSubscript? (.int j t) >>= _) _ _ s
  refine wpAny_bind (wpAny_listSubscript_int (fitsIndex_of h0 hfit) ?_)
  clear hfit
  obtain ⟨j, rfl⟩ := Int.eq_ofNat_of_zero_le h0
  have hj : j < vs.toArray.size := by simp only [List.size_toArray]; lia
  have hx' : vs.toArray[j]? = some vs.toArray[j] := Array.getElem?_eq_getElem hj
  show wpAny _ _ ((seqItemAt l j >>= fun r => pure (r.map (j, ·))) >>= _) _ _ s
  refine wpAny_bind (wpAny_bind (wpAny_seqItemAt o rfl (wpAny_pure ?_)))
  rw [hx']
  show wpAny _ _ (setSeqItemAt l j v >>= _) _ _ s
  obtain ⟨m, o2⟩ := lst_update o (fun xs => xs.setIfInBounds j v)
  have e6 : (vs.toArray.setIfInBounds j v).toList = vs.set j v := by simp
  rw [e6] at o2
  refine wpAny_bind (wpAny_setSeqItemAt o rfl ?_)
  first
    | exact wpAny_bind (wpAny_pure (wpAny_pure ⟨.none, rfl, wpAny_pure (hQ _ m o2 (Heap.SameBut.update ..))⟩))
    | exact wpAny_pure ⟨.none, rfl, wpAny_pure (hQ _ m o2 (Heap.SameBut.update ..))⟩
inductive xSetL (i : Nat) (g f : Ev) (σ : St) : Fl → St → Prop
  | mk {d : D} {n : Nat} {b : Bool} {xs : List D} (h1 : f σ d true) (h2 : g σ (.int (n : Nat)) b) (h3 : σ[i]? = some (some (.ownL xs))) (hn : n < xs.length) (hl : xs.length ≤ 1000000) : xSetL i g f σ .next (σ.set i (some (.ownL (xs.set n d))))
theorem x_setL {i : Nat} {x : Str} {kd : NameKind} {px pos' pos : Pos} {e ix : Expr} {f g : Ev} (hf : EvOk prog w K fr k e f) (hg : EvOk prog w K fr k ix g) (hi : fr.env.scope.names[i]? = some (x, kd)) (hd : (x == ("__debug__" : Str)) = false) (hw : fr.wr = true)
    (hs : swapsWith e (some (.Subscript (.Name x px) ix pos')) pos.line fr.env = pure false) : ExOk prog w K fr k (.Assign [.Subscript (.Name x px) ix pos'] e pos) (xSetL i g f) := by
  rintro A E s σ X _ _ a I ⟨h1, h2, h3, hlt, hlen⟩
  rename_i d j b xs
  obtain ⟨x', kd', v, e1, e2, a0, vs, n, e3, e4, o, rr⟩ := I.vars i _ h3
  rw [hi] at e1; cases e1
  subst e4
  refine wpAny_Assign_Subscript (wpKp (hf A E s σ X _ _ a I h1) fun u s1 q => ?_) hs
  obtain ⟨q0, q⟩ := q
  have I1 := I.step q0
  refine wpAny_Name (load_var I.hk (lookup_at I.nd hi) (e2.keeps fun _ _ e => q0.get e) (wpKp (hg A E s1 σ X _ _ a I1 h2) fun jv s2 q2 => ?_)) hd
  obtain ⟨q2, x2⟩ := q2
  obtain ⟨t, rfl⟩ := x2.int'
  have kk := q0.trans q2
  have I2 := I.step kk
  have hl := rr.length
  have hz : a0 ∈ X i := by rw [e3]; exact .head _
  refine set_lst (kk.get o) (Int.natCast_nonneg j) (by lia) (by lia) fun h' m o2 hs' => ?_
  have M := mutated (z := a0) (mv' := .ownL (xs.set j d)) (tk := s2.toks) I2 hw hi hz hs' ⟨_, o2⟩ (e2.keeps fun _ _ e => kk.get e)
    ⟨a0, _, m, e3, rfl, o2, ((rr.keeps kk).set (q.keeps q2)).mono fun a o p e => ⟨p, (hs'.2 _ (fun z => p.2.2 i (z ▸ hz))).trans e⟩⟩ (Nat.le_refl _)
  exact ⟨X, (Step.of_keeps kk).trans M.1, M.2, rfl⟩
noncomputable def putZ {α : Type} [DecidableEq α] (ks : List α) (vs : List D) (k : α) (d : D) : List α × List D :=
  if ks.contains k then (ks, (ks.zip vs).map fun p => if p.1 = k then d else p.2) else (ks ++ [k], vs ++ [d])
theorem putZ_at {α : Type} [DecidableEq α] {h : Heap} {P : Addr → Prop} {k : α} {v : Value} {d : D} (x : Is prog w h P v d) {kvs : List (α × Value)} {vs : List D} (r : IsL prog w h P (kvs.map (·.2)) vs) :
    (stored kvs k v).map (·.1) = (putZ (kvs.map (·.1)) vs k d).1 ∧ IsL prog w h P ((stored kvs k v).map (·.2)) (putZ (kvs.map (·.1)) vs k d).2 := by
  have ha : (kvs.any fun kv => decide (kv.1 = k)) = (kvs.map (·.1)).contains k := by
    clear r
    induction kvs with
    | nil => rfl
    | cons p l ih =>
      rw [List.any_cons, List.map_cons, List.contains_cons, ih]
      congr 1
      by_cases e : p.1 = k
      · simp [e]
      · simp only [e, decide_false]
        symm; simpa using fun z => e z.symm
  unfold stored putZ
  rw [ha]
  split
  · refine ⟨?_, ?_⟩
    · rw [List.map_map]
      apply List.map_congr_left
      intro p hp
      simp only [Function.comp]
      split <;> rfl
    · clear ha
      rename_i hh
      clear hh
      induction kvs generalizing vs with
      | nil => cases r; exact .nil
      | cons p l ih =>
        cases r with
        | cons z r =>
          simp only [List.map_cons, List.zip_cons_cons]
          refine .cons ?_ (ih r)
          by_cases e : p.1 = k
          · simp only [e, if_true]; exact x
          · simp only [e, if_false]; exact z
  · refine ⟨by simp, ?_⟩
    rw [List.map_append]
    exact r.append (.cons x .nil)
inductive xSetS (i : Nat) (g f : Ev) (σ : St) : Fl → St → Prop
  | mk {d : D} {k : Str} {b : Bool} {ks : List Str} {vs : List D} (h1 : f σ d true) (h2 : g σ (.str k) b) (h3 : σ[i]? = some (some (.ownS ks vs))) (hl : ks.length ≤ 1000000) : xSetS i g f σ .next (σ.set i (some (.ownS (putZ ks vs k d).1 (putZ ks vs k d).2)))
theorem x_setS {i : Nat} {x : Str} {kd : NameKind} {px pos' pos : Pos} {e ix : Expr} {f g : Ev} (hf : EvOk prog w K fr k e f) (hg : EvOk prog w K fr k ix g) (hi : fr.env.scope.names[i]? = some (x, kd)) (hd : (x == ("__debug__" : Str)) = false) (hw : fr.wr = true)
    (hs : swapsWith e (some (.Subscript (.Name x px) ix pos')) pos.line fr.env = pure false) : ExOk prog w K fr k (.Assign [.Subscript (.Name x px) ix pos'] e pos) (xSetS i g f) := by
  rintro A E s σ X _ _ a I ⟨h1, h2, h3, hlen⟩
  rename_i d j b xs ys
  obtain ⟨x', kd', v, e1, e2, a0, kvs, e3, e4, z, o, e5, rr⟩ := I.vars i _ h3
  rw [hi] at e1; cases e1
  subst e4
  refine wpAny_Assign_Subscript (wpKp (hf A E s σ X _ _ a I h1) fun u s1 q => ?_) hs
  obtain ⟨q0, q⟩ := q
  have I1 := I.step q0
  refine wpAny_Name (load_var I.hk (lookup_at I.nd hi) (e2.keeps fun _ _ e => q0.get e) (wpKp (hg A E s1 σ X _ _ a I1 h2) fun jv s2 q2 => ?_)) hd
  obtain ⟨q2, x2⟩ := q2
  obtain ⟨t, rfl⟩ := x2.str'
  have kk := q0.trans q2
  have I2 := I.step kk
  have hz : a0 ∈ X i := by rw [e3]; exact .head _
  have hl : kvs.length ≤ 1000000 := by rw [← e5, List.length_map] at hlen; exact hlen
  refine wpAny_setItem_pairs (knd := PySem.strKind prog w) (hsz := Nat.le_trans hl (by decide)) (PySem.strKind_is prog w _ _) (dictOf_at o fun _ e => kk.get e) fun h' o2 hs' => ?_
  have P1 := putZ_at (k := j) (q.keeps q2) (rr.keeps kk)
  rw [e5] at P1
  have M := mutated (z := a0) (mv' := .ownS (putZ xs ys j d).1 (putZ xs ys j d).2) (tk := s2.toks + 1) I2 hw hi hz hs' (let ⟨ob, _, _, e, _⟩ := o2; ⟨ob, e⟩) (e2.keeps fun _ _ e => kk.get e)
    ⟨a0, _, e3, rfl, z, o2, P1.1, P1.2.mono fun a o p e => ⟨p, (hs'.2 _ (fun z => p.2.2 i (z ▸ hz))).trans e⟩⟩ (Nat.le_succ _)
  exact ⟨X, (Step.of_keeps kk).trans M.1, M.2, rfl⟩
inductive xSetI (i : Nat) (g f : Ev) (σ : St) : Fl → St → Prop
  | mk {d : D} {k : Int} {b : Bool} {ks : List Int} {vs : List D} (h1 : f σ d true) (h2 : g σ (.int k) b) (h3 : σ[i]? = some (some (.ownI ks vs))) (hl : ks.length ≤ 1000000) : xSetI i g f σ .next (σ.set i (some (.ownI (putZ ks vs k d).1 (putZ ks vs k d).2)))
theorem x_setI {i : Nat} {x : Str} {kd : NameKind} {px pos' pos : Pos} {e ix : Expr} {f g : Ev} (hf : EvOk prog w K fr k e f) (hg : EvOk prog w K fr k ix g) (hi : fr.env.scope.names[i]? = some (x, kd)) (hd : (x == ("__debug__" : Str)) = false) (hw : fr.wr = true)
    (hs : swapsWith e (some (.Subscript (.Name x px) ix pos')) pos.line fr.env = pure false) : ExOk prog w K fr k (.Assign [.Subscript (.Name x px) ix pos'] e pos) (xSetI i g f) := by
  rintro A E s σ X _ _ a I ⟨h1, h2, h3, hlen⟩
  rename_i d j b xs ys
  obtain ⟨x', kd', v, e1, e2, a0, kvs, e3, e4, z, o, e5, rr⟩ := I.vars i _ h3
  rw [hi] at e1; cases e1
  subst e4
  refine wpAny_Assign_Subscript (wpKp (hf A E s σ X _ _ a I h1) fun u s1 q => ?_) hs
  obtain ⟨q0, q⟩ := q
  have I1 := I.step q0
  refine wpAny_Name (load_var I.hk (lookup_at I.nd hi) (e2.keeps fun _ _ e => q0.get e) (wpKp (hg A E s1 σ X _ _ a I1 h2) fun jv s2 q2 => ?_)) hd
  obtain ⟨q2, x2⟩ := q2
  obtain ⟨t, rfl⟩ := x2.int'
  have kk := q0.trans q2
  have I2 := I.step kk
  have hz : a0 ∈ X i := by rw [e3]; exact .head _
  have hl : kvs.length ≤ 1000000 := by rw [← e5, List.length_map] at hlen; exact hlen
  refine wpAny_setItem_pairs (knd := PySem.intKind prog w) (hsz := Nat.le_trans hl (by decide)) (PySem.intKind_is prog w _ _) (dictOf_at o fun _ e => kk.get e) fun h' o2 hs' => ?_
  have P1 := putZ_at (k := j) (q.keeps q2) (rr.keeps kk)
  rw [e5] at P1
  have M := mutated (z := a0) (mv' := .ownI (putZ xs ys j d).1 (putZ xs ys j d).2) (tk := s2.toks + 1) I2 hw hi hz hs' (let ⟨ob, _, _, e, _⟩ := o2; ⟨ob, e⟩) (e2.keeps fun _ _ e => kk.get e)
    ⟨a0, _, e3, rfl, z, o2, P1.1, P1.2.mono fun a o p e => ⟨p, (hs'.2 _ (fun z => p.2.2 i (z ▸ hz))).trans e⟩⟩ (Nat.le_succ _)
  exact ⟨X, (Step.of_keeps kk).trans M.1, M.2, rfl⟩
end
section
variable {prog : Program} {w : World} {K : Frag} {fr : Fm} {k : Nat}
variable (prog w K fr) in
noncomputable def TgOk (t : Value → Sem Unit) (i : Nat) : Prop := ∀ (A : Around) (E : Value → Shared → Prop) (s : Shared) (σ : St) (X : Nat → List Addr) (v : Value) (d : D), Inv prog w K fr σ X s → Is prog w s.heap (Sf fr X) v d →
  wpAny (model prog w) A (t v) (fun _ s' => ∃ X', Step fr X s X' s' ∧ Inv prog w K fr (σ.set i (some (.froz d))) X' s') E s
theorem tg_bind {i : Nat} {x : Str} {kd : NameKind} (hi : fr.env.scope.names[i]? = some (x, kd)) (hkd : kindOk fr x kd) : TgOk prog w K fr (bindName fr.env x) i := by
  intro A E s σ X v d I z
  exact bindName_ (store_var I (.refl s) hi hkd (Y := []) (by simp) (rep_froz z))
theorem tg_name {i : Nat} {x : Str} {kd : NameKind} {p : Pos} (hi : fr.env.scope.names[i]? = some (x, kd)) (hkd : kindOk fr x kd) : TgOk prog w K fr (assign (.Name x p) fr.env) i := by
  intro A E s σ X v d I z
  exact assign_Name (store_var I (.refl s) hi hkd (Y := []) (by simp) (rep_froz z))
variable (prog w K fr) in
noncomputable def TgsOk : List (Value → Sem Unit) → List Nat → Prop
  | [], [] => True
  | t :: ts, i :: is => TgOk prog w K fr t i ∧ TgsOk ts is
  | _, _ => False
noncomputable def setAll (σ : St) : List (Nat × D) → St
  | [] => σ
  | (i, d) :: r => setAll (σ.set i (some (.froz d))) r
theorem tgs_store {A : Around} {E : Value → Shared → Prop} (ts : List (Value → Sem Unit)) : ∀ {is : List Nat} {s : Shared} {σ : St} {X : Nat → List Addr} {vs : List Value} {ds : List D}, TgsOk prog w K fr ts is → Inv prog w K fr σ X s → IsL prog w s.heap (Sf fr X) vs ds → ds.length = is.length →
    wpAny (model prog w) A (assignInOrder ts vs) (fun _ s' => ∃ X', Step fr X s X' s' ∧ Inv prog w K fr (setAll σ (is.zip ds)) X' s') E s := by
  induction ts with
  | nil =>
    intro is s σ X vs ds h I r hl
    cases is with
    | nil =>
      cases r with
      | nil => exact wpAny_pure ⟨X, .refl _ _ _, I⟩
      | cons _ _ => cases hl
    | cons i is => exact h.elim
  | cons t ts ih =>
    intro is s σ X vs ds h I r hl
    cases is with
    | nil => exact h.elim
    | cons i is =>
      cases r with
      | nil => cases hl
      | cons z r =>
        refine wpAny_bind (wpAny_holding (wpKp (h.1 A E s σ X _ _ I z) fun _ s1 q => ?_))
        obtain ⟨X1, t1, I1⟩ := q
        refine wpKp (ih h.2 I1 (r.step I t1) (by simpa using hl)) fun _ s2 q2 => ?_
        obtain ⟨X2, t2, I2⟩ := q2
        exact ⟨X2, t1.trans t2, I2⟩
theorem IsL.reverse {h : Heap} {P : Addr → Prop} : ∀ {vs : List Value} {ds : List D}, IsL prog w h P vs ds → IsL prog w h P vs.reverse ds.reverse
  | _, _, .nil => .nil
  | _, _, .cons z r => by rw [List.reverse_cons, List.reverse_cons]; exact r.reverse.append (.cons z .nil)
inductive xUnp (is : List Nat) (f : Ev) (σ : St) : Fl → St → Prop
  | mk {ds : List D} (h1 : f σ (.tup ds) true) (hl : ds.length = is.length) : xUnp is f σ .next (setAll σ (is.zip ds))
theorem x_unp {is : List Nat} {elts : List Expr} {n : Nat} {tpos pos : Pos} {e : Expr} {f : Ev} (hf : EvOk prog w K fr k e f) (ht : TgsOk prog w K fr ((assignEach elts fr.env).map (·.2)) is) (hn : (assignEach elts fr.env).length = is.length) (hstar : (assignEach elts fr.env).findIdx? (·.1) = none)
    (hs : swapsWithSole [.Tuple elts n tpos] e pos.line fr.env = pure false) (hw : swappedStores [.Tuple elts n tpos] e fr.env = pure none) : ExOk prog w K fr k (.Assign [.Tuple elts n tpos] e pos) (xUnp is f) := by
  rintro A E s σ X _ _ a I ⟨h1, hlen⟩
  refine Assign_Tuple (wpKp (hf A E s σ X _ _ a I h1) fun u s1 q => ?_) hs hw
  obtain ⟨q0, q⟩ := q
  obtain ⟨t, vs, m, rfl, _, o, rr⟩ := q.tup'
  refine assign_Tuple_tuple (items := vs.toArray) a.hd ⟨_, o, rfl, m, rfl⟩ (by rw [hn, List.size_toArray, rr.length, hlen]) hstar fun h' he => ?_
  have k2 : Kp s1 { s1 with heap := h' } := .mk' _ fun b o e => he b o (Nat.ne_of_lt (Heap.lt_size e)) e
  have kk := q0.trans k2
  refine wpKp (tgs_store _ ht (I.step kk) (rr.keeps k2) hlen) fun _ s2 q2 => ?_
  obtain ⟨X2, t2, I2⟩ := q2
  exact ⟨X2, (Step.of_keeps kk).trans t2, I2, rfl⟩
inductive xSwp (is : List Nat) (f : Ev) (σ : St) : Fl → St → Prop
  | mk {ds : List D} (h1 : f σ (.tup ds) true) (hl : ds.length = is.length) : xSwp is f σ .next (setAll σ (is.reverse.zip ds.reverse))
theorem x_swp {is : List Nat} {elts : List Expr} {n : Nat} {tpos pos : Pos} {e : Expr} {f : Ev} {names : List Str} (hf : EvOk prog w K fr k e f) (ht : TgsOk prog w K fr (names.reverse.map fun n => bindName fr.env n) is.reverse) (hn : names.length = is.length)
    (hs : swapsWithSole [.Tuple elts n tpos] e pos.line fr.env = pure false) (hw : swappedStores [.Tuple elts n tpos] e fr.env = pure (some names)) : ExOk prog w K fr k (.Assign [.Tuple elts n tpos] e pos) (xSwp is f) := by
  rintro A E s σ X _ _ a I ⟨h1, hlen⟩
  refine Assign_Tuple_swapped (wpKp (hf A E s σ X _ _ a I h1) fun u s1 q => ?_) hs hw
  obtain ⟨q0, q⟩ := q
  obtain ⟨t, vs, m, rfl, _, o, rr⟩ := q.tup'
  have e1 : names.length = vs.toArray.size := by rw [hn, List.size_toArray, rr.length, hlen]
  rw [e1]
  refine unpackItems_tuple (items := vs.toArray) a.hd ⟨_, o, rfl, m, rfl⟩ fun h' he => ?_
  have k2 : Kp s1 { s1 with heap := h' } := .mk' _ fun b o e => he b o (Nat.ne_of_lt (Heap.lt_size e)) e
  have kk := q0.trans k2
  refine wpKp (tgs_store _ ht (I.step kk) (rr.keeps k2).reverse (by simpa using hlen)) fun _ s2 q2 => ?_
  obtain ⟨X2, t2, I2⟩ := q2
  exact ⟨X2, (Step.of_keeps kk).trans t2, I2, rfl⟩
theorem swapped_two {env : Env} {a b : Str} {pa pb tp vp : Pos} {n m : Nat} {v1 v2 : Expr} (hk : env.scope.kind = .function) (ha : env.scope.names.lookup a = some .local) (hb : env.scope.names.lookup b = some .local) (hl : (pa.line == pb.line) = true) (hne : (a == b) = false)
    (hs : ([v1, v2].any fun | .Starred .. => true | _ => false) = false) (hf : [v1, v2].all (foldedForSure 8) = false) (hc : [v1, v2].all (constantsAlone 8) = false) :
    swappedStores [.Tuple [.Name a pa, .Name b pb] n tp] (.Tuple [v1, v2] m vp) env = pure (some [a, b]) := by
  have hbk : env.blockKind = .function := by
    unfold Env.blockKind
    have : env.scope.kind.isAnnotationScope = false := by rw [hk]; rfl
    rw [this]; exact hk
  have h1 : env.kindOf a = some .local := ha
  have h2 : env.kindOf b = some .local := hb
  have hne' : (b == a) = false := by simpa using fun z : b = a => by subst z; simp at hne
  have hl' : pb.line = pa.line := (eq_of_beq hl).symm
  have e : ∀ f : Expr → Option Str, f (.Name a pa) = some a → f (.Name b pb) = some b → [Expr.Name a pa, Expr.Name b pb].filterMap f = [a, b] := by
    intro f q1 q2
    simp only [List.filterMap_cons, q1, q2, List.filterMap_nil]
  have e2 : ([a, b].eraseDups) = [a, b] := by
    simp [List.eraseDups, List.eraseDupsBy, List.eraseDupsBy.loop, hne']
  unfold swappedStores
  have e3 : (([Expr.Name a pa, Expr.Name b pb].head?.map (·.pos.line)).getD 0) = pa.line := rfl
  simp only [hbk, hf, hc, e3]
  rw [e _ (by simp [h1]) (by simp [h2, hl']), e2]
  refine (if_neg (fun z => Bool.noConfusion (show false = true from z))).trans ((if_neg (ne_true_of_eq_false hs)).trans ((if_neg (by simp)).trans ?_))
  rfl
inductive xThree (i j l : Nat) (f : Ev) (σ : St) : Fl → St → Prop
  | mk {d : D} (h1 : f σ d true) : xThree i j l f σ .next (setAll σ [(i, d), (j, d), (l, d)])
theorem x_three {i j l : Nat} {t1 t2 t3 e : Expr} {pos : Pos} {f : Ev} (hf : EvOk prog w K fr k e f) (h1 : TgOk prog w K fr (assign t1 fr.env) i) (h2 : TgOk prog w K fr (assign t2 fr.env) j) (h3 : TgOk prog w K fr (assign t3 fr.env) l)
    (he : (assignEach [t1, t2, t3] fr.env).map (·.2) = [assign t1 fr.env, assign t2 fr.env, assign t3 fr.env]) (hw : swappedStores [t1, t2, t3] e fr.env = pure none) : ExOk prog w K fr k (.Assign [t1, t2, t3] e pos) (xThree i j l f) := by
  rintro A E s σ X _ _ a I ⟨g1⟩
  rename_i d
  refine wpAny_Assign_three (wpKp (hf A E s σ X _ _ a I g1) fun u s1 q => ?_) he hw
  obtain ⟨q0, q⟩ := q
  have I1 := I.step q0
  refine wpKp (h1 A E s1 σ X u d I1 q) fun _ s2 q2 => ?_
  obtain ⟨X2, t2, I2⟩ := q2
  have z2 := q.step I1 t2
  refine wpKp (h2 A E s2 _ X2 u d I2 z2) fun _ s3 q3 => ?_
  obtain ⟨X3, t3, I3⟩ := q3
  have z3 := z2.step I2 t3
  refine wpKp (h3 A E s3 _ X3 u d I3 z3) fun _ s4 q4 => ?_
  obtain ⟨X4, t4, I4⟩ := q4
  exact ⟨X4, (Step.of_keeps q0).trans (t2.trans (t3.trans t4)), I4, rfl⟩
inductive xAug (i : Nat) (f : Ev) (σ : St) : Fl → St → Prop
  | mk {x y : Int} {b : Bool} (h1 : σ[i]? = some (some (.froz (.int x)))) (h2 : f σ (.int y) b) : xAug i f σ .next (σ.set i (some (.froz (.int (x + y)))))
theorem x_aug {i : Nat} {x : Str} {kd : NameKind} {px pos : Pos} {e : Expr} {f : Ev} (hf : EvOk prog w K fr k e f) (hi : fr.env.scope.names[i]? = some (x, kd)) (hkd : kindOk fr x kd) : ExOk prog w K fr k (.AugAssign (.Name x px) .Add e pos) (xAug i f) := by
  rintro A E s σ X _ _ a I ⟨g1, g2⟩
  obtain ⟨x', kd', v, e1, e2, e3, z⟩ := I.vars i _ g1
  rw [hi] at e1; cases e1
  obtain ⟨t, rfl⟩ := z.int'
  refine wpAny_AugAssign_Name (load_var I.hk (lookup_at I.nd hi) e2 (wpKp (hf A E s σ X _ _ a I g2) fun u s1 q => ?_))
  obtain ⟨q0, q⟩ := q
  obtain ⟨t', rfl⟩ := q.int'
  refine wpAny_iadd_int (wpKp (store_var I (q0.trans (.toks _)) hi hkd (Y := []) (by simp) (rep_froz (Is.int _ _))) fun _ s2 q2 => ?_)
  obtain ⟨X2, t2, I2⟩ := q2
  exact ⟨X2, t2, I2, rfl⟩
inductive xAugI (i : Nat) (g f : Ev) (σ : St) : Fl → St → Prop
  | mk {j x y : Int} {b c : Bool} {ks : List Int} {vs : List D} (h2 : g σ (.int j) b) (h3 : σ[i]? = some (some (.ownI ks vs))) (h1 : f σ (.int y) c) (h4 : (((ks.zip vs).find? fun p => p.1 = j).map (·.2)) = some (.int x)) (hl : ks.length ≤ 1000000) :
    xAugI i g f σ .next (σ.set i (some (.ownI (putZ ks vs j (.int (x + y))).1 (putZ ks vs j (.int (x + y))).2)))
theorem valI_get {h : Heap} {P : Addr → Prop} {k : Int} {kvs : List (Int × Value)} {vs : List D} (r : IsL prog w h P (kvs.map (·.2)) vs) {d : D} (e : ((((kvs.map (·.1)).zip vs).find? fun p => p.1 = k).map (·.2)) = some d) :
    ∃ v, valueAt kvs k = some v ∧ Is prog w h P v d :=
  (val_go (k := k) r).or.elim (fun a => nomatch a.1.symm.trans e) fun ⟨_, v, a, q, c⟩ => ⟨v, q, Option.some.inj (a.symm.trans e) ▸ c⟩
theorem x_augI {i : Nat} {x y : Str} {kd : NameKind} {px py pos' pos : Pos} {e : Expr} {f g : Ev} (hf : EvOk prog w K fr k e f) (hg : EvOk prog w K fr k (.Name y py) g) (hi : fr.env.scope.names[i]? = some (x, kd)) (hd : (x == ("__debug__" : Str)) = false) (hw : fr.wr = true) :
    ExOk prog w K fr k (.AugAssign (.Subscript (.Name x px) (.Name y py) pos') .Add e pos) (xAugI i g f) := by
  rintro A E s σ X _ _ a I ⟨h2, h3, h1, h4, hlen⟩
  rename_i j o0 y0 _ _ ks ds
  obtain ⟨x', kd', v, e1, e2, a0, kvs, e3, e4, z, o, e5, rr⟩ := I.vars i _ h3
  rw [hi] at e1; cases e1
  subst e4
  refine wpAny_AugAssign_Subscript (wpAny_Name (load_var I.hk (lookup_at I.nd hi) e2 (wpKp (hg A E s σ X _ _ a I h2) fun jv s1 q => ?_)) hd)
  obtain ⟨q0, q⟩ := q
  obtain ⟨t, rfl⟩ := q.int'
  have I1 := I.step q0
  have r1 := rr.keeps q0
  have o1 : s1.heap.DictOf (PySem.intKind prog w) a0 kvs := dictOf_at o fun _ e => q0.get e
  rw [← e5] at h4
  obtain ⟨v0, e6, z0⟩ := valI_get r1 h4
  obtain ⟨t0, rfl⟩ := z0.int'
  refine wpAny_getItem_of (knd := PySem.intKind prog w) (PySem.intKind_is prog w j t) o1.mapOf e6 ?_
  have q1 := q0.trans (.toks (s := s1) (s1.toks + 1))
  have I2 := I.step q1
  refine wpKp (hf A E _ σ X _ _ a I2 h1) fun uv s2 q2 => ?_
  obtain ⟨q2, x2⟩ := q2
  obtain ⟨t2, rfl⟩ := x2.int'
  have kk := q1.trans q2
  refine wpAny_iadd_int ?_
  have kk3 := kk.trans (.toks (s := s2) (s2.toks + 1))
  have I3 := I.step kk3
  have hz : a0 ∈ X i := by rw [e3]; exact .head _
  have hl : kvs.length ≤ 1000000 := by rw [← e5, List.length_map] at hlen; exact hlen
  refine wpAny_setItem_pairs (knd := PySem.intKind prog w) (hsz := Nat.le_trans hl (by decide)) (PySem.intKind_is prog w j t) (dictOf_at o fun _ e => kk.get e) fun h' o2 hs' => ?_
  have P1 := putZ_at (k := j) (d := .int (o0 + y0)) (P := Sf fr X) (h := s2.heap) (Is.int (prog := prog) (w := w) _ s2.toks) (rr.keeps kk)
  rw [e5] at P1
  have M := mutated (z := a0) (mv' := .ownI (putZ ks ds j (.int (o0 + y0))).1 (putZ ks ds j (.int (o0 + y0))).2) (tk := s2.toks + 1 + 1) I3 hw hi hz hs' (let ⟨ob, _, _, e, _⟩ := o2; ⟨ob, e⟩) (e2.keeps fun _ _ e => kk.get e)
    ⟨a0, _, e3, rfl, z, o2, P1.1, P1.2.mono fun a o p e => ⟨p, (hs'.2 _ (fun z => p.2.2 i (z ▸ hz))).trans e⟩⟩ (Nat.le_succ _)
  exact ⟨X, (Step.of_keeps kk3).trans M.1, M.2, rfl⟩
end
section
variable {prog : Program} {w : World} {K : Frag} {fr : Fm} {k : Nat}
inductive xPop (i : Nat) (is : List Nat) (σ : St) : Fl → St → Prop
  | mk {xs ds : List D} (h1 : σ[i]? = some (some (.ownL (xs ++ [.tup ds])))) (hl : ds.length = is.length) (hs : xs.length < 1000000) : xPop i is σ .next (setAll (σ.set i (some (.ownL xs))) (is.zip ds))
theorem x_pop {i : Nat} {is : List Nat} {x : Str} {kd : NameKind} {elts : List Expr} {n : Nat} {px apos cpos tpos pos : Pos} (hi : fr.env.scope.names[i]? = some (x, kd)) (hd : (x == ("__debug__" : Str)) = false) (hw : fr.wr = true)
    (hbase : attributeBase (.Name x px) (Str.ofString "pop") fr.env (eval (.Name x px) fr.env) = eval (.Name x px) fr.env)
    (hfew : ((backTo cpos (starEach [] fr.env)).all (fun x => !x.1) && (backToKw cpos (keywordEach [] fr.env)).all (fun x => x.1.isSome)
      && decide (([] : List Expr).length + ([] : List Keyword).length + (if ([] : List Keyword).isEmpty then 0 else 1) < 30)) = true)
    (hline : (apos.endLine == cpos.line) = true)
    (ht : TgsOk prog w K fr ((assignEach elts fr.env).map (·.2)) is) (hn : (assignEach elts fr.env).length = is.length) (hstar : (assignEach elts fr.env).findIdx? (·.1) = none)
    (hs : swapsWithSole [.Tuple elts n tpos] (.Call (.Attribute (.Name x px) (Str.ofString "pop") apos) [] [] cpos) pos.line fr.env = pure false)
    (hsw : swappedStores [.Tuple elts n tpos] (.Call (.Attribute (.Name x px) (Str.ofString "pop") apos) [] [] cpos) fr.env = pure none) :
    ExOk prog w K fr k (.Assign [.Tuple elts n tpos] (.Call (.Attribute (.Name x px) (Str.ofString "pop") apos) [] [] cpos) pos) (xPop i is) := by
  rintro A E s σ X _ _ a I ⟨h2, hlen, hsz⟩
  rename_i xs ds
  obtain ⟨x', kd', v, e1, e2, a0, vs, n0, e3, e4, o, rr⟩ := I.vars i _ h2
  rw [hi] at e1; cases e1
  subst e4
  refine Assign_Tuple ?_ hs hsw
  refine wpAny_Call_method (T := "list") hbase hfew hline F.plainAttrs_list F.slot_list_pop F.type_list_pop (wpAny_Name (load_var I.hk (lookup_at I.nd hi) e2 ?_) hd)
  refine ⟨⟨_, o, rfl⟩, fun _ h => (by cases h; exact ⟨_, o, rfl⟩), ?_⟩
  show wpAny _ _ (callWith cpos (.builtin "list.pop") [.ref a0] [] []) _ _ _
  have hl := rr.length
  obtain ⟨u, hu, zu⟩ := rr.get (show (xs ++ [D.tup ds])[xs.length]? = some (.tup ds) by simp)
  rw [List.length_append, List.length_singleton] at hl
  have hu' : vs.toArray[vs.toArray.size - 1]? = some u := by
    simp only [List.size_toArray, List.getElem?_toArray, hl]; exact hu
  refine PySem.P.pop_list (items := vs.toArray) (n := n0) o hu' ?_ (by simp only [List.size_toArray]; exact Nat.le_trans (by lia) (show 1000000 ≤ sizeLine by decide))
  obtain ⟨m, o2⟩ := lst_update o (fun xs => xs.eraseIdxIfInBounds (vs.toArray.size - 1))
  have e6 : (vs.toArray.eraseIdxIfInBounds (vs.toArray.size - 1)).toList = vs.dropLast := by
    have hpos : 0 < vs.length := by
      cases vs with
      | nil => simp at hu
      | cons _ _ => exact Nat.succ_pos _
    simp [List.dropLast_eq_take, List.eraseIdx_eq_take_drop_succ]
    lia
  rw [e6] at o2
  have hz : a0 ∈ X i := by rw [e3]; exact .head _
  have oth : ∀ a o, Sf fr X a → s.heap.get? a = some o → (s.heap.update a0 (Obj.mapSeq fun xs => xs.eraseIdxIfInBounds (vs.toArray.size - 1))).get? a = some o := fun a o p e => (Heap.get?_update_other _ _ (fun z : a0 = a => p.2.2 i (z ▸ hz))).trans e
  have rd : IsL prog w s.heap (Sf fr X) vs.dropLast xs := by
    rw [List.dropLast_eq_take, hl]; simpa using rr.take xs.length
  have M := mutated (z := a0) (mv' := .ownL xs) (tk := s.toks) I hw hi hz (Heap.SameBut.update ..) ⟨_, o2⟩ e2
    ⟨a0, _, m, e3, rfl, o2, rd.mono fun a o p e => ⟨p, oth a o p e⟩⟩ (Nat.le_refl _)
  have zu' := zu.mono (P' := Sf fr X) fun a o p e => ⟨p, oth a o p e⟩
  obtain ⟨t, us, m2, rfl, _, ot, ru⟩ := zu'.tup'
  refine assign_Tuple_tuple (items := us.toArray) a.hd ⟨_, ot, rfl, m2, rfl⟩ (by rw [hn, List.size_toArray, ru.length, hlen]) hstar fun h' he => ?_
  have k2 : Kp { s with heap := s.heap.update a0 (Obj.mapSeq fun xs => xs.eraseIdxIfInBounds (vs.toArray.size - 1)) } { s with heap := h' } := .mk' _ fun b o e => he b o (Nat.ne_of_lt (Heap.lt_size e)) e
  refine wpKp (tgs_store _ ht (M.2.step k2) (ru.keeps k2) hlen) fun _ s2 q2 => ?_
  obtain ⟨X2, t2, I2⟩ := q2
  exact ⟨X2, M.1.trans ((Step.of_keeps k2).trans t2), I2, rfl⟩
theorem Inner.get {h : Heap} {P : Addr → Prop} : ∀ {as : List Addr} {vs : List Value} {xss : List (List D)} {j : Nat} {xs : List D}, Inner prog w h P as vs xss → xss[j]? = some xs →
    ∃ a us n, as[j]? = some a ∧ vs[j]? = some (.ref a) ∧ h.get? a = some (lstO us n) ∧ IsL prog w h P us xs
  | a :: as, v :: vs, xs :: xss, 0, xs', ⟨e, ⟨us, n, o, r⟩, z⟩, q => by cases q; exact ⟨a, us, n, rfl, by rw [e]; rfl, o, r⟩
  | a :: as, v :: vs, xs :: xss, j + 1, xs', ⟨e, ⟨us, n, o, r⟩, z⟩, q => z.get (j := j) (by simpa using q)
  | [], [], [], j, xs, _, q => by cases q
  | [], [], _ :: _, _, _, h, _ => h.elim
  | [], _ :: _, _, _, _, h, _ => by cases h
  | _ :: _, [], _, _, _, h, _ => by cases h
  | _ :: _, _ :: _, [], _, _, h, _ => h.elim
theorem Inner.upd {h h' : Heap} {P : Addr → Prop} {a : Addr} {us : List Value} {n : Nat} {ys : List D} (o : h'.get? a = some (lstO us n)) (r : IsL prog w h' P us ys) (k : ∀ b o, b ≠ a → h.get? b = some o → h'.get? b = some o) (kp : ¬ P a) :
    ∀ {as : List Addr} {vs : List Value} {xss : List (List D)} {j : Nat}, as.Nodup → as[j]? = some a → Inner prog w h P as vs xss → Inner prog w h' P as vs (xss.set j ys)
  | b :: as, v :: vs, xs :: xss, 0, nd, q, ⟨e, _, z⟩ => by
    cases q
    rw [List.nodup_cons] at nd
    exact ⟨e, ⟨us, n, o, r⟩, z.mono (fun c o p e => ⟨p, k c o (fun z => kp (z ▸ p)) e⟩) fun c hc o e => k c o (fun z => nd.1 (z ▸ hc)) e⟩
  | b :: as, v :: vs, xs :: xss, j + 1, nd, q, ⟨e, ⟨us', n', o', r'⟩, z⟩ => by
    rw [List.nodup_cons] at nd
    have q : as[j]? = some a := by simpa using q
    exact ⟨e, ⟨us', n', k b _ (fun z => nd.1 (z ▸ List.mem_of_getElem? q)) o', r'.mono fun c o p e => ⟨p, k c o (fun z => kp (z ▸ p)) e⟩⟩, z.upd o r k kp nd.2 q⟩
  | [], [], [], _, _, q, _ => by cases q
  | [], [], _ :: _, _, _, _, h => h.elim
  | [], _ :: _, _, _, _, _, h => by cases h
  | _ :: _, [], _, _, _, _, h => by cases h
  | _ :: _, _ :: _, [], _, _, _, h => h.elim
inductive xAppN (i : Nat) (g f : Ev) (σ : St) : Fl → St → Prop
  | mk {n : Nat} {b : Bool} {d : D} {xs : List D} {xss : List (List D)} (h2 : σ[i]? = some (some (.ownN xss))) (h3 : g σ (.int (n : Nat)) b) (h1 : f σ d true) (h4 : xss[n]? = some xs) (hn : n ≤ 1000000) (hl : xs.length ≤ 1000000) :
    xAppN i g f σ .next (σ.set i (some (.ownN (xss.set n (xs ++ [d])))))
theorem x_appN {i : Nat} {x : Str} {kd : NameKind} {px sp apos pos spos : Pos} {ix e : Expr} {f g : Ev} (hf : EvOk prog w K fr k e f) (hg : EvOk prog w K fr k ix g) (hi : fr.env.scope.names[i]? = some (x, kd)) (hd : (x == ("__debug__" : Str)) = false) (hw : fr.wr = true)
    (hsub : ∀ o i, subscripted ix false o i = operate [o, i] (getItem o i))
    (hbase : attributeBase (.Subscript (.Name x px) ix sp) (Str.ofString "append") fr.env (eval (.Subscript (.Name x px) ix sp) fr.env) = eval (.Subscript (.Name x px) ix sp) fr.env)
    (hfew : ((backTo pos (starEach [e] fr.env)).all (fun x => !x.1) && (backToKw pos (keywordEach [] fr.env)).all (fun x => x.1.isSome)
      && decide ([e].length + ([] : List Keyword).length + (if ([] : List Keyword).isEmpty then 0 else 1) < 30)) = true)
    (hline : (apos.endLine == pos.line) = true) (hst : backTo pos (starEach [e] fr.env) = [(false, eval e fr.env)])
    (hin : interactive fr.env = false) (hs : swapsWith (.Call (.Attribute (.Subscript (.Name x px) ix sp) (Str.ofString "append") apos) [e] [] pos) none spos.line fr.env = pure false) :
    ExOk prog w K fr k (.Expr (.Call (.Attribute (.Subscript (.Name x px) ix sp) (Str.ofString "append") apos) [e] [] pos) spos) (xAppN i g f) := by
  rintro A E s σ X _ _ a I ⟨h2, h3, h1, h4, hjm, hlen⟩
  rename_i j _ d xs xss
  obtain ⟨x', kd', v, e1, e2, a0, as, vs, n, e3, nd, e4, o, rr⟩ := I.vars i _ h2
  rw [hi] at e1; cases e1
  subst e4
  refine wpAny_Expr ?_ hin hs
  refine wpAny_Call_method (T := "list") hbase hfew hline F.plainAttrs_list F.slot_list_append F.type_list_append ?_
  refine Subscript_ (wpAny_Name (load_var I.hk (lookup_at I.nd hi) e2 (wpKp (hg A E s σ X _ _ a I h3) fun jv s1 q => ?_)) hd)
  obtain ⟨q0, q⟩ := q
  obtain ⟨t, rfl⟩ := q.int'
  have o1 := q0.get o
  have hL : s1.heap.IsList a0 vs.toArray := ⟨_, o1, rfl, _, rfl⟩
  obtain ⟨b0, us, m, g1, g2, g3, g4⟩ := rr.get h4
  refine tail_any hL.typeIs slot_list_getitem.lookup (wpAny_getItem_list hL (Int.natCast_nonneg j) (by lia) (by simpa using g2) ?_) (hsub _ _)
  have g3' := q0.get g3
  refine ⟨⟨_, g3', rfl⟩, fun _ h => (by cases h; exact ⟨_, g3', rfl⟩), ?_⟩
  rw [hst]
  have I1 := I.step q0
  refine PySem.P.append_list (wpKp (hf A E s1 σ X _ _ a I1 h1) fun u s2 q2 => ?_)
  obtain ⟨q2, x2⟩ := q2
  have kk := q0.trans q2
  have I2 := I.step kk
  have o2 := kk.get g3
  have hl := g4.length
  refine ⟨us.toArray, m, by simp only [List.size_toArray]; exact Nat.le_trans (by lia) (show 1000000 ≤ sizeLine by decide), o2, ?_⟩
  obtain ⟨m2, o3⟩ := lst_update o2 (fun xs => xs.push u)
  have e6 : (us.toArray.push u).toList = us ++ [u] := by simp
  rw [e6] at o3
  have hz : b0 ∈ X i := by rw [e3]; exact .tail _ (List.mem_of_getElem? g1)
  have hns : ¬ Sf fr X b0 := fun p => p.2.2 i hz
  rw [List.nodup_cons] at nd
  have ne0 : a0 ≠ b0 := fun z => nd.1 (z ▸ List.mem_of_getElem? g1)
  have oth : ∀ c ob, c ≠ b0 → s2.heap.get? c = some ob → (s2.heap.update b0 (Obj.mapSeq fun xs => xs.push u)).get? c = some ob := fun c ob ne e => (Heap.get?_update_other _ _ (Ne.symm ne)).trans e
  have rr2 := rr.mono (P' := Sf fr X) (h' := s2.heap) (fun c o p e => ⟨p, kk.get e⟩) fun c hc o e => kk.get e
  have M := mutated (z := b0) (mv' := .ownN (xss.set j (xs ++ [d]))) (tk := s2.toks) I2 hw hi hz (Heap.SameBut.update ..) ⟨_, o3⟩ (e2.keeps fun _ _ e => kk.get e)
    ⟨a0, as, vs, n, e3, List.nodup_cons.mpr nd, rfl, oth _ _ ne0 (kk.get o), rr2.upd o3 (((g4.keeps kk).append (.cons x2 .nil)).mono fun c o p e => ⟨p, oth c o (fun z => hns (z ▸ p)) e⟩) oth hns nd.2 g1⟩ (Nat.le_refl _)
  exact ⟨X, (Step.of_keeps kk).trans M.1, M.2, rfl⟩
end
noncomputable def itK (o : Obj) : Prop := ∃ vs, o.data = .fields vs
section
variable {prog : Program} {w : World} {h h' : Heap} {P P' : Addr → Prop} {I : Addr} {o0 : Obj}
theorem dict_off {KK : Type} [DecidableEq KK] {knd : KeyKind prog w KK} {a : Addr} {kvs : List (KK × Value)} (e : h.get? I = some o0) (q : itK o0) (x : h.DictOf knd a kvs) : a ≠ I := by
  rintro rfl
  obtain ⟨o, es, ep, g, _, c, _⟩ := x
  rw [e] at g; cases g
  obtain ⟨vs, e1⟩ := q
  rw [c] at e1; cases e1
theorem ins_off {a : Addr} {kvs : List (Str × Value)} (e : h.get? I = some o0) (q : itK o0) (x : InsOf h a kvs) : a ≠ I := by
  rintro rfl
  obtain ⟨o, es, ep, g, c⟩ := x.obj
  rw [e] at g; cases g
  obtain ⟨vs, e1⟩ := q
  rw [c] at e1; cases e1
mutual
theorem Is.offI (e : h.get? I = some o0) (q : itK o0) : ∀ {v : Value} {d : D}, Is prog w h P v d → Is prog w h (fun a => P a ∧ a ≠ I) v d
  | _, _, .none => .none
  | _, _, .bool b => .bool b
  | _, _, .int i t => .int i t
  | _, _, .str x t => .str x t
  | _, _, .bytes x t => .bytes x t
  | _, _, .tup p o r => .tup ⟨p, by rintro rfl; rw [e] at o; cases o; obtain ⟨_, e1⟩ := q; cases e1⟩ o (IsL.offI e q r)
  | _, _, .lst p o r => .lst ⟨p, by rintro rfl; rw [e] at o; cases o; obtain ⟨_, e1⟩ := q; cases e1⟩ o (IsL.offI e q r)
  | _, _, .dctI p z o k r => .dctI ⟨p, dict_off e q o⟩ z o k (IsL.offI e q r)
  | _, _, .dctS p z o k r => .dctS ⟨p, dict_off e q o⟩ z o k (IsL.offI e q r)
  | _, _, .inst p p' o o' k r => .inst ⟨p, by rintro rfl; rw [e] at o; cases o; obtain ⟨_, e1⟩ := q; cases e1⟩ ⟨p', ins_off e q o'⟩ o o' k (IsL.offI e q r)
theorem IsL.offI (e : h.get? I = some o0) (q : itK o0) : ∀ {vs : List Value} {xs : List D}, IsL prog w h P vs xs → IsL prog w h (fun a => P a ∧ a ≠ I) vs xs
  | _, _, .nil => .nil
  | _, _, .cons x r => .cons (Is.offI e q x) (IsL.offI e q r)
end
theorem Inner.offI (e : h.get? I = some o0) (q : itK o0) : ∀ {as : List Addr} {vs : List Value} {xss : List (List D)}, Inner prog w h P as vs xss → Inner prog w h (fun a => P a ∧ a ≠ I) as vs xss
  | [], [], [], _ => trivial
  | a :: as, v :: vs, xs :: xss, ⟨x, ⟨us, n, o, r⟩, z⟩ => ⟨x, ⟨us, n, o, r.offI e q⟩, z.offI e q⟩
  | [], [], _ :: _, h => h.elim
  | [], _ :: _, _, h => by cases h
  | _ :: _, [], _, h => by cases h
  | _ :: _, _ :: _, [], h => h.elim
theorem Rep.offI {X : List Addr} {v : Value} {mv : MV} (e : h.get? I = some o0) (q : itK o0) (x : Rep prog w h P X v mv) : Rep prog w h (fun a => P a ∧ a ≠ I) X v mv := by
  cases mv with
  | froz d => exact ⟨x.1, x.2.offI e q⟩
  | ownL xs => obtain ⟨a, vs, n, rfl, rfl, o, r⟩ := x; exact ⟨a, vs, n, rfl, rfl, o, r.offI e q⟩
  | ownN xss => obtain ⟨a, as, vs, n, rfl, nd, rfl, o, r⟩ := x; exact ⟨a, as, vs, n, rfl, nd, rfl, o, r.offI e q⟩
  | ownI ks xs => obtain ⟨a, kvs, rfl, rfl, z, o, kk, r⟩ := x; exact ⟨a, kvs, rfl, rfl, z, o, kk, r.offI e q⟩
  | ownS ks xs => obtain ⟨a, kvs, rfl, rfl, z, o, kk, r⟩ := x; exact ⟨a, kvs, rfl, rfl, z, o, kk, r.offI e q⟩
  | ownW C ks xs => obtain ⟨a, dx, kvs, rfl, ne, rfl, o, od, kk, r⟩ := x; exact ⟨a, dx, kvs, rfl, ne, rfl, o, od, kk, r.offI e q⟩
theorem IsL.onI {v : List Value} {d : List D} (e : h.get? I = some o0) (q : itK o0) (k : ∀ b o, b ≠ I → h.get? b = some o → h'.get? b = some o) (x : IsL prog w h P v d) : IsL prog w h' P v d := (x.offI e q).mono fun a o p g => ⟨p.1, k a o p.2 g⟩
end
section
variable {prog : Program} {w : World} {K : Frag} {fr : Fm} {σ : St} {X : Nat → List Addr} {s : Shared}
theorem Inv.stepI {h' : Heap} {tk : Nat} {I : Addr} {o0 : Obj} (J : Inv prog w K fr σ X s) (e : s.heap.get? I = some o0) (q : itK o0) (k : ∀ b o, b ≠ I → s.heap.get? b = some o → h'.get? b = some o) (hP : fr.P I) (hE : ¬ fr.ex I)
    (hL : I ≠ fr.env.locals) (hC : ∀ p ∈ fr.env.cells, I ≠ p.2) (hX : ∀ j, I ∉ X j) (hh : fr.he.get? I = none) (htk : s.toks ≤ tk) : Inv prog w K fr σ X { s with heap := h', toks := tk } := by
  exact {
    wd := J.wd
    hk := J.hk
    hg := J.hg
    hb := J.hb
    nd := J.nd
    keeps := fun a o z => k a o (fun g => by rw [g, hh] at z; cases z) (J.keeps a o z)
    ns := let ⟨m, n⟩ := J.ns; ⟨m, n.at' fun o z => k _ o (Ne.symm hL) z⟩
    vars := by
      intro i mv z
      obtain ⟨x, kd, v, a, b, c⟩ := J.vars i mv z
      refine ⟨x, kd, v, a, ?_, (c.offI e q).mono (fun a o p g => ⟨p.1, k a o p.2 g⟩) fun a ha o g => k a o (fun z => hX i (z ▸ ha)) g⟩
      unfold VarAt at b ⊢
      split at b
      · obtain ⟨m, n, g⟩ := b; exact ⟨m, n.at' fun o z => k _ o (Ne.symm hL) z, g⟩
      · obtain ⟨c, o, l, g, d⟩ := b; exact ⟨c, o, l, k _ _ (Ne.symm (hC _ (lookup_mem l))) g, d⟩
      · exact b.elim
    disj := J.disj
    own := fun i a ha => let ⟨p, q, ⟨o, r⟩, t⟩ := J.own i a ha; ⟨p, q, ⟨o, k a o (fun z => hX i (z ▸ ha)) r⟩, t⟩
    dl := J.dl
    dead := by
      intro a z
      by_cases qa : a = I
      · rw [qa]; exact hP
      · refine J.dead a ?_
        cases g : s.heap.get? a with
        | none => rfl
        | some o => rw [k a o qa g] at z; cases z
    pL := J.pL
    pC := J.pC
    lC := J.lC
    cd := fun z p hp => let ⟨a, o, v, b, c⟩ := J.cd z p hp; ⟨a, o, v, k _ _ (Ne.symm (hC _ hp)) b, c⟩
    cinj := J.cinj
    exl := fun a z => let ⟨o, g⟩ := J.exl a z; ⟨o, k a o (fun y => hE (y ▸ z)) g⟩
    tk1 := Nat.le_trans J.tk1 htk
    anc := J.anc }
end
theorem Step.onI {fr : Fm} {X X' : Nat → List Addr} {s s' : Shared} {h1 : Heap} {tk1 : Nat} {I : Addr} (sj : Step fr X s X' s') (hd : s.heap.get? I = none) (hk1 : ∀ b o, b ≠ I → s'.heap.get? b = some o → h1.get? b = some o) (htk1 : s'.toks ≤ tk1) :
    Step fr X s X' { s' with heap := h1, toks := tk1 } := by
  refine ⟨?_, Nat.le_trans sj.tk htk1, fun a o e h1 h2 h3 => hk1 a o (fun z => by rw [z, hd] at e; cases e) (sj.kp a o e h1 h2 h3), fun a e => ?_, sj.sub⟩
  · obtain ⟨h2, t2, e2⟩ := sj.sh; exact ⟨h1, tk1, by rw [e2]⟩
  · by_cases qa : a = I
    · rw [qa]; exact hd
    · refine sj.al a ?_
      cases g : s'.heap.get? a with
      | none => rfl
      | some o => rw [hk1 a o qa g] at e; cases e
noncomputable def SrcAt (prog : Program) (w : World) (A : Around) (Pv : Addr → Prop) (I : Addr) (ds : List D) (h : Heap) : Prop :=
  ∃ fp P St vs es, Walks prog w A I fp [I] ds.length P St ∧ St 0 h ∧ IsL prog w h Pv vs es ∧ (∀ i v h' Pv', P i v → IsL prog w h' Pv' vs es → ∃ d, ds[i]? = some d ∧ Is prog w h' Pv' v d) ∧
    (∀ i h, St i h → ∃ o, h.get? I = some o ∧ itK o) ∧ (∀ b ∈ fp, b = I ∨ (Pv b ∧ b ≠ I ∧ ∃ o, h.get? b = some o))
section
variable (prog : Program) (w : World) (K : Frag) (fr : Fm) (k : Nat)
noncomputable def ItOk (e : Expr) (F : Evs) : Prop := ∀ (A : Around) (E : Value → Shared → Prop) (s : Shared) (σ : St) (X : Nat → List Addr) (ds : List D) (b : Bool), Ao k A → Inv prog w K fr σ X s → F σ ds b →
  wpAny (model prog w) A (eval e fr.env) (fun xv s1 => wpAny (model prog w) A (pyIter xv) (fun it s2 => Kp s s2 ∧ ∃ I, it = .ref I ∧ s.heap.get? I = none ∧ SrcAt prog w A (Vw fr X b) I ds s2.heap) E s1) E s
end
inductive FlGo : Fl → Fl → St → St → Prop → Prop
  | go {fl fl2 : Fl} {σ σ2 : St} {p : Prop} (hf : fl = .next ∨ fl = .cont) (h : p) : FlGo fl fl2 σ σ2 p
  | brk {σ : St} {p : Prop} : FlGo .brk .next σ σ p
  | ret {v : D} {σ : St} {p : Prop} : FlGo (.ret v) (.ret v) σ σ p
inductive forF (i : Nat) (body : Ex) : List D → Ex
  | nil {σ : St} : forF i body [] σ .next σ
  | go {σ σ' σ2 : St} {d : D} {ds : List D} {fl fl2 : Fl} (h : body (σ.set i (some (.froz d))) fl σ') (hf : fl = .next ∨ fl = .cont) (h2 : forF i body ds σ' fl2 σ2) : forF i body (d :: ds) σ fl2 σ2
  | brk {σ σ' : St} {d : D} {ds : List D} (h : body (σ.set i (some (.froz d))) .brk σ') : forF i body (d :: ds) σ .next σ'
  | ret {σ σ' : St} {d v : D} {ds : List D} (h : body (σ.set i (some (.froz d))) (.ret v) σ') : forF i body (d :: ds) σ (.ret v) σ'
theorem forF.inv {i : Nat} {body : Ex} {d : D} {ds : List D} {σ σ2 : St} {fl2 : Fl} (h : forF i body (d :: ds) σ fl2 σ2) :
    ∃ fl σ', body (σ.set i (some (.froz d))) fl σ' ∧ FlGo fl fl2 σ' σ2 (forF i body ds σ' fl2 σ2) := by
  cases h with
  | go h hf h2 => exact ⟨_, _, h, .go hf h2⟩
  | brk h => exact ⟨_, _, h, .brk⟩
  | ret h => exact ⟨_, _, h, .ret⟩
inductive xFor (i : Nat) (it : Evs) (body : Ex) (σ : St) : Fl → St → Prop
  | mk {σ' : St} {ds : List D} {fl : Fl} (h1 : it σ ds true) (h2 : forF i body ds σ fl σ') : xFor i it body σ fl σ'
theorem hideQ {M : Model} {A : Around} {α : Type} {x : Sem α} {Q : α → Shared → Prop} {E : Value → Shared → Prop} {s : Shared} (h : ∀ Q' : α → Shared → Prop, (∀ v s, Q v s → Q' v s) → wpAny M A x Q' E s) : wpAny M A x Q E s := h Q fun _ _ => id
theorem hideR {M : Model} {A : Around} {c : Code} {R : Result → Shared → Prop} {s : Shared} (h : ∀ R' : Result → Shared → Prop, (∀ v s, R v s → R' v s) → codeAny M A c R' s) : codeAny M A c R s := h R fun _ _ => id
section
variable {prog : Program} {w : World} {K : Frag} {fr : Fm} {k : Nat}
variable (prog w) in
structure WalkC (A : Around) (I : Addr) (ds : List D) (fp : List Addr) (P : Nat → Value → Prop) (Sa : Nat → Heap → Prop) (vs : List Value) (es : List D) : Prop where
  W : Walks prog w A I fp [I] ds.length P Sa
  hP : ∀ i v h' Pv', P i v → IsL prog w h' Pv' vs es → ∃ d, ds[i]? = some d ∧ Is prog w h' Pv' v d
  hK : ∀ i h, Sa i h → ∃ o, h.get? I = some o ∧ itK o
theorem dec_lt {n j : Nat} (h : j + 1 ≤ n) : n + 1 - (j + 1) < n + 1 - j := by lia
theorem WalkC.next {A : Around} {E : Value → Shared → Prop} {I : Addr} {ds : List D} {fp : List Addr} {P : Nat → Value → Prop} {Sa : Nat → Heap → Prop} {vs : List Value} {es : List D} {j : Nat} {s' : Shared} {Q : Option Value → Shared → Prop}
    (c : WalkC prog w A I ds fp P Sa vs es) (st : Sa j s'.heap) (le : j ≤ ds.length)
    (hdone : ds.drop j = [] → ∀ h1 tk1, (∀ b o, b ≠ I → s'.heap.get? b = some o → h1.get? b = some o) → s'.toks ≤ tk1 → Q none { s' with heap := h1, toks := tk1 })
    (hitem : ∀ d v h1 tk1, j + 1 ≤ ds.length → ds[j]? = some d → ds.drop j = d :: ds.drop (j + 1) → (∀ b o, b ≠ I → s'.heap.get? b = some o → h1.get? b = some o) → s'.toks ≤ tk1 → Sa (j + 1) h1 → (∃ o, h1.get? I = some o) → (∀ Pv', IsL prog w h1 Pv' vs es → Is prog w h1 Pv' v d) → Q (some v) { s' with heap := h1, toks := tk1 }) :
    wpAny (model prog w) A (pyNext (.ref I)) Q E s' := by
  cases hr : ds.drop j with
  | nil =>
    have hjj : j = ds.length := Nat.le_antisymm le (List.drop_eq_nil_iff.mp hr)
    subst hjj
    exact wpAny_with_toks (Nat.le_refl s'.toks) (c.W.done s' _ _ st fun h1 tk1 hk1 htk1 => hdone hr h1 tk1 (fun b o ne e => hk1 b o (by simpa using ne) e) htk1)
  | cons d l =>
    have hd : ds[j]? = some d := by
      have : (ds.drop j)[0]? = some d := by rw [hr]; rfl
      rwa [List.getElem?_drop] at this
    have hlt : j < ds.length := (List.getElem?_eq_some_iff.mp hd).1
    have hl : l = ds.drop (j + 1) := by rw [← List.tail_drop, hr]; rfl
    subst hl
    refine wpAny_with_toks (Nat.le_refl s'.toks) (c.W.item j s' _ _ hlt st fun v h1 tk1 hv st1 hk1 htk1 => ?_)
    refine hitem d v h1 tk1 hlt hd hr (fun b o ne e => hk1 b o (by simpa using ne) e) htk1 st1 (let ⟨o, e, _⟩ := c.hK _ _ st1; ⟨o, e⟩) fun Pv' r => ?_
    obtain ⟨d', e, z⟩ := c.hP j v h1 Pv' hv r
    rw [hd] at e; cases e; exact z
theorem FlOk.go {h : Heap} {fl1 fl : Fl} {σ5 σ9 : Mine.St} {p : Prop} {f : Flow} (q : FlOk prog w fr h fl1 f) (g : FlGo fl1 fl σ5 σ9 p) {N : Prop} {R : Flow → Prop} (hN : p → N) (hR : ∀ f', FlOk prog w fr h fl f' → σ5 = σ9 → R f') :
    match (generalizing := false) f with
      | .next | .cont => N
      | .brk => R .next
      | .ret v => R (.ret v) := by
  cases g with
  | go hf h => rcases hf with rfl | rfl <;> (cases q; exact hN h)
  | brk => cases q; exact hR .next rfl rfl
  | ret => obtain ⟨v, rfl, z⟩ := q; exact hR (.ret v) ⟨v, rfl, z⟩ rfl
variable (prog w K fr) in
structure ForSt (X : Nat → List Addr) (s : Shared) (I : Addr) (fp : List Addr) (Sa : Nat → Heap → Prop) (vs : List Value) (es : List D) (j : Nat) (σj : Mine.St) (Xj : Nat → List Addr) (s' : Shared) : Prop where
  sj : Step fr X s Xj s'
  J : Inv prog w K fr σj Xj s'
  st : Sa j s'.heap
  v : IsL prog w s'.heap (Sf fr Xj) vs es
  fp : ∀ b ∈ fp, b = I ∨ (Sf fr Xj b ∧ b ≠ I ∧ ∃ o, s'.heap.get? b = some o)
  off : ∀ l, I ∉ Xj l
theorem heapNone {h : Heap} {a b : Addr} {o : Obj} (hd : h.get? a = none) (e : h.get? b = some o) : b ≠ a := fun z => by rw [z, hd] at e; cases e
theorem x_for {i : Nat} {x : Str} {kd : NameKind} {px pos : Pos} {it : Expr} {body : List Stmt} {g : Evs} {f : Ex} (hg : ItOk prog w K fr k it g) (hf : ExsOk prog w K fr k body f) (hi : fr.env.scope.names[i]? = some (x, kd)) (hkd : kindOk fr x kd)
    (hs : ∀ x, foldedSetIterable it fr.env x = pure x) : ExOk prog w K fr k (.For (.Name x px) it body [] pos) (xFor i g f) := by
  rintro A E s σ X fl σ9 a J ⟨h1, h⟩
  rename_i ds
  refine hideQ fun Q hQ => wpAny_For (wpKp (hg A E s σ X _ _ a J h1) fun xv s1 q => wpKp q fun itv s2 q2 => hideR fun R hR => ?_) hs
  obtain ⟨k2, I, rfl, hd, fp, P, Sa, vs, es, W, st0, ves, hP, hK, hfp⟩ := q2
  have C : WalkC prog w A I ds fp P Sa vs es := ⟨W, hP, hK⟩
  clear W hP
  have IP : fr.P I := J.dead I hd
  have IE : ¬ fr.ex I := fun z => by obtain ⟨o, e⟩ := J.exl I z; rw [hd] at e; cases e
  have IX : ∀ j, I ∉ X j := fun j hj => by
    obtain ⟨_, _, ⟨o, e⟩, _⟩ := J.own j I hj
    rw [hd] at e; cases e
  have Ihe : fr.he.get? I = none := by
    cases q : fr.he.get? I with
    | none => rfl
    | some o => rw [J.keeps _ _ q] at hd; cases hd
  have IL : I ≠ fr.env.locals := fun z => J.pL (z ▸ IP)
  have IC : ∀ p ∈ fr.env.cells, I ≠ p.2 := fun p hp z => J.pC p hp (z ▸ IP)
  obtain ⟨LI, mkI, useI⟩ : ∃ LI : Nat → Shared → Prop, (∀ j σj Xj s', j ≤ ds.length → ForSt prog w K fr X s I fp Sa vs es j σj Xj s' → forF i f (ds.drop j) σj fl σ9 → LI (ds.length + 1 - j) s') ∧
      ∀ n s', LI n s' → ∃ j σj Xj, n = ds.length + 1 - j ∧ j ≤ ds.length ∧ ForSt prog w K fr X s I fp Sa vs es j σj Xj s' ∧ forF i f (ds.drop j) σj fl σ9 :=
    ⟨fun n s' => ∃ j σj Xj, n = ds.length + 1 - j ∧ j ≤ ds.length ∧ ForSt prog w K fr X s I fp Sa vs es j σj Xj s' ∧ forF i f (ds.drop j) σj fl σ9, fun j σj Xj s' h1 h2 h3 => ⟨j, σj, Xj, rfl, h1, h2, h3⟩, fun _ _ h => h⟩
  refine codeAny_forLoop LI ?_ _ (mkI 0 σ X _ (Nat.zero_le _) ⟨.of_keeps k2, J.step k2, st0, ves, hfp, IX⟩ h)
  clear st0 ves hfp h1 h
  intro n s' hLI
  obtain ⟨j, σj, Xj, rfl, hj, S, hr⟩ := useI n s' hLI
  obtain ⟨o0, g0, q0⟩ := hK j _ S.st
  refine C.next S.st hj (fun hn h1 tk1 hk1 htk1 => ?_) fun d v h1 tk1 hlt hd1 hdr hk1 htk1 st1 al1 hv => ?_
  · rw [hn] at hr
    cases hr
    exact wpAny_execs_nil (hR _ _ (hQ _ _ ⟨Xj, S.sj.onI hd hk1 htk1, S.J.stepI g0 q0 hk1 IP IE IL IC S.off Ihe htk1, rfl⟩))
  · have J1 := S.J.stepI g0 q0 hk1 IP IE IL IC S.off Ihe htk1
    have v1 : IsL prog w h1 (Sf fr Xj) vs es := S.v.onI g0 q0 hk1
    have s1' := S.sj.onI hd hk1 htk1
    rw [hdr] at hr
    refine wpKp (tg_name (p := px) (prog := prog) (w := w) (K := K) hi hkd A _ _ σj Xj v d J1 (hv _ v1)) fun _ s3 q3 => ?_
    obtain ⟨X3, t3, J3⟩ := q3
    obtain ⟨fl1, σ4, hr1, hr2⟩ := hr.inv
    refine wpKp (hf A _ s3 _ X3 _ _ a J3 hr1) fun w4 s4 q4 => ?_
    obtain ⟨X4, t4, J4, q4⟩ := q4
    have t34 := t3.trans t4
    have S4 : ForSt prog w K fr X s I fp Sa vs es (j + 1) σ4 X4 s4 := by
      refine ⟨s1'.trans t34, J4, C.W.frame _ _ _ st1 fun b hb o e => ?_, v1.step J1 t34, fun b hb => ?_, fun l hl => ?_⟩
      · rcases S.fp b hb with rfl | ⟨p, _, _⟩
        · exact t34.kp _ o e IL IC S.off
        · exact (J1.sf_step t34 b o p e).2
      · refine (S.fp b hb).imp id fun ⟨p, ne, o, e⟩ => ?_
        have := J1.sf_step t34 b o p (hk1 b o ne e)
        exact ⟨this.1, ne, o, this.2⟩
      · rcases t34.sub l I hl with ⟨m, hm⟩ | hd'
        · exact S.off m hm
        · obtain ⟨o, ho⟩ := al1; have hd' : h1.get? I = none := hd'; rw [ho] at hd'; cases hd'
    exact q4.go (R := fun f => R (.ok f) s4) hr2 (fun h => ⟨_, dec_lt hlt, mkI _ _ X4 s4 hlt S4 h⟩) fun w4 q e => hR _ _ (hQ _ _ ⟨X4, S4.sj, e ▸ J4, q⟩)
end
section
variable {prog : Program} {w : World} {K : Frag} {fr : Fm} {k : Nat}
theorem kp_push {s : Shared} (o : Obj) : Kp s { s with heap := s.heap.push o } := .push o s.toks
inductive iLst (f : Ev) (σ : St) : List D → Bool → Prop
  | mk {ds : List D} {b : Bool} (h : f σ (.lst ds) b) (hl : ds.length ≤ 1000000) : iLst f σ ds b
theorem it_lst {e : Expr} {f : Ev} (hf : EvOk prog w K fr k e f) : ItOk prog w K fr k e (iLst f) := by
  rintro A E s σ X ds b a J ⟨h1, hlen⟩
  refine wpKp (hf A E s σ X _ _ a J h1) fun xv s1 q => ?_
  obtain ⟨q0, q⟩ := q
  obtain ⟨l, vs, n, rfl, pl, o, rr⟩ := q.lst'
  have hL : s1.heap.IsList l vs.toArray := ⟨_, o, rfl, _, rfl⟩
  have ne : l ≠ s1.heap.objs.size := fun z => by rw [z, dead_size] at o; cases o
  have hl := rr.length
  refine wpAny_pyIter_list hL ⟨q0.trans (kp_push _), _, rfl, q0.alive (dead_size _), [s1.heap.objs.size, l], (fun i v => vs.toArray[i]? = some v), (fun i h => h.IsListIter s1.heap.objs.size l i ∧ h.IsList l vs.toArray), vs, ds, ?_, ⟨⟨_, Heap.get?_push_size _ rfl, rfl, rfl⟩, hL.push _⟩, rr.keeps (kp_push _), ?_, ?_, ?_⟩
  · have W := Walks.list (prog := prog) (w := w) (A := A) a.hd s1.heap.objs.size l ne vs.toArray
    have e : vs.toArray.size = ds.length := by simp only [List.size_toArray]; exact hl
    rw [e] at W
    exact W
  · intro i v h' Pv' hv r'
    exact r'.get' (by simpa using hv)
  · rintro i h ⟨⟨o, e, _, c⟩, _⟩
    exact ⟨o, e, _, c⟩
  · intro b hb
    simp only [List.mem_cons, List.not_mem_nil, or_false] at hb
    rcases hb with rfl | rfl
    · exact .inl rfl
    · exact .inr ⟨pl, ne, _, Heap.get?_push_of_some _ o⟩
inductive iStr (f : Ev) (σ : St) : List D → Bool → Prop
  | mk {x : Str} {b : Bool} (h : f σ (.str x) b) : iStr f σ (x.cps.toList.map fun c => .str (chStr c)) true
theorem it_str {e : Expr} {f : Ev} (hf : EvOk prog w K fr k e f) : ItOk prog w K fr k e (iStr f) := by
  rintro A E s σ X _ _ a J ⟨h1⟩
  rename_i x b
  refine wpKp (hf A E s σ X _ _ a J h1) fun xv s1 q => ?_
  obtain ⟨q0, q⟩ := q
  obtain ⟨t, rfl⟩ := q.str'
  have pst : ∀ (St : Nat → Heap → Prop) (T : String) (o : Obj), T ≠ "tuple" ∧ T ≠ "list" ∧ T ≠ "dict" → Walks prog w A s1.heap.objs.size [s1.heap.objs.size] [s1.heap.objs.size] x.cps.size (SignAt x) (fun i h => h.IsStrIter s1.heap.objs.size T x t i) →
      o.cls = .type T → o.data = .fields #[.str x t, .int 0 0] → o.isFreed = false →
      (Kp s { s1 with heap := s1.heap.push o } ∧ ∃ I, Value.ref s1.heap.objs.size = .ref I ∧ s.heap.get? I = none ∧ SrcAt prog w A (Vw fr X true) I (x.cps.toList.map fun c => .str (chStr c)) (s1.heap.push o)) := by
    rintro _ T o ⟨t1, t2, t3⟩ W c dd hf
    refine ⟨q0.trans (kp_push _), _, rfl, q0.alive (dead_size _), [s1.heap.objs.size], SignAt x, (fun i h => h.IsStrIter s1.heap.objs.size T x t i), [], [], ?_, ⟨_, Heap.get?_push_size _ hf, c, dd⟩, .nil, ?_, ?_, ?_⟩
    · have e : x.cps.size = (x.cps.toList.map fun c => D.str (chStr c)).length := by simp
      rw [e] at W
      exact W
    · rintro i v h' Pv' ⟨ch, u, e, rfl⟩ _
      exact ⟨_, by rw [List.getElem?_map, Array.getElem?_toList, e]; rfl, .str _ _⟩
    · rintro i h ⟨o, e, _, c⟩
      exact ⟨o, e, _, c⟩
    · intro b hb
      exact .inl (List.mem_singleton.mp hb)
  cases ha : x.cps.all (· < 128)
  · exact wpAny_pyIter_wide ha (pst (fun i h => h.IsStrIter s1.heap.objs.size "str_iterator" x t i) _ _ ⟨by decide, by decide, by decide⟩ (Walks.strWide a.hd _ x t) rfl rfl rfl)
  · exact wpAny_pyIter_ascii ha (pst (fun i h => h.IsStrIter s1.heap.objs.size "str_ascii_iterator" x t i) _ _ ⟨by decide, by decide, by decide⟩ (Walks.strAscii a.hd _ x t) rfl rfl rfl)
noncomputable def rangeL (a c : Int) (n : Nat) : List D := (List.range n).map fun i => .int (a + (i : Nat) * c)
inductive rangeF : List D → List D → Prop
  | one {n : Int} (h : smallI n = true) : rangeF [.int n] (rangeL 0 1 n.toNat)
  | two {a b : Int} (h : smallI a = true) (h2 : smallI b = true) : rangeF [.int a, .int b] (rangeL a 1 (b - a).toNat)
  | down {a b : Int} (h : smallI a = true) (h2 : smallI b = true) : rangeF [.int a, .int b, .int (-1)] (rangeL a (-1) (a - b).toNat)
theorem size_up (a b : Int) : Builtin.Range.rangeSize a b 1 = ((b - a).toNat : Int) := by
  unfold Builtin.Range.rangeSize
  simp only [show ((1 : Int) > 0) = True from by simp, if_true, Int.ediv_one]
  split <;> lia
theorem size_down (a b : Int) : Builtin.Range.rangeSize a b (-1) = ((a - b).toNat : Int) := by
  unfold Builtin.Range.rangeSize
  simp only [show ((-1 : Int) > 0) = False from by simp, if_false, Int.neg_neg, Int.ediv_one]
  split <;> lia
theorem fits_of {i : Int} (h1 : -4000000000 < i) (h2 : i < 4000000000) : Builtin.Range.rangeFitsLong i = true := by
  unfold Builtin.Range.rangeFitsLong
  rw [Bool.and_eq_true]; exact ⟨decide_eq_true (by lia), decide_eq_true (by lia)⟩
theorem small_up {a b : Int} (ha : smallI a = true) (hb : smallI b = true) : Builtin.Range.small a b 1 = true := by
  have := of_decide_eq_true ha
  have := of_decide_eq_true hb
  unfold Builtin.Range.small
  rw [size_up, fits_of (i := a) (by lia) (by lia), fits_of (i := b) (by lia) (by lia), fits_of (i := 1) (by lia) (by lia), fits_of (i := ((b - a).toNat : Int)) (by lia) (by lia)]
  simp only [show ((1 : Int) > 0) = True from by simp, if_true]
  rw [fits_of (i := b + (1 - 1)) (by lia) (by lia)]
  simp
theorem small_down {a b : Int} (ha : smallI a = true) (hb : smallI b = true) : Builtin.Range.small a b (-1) = true := by
  have := of_decide_eq_true ha
  have := of_decide_eq_true hb
  unfold Builtin.Range.small
  rw [size_down, fits_of (i := a) (by lia) (by lia), fits_of (i := b) (by lia) (by lia), fits_of (i := -1) (by lia) (by lia), fits_of (i := ((a - b).toNat : Int)) (by lia) (by lia)]
  simp only [show ((-1 : Int) > 0) = False from by simp, if_false]
  rw [fits_of (i := b + (-1 + 1)) (by lia) (by lia)]
  simp
theorem rangeL_len (a c : Int) (n : Nat) : (rangeL a c n).length = n := by unfold rangeL; simp
theorem range_src {A : Around} {E : Value → Shared → Prop} {s s1 : Shared} {Pv : Addr → Prop} {r : Addr} {a b c : Int} {t u v : Tok} {n : Nat} (hh : A.handled = none) (k1 : Kp s s1) (hr : IsRange s1.heap r a b c t u v) (hs : Builtin.Range.small a b c = true) (hn : Builtin.Range.rangeSize a b c = (n : Int)) :
    wpAny (model prog w) A (pyIter (.ref r)) (fun it s2 => Kp s s2 ∧ ∃ I, it = .ref I ∧ s.heap.get? I = none ∧ SrcAt prog w A Pv I (rangeL a c n) s2.heap) E s1 := by
  refine wpAny_pyIter_range hr hs ⟨k1.trans (kp_push _), _, rfl, k1.alive (dead_size _), [s1.heap.objs.size], (fun i v => i < n ∧ ∃ t, v = .int (a + i * c) t), (fun i h => IsRangeIter h s1.heap.objs.size (a + (i : Nat) * c) ((n : Int) - (i : Nat)) c), [], [], ?_, ?_, .nil, ?_, ?_, ?_⟩
  · have W := (Walks.range (prog := prog) (w := w) (A := A) hh s1.heap.objs.size a c n).bound
    have e := rangeL_len a c n
    rw [e]
    exact W
  · show IsRangeIter _ _ _ _ _
    have e : (a + ((0 : Nat) : Int) * c) = a := by simp
    have e2 : ((n : Int) - ((0 : Nat) : Int)) = (n : Int) := by simp
    rw [e, e2, hn]
    exact Heap.get?_push_size _ rfl
  · rintro i v h' Pv' ⟨hlt, t, rfl⟩ _
    exact ⟨_, by unfold rangeL; rw [List.getElem?_map, List.getElem?_range hlt]; rfl, .int _ _⟩
  · intro i h st
    exact ⟨_, st, _, rfl⟩
  · intro b hb
    exact .inl (List.mem_singleton.mp hb)
inductive iRange (g : Evs) (σ : St) : List D → Bool → Prop
  | mk {ds l : List D} {b : Bool} (h : g σ ds b) (h2 : rangeF ds l) : iRange g σ l true
theorem call_range {A : Around} {E : Value → Shared → Prop} {s : Shared} {P Pv : Addr → Prop} {vs : List Value} {ds l : List D} (hh : A.handled = none) (r : IsL prog w s.heap P vs ds) (h : rangeF ds l) :
    wpAny (model prog w) A (call (.type "range") vs) (fun xv s1 => wpAny (model prog w) A (pyIter xv) (fun it s2 => Kp s s2 ∧ ∃ I, it = .ref I ∧ s.heap.get? I = none ∧ SrcAt prog w A Pv I l s2.heap) E s1) E s := by
  cases h with
  | @one n hs =>
    obtain ⟨v, rfl, x⟩ := r.one
    obtain ⟨t, rfl⟩ := x.int'
    have e := size_up 0 n
    rw [Int.sub_zero] at e
    exact call_range_1 (range_src hh (.push _ _) (Heap.get?_push_size _ rfl) (small_up (by decide) hs) e)
  | two hs hs2 =>
    obtain ⟨v, u, rfl, x, y⟩ := r.two
    obtain ⟨t, rfl⟩ := x.int'
    obtain ⟨t', rfl⟩ := y.int'
    exact call_range_2 (range_src hh (.push _ _) (Heap.get?_push_size _ rfl) (small_up hs hs2) (size_up _ _))
  | down hs hs2 =>
    obtain ⟨v, u, z, rfl, x, y, c⟩ := r.three
    obtain ⟨t, rfl⟩ := x.int'
    obtain ⟨t', rfl⟩ := y.int'
    obtain ⟨t2, rfl⟩ := c.int'
    exact call_range_3 (by decide) (range_src hh (.push _ _) (Heap.get?_push_size _ rfl) (small_down hs hs2) (size_down _ _)) (.inl (PyProof.noPylong_small (by decide)))
theorem it_range {x : Str} {p pos : Pos} {e : Expr} {es : List Expr} {g : Evs} (hn : NmOk prog w K fr x (.type "range")) (hg : EsOk prog w K fr k pos (e :: es) g)
    (hs : starEach (e :: es) fr.env = (false, eval e fr.env) :: starEach es fr.env) (ht : (backTo pos (starEach es fr.env)).any (·.1) = false) : ItOk prog w K fr k (.Call (.Name x p) (e :: es) [] pos) (iRange g) := by
  rintro A E s σ X l _ a I ⟨h1, h2⟩
  refine wpAny_Call_Name_kw (hn p A E s σ X _ I ?_)
  have hgg := hg A E s σ X _ _ a I h1
  rw [hs] at hgg ⊢
  have plain : ((false, eval e fr.env) :: starEach es fr.env).any (·.1) = false → True := fun _ => trivial
  refine PyProof.Rows.callWith_type (by
    show ((false, eval e fr.env) :: backTo pos (starEach es fr.env)).any (·.1) = false
    rw [List.any_cons, ht]; rfl) ?_
  refine evalArgs_plain (wpKp hgg fun vs s1 q => ?_)
  refine wpKp (call_range (Pv := Vw fr X true) a.hd q.2.1 h2) fun xv s2 q2 => wpKp q2 fun itv s3 q3 => ?_
  obtain ⟨k3, Ia, rfl, hd, src⟩ := q3
  exact ⟨q.1.trans k3, Ia, rfl, q.1.alive hd, src⟩
inductive iVals (f : Ev) (σ : St) : List D → Bool → Prop
  | mk {ks : List Int} {vs : List D} {b : Bool} (h : f σ (.dctI ks vs) b) : iVals f σ vs b
theorem it_vals {o : Expr} {apos pos : Pos} {f : Ev} (hf : EvOk prog w K fr k o f) (hbase : attributeBase o (Str.ofString "values") fr.env (eval o fr.env) = eval o fr.env) (hline : (apos.endLine == pos.line) = true) :
    ItOk prog w K fr k (.Call (.Attribute o (Str.ofString "values") apos) [] [] pos) (iVals f) := by
  rintro A E s σ X ds b a J ⟨h1⟩
  refine wpAny_Call_method (T := "dict") (id := "dict.values") hbase rfl hline F.plainAttrs_dict F.slot_dict_values F.type_dict_values (wpKp (hf A E s σ X _ _ a J h1) fun xv s1 q => ?_)
  obtain ⟨q0, q⟩ := q
  obtain ⟨da, kvs, rfl, pl, z, o1, rfl, rr⟩ := q.dctI'
  refine ⟨o1.typeIs, fun _ h => (by cases h; exact dictOf_plain o1), ?_⟩
  show wpAny _ _ (callWith pos (.builtin "dict.values") [.ref da] [] []) _ _ _
  refine method_meetsIn F.slot_dict_values F.entry_dict_values rfl (PySem.evalArgs_none ⟨rfl, o1.typeIs, F.args_dict_values_1 _, _, meets_dict_values (PySem.intKind prog w) da z, ⟨kvs, o1⟩, ?_⟩)
  obtain ⟨ep, dat⟩ := o1.dictAt
  have d1 := dat.push { cls := .type "dict_values", data := .fields #[.ref da] }
  refine wpAny_pyIter_values (v := s1.heap.objs.size) ⟨_, Heap.get?_push_size _ rfl, rfl, rfl⟩ d1 ?_
  have hsz : (s1.heap.push { cls := .type "dict_values", data := .fields #[.ref da] }).objs.size = s1.heap.objs.size + 1 := Heap.size_push ..
  have kk : Kp s1 { s1 with heap := (s1.heap.push { cls := .type "dict_values", data := .fields #[.ref da] }).push { cls := .type "dict_valueiterator", data := .fields #[.ref da, .int 0 0, .int kvs.length 0, .int ep 0] } } :=
    .mk' _ fun b o e => Heap.get?_push_of_some _ (Heap.get?_push_of_some _ e)
  have hlt := dat.lt_size
  refine ⟨q0.trans kk, _, rfl, q0.alive ?_, [s1.heap.objs.size + 1, da], (fun i v => ∃ k, kvs[i]? = some (k, v)), (fun i h => h.IsValIter (s1.heap.objs.size + 1) da i kvs.length ep ∧ h.DictAt (PySem.intKind prog w) da kvs ep), kvs.map (·.2), ds, ?_, ⟨?_, d1.push _⟩, rr.keeps kk, ?_, ?_, ?_⟩
  · show s1.heap.get? (s1.heap.push _).objs.size = none
    rw [hsz]
    cases e : s1.heap.get? (s1.heap.objs.size + 1) with
    | none => rfl
    | some o => exact absurd (Heap.lt_size e) (Nat.not_lt.mpr (Nat.le_succ _))
  · have hl := rr.length
    rw [List.length_map] at hl
    rw [← hl]
    show Walks prog w A (s1.heap.push _).objs.size _ [(s1.heap.push _).objs.size] _ _ _
    rw [hsz]
    exact Walks.dictValues a.hd _ da (Nat.ne_of_lt (Nat.lt_succ_of_lt hlt)) kvs ep
  · have g := Heap.get?_push_size (s1.heap.push { cls := .type "dict_values", data := .fields #[.ref da] }) (o := { cls := .type "dict_valueiterator", data := .fields #[.ref da, .int 0 0, .int kvs.length 0, .int ep 0] }) rfl
    rw [hsz] at g
    exact ⟨_, g, rfl, rfl⟩
  · rintro i v h' Pv' ⟨kk, e⟩ r'
    exact r'.get' (by rw [List.getElem?_map, e]; rfl)
  · rintro i h ⟨⟨o, e, _, c⟩, _⟩
    refine ⟨o, ?_, _, c⟩
    show h.get? (s1.heap.push _).objs.size = some o
    rw [hsz]; exact e
  · intro b hb
    simp only [List.mem_cons, List.not_mem_nil, or_false] at hb
    rcases hb with rfl | rfl
    · exact .inl hsz.symm
    · refine .inr ⟨pl, ?_, ?_⟩
      · show b ≠ (s1.heap.push _).objs.size
        rw [hsz]; exact Nat.ne_of_lt (Nat.lt_succ_of_lt hlt)
      · obtain ⟨o, es, g, _⟩ := dat
        exact ⟨o, Heap.get?_push_of_some _ (Heap.get?_push_of_some _ g)⟩
inductive whileF (t : Tr) (body : Ex) : Nat → Ex
  | stop {σ : St} {n : Nat} (h : t σ false) : whileF t body (n + 1) σ .next σ
  | go {σ σ' σ2 : St} {fl fl2 : Fl} {n : Nat} (h : t σ true) (h1 : body σ fl σ') (hf : fl = .next ∨ fl = .cont) (h2 : whileF t body n σ' fl2 σ2) : whileF t body (n + 1) σ fl2 σ2
  | brk {σ σ' : St} {n : Nat} (h : t σ true) (h1 : body σ .brk σ') : whileF t body (n + 1) σ .next σ'
  | ret {σ σ' : St} {v : D} {n : Nat} (h : t σ true) (h1 : body σ (.ret v) σ') : whileF t body (n + 1) σ (.ret v) σ'
inductive xWhile (t : Tr) (body : Ex) (σ : St) : Fl → St → Prop
  | mk {σ' : St} {fl : Fl} {n : Nat} (h : whileF t body n σ fl σ') : xWhile t body σ fl σ'
theorem x_while {test : Expr} {body : List Stmt} {pos : Pos} {t : Tr} {f : Ex} (ht : TrOk prog w K fr k test t) (hf : ExsOk prog w K fr k body f) : ExOk prog w K fr k (.While test body [] pos) (xWhile t f) := by
  rintro A E s σ X fl9 σ9 a J ⟨h⟩
  refine wpAny_While (codeAny_whileLoop (fun m s' => ∃ (σj : Mine.St) (Xj : Nat → List Addr), Step fr X s Xj s' ∧ Inv prog w K fr σj Xj s' ∧ whileF t f m σj fl9 σ9) ?_ _ ⟨σ, X, .refl _ _ _, J, h⟩)
  rintro m s' ⟨σj, Xj, sj, Jj, hr⟩
  cases hr with
  | stop h1 =>
    refine wpKp (ht A _ s' _ Xj _ a Jj h1) fun c s1 q => ?_
    obtain ⟨q0, rfl⟩ := q
    exact wpAny_execs_nil ⟨Xj, sj.trans (.of_keeps q0), Jj.step q0, rfl⟩
  | @go _ _ _ _ _ n h1 h3 hrf h4 =>
    refine wpKp (ht A _ s' _ Xj _ a Jj h1) fun c s1 q => ?_
    obtain ⟨q0, rfl⟩ := q
    refine wpKp (hf A _ s1 _ Xj _ _ a (Jj.step q0) h3) fun fl s4 q4 => ?_
    obtain ⟨X4, t4, J4, q4⟩ := q4
    have fin : ∃ m, m < n + 1 ∧ ∃ (σj : Mine.St) (Xj : Nat → List Addr), Step fr X s Xj s4 ∧ Inv prog w K fr σj Xj s4 ∧ whileF t f m σj fl9 σ9 := ⟨n, Nat.lt_succ_self _, _, X4, sj.trans ((Step.of_keeps q0).trans t4), J4, h4⟩
    rcases hrf with rfl | rfl <;> (cases q4; exact fin)
  | brk h1 h3 =>
    refine wpKp (ht A _ s' _ Xj _ a Jj h1) fun c s1 q => ?_
    obtain ⟨q0, rfl⟩ := q
    refine wpKp (hf A _ s1 _ Xj _ _ a (Jj.step q0) h3) fun fl s4 q4 => ?_
    obtain ⟨X4, t4, J4, q4⟩ := q4
    cases q4
    exact ⟨X4, sj.trans ((Step.of_keeps q0).trans t4), J4, rfl⟩
  | ret h1 h3 =>
    refine wpKp (ht A _ s' _ Xj _ a Jj h1) fun c s1 q => ?_
    obtain ⟨q0, rfl⟩ := q
    refine wpKp (hf A _ s1 _ Xj _ _ a (Jj.step q0) h3) fun fl s4 q4 => ?_
    obtain ⟨X4, t4, J4, u, q4, z4⟩ := q4
    subst q4
    exact ⟨X4, sj.trans ((Step.of_keeps q0).trans t4), J4, u, rfl, z4⟩
end
noncomputable def coX (b : Bool) (fv : List (Option Nat)) (X : Nat → List Addr) : Nat → List Addr := fun j => match fv[j]? with
  | some (some i) => if b = true then X i else []
  | _ => []
noncomputable def coSt (b : Bool) (fv : List (Option Nat)) (σ : St) : St := fv.map fun o => o.bind fun i => ((σ[i]?).join).filter fun mv => b || mv.safe
noncomputable def clOf (cells : List (Str × Addr)) : List (Str × NameKind) → List (Str × Addr) → List (Str × Addr)
  | [], acc => acc
  | (n, k) :: r, acc => if k == .free then clOf cells r ((n, (cells.lookup n).getD 0) :: acc) else clOf cells r acc
noncomputable def coFm (fr : Fm) (X : Nat → List Addr) (b : Bool) (fv : List (Option Nat)) (sc : Scope) (C D I : Addr) : Fm where
  env := compEnvC sc (clOf fr.env.cells sc.names []) C fr.env
  he := fr.he
  P := fun a => fr.P a ∧ a ≠ C ∧ a ≠ D ∧ a ≠ I
  ex := fun a => b = true ∧ (fr.ex a ∨ ∃ i, a ∈ X i) ∧ ∀ j, a ∉ coX b fv X j
  wr := false
  sx := fr.sx
noncomputable def freeOk (cells : List (Str × Addr)) (names : List (Str × NameKind)) : Prop := ∀ p ∈ names, p.2 = .free → (cells.lookup p.1).isSome = true
theorem clOf_mem {cells : List (Str × Addr)} : ∀ {names : List (Str × NameKind)} {acc : List (Str × Addr)}, freeOk cells names → (∀ p ∈ acc, cells.lookup p.1 = some p.2) → ∀ p ∈ clOf cells names acc, cells.lookup p.1 = some p.2
  | [], _, _, h, p, hp => h p hp
  | (n, k) :: r, acc, hf, h, p, hp => by
    unfold clOf at hp
    have hr : freeOk cells r := fun q hq => hf q (.tail _ hq)
    split at hp
    · rename_i hk
      refine clOf_mem hr (fun q hq => ?_) p hp
      rcases List.mem_cons.mp hq with rfl | hq
      · obtain ⟨c, hc⟩ := Option.isSome_iff_exists.mp (hf (n, k) (.head _) (eq_of_beq hk))
        simp only [hc, Option.getD_some]
      · exact h q hq
    · exact clOf_mem hr h p hp
theorem clOf_has {cells : List (Str × Addr)} {x : Str} : ∀ {names : List (Str × NameKind)} {acc : List (Str × Addr)}, ((x, NameKind.free) ∈ names ∨ ∃ c, (x, c) ∈ acc) → ∃ c, (x, c) ∈ clOf cells names acc
  | [], _, h => h.elim (fun e => by cases e) id
  | (n, k) :: r, acc, h => by
    unfold clOf
    split
    · rename_i hk
      refine clOf_has ?_
      rcases h with h | ⟨c, h⟩
      · rcases List.mem_cons.mp h with h | h
        · cases h; exact .inr ⟨_, .head _⟩
        · exact .inl h
      · exact .inr ⟨c, .tail _ h⟩
    · rename_i hk
      refine clOf_has ?_
      rcases h with h | ⟨c, h⟩
      · rcases List.mem_cons.mp h with h | h
        · cases h; exact absurd rfl hk
        · exact .inl h
      · exact .inr ⟨c, h⟩
theorem lookup_some_of_mem {β : Type} {l : List (Str × β)} {x : Str} {c : β} (h : (x, c) ∈ l) : ∃ c', l.lookup x = some c' := by
  induction l with
  | nil => cases h
  | cons p l ih =>
    obtain ⟨y, d⟩ := p
    rw [List.lookup_cons]
    cases e : (x == y) with
    | true => exact ⟨d, rfl⟩
    | false =>
      rcases List.mem_cons.mp h with h | h
      · cases h; simp at e
      · exact ih h
theorem clOf_lookup {cells : List (Str × Addr)} {names : List (Str × NameKind)} {x : Str} (hf : freeOk cells names) (h : (x, NameKind.free) ∈ names) : ∃ c, (clOf cells names []).lookup x = some c ∧ cells.lookup x = some c := by
  obtain ⟨c, hc⟩ := clOf_has (cells := cells) (acc := []) (.inl h)
  obtain ⟨c', hc'⟩ := lookup_some_of_mem hc
  exact ⟨c', hc', clOf_mem hf (by simp) _ (lookup_mem hc')⟩
theorem closure_eq {sc : Scope} {env : Env} (hf : freeOk env.cells sc.names) : closureFor sc env = pure (clOf env.cells sc.names []) := by
  have key : ∀ (names : List (Str × NameKind)) (acc : List (Str × Addr)), freeOk env.cells names → (forIn names acc fun (x : Str × NameKind) (r : List (Str × Addr)) => (match x with
      | (name, kind) => if (kind == NameKind.free) = true then do let c ← cellOf env name; pure (ForInStep.yield ((name, c) :: r)) else pure (ForInStep.yield r) : Sem (ForInStep (List (Str × Addr))))) = pure (clOf env.cells names acc) := by
    intro names
    induction names with
    | nil => intro acc _; rfl
    | cons p r ih =>
      intro acc hf
      obtain ⟨n, k⟩ := p
      have hr : freeOk env.cells r := fun q hq => hf q (.tail _ hq)
      rw [List.forIn_cons]
      unfold clOf
      by_cases hk : (k == NameKind.free) = true
      · obtain ⟨c, hc⟩ := Option.isSome_iff_exists.mp (hf (n, k) (.head _) (eq_of_beq hk))
        have hc : env.cells.lookup n = some c := hc
        have e : cellOf env n = pure c := by unfold cellOf; rw [hc]
        simp only [hk, if_true, e, pure_bind, hc, Option.getD_some]
        exact ih _ hr
      · simp only [hk, Bool.false_eq_true, if_false, pure_bind]
        exact ih _ hr
  have := key sc.names [] hf
  unfold closureFor
  simp only [bind_pure]
  exact this
section
variable {prog : Program} {w : World} {K : Frag} {fr : Fm} {σ : St} {X : Nat → List Addr} {s : Shared}
theorem Inv.offP {h' : Heap} {tk : Nat} {z : Addr} (J : Inv prog w K fr σ X s) (k : ∀ b o, b ≠ z → s.heap.get? b = some o → h'.get? b = some o) (al : ∃ o, h'.get? z = some o)
    (hL : z ≠ fr.env.locals) (hC : ∀ p ∈ fr.env.cells, z ≠ p.2) (hh : fr.he.get? z = none) (hP : ¬ fr.P z) (hE : ¬ fr.ex z) (htk : s.toks ≤ tk) : Inv prog w K fr σ X { s with heap := h', toks := tk } := by
  have hX : ∀ j, z ∉ X j := fun j hj => hP (J.own j z hj).2.1
  exact {
    wd := J.wd
    hk := J.hk
    hg := J.hg
    hb := J.hb
    nd := J.nd
    keeps := fun a o e => k a o (fun g => by rw [g, hh] at e; cases e) (J.keeps a o e)
    ns := let ⟨m, n⟩ := J.ns; ⟨m, n.at' fun o e => k _ o (Ne.symm hL) e⟩
    vars := by
      intro i mv e
      obtain ⟨x, kd, v, a, b, c⟩ := J.vars i mv e
      refine ⟨x, kd, v, a, ?_, c.mono (fun a o p g => ⟨p, k a o (fun z => hP (z ▸ p.1)) g⟩) fun a ha o g => k a o (fun z => hX i (z ▸ ha)) g⟩
      unfold VarAt at b ⊢
      split at b
      · obtain ⟨m, n, g⟩ := b; exact ⟨m, n.at' fun o e => k _ o (Ne.symm hL) e, g⟩
      · obtain ⟨c, o, l, g, d⟩ := b; exact ⟨c, o, l, k _ _ (Ne.symm (hC _ (lookup_mem l))) g, d⟩
      · exact b.elim
    disj := J.disj
    own := fun i a ha => let ⟨p, q, ⟨o, r⟩, t⟩ := J.own i a ha; ⟨p, q, ⟨o, k a o (fun z => hX i (z ▸ ha)) r⟩, t⟩
    dl := J.dl
    dead := fun a e => J.dead a (by
      cases g : s.heap.get? a with
      | none => rfl
      | some o =>
        by_cases q : a = z
        · subst q; obtain ⟨o', e'⟩ := al; rw [e'] at e; cases e
        · rw [k a o q g] at e; cases e)
    pL := J.pL
    pC := J.pC
    lC := J.lC
    cd := fun e p hp => let ⟨a, o, v, b, c⟩ := J.cd e p hp; ⟨a, o, v, k _ _ (Ne.symm (hC _ hp)) b, c⟩
    cinj := J.cinj
    exl := fun a e => let ⟨o, g⟩ := J.exl a e; ⟨o, k a o (fun y => hE (y ▸ e)) g⟩
    tk1 := Nat.le_trans J.tk1 htk
    anc := J.anc }
noncomputable def fvOk (names onames : List (Str × NameKind)) (fv : List (Option Nat)) : Prop := ∀ j i : Nat, fv[j]? = some (some i) → ∃ n : Str, names[j]? = some (n, NameKind.free) ∧ onames[i]? = some (n, NameKind.cell)
theorem relabel_at {sc : Scope} {env : Env} {j : Nat} {n : Str} (hk : env.scope.kind = .function) (h : sc.names[j]? = some (n, .free)) (ho : env.scope.names.lookup n = some .cell) : (relabel sc env).names[j]? = some (n, .cell) := by
  unfold relabel
  simp only [List.getElem?_map, h, Option.map_some]
  have e : env.kindOf n = some .cell := ho
  simp [hk, e]
theorem relabel_local {sc : Scope} {env : Env} {j : Nat} {n : Str} {kd : NameKind} (h : sc.names[j]? = some (n, kd)) (hk : kd ≠ .free) : (relabel sc env).names[j]? = some (n, kd) := by
  unfold relabel
  simp only [List.getElem?_map, h, Option.map_some]
  have : (kd == NameKind.free) = false := by simpa using hk
  simp [this]
theorem relabel_fst {sc : Scope} {env : Env} : (relabel sc env).names.map (·.1) = sc.names.map (·.1) := by
  unfold relabel
  simp only [List.map_map]
  apply List.map_congr_left
  rintro ⟨n, k⟩ _
  simp only [Function.comp]
  split <;> rfl
theorem sf_in {b : Bool} {fv : List (Option Nat)} {sc : Scope} {C D I a : Addr} (h : Vw fr X b a) (hC : a ≠ C) (hD : a ≠ D) (hI : a ≠ I) : Sf (coFm fr X b fv sc C D I) (coX b fv X) a := by
  cases b with
  | true =>
    obtain ⟨p, q, r⟩ := h
    refine ⟨⟨p, hC, hD, hI⟩, fun e => ?_, fun j hj => ?_⟩
    · obtain ⟨_, e | ⟨i, e⟩, _⟩ := e
      · exact q e
      · exact r i e
    · unfold coX at hj
      split at hj
      · exact r _ hj
      · cases hj
  | false =>
    refine ⟨⟨h, hC, hD, hI⟩, fun e => Bool.noConfusion e.1, fun j hj => ?_⟩
    unfold coX at hj
    split at hj
    · cases hj
    · cases hj
theorem sf_out {b : Bool} {fv : List (Option Nat)} {sc : Scope} {C D I a : Addr} (h : Sf (coFm fr X b fv sc C D I) (coX b fv X) a) : Vw fr X b a := by
  obtain ⟨p, q, r⟩ := h
  cases b with
  | true => exact ⟨p.1, fun e => q ⟨rfl, .inl e, r⟩, fun i hi => q ⟨rfl, .inr ⟨i, hi⟩, r⟩⟩
  | false => exact p.1
theorem vw_out {b c : Bool} {fv : List (Option Nat)} {sc : Scope} {C D I a : Addr} (h : Vw (coFm fr X b fv sc C D I) (coX b fv X) c a) : Vw fr X (b && c) a := by
  cases c with
  | true => rw [Bool.and_true]; exact sf_out h
  | false => rw [Bool.and_false]; exact h.1
theorem co_inv {s4 : Shared} {b : Bool} {fv : List (Option Nat)} {sc : Scope} {C D I : Addr} (J : Inv prog w K fr σ X s) (k : Kp s s4) (hC : s.heap.get? C = none) (hD : s.heap.get? D = none) (hI : s.heap.get? I = none)
    (ns : ∃ m, s4.heap.Ns C m) (aD : ∃ o, s4.heap.get? D = some o) (aI : ∃ o, s4.heap.get? I = some o) (hkind : sc.kind = .function) (hnd : (sc.names.map (·.1)).Nodup) (hfree : freeOk fr.env.cells sc.names) (hfv : fvOk sc.names fr.env.scope.names fv) :
    Inv prog w K (coFm fr X b fv sc C D I) (coSt b fv σ) (coX b fv X) s4 := by
  have J4 := J.step k
  have clm : ∀ p ∈ clOf fr.env.cells sc.names [], p ∈ fr.env.cells := fun p hp => lookup_mem (clOf_mem hfree (by simp) p hp)
  have alive : ∀ a o, s.heap.get? a = some o → a ≠ C ∧ a ≠ D ∧ a ≠ I := fun a o e => ⟨fun z => (by rw [z, hC] at e; cases e), fun z => (by rw [z, hD] at e; cases e), fun z => (by rw [z, hI] at e; cases e)⟩
  have cox : ∀ {j a}, a ∈ coX b fv X j → b = true ∧ ∃ i, fv[j]? = some (some i) ∧ a ∈ X i := by
    intro j a h
    unfold coX at h
    split at h
    · rename_i i e
      split at h
      · rename_i hb; exact ⟨hb, i, e, h⟩
      · cases h
    · cases h
  have nsC : ∃ o, s4.heap.get? C = some o := let ⟨_, o, _, _, e, _⟩ := ns; ⟨o, e⟩
  exact {
    wd := J.wd
    hk := by show (relabel sc fr.env).kind = _; unfold relabel; exact hkind
    hg := J.hg
    hb := J.hb
    nd := by show ((relabel sc fr.env).names.map (·.1)).Nodup; rw [relabel_fst]; exact hnd
    keeps := J4.keeps
    ns := ns
    vars := by
      intro j mv e
      unfold coSt at e
      rw [List.getElem?_map] at e
      obtain ⟨o, e1, e2⟩ := Option.map_eq_some_iff.mp e
      cases o with
      | none => cases e2
      | some i =>
        have e2 : ((σ[i]?).join).filter (fun mv => b || mv.safe) = some mv := e2
        obtain ⟨e3, hb⟩ := Option.filter_eq_some_iff.mp e2
        have e4 : σ[i]? = some (some mv) := by
          cases q : σ[i]? with
          | none => rw [q] at e3; cases e3
          | some o => rw [q] at e3; cases o with
            | none => cases e3
            | some mv' => cases e3; rfl
        obtain ⟨n, f1, f2⟩ := hfv j i e1
        obtain ⟨x, kd, v, g1, g2, g3⟩ := J.vars i mv e4
        rw [f2] at g1; cases g1
        have hl := lookup_at J.nd f2
        refine ⟨n, .cell, v, relabel_at J.hk f1 hl, ?_, ?_⟩
        · obtain ⟨c, c1, c2⟩ := clOf_lookup hfree (List.mem_of_getElem? f1)
          obtain ⟨c', o, l, g, d⟩ := g2
          rw [c2] at l; cases l
          exact ⟨c, o, c1, k.get g, d⟩
        · have g4 := g3
          have hX : coX b fv X j = X i := by
            unfold coX
            rw [e1]
            simp only
            cases b with
            | true => rfl
            | false =>
              simp only [Bool.false_or] at hb
              cases mv with
              | froz d => rw [g3.1]; rfl
              | _ => cases hb
          rw [hX]
          refine g3.mono (fun a o p e => ⟨?_, k.get e⟩) fun a _ o e => k.get e
          obtain ⟨q1, q2, q3⟩ := alive a o e
          refine sf_in ?_ q1 q2 q3
          cases b with
          | true => exact p
          | false => exact p.1
    disj := by
      intro j j' a h1 h2
      obtain ⟨_, i, e1, h1⟩ := cox h1
      obtain ⟨_, i', e2, h2⟩ := cox h2
      have := J.disj i i' a h1 h2
      subst this
      obtain ⟨n, f1, f2⟩ := hfv j i e1
      obtain ⟨n', f1', f2'⟩ := hfv j' i e2
      rw [f2] at f2'; cases f2'
      by_cases q : j = j'
      · exact q
      · exact absurd rfl (names_ne hnd f1 f1' q)
    own := by
      intro j a h
      obtain ⟨_, i, _, h⟩ := cox h
      obtain ⟨q1, q2, ⟨o, q3⟩, q4⟩ := J.own i a h
      obtain ⟨z1, z2, z3⟩ := alive a o q3
      exact ⟨z1, ⟨q2, z1, z2, z3⟩, ⟨o, k.get q3⟩, fun h => by cases h⟩
    dl := by
      show fr.he.get? C = none
      cases q : fr.he.get? C with
      | none => rfl
      | some o => rw [J.keeps _ _ q] at hC; cases hC
    dead := by
      intro a e
      refine ⟨J4.dead a e, fun z => ?_, fun z => ?_, fun z => ?_⟩
      · obtain ⟨o, g⟩ := nsC; rw [z, g] at e; cases e
      · obtain ⟨o, g⟩ := aD; rw [z, g] at e; cases e
      · obtain ⟨o, g⟩ := aI; rw [z, g] at e; cases e
    pL := fun h => h.2.1 rfl
    pC := fun p hp h => J.pC p (clm p hp) h.1
    lC := by
      intro p hp z
      have := J.pC p (clm p hp)
      exact this (z ▸ J.dead C hC)
    cd := fun h => by cases h
    cinj := fun x y c h1 h2 => J.cinj x y c (clOf_mem hfree (by simp) _ (lookup_mem h1)) (clOf_mem hfree (by simp) _ (lookup_mem h2))
    exl := by
      rintro a ⟨_, h | ⟨i, h⟩, _⟩
      · exact J4.exl a h
      · obtain ⟨_, _, ⟨o, e⟩, _⟩ := J4.own i a h; exact ⟨o, e⟩
    tk1 := J4.tk1
    anc := by
      intro j C' ks vs e
      unfold coSt at e
      rw [List.getElem?_map] at e
      obtain ⟨o, e1, e2⟩ := Option.map_eq_some_iff.mp e
      cases o with
      | none => cases e2
      | some i =>
        have e2 : ((σ[i]?).join).filter (fun mv => b || mv.safe) = some (.ownW C' ks vs) := e2
        obtain ⟨e3, hb⟩ := Option.filter_eq_some_iff.mp e2
        have e4 : σ[i]? = some (some (.ownW C' ks vs)) := by
          cases q : σ[i]? with
          | none => rw [q] at e3; cases e3
          | some o => rw [q] at e3; cases o with
            | none => cases e3
            | some mv' => cases e3; rfl
        have hb : b = true := by simpa [MV.safe] using hb
        subst hb
        show coX true fv X j = fr.sx
        unfold coX
        rw [e1]
        exact J.anc i C' ks vs e4 }
end
section
variable {prog : Program} {w : World} {K : Frag} {fr : Fm} {k : Nat}
theorem store_local {A : Around} {E : Value → Shared → Prop} {s1 : Shared} {σ : St} {X : Nat → List Addr} {i : Nat} {x : Str} {v : Value} {d : D} (I : Inv prog w K fr σ X s1) (hi : fr.env.scope.names[i]? = some (x, .local)) (z : Is prog w s1.heap (Sf fr X) v d) (hX : X i = []) :
    wpAny (model prog w) A (storeName fr.env x v) (fun _ s' => (∃ h tk, s' = { s1 with heap := h, toks := tk } ∧ Heap.SameBut fr.env.locals s1.heap h ∧ s1.toks ≤ tk) ∧ Inv prog w K fr (σ.set i (some (.froz d))) X s') E s1 := by
  have hl := lookup_at I.nd hi
  obtain ⟨m, hn⟩ := I.ns
  have eX : updX X i [] = X := by
    funext j
    unfold updX
    split
    · rename_i h; rw [h, hX]
    · rfl
  refine wpAny_storeName_local (m := m) hl hn (fun h' hn' hs' => ?_) (by rw [I.hk]; rfl)
  have M := stored_loc (tk := s1.toks + 1) (Y := []) (mv := .froz d) I (.refl s1) hi hn hn' hs' (by simp) (rep_froz z) (Nat.le_succ _) (by intro _ _ _ h; cases h)
  rw [eX] at M
  exact ⟨⟨h', _, rfl, hs', Nat.le_succ _⟩, M.2⟩
structure CoSt (sc : Scope) (fv : List (Option Nat)) (fr : Fm) (x : Str) (ix : Nat) : Prop where
  kind : sc.kind = .function
  nd : (sc.names.map (·.1)).Nodup
  free : freeOk fr.env.cells sc.names
  hfv : fvOk sc.names fr.env.scope.names fv
  cell : ∀ y ∈ sc.names, y.2 ≠ .cell
  hix : sc.names[ix]? = some (x, .local)
  fx : fv[ix]? = some none
variable (prog w K fr) in
structure CoIn (X : Nat → List Addr) (b : Bool) (fv : List (Option Nat)) (sc : Scope) (ix : Nat) (σ : St) (s2 : Shared) (C D I : Addr) (Sa : Nat → Heap → Prop) (vs : List Value) (es : List Mine.D) (j : Nat) (s' : Shared) : Prop where
  sh : ∃ h tk, s' = { s2 with heap := h, toks := tk }
  tk : s2.toks ≤ s'.toks
  kp : ∀ b o, b ≠ I → s2.heap.get? b = some o → s'.heap.get? b = some o
  st : Sa j s'.heap
  v : IsL prog w s'.heap (Sf (coFm fr X b fv sc C D I) (coX b fv X)) vs es
  J : ∃ σj, Inv prog w K (coFm fr X b fv sc C D I) σj (coX b fv X) s' ∧ ∀ d, σj.set ix d = (coSt b fv σ).set ix d
theorem comp_core {A : Around} {E : Value → Shared → Prop} {s s2 : Shared} {σ : St} {X : Nat → List Addr} {b : Bool} {fv : List (Option Nat)} {sc : Scope} {I : Addr} {ds : List D} {e : Expr} {x : Str} {px : Pos} {ix : Nat} {Y : Type} {o0 : Obj} {y0 : Y}
    (J : Inv prog w K fr σ X s) (k2 : Kp s s2) (hI : s.heap.get? I = none) (src : SrcAt prog w A (Vw fr X b) I ds s2.heap) (c : CoSt sc fv fr x ix)
    (Acc : Heap → Addr → Y → Prop) (len : Y → Nat) (H : Addr → Addr → Nat → Y → Heap → Prop)
    (hAk : ∀ {h h' D ys}, Acc h D ys → (∀ o, h.get? D = some o → h'.get? D = some o) → Acc h' D ys) (hAo : ∀ {h D ys}, Acc h D ys → ∃ o, h.get? D = some o)
    (hA0 : ∀ h : Heap, Acc (h.push o0) h.objs.size y0) (hl0 : len y0 = 0) (h0 : ∀ C D hp, H C D 0 y0 hp)
    (hk : ∀ C D j ys hp hp', H C D j ys hp → (∀ b o, b ≠ I → b ≠ C → b ≠ D → hp.get? b = some o → hp'.get? b = some o) → H C D j ys hp')
    (Body : Env → Addr → (Shared → Prop) → (Value → Shared → Prop) → Shared → Prop)
    (hstart : ∀ acc env R s, codeAny (model prog w) A (.compLoop e 0 (.ref I) acc env) R s → wpAny (model prog w) A (pyIter (.ref I)) (fun it' s' => codeAny (model prog w) A (.compLoop e 0 it' acc env) R s') (notedBy (model prog w) A env fun x s' => R (.error x) s') s → codeAny (model prog w) A (.compStart e 0 (.ref I) acc env) R s)
    (hloop : ∀ env D R (Iv : Nat → Shared → Prop), (∀ n s', Iv n s' → ∀ Q : Option Value → Shared → Prop, (∀ s1, R (.ok .next) s1 → Q none s1) →
        (∀ v s1, wpAny (model prog w) A (assign (.Name x px) env v) (fun _ s2 => Body env D (fun s5 => ∃ m, m < n ∧ Iv m s5) (notedBy (model prog w) A env fun x s' => R (.error x) s') s2) (notedBy (model prog w) A env fun x s' => R (.error x) s') s1 → Q (some v) s1) →
        wpAny (model prog w) A (pyNext (.ref I)) Q (notedBy (model prog w) A env fun x s' => R (.error x) s') s') →
      ∀ n s', Iv n s' → codeAny (model prog w) A (.compLoop e 0 (.ref I) (.ref D) env) R s')
    (turn : ∀ C D s4 j d ys N K', ds.drop j = d :: ds.drop (j + 1) → j + 1 ≤ ds.length → Inv prog w K (coFm fr X b fv sc C D I) ((coSt b fv σ).set ix (some (.froz d))) (coX b fv X) s4 → Acc s4.heap D ys → len ys ≤ j → H C D j ys s4.heap → (∀ a, s4.heap.get? a = none → s2.heap.get? a = none) →
      (∀ s6 h7 tk7 ys', Kp s4 s6 → (∀ b o, b ≠ D → s6.heap.get? b = some o → h7.get? b = some o) → s6.toks ≤ tk7 → Acc h7 D ys' → len ys' ≤ len ys + 1 → H C D (j + 1) ys' s6.heap → K' { s6 with heap := h7, toks := tk7 }) → Body (coFm fr X b fv sc C D I).env D K' N s4)
    {RR : Value → Addr → Result → Shared → Prop}
    (hRR : ∀ D C s' ys m, s2.heap.objs.size = D → s2.heap.get? D = none → s2.heap.get? C = none → D ≠ C → s'.heap.Ns C m → Acc s'.heap D ys → H C D ds.length ys s'.heap → (∃ h tk, s' = { s2 with heap := h, toks := tk }) →
      (∀ b o, b ≠ I → s2.heap.get? b = some o → s'.heap.get? b = some o) → s2.toks ≤ s'.toks → RR (.ref D) C (.ok .next) s') :
    wpAny (model prog w) A (newFunctionEnv sc fr.env.globals (clOf fr.env.cells sc.names []) [] fr.env.qual none .none (some fr.env)) (fun cenv s₄ =>
      codeAny (model prog w) A (.compStart e 0 (.ref I) (.ref s2.heap.objs.size) { cenv with scope := relabel sc fr.env }) (RR (.ref s2.heap.objs.size) cenv.locals) s₄) E { s2 with heap := s2.heap.push o0 } := by
  obtain ⟨fp, P, Sa, vs, es, W, st0, ves, hP, hK, hfp⟩ := src
  have WC : WalkC prog w A I ds fp P Sa vs es := ⟨W, hP, hK⟩
  clear W hP
  refine wpAny_newFunctionEnv c.cell (by intro y hy; simp at hy) (fun h₁ hns₁ hsb₁ => ?_) c.kind
  dsimp only at hns₁ hsb₁ ⊢
  have hnew := hA0 s2.heap
  generalize hH2 : s2.heap.push o0 = H2 at hns₁ hsb₁ hnew ⊢
  have hC : H2.objs.size = s2.heap.objs.size + 1 := by rw [← hH2, Heap.size_push]
  generalize H2.objs.size = C at hns₁ hsb₁ hC ⊢
  generalize hDD : s2.heap.objs.size = D at hC hnew ⊢
  have hDC : D ≠ C := by rw [hC]; exact Nat.ne_of_lt (Nat.lt_succ_self _)
  have dC : s2.heap.get? C = none := by
    cases e : s2.heap.get? C with
    | none => rfl
    | some o => have := Heap.lt_size e; rw [hC, hDD] at this; exact absurd this (Nat.not_lt.mpr (Nat.le_succ _))
  have dD : s2.heap.get? D = none := by rw [← hDD]; exact dead_size _
  have old : ∀ b o, s2.heap.get? b = some o → h₁.get? b = some o := fun b o e => hsb₁.extBut b o (heapNone dC e) (Heap.get?_push_of_some _ (hH2 ▸ Heap.get?_push_of_some _ e))
  have accO : Acc h₁ D y0 := hAk hnew fun o e => hsb₁.extBut _ _ hDC (Heap.get?_push_of_some _ e)
  clear hnew hsb₁ hC hH2
  obtain ⟨oI, gI, qI⟩ := hK 0 _ st0
  have IC : I ≠ C := heapNone dC gI
  have ID : I ≠ D := heapNone dD gI
  have sCd : s.heap.get? C = none := k2.alive dC
  have sDd : s.heap.get? D = none := k2.alive dD
  have off : ∀ {z : Addr} {σj : Mine.St} {s' : Shared} {h' : Heap} {tk : Nat}, s.heap.get? z = none → z ≠ C → ¬ (coFm fr X b fv sc C D I).P z → Inv prog w K (coFm fr X b fv sc C D I) σj (coX b fv X) s' → (∀ b o, b ≠ z → s'.heap.get? b = some o → h'.get? b = some o) → (∃ o, h'.get? z = some o) → s'.toks ≤ tk →
      Inv prog w K (coFm fr X b fv sc C D I) σj (coX b fv X) { s' with heap := h', toks := tk } := by
    intro z σj s' h' tk hz zC zP Jj k al htk
    refine Jj.offP k al zC (fun q hq z' => J.pC q (lookup_mem (clOf_mem c.free (by simp) q hq)) (z' ▸ J.dead z hz)) ?_ zP ?_ htk
    · cases q : fr.he.get? z with
      | none => exact q
      | some o => have := J.keeps _ _ q; rw [hz] at this; cases this
    · rintro ⟨_, h | ⟨i, h⟩, _⟩
      · obtain ⟨o, g⟩ := J.exl z h; rw [hz] at g; cases g
      · obtain ⟨_, _, ⟨o, g⟩, _⟩ := J.own i z h; rw [hz] at g; cases g
  have loop : ∀ s3 : Shared, s3 = { s2 with heap := h₁, toks := s2.toks + ([] : List (Str × Value)).length } → codeAny (model prog w) A (.compLoop e 0 (.ref I) (.ref D) (coFm fr X b fv sc C D I).env) (RR (.ref D) C) s3 := by
    rintro s3 rfl
    have k3 : Kp s2 { s2 with heap := h₁, toks := s2.toks + ([] : List (Str × Value)).length } := ⟨⟨_, _, rfl⟩, fun e => old _ _ e, Nat.le_refl _⟩
    have J3 := co_inv (b := b) (fv := fv) J (k2.trans k3) sCd sDd hI ⟨_, hns₁⟩ (hAo accO) ⟨_, old _ _ gI⟩ c.kind c.nd c.free c.hfv
    have ve := ves.offI gI qI
    refine hloop _ _ _ (fun n s' => ∃ (j : Nat) (ys : Y), n = ds.length + 1 - j ∧ j ≤ ds.length ∧ len ys ≤ j ∧ Acc s'.heap D ys ∧ H C D j ys s'.heap ∧ CoIn prog w K fr X b fv sc ix σ s2 C D I Sa vs es j s') ?_ (ds.length + 1) _
      ⟨0, y0, rfl, Nat.zero_le _, Nat.le_of_eq hl0, accO, h0 C D _, ⟨_, _, rfl⟩, k3.tk, fun b o _ e => old b o e, WC.W.frame 0 _ _ st0 fun b _ o e => old b o e, ve.mono fun a o p e => ⟨sf_in p.1 (heapNone dC e) (heapNone dD e) p.2, old a o e⟩, _, J3, fun _ => rfl⟩
    clear ve J3 k3
    rintro n s' ⟨j, ys, rfl, hj, hys, hacc, hH, S⟩ Q Qn Qs
    obtain ⟨σj, Jj, hσ⟩ := S.J
    refine WC.next S.st hj (fun hn h1 tk1 hk1 htk1 => Qn _ ?_) fun d v h1 tk1 hlt _ hdr hk1 htk1 st1 al1 hv => Qs v _ ?_
    · obtain ⟨m, hm⟩ := Jj.ns
      have hjj : j = ds.length := Nat.le_antisymm hj (List.drop_eq_nil_iff.mp hn)
      subst hjj
      refine hRR D C _ ys m hDD dD dC hDC (hm.at' fun o e => hk1 C o (Ne.symm IC) e) (hAk hacc fun o e => hk1 D o (Ne.symm ID) e) (hk C D _ _ _ _ hH fun b o n1 _ _ e => hk1 b o n1 e) ?_ (fun b o n1 e => hk1 b o n1 (S.kp b o n1 e)) (Nat.le_trans S.tk htk1)
      obtain ⟨h, t, rfl⟩ := S.sh
      exact ⟨_, _, rfl⟩
    · have J1 := off hI IC (fun p => p.2.2.2 rfl) Jj hk1 al1 htk1
      have v1 : IsL prog w h1 (Sf (coFm fr X b fv sc C D I) (coX b fv X)) vs es := S.v.mono fun a o p e => ⟨p, hk1 a o p.1.2.2.2 e⟩
      refine assign_Name (wpKp (store_local (fr := coFm fr X b fv sc C D I) J1 (relabel_local c.hix (by decide)) (hv _ v1) (by unfold coX; rw [c.fx])) fun _ s4 q4 => ?_)
      obtain ⟨⟨h4, tk4, rfl, hs4, htk4⟩, J4⟩ := q4
      have hs4 : Heap.SameBut C h1 h4 := hs4
      rw [hσ] at J4
      have hk4 : ∀ b o, b ≠ I → b ≠ C → s'.heap.get? b = some o → h4.get? b = some o := fun b o n1 n2 e => (hs4.2 b n2).trans (hk1 b o n1 e)
      refine turn C D _ j d ys _ _ hdr hlt J4 (hAk hacc fun o e => hk4 D o (Ne.symm ID) hDC e) hys (hk C D j ys _ _ hH fun b o n1 n2 _ e => hk4 b o n1 n2 e) (fun a e => ?_) fun s6 h7 tk7 ys' k6 k7 htk7 acc7 hl7 H6 => ?_
      · cases q : s2.heap.get? a with
        | none => rfl
        | some o =>
          by_cases n : a = I
          · subst n; obtain ⟨o, g⟩ := al1; rw [(hs4.2 a IC).trans g] at e; cases e
          · rw [hk4 a o n (heapNone dC q) (S.kp a o n q)] at e; cases e
      have fpo : ∀ b ∈ fp, b ≠ C ∧ b ≠ D := fun b hb => by
        rcases hfp b hb with rfl | ⟨_, _, o, e⟩
        · exact ⟨IC, ID⟩
        · exact ⟨heapNone dC e, heapNone dD e⟩
      refine ⟨ds.length + 1 - (j + 1), dec_lt hlt, j + 1, ys', rfl, hlt, Nat.le_trans hl7 (Nat.succ_le_succ hys), acc7, hk C D _ _ _ _ H6 fun b o _ _ n1 e => k7 b o n1 e, ?_, Nat.le_trans S.tk (Nat.le_trans htk1 (Nat.le_trans htk4 (Nat.le_trans k6.tk htk7))), fun b o n1 e => k7 b o (heapNone dD e) (k6.get (hk4 b o n1 (heapNone dC e) (S.kp b o n1 e))),
        WC.W.frame _ _ _ st1 fun b hb o e => k7 b o (fpo b hb).2 (k6.get ((hs4.2 b (fpo b hb).1).trans e)), v1.mono fun a o p e => ⟨p, k7 a o p.1.2.2.1 (k6.get ((hs4.2 a p.1.2.1).trans e))⟩, _, off sDd hDC (fun p => p.2.2.1 rfl) (J4.step k6) k7 (hAo acc7) htk7, fun d' => by rw [List.set_set]⟩
      obtain ⟨h, t, rfl⟩ := S.sh
      obtain ⟨h', t', rfl⟩ := k6.sh
      exact ⟨_, _, rfl⟩
  exact hstart _ _ _ _ (loop _ rfl) (WC.W.self 0 _ _ _ (WC.W.frame 0 _ _ st0 fun b _ o e => old b o e) (loop _ rfl))
end
noncomputable def optT : Option Tr → Tr
  | none => fun _ b => b = true
  | some t => t
inductive compF (ix : Nat) (t : Option Tr) (elt : Ev) (σ : St) : List D → List D → Bool → Prop
  | nil : compF ix t elt σ [] [] true
  | yes {d e : D} {ds q : List D} {b c : Bool} (ht : optT t (σ.set ix (some (.froz d))) true) (h : elt (σ.set ix (some (.froz d))) e b) (r : compF ix t elt σ ds q c) : compF ix t elt σ (d :: ds) (e :: q) (b && c)
  | no {d : D} {ds q : List D} {c : Bool} (ht : optT t (σ.set ix (some (.froz d))) false) (r : compF ix t elt σ ds q c) : compF ix t elt σ (d :: ds) q c
inductive cComp (it : Evs) (ix : Nat) (fv : List (Option Nat)) (t : Option Tr) (elt : Ev) (σ : St) : List D → Bool → Prop
  | mk {ds q : List D} {b c : Bool} (h1 : it σ ds b) (h2 : compF ix t elt (coSt b fv σ) ds q c) (hl : ds.length ≤ 1000000) : cComp it ix fv t elt σ q (b && c)
section
variable {prog : Program} {w : World} {K : Frag} {fr : Fm} {k : Nat}
variable (prog w K fr k) in
noncomputable def CoEv (fv : List (Option Nat)) (sc : Scope) (e : Expr) (F : Ev) : Prop := ∀ X b C D I, EvOk prog w K (coFm fr X b fv sc C D I) k e F
variable (prog w K fr k) in
noncomputable def CoTr (fv : List (Option Nat)) (sc : Scope) : List Expr → Option Tr → Prop
  | [], none => True
  | [e], some t => ∀ X b C D I, TrOk prog w K (coFm fr X b fv sc C D I) k e t
  | _, _ => False
theorem co_ifs {A : Around} {E' : Value → Shared → Prop} {σ : St} {X Y : Nat → List Addr} {b : Bool} {fv : List (Option Nat)} {sc : Scope} {C D I : Addr} {ifs : List Expr} {t : Option Tr} {ok : Bool} {Q : Bool → Shared → Prop} {s' : Shared}
    (a : Ao k A) (ht : CoTr prog w K fr k fv sc ifs t) (J : Inv prog w K (coFm fr X b fv sc C D I) σ Y s') (h : optT t σ ok) (hQ : ∀ s3, Kp s' s3 → Q ok s3) :
    wpAny (model prog w) A (forIn ifs true fun c r => if r = true then do let ok ← isTrue c (coFm fr X b fv sc C D I).env (eval c (coFm fr X b fv sc C D I).env); pure (ForInStep.yield ok) else pure (ForInStep.yield r)) Q E' s' := by
  cases t with
  | none =>
    cases ifs with
    | nil => cases h; exact wpAny_pure (hQ _ (.refl _))
    | cons _ _ => exact False.elim (by cases ‹List Expr› <;> exact ht)
  | some t =>
    match ifs, ht with
    | [c], ht =>
      rw [List.forIn_cons, if_pos rfl]
      refine wpAny_bind (wpAny_bind (wpKp (ht X b C D I A E' s' _ _ ok a J h) fun c' s3 q3 => ?_))
      obtain ⟨k3, rfl⟩ := q3
      exact wpAny_pure (wpAny_pure (hQ s3 k3))
variable (prog w) in
inductive CoH (r : List Mine.D → Bool → Prop) (q : List Mine.D) (qb : Bool) (V : Bool → Addr → Prop) (ys : List Value) (hp : Heap) : Prop
  | mk {done rest : List Mine.D} {fd fl : Bool} (h1 : r rest fl) (h2 : q = done ++ rest) (h3 : qb = (fd && fl)) (h4 : IsL prog w hp (V fd) ys done)
theorem co_ne {X Y : Nat → List Addr} {b fl : Bool} {fv : List (Option Nat)} {sc : Scope} {C D I a : Addr} (h : Vw (coFm fr X b fv sc C D I) Y fl a) : a ≠ C ∧ a ≠ D ∧ a ≠ I := by
  have : (coFm fr X b fv sc C D I).P a := vw_p h
  exact this.2
theorem CoSt.locals {sc : Scope} {fv : List (Option Nat)} {x : Str} {ix : Nat} (c : CoSt sc fv fr x ix) : ∀ y ∈ sc.names, y.2 = .local → sc.names.lookup y.1 = some .local := by
  rintro ⟨n, kd⟩ hy hk
  have hk : kd = .local := hk
  subst hk
  exact lookup_of_mem c.nd hy
theorem comp_kp {s s2 s' : Shared} {h' : Heap} {C I : Addr} (k2 : Kp s s2) (hsh : ∃ h tk, s' = { s2 with heap := h, toks := tk }) (hs' : Heap.SameBut C s'.heap h') (dC : s2.heap.get? C = none) (hd : s.heap.get? I = none)
    (hkp : ∀ b o, b ≠ I → s2.heap.get? b = some o → s'.heap.get? b = some o) (htk : s2.toks ≤ s'.toks) : Kp s { s' with heap := h' } := by
  obtain ⟨h, tk, rfl⟩ := hsh
  obtain ⟨h2', t2, rfl⟩ := k2.sh
  exact ⟨⟨_, _, rfl⟩, fun {b o} e => (hs'.2 b (heapNone dC (k2.get e))).trans (hkp b o (heapNone hd e) (k2.get e)), Nat.le_trans k2.tk htk⟩
theorem comp_list {A : Around} {E : Value → Shared → Prop} {s s2 : Shared} {σ : St} {X : Nat → List Addr} {b : Bool} {fv : List (Option Nat)} {sc : Scope} {I : Addr} {ds : List Mine.D} {elt it : Expr} {ifs : List Expr} {x : Str} {px pos : Pos} {ix : Nat}
    (J : Inv prog w K fr σ X s) (k2 : Kp s s2) (hI : s.heap.get? I = none) (src : SrcAt prog w A (Vw fr X b) I ds s2.heap) (c : CoSt sc fv fr x ix) (hlen : ds.length ≤ 1000000)
    (H : Addr → Addr → Nat → List Value → Heap → Prop) (h0 : ∀ C D hp, H C D 0 [] hp)
    (hk : ∀ C D j ys hp hp', H C D j ys hp → (∀ b o, b ≠ I → b ≠ C → b ≠ D → hp.get? b = some o → hp'.get? b = some o) → H C D j ys hp')
    (turn : ∀ C D s4 j d ys N (K1 : Value → Shared → Prop) (K0 : Shared → Prop), ds.drop j = d :: ds.drop (j + 1) → Inv prog w K (coFm fr X b fv sc C D I) ((coSt b fv σ).set ix (some (.froz d))) (coX b fv X) s4 → H C D j ys s4.heap →
      (∀ a, s4.heap.get? a = none → s2.heap.get? a = none ∧ a ≠ C ∧ a ≠ D) →
      (∀ s6 y, Kp s4 s6 → H C D (j + 1) (ys ++ [y]) s6.heap → K1 y s6) → (∀ s6, Kp s4 s6 → H C D (j + 1) ys s6.heap → K0 s6) →
      wpAny (model prog w) A (forIn ifs true fun c r => if r = true then do let ok ← isTrue c (coFm fr X b fv sc C D I).env (eval c (coFm fr X b fv sc C D I).env); pure (ForInStep.yield ok) else pure (ForInStep.yield r))
        (fun ok s3 => if ok = true then wpAny (model prog w) A (eval elt (coFm fr X b fv sc C D I).env) K1 N s3 else K0 s3) N s4)
    {RR : Value → Addr → Result → Shared → Prop}
    (hRR : ∀ D C s' ys m n, s2.heap.objs.size = D → s2.heap.get? D = none → s2.heap.get? C = none → D ≠ C → s'.heap.Ns C m → s'.heap.get? D = some (lstO ys n) → H C D ds.length ys s'.heap → (∃ h tk, s' = { s2 with heap := h, toks := tk }) →
      (∀ b o, b ≠ I → s2.heap.get? b = some o → s'.heap.get? b = some o) → s2.toks ≤ s'.toks → RR (.ref D) C (.ok .next) s') :
    wpAny (model prog w) A (newList []) (fun acc s₃ => wpAny (model prog w) A (newFunctionEnv sc fr.env.globals (clOf fr.env.cells sc.names []) [] fr.env.qual none .none (some fr.env)) (fun cenv s₄ =>
      codeAny (model prog w) A (.compStart (.ListComp elt [⟨.Name x px, it, ifs, 0⟩] sc pos) 0 (.ref I) acc { cenv with scope := relabel sc fr.env }) (RR acc cenv.locals) s₄) E s₃) E s2 := by
  refine wpAny_newObj_type (comp_core (px := px) (y0 := []) J k2 hI src c (fun h D ys => ∃ n, h.get? D = some (lstO ys n)) List.length H
    (fun ⟨n, o⟩ kk => ⟨n, kk _ o⟩) (fun ⟨n, o⟩ => ⟨_, o⟩) (fun h => ⟨0, Heap.get?_push_size h rfl⟩) rfl h0 hk
    (fun env D K' N s' => wpAny (model prog w) A (forIn ifs true fun c r => if r = true then do let ok ← isTrue c env (eval c env); pure (ForInStep.yield ok) else pure (ForInStep.yield r))
        (fun ok s3 => if ok = true then wpAny (model prog w) A (eval elt env) (fun y s4 => wpAny (model prog w) A (call (.builtin "list.append") [.ref D, y]) (fun _ s5 => K' s5) N s4) N s3 else K' s3) N s')
    (fun acc env R s => codeAny_compStart_list) (fun env D R Iv hn n s' hI => codeAny_compLoop_tests Iv (fun n s h => hn n s h _ (fun _ q => q) fun v s1 q => q) n hI)
    (fun C D s4 j d ys N K' hdr hlt J4 acc hl hH al fin => ?_) fun D C s' ys m hD dD dC hDC nsC acc => let ⟨n, o⟩ := acc; hRR D C s' ys m n hD dD dC hDC nsC o)
  obtain ⟨n, o⟩ := acc
  refine turn C D s4 j d ys N _ _ hdr J4 hH (fun a e => ⟨al a e, fun z => ?_, fun z => ?_⟩) (fun s6 y k6 H6 => ?_) fun s6 k6 H6 => fin s6 s6.heap s6.toks ys k6 (fun _ _ _ e => e) (Nat.le_refl _) ⟨n, k6.get o⟩ (Nat.le_succ _) H6
  · obtain ⟨_, _, _, _, g, _⟩ := J4.ns
    subst z; rw [show s4.heap.get? a = _ from g] at e; cases e
  · subst z; rw [o] at e; cases e
  · refine wpAny_list_append_plain (items := ys.toArray) (hsz := by simp only [List.size_toArray]; exact Nat.le_trans (Nat.le_trans hl (Nat.le_trans (Nat.le_of_succ_le hlt) hlen)) (show 1000000 ≤ sizeLine by decide)) ⟨_, k6.get o⟩ fun h7 hl7 hs7 => ?_
    obtain ⟨n7, hl7⟩ := hl7
    have e7 : (ys.toArray.push y) = (ys ++ [y]).toArray := by simp
    rw [e7] at hl7
    exact fin s6 h7 s6.toks (ys ++ [y]) k6 (fun b o n1 e => (hs7.2 b n1).trans e) (Nat.le_refl _) ⟨n7, hl7⟩ (Nat.le_of_eq List.length_append) H6
variable (prog w fr) in
abbrev coH (X : Nat → List Addr) (b : Bool) (fv : List (Option Nat)) (sc : Scope) (σ : St) (ix : Nat) (t : Option Tr) (F : Ev) (ds q : List Mine.D) (qb : Bool) (I C D : Addr) (j : Nat) (ys : List Value) (hp : Heap) : Prop :=
  CoH prog w (compF ix t F (coSt b fv σ) (ds.drop j)) q qb (Vw (coFm fr X b fv sc C D I) (coX b fv X)) ys hp
theorem coH_keep {X : Nat → List Addr} {b : Bool} {fv : List (Option Nat)} {sc : Scope} {σ : St} {ix : Nat} {t : Option Tr} {F : Ev} {ds q : List Mine.D} {qb : Bool} {I C D : Addr} {j : Nat} {ys : List Value} {hp hp' : Heap}
    (h : coH prog w fr X b fv sc σ ix t F ds q qb I C D j ys hp) (kk : ∀ b o, b ≠ I → b ≠ C → b ≠ D → hp.get? b = some o → hp'.get? b = some o) : coH prog w fr X b fv sc σ ix t F ds q qb I C D j ys hp' := by
  obtain ⟨h1, h2, h3, h4⟩ := h
  exact .mk h1 h2 h3 (h4.mono fun a o p e => ⟨p, kk a o (co_ne p).2.2 (co_ne p).1 (co_ne p).2.1 e⟩)
theorem coH_end {X : Nat → List Addr} {b : Bool} {fv : List (Option Nat)} {sc : Scope} {σ : St} {ix : Nat} {t : Option Tr} {F : Ev} {ds q : List Mine.D} {qb : Bool} {I C D : Addr} {ys : List Value} {hp : Heap}
    (h : coH prog w fr X b fv sc σ ix t F ds q qb I C D ds.length ys hp) : IsL prog w hp (fun a => Vw fr X (b && qb) a ∧ a ≠ C ∧ a ≠ D) ys q := by
  obtain ⟨h1, h2, h3, h4⟩ := h
  rw [List.drop_length] at h1
  cases h1
  rw [List.append_nil] at h2
  rw [Bool.and_true] at h3
  subst h2 h3
  exact h4.mono fun a o p e => ⟨⟨vw_out p, (co_ne p).1, (co_ne p).2.1⟩, e⟩
theorem co_turn {A : Around} {σ : St} {X : Nat → List Addr} {b : Bool} {fv : List (Option Nat)} {sc : Scope} {C D I : Addr} {ds q : List Mine.D} {qb : Bool} {elt : Expr} {ifs : List Expr} {ix : Nat} {t : Option Tr} {F : Ev} {s4 : Shared} {j : Nat} {d : Mine.D} {ys : List Value} {N : Value → Shared → Prop} {K1 : Value → Shared → Prop} {K0 : Shared → Prop}
    (a : Ao k A) (he : CoEv prog w K fr k fv sc elt F) (ht : CoTr prog w K fr k fv sc ifs t) (hdr : ds.drop j = d :: ds.drop (j + 1)) (J4 : Inv prog w K (coFm fr X b fv sc C D I) ((coSt b fv σ).set ix (some (.froz d))) (coX b fv X) s4) (hH : coH prog w fr X b fv sc σ ix t F ds q qb I C D j ys s4.heap)
    (h1 : ∀ s6 y, Kp s4 s6 → coH prog w fr X b fv sc σ ix t F ds q qb I C D (j + 1) (ys ++ [y]) s6.heap → K1 y s6) (h0 : ∀ s6, Kp s4 s6 → coH prog w fr X b fv sc σ ix t F ds q qb I C D (j + 1) ys s6.heap → K0 s6) :
    wpAny (model prog w) A (forIn ifs true fun c r => if r = true then do let ok ← isTrue c (coFm fr X b fv sc C D I).env (eval c (coFm fr X b fv sc C D I).env); pure (ForInStep.yield ok) else pure (ForInStep.yield r))
        (fun ok s3 => if ok = true then wpAny (model prog w) A (eval elt (coFm fr X b fv sc C D I).env) K1 N s3 else K0 s3) N s4 := by
  obtain ⟨z1, z2, z3, z4⟩ := hH
  rw [hdr] at z1
  cases z1 with
  | yes ht' he' r =>
    refine co_ifs a ht J4 ht' fun s5 k5 => ?_
    rw [if_pos rfl]
    refine wpKp (he X b C D I A N s5 _ _ _ _ a (J4.step k5) he') fun y s6 q6 => h1 s6 y (k5.trans q6.1) (.mk r ?_ ?_ (((z4.keeps (k5.trans q6.1)).vand _).append (.cons (q6.2.vand' _) .nil)))
    · rw [z2, List.append_assoc]; rfl
    · rw [z3, Bool.and_assoc]
  | no ht' r =>
    refine co_ifs a ht J4 ht' fun s5 k5 => ?_
    rw [if_neg Bool.false_ne_true]
    exact h0 s5 k5 (.mk r z2 z3 (z4.keeps k5))
theorem ls_comp {it elt : Expr} {x : Str} {px pos : Pos} {ifs : List Expr} {sc : Scope} {fv : List (Option Nat)} {ix : Nat} {g : Evs} {t : Option Tr} {F : Ev} (hg : ItOk prog w K fr k it g) (he : CoEv prog w K fr k fv sc elt F) (ht : CoTr prog w K fr k fv sc ifs t)
    (c : CoSt sc fv fr x ix) (hs : ∀ x, foldedSetIterable it fr.env x = pure x) : LsOk prog w K fr k (.ListComp elt [⟨.Name x px, it, ifs, 0⟩] sc pos) (cComp g ix fv t F) := by
  rintro A E s σ X q qb a J ⟨h1, h2, hlen⟩
  rename_i ds b qc
  rw [eval_ListComp]
  refine wpAny_comprehension_free (use := none) rfl hs (closure_eq c.free) c.kind c.locals (wpKp (hg A E s σ X _ _ a J h1) fun xv s1 q1 => wpKp q1 fun itv s2 q2 => ?_)
  obtain ⟨k2, I, rfl, hd, src⟩ := q2
  refine comp_list (b := b) (fv := fv) (RR := fun acc C => compPost (model prog w) A E none _ acc C) J k2 hd src c hlen (coH prog w fr X b fv sc σ ix t F ds q qc I)
    (fun C D hp => .mk h2 rfl (Bool.true_and _).symm .nil) (fun C D j ys hp hp' => coH_keep) (fun C D s4 j d ys N K1 K0 hdr J4 hH _ => co_turn a he ht hdr J4 hH) fun D C s' vs m n _ dD dC hDC nsC oD hH hsh hkp htk => ⟨m, nsC, fun h' hs' => ?_⟩
  exact ⟨comp_kp k2 hsh hs' dC hd hkp htk, D, vs, n, rfl, k2.alive dD, (hs'.2 D hDC).trans oD, (coH_end hH).mono fun a o p e => ⟨⟨p.1, p.2.2⟩, (hs'.2 a p.2.1).trans e⟩⟩
end
section
variable {prog : Program} {w : World} {K : Frag} {fr : Fm} {k : Nat} {σ : St} {X : Nat → List Addr}
theorem use_comp {A : Around} {E : Value → Shared → Prop} {s : Shared} {it elt : Expr} {x y : Str} {px py pos spos : Pos} {ifs : List Expr} {sc : Scope} {fv : List (Option Nat)} {ix i : Nat} {g : Evs}
    {ds : List D} {b : Bool} (a : Ao k A) (J : Inv prog w K fr σ X s) (hg : ItOk prog w K fr k it g) (h1 : g σ ds b) (hlen : ds.length ≤ 1000000) (c : CoSt sc fv fr x ix) (hs : ∀ x, foldedSetIterable it fr.env x = pure x)
    (hsw : swapsWith (.ListComp elt [⟨.Name x px, it, ifs, 0⟩] sc pos) (some (.Name y py)) spos.line fr.env = pure true) (hi : fr.env.scope.names[i]? = some (y, .local))
    (H : Addr → Addr → Addr → Nat → List Value → Heap → Prop) (h0 : ∀ I C D hp, H I C D 0 [] hp)
    (hk : ∀ I C D j ys hp hp', H I C D j ys hp → (∀ b o, b ≠ I → b ≠ C → b ≠ D → hp.get? b = some o → hp'.get? b = some o) → H I C D j ys hp')
    (turn : ∀ I C D s4 j d ys N (K1 : Value → Shared → Prop) (K0 : Shared → Prop), ds.drop j = d :: ds.drop (j + 1) → Inv prog w K (coFm fr X b fv sc C D I) ((coSt b fv σ).set ix (some (.froz d))) (coX b fv X) s4 → H I C D j ys s4.heap →
      (∀ a, s4.heap.get? a = none → s.heap.get? a = none ∧ a ≠ I ∧ a ≠ C ∧ a ≠ D) →
      (∀ s6 y, Kp s4 s6 → H I C D (j + 1) (ys ++ [y]) s6.heap → K1 y s6) → (∀ s6, Kp s4 s6 → H I C D (j + 1) ys s6.heap → K0 s6) →
      wpAny (model prog w) A (forIn ifs true fun c r => if r = true then do let ok ← isTrue c (coFm fr X b fv sc C D I).env (eval c (coFm fr X b fv sc C D I).env); pure (ForInStep.yield ok) else pure (ForInStep.yield r))
        (fun ok s3 => if ok = true then wpAny (model prog w) A (eval elt (coFm fr X b fv sc C D I).env) K1 N s3 else K0 s3) N s4)
    {mv : MV} (hmv : ∀ C ks vs, mv ≠ .ownW C ks vs) (fin : ∀ I C D vs n hp, s.heap.get? D = none → D ≠ C → hp.get? D = some (lstO vs n) → H I C D ds.length vs hp →
      ∃ Y, (∀ a ∈ Y, s.heap.get? a = none ∧ a ≠ C ∧ ∃ o, hp.get? a = some o) ∧ Rep prog w hp (fun a => (Sf fr X a ∧ a ∉ Y) ∧ a ≠ C) Y (.ref D) mv) :
    wpAny (model prog w) A (exec (.Assign [.Name y py] (.ListComp elt [⟨.Name x px, it, ifs, 0⟩] sc pos) spos) fr.env) (ExQ prog w K fr X s .next (σ.set i (some mv))) E s := by
  rw [exec_Assign_Name_used _ _ _ _ hsw]
  refine wpAny_bind (wpAny_standAt (wpAny_bind ?_))
  show wpAny _ A (do let _ ← comprehension (.ListComp elt [⟨.Name x px, it, ifs, 0⟩] sc pos) sc fr.env _ (newList []) false (eval it fr.env) (some (assign (.Name y py) fr.env))) _ _ s
  refine wpAny_bind (wpKp (wpAny_comprehension_free (use := some (assign (.Name y py) fr.env)) (Q := fun _ s' => ∃ X', Step fr X s X' s' ∧ Inv prog w K fr (σ.set i (some mv)) X' s') rfl hs (closure_eq c.free) c.kind c.locals
    (wpKp (hg A E s σ X _ _ a J h1) fun xv s1 q1 => wpKp q1 fun itv s2 q2 => ?_)) fun _ s' hq => wpAny_pure (wpAny_pure (let ⟨X', p, q⟩ := hq; ⟨X', p, q, rfl⟩)))
  obtain ⟨k2, I, rfl, hd, src⟩ := q2
  have aI : ∃ o, s2.heap.get? I = some o := by
    obtain ⟨fp, P, Sa, vs, es, W, st0, ves, hP, hK, hfp⟩ := id src
    obtain ⟨o, e, _⟩ := hK 0 _ st0
    exact ⟨o, e⟩
  refine comp_list (b := b) (fv := fv) (RR := fun acc C => compPost (model prog w) A E (some (assign (.Name y py) fr.env)) _ acc C) J k2 hd src c hlen
    (H I) (h0 I) (hk I) (fun C D s4 j d ys N K1 K0 hdr J4 hH al => turn I C D s4 j d ys N K1 K0 hdr J4 hH fun a e => ⟨k2.alive (al a e).1, fun z => ?_, (al a e).2⟩) ?_
  · obtain ⟨o, g⟩ := aI
    rw [← z, (al a e).1] at g; cases g
  intro D C s' vs m n _ dD dC hDC nsC oD hH hsh hkp htk
  have ks : Kp s s' := by
    obtain ⟨h, tk, rfl⟩ := hsh
    obtain ⟨h2', t2, rfl⟩ := k2.sh
    exact ⟨⟨_, _, rfl⟩, fun {b o} e => hkp b o (heapNone hd e) (k2.get e), Nat.le_trans k2.tk htk⟩
  obtain ⟨Y, hY, R⟩ := fin I C D vs n s'.heap (k2.alive dD) hDC oD hH
  have hl := lookup_at J.nd hi
  obtain ⟨m0, hn0⟩ := J.ns
  have hLC : fr.env.locals ≠ C := by rintro z; obtain ⟨o, _, _, ho, _⟩ := hn0; rw [z, k2.alive dC] at ho; cases ho
  show wpAny _ A (assign (.Name y py) fr.env (.ref D)) _ _ _
  refine wpAny_assign_Name (wpAny_storeName_local hl (hn0.keeps fun _ _ e => ks.get e) (fun h2 hn2 hs2 => ?_) (by rw [J.hk]; rfl))
  refine ⟨m, nsC.sameBut hs2 (Ne.symm hLC), fun h3 hs3 => ?_⟩
  obtain ⟨oL, _, _, eL, _⟩ := hn0.keeps fun _ _ e => ks.get e
  obtain ⟨o3, _, _, e3, _⟩ := hn2.sameBut hs3 hLC
  generalize hh4 : (h3.update fr.env.locals fun _ => oL) = h4
  have fL : h4.get? fr.env.locals = some oL := by rw [← hh4]; exact Heap.get?_update_self _ e3 (Heap.get?_some_iff.mp eL).2
  have f4 : Heap.SameBut fr.env.locals h3 h4 := by rw [← hh4]; exact .update ..
  have k4 : ∀ a o, a ≠ C → s'.heap.get? a = some o → h4.get? a = some o := fun a o ne e => by
    by_cases q : a = fr.env.locals
    · subst q; rw [eL] at e; cases e; exact fL
    · exact (f4.2 a q).trans ((hs3.2 a ne).trans ((hs2.2 a q).trans e))
  have ks4 : Kp s { s' with heap := h4 } := by
    obtain ⟨h, tk, e⟩ := ks.sh
    exact ⟨⟨h4, s'.toks, by rw [e]⟩, fun {b o} e => k4 b o (heapNone (k2.alive dC) e) (ks.get e), ks.tk⟩
  have M := stored_loc (s1 := { s' with heap := h4 }) (h' := h3) (tk := s'.toks + 1) J ks4 hi (hn0.keeps fun _ _ e => ks4.get e) (hn2.sameBut hs3 hLC) ⟨f4.1.symm, fun b hb => (f4.2 b hb).symm⟩
    (fun a ha => let ⟨z1, z2, o, z3⟩ := hY a ha; ⟨z1, o, k4 a o z2 z3⟩) (R.mono (fun a o p e => ⟨p.1, k4 a o p.2 e⟩) fun a ha o e => k4 a o (hY a ha).2.1 e) (Nat.le_succ _) hmv
  exact ⟨_, M.1, M.2⟩
theorem use_coH {it elt : Expr} {x y : Str} {px py pos spos : Pos} {ifs : List Expr} {sc : Scope} {fv : List (Option Nat)} {ix i : Nat} {g : Evs} {t : Option Tr} {F : Ev} (hg : ItOk prog w K fr k it g) (he : CoEv prog w K fr k fv sc elt F) (ht : CoTr prog w K fr k fv sc ifs t)
    (c : CoSt sc fv fr x ix) (hs : ∀ x, foldedSetIterable it fr.env x = pure x) (hsw : swapsWith (.ListComp elt [⟨.Name x px, it, ifs, 0⟩] sc pos) (some (.Name y py)) spos.line fr.env = pure true) (hi : fr.env.scope.names[i]? = some (y, .local))
    {A : Around} {E : Value → Shared → Prop} {s : Shared} {q : List D} {b : Bool} (a : Ao k A) (J : Inv prog w K fr σ X s) (h : cComp g ix fv t F σ q b) (hb : b = true) {mv : MV} (hmv : ∀ C ks vs, mv ≠ .ownW C ks vs)
    (fin : ∀ C D vs n hp, s.heap.get? D = none → D ≠ C → hp.get? D = some (lstO vs n) → IsL prog w hp (fun a => Sf fr X a ∧ a ≠ C ∧ a ≠ D) vs q →
      ∃ Y, (∀ a ∈ Y, s.heap.get? a = none ∧ a ≠ C ∧ ∃ o, hp.get? a = some o) ∧ Rep prog w hp (fun a => (Sf fr X a ∧ a ∉ Y) ∧ a ≠ C) Y (.ref D) mv) :
    wpAny (model prog w) A (exec (.Assign [.Name y py] (.ListComp elt [⟨.Name x px, it, ifs, 0⟩] sc pos) spos) fr.env) (ExQ prog w K fr X s .next (σ.set i (some mv))) E s := by
  obtain ⟨h1, h2, hlen⟩ := h
  refine use_comp a J hg h1 hlen c hs hsw hi (coH prog w fr X _ fv sc σ ix t F _ q _) (fun I C D hp => .mk h2 rfl (Bool.true_and _).symm .nil) (fun I C D j ys hp hp' => coH_keep)
    (fun I C D s4 j d ys N K1 K0 hdr J4 hH _ => co_turn a he ht hdr J4 hH) hmv fun I C D vs n hp dD hDC oD hH => fin C D vs n hp dD hDC oD ?_
  have := coH_end hH
  rw [hb] at this
  exact this
theorem x_ownC {it elt : Expr} {x y : Str} {px py pos spos : Pos} {ifs : List Expr} {sc : Scope} {fv : List (Option Nat)} {ix i : Nat} {g : Evs} {t : Option Tr} {F : Ev} (hg : ItOk prog w K fr k it g) (he : CoEv prog w K fr k fv sc elt F) (ht : CoTr prog w K fr k fv sc ifs t)
    (c : CoSt sc fv fr x ix) (hs : ∀ x, foldedSetIterable it fr.env x = pure x) (hsw : swapsWith (.ListComp elt [⟨.Name x px, it, ifs, 0⟩] sc pos) (some (.Name y py)) spos.line fr.env = pure true) (hi : fr.env.scope.names[i]? = some (y, .local)) :
    ExOk prog w K fr k (.Assign [.Name y py] (.ListComp elt [⟨.Name x px, it, ifs, 0⟩] sc pos) spos) (xOwn i (cComp g ix fv t F)) := by
  rintro A E s σ X _ _ a J ⟨h⟩
  refine use_coH hg he ht c hs hsw hi a J h rfl (by intro _ _ _ h; cases h) fun C D vs n hp dD hDC oD r => ⟨[D], fun c hc => ?_, D, vs, n, rfl, rfl, oD, r.mono fun a o p e => ⟨⟨⟨p.1, by simpa using p.2.2⟩, p.2.1⟩, e⟩⟩
  rw [List.mem_singleton.mp hc]
  exact ⟨dD, hDC, _, oD⟩
theorem x_asgC {it elt : Expr} {x y : Str} {px py pos spos : Pos} {ifs : List Expr} {sc : Scope} {fv : List (Option Nat)} {ix i : Nat} {g : Evs} {t : Option Tr} {F : Ev} (hg : ItOk prog w K fr k it g) (he : CoEv prog w K fr k fv sc elt F) (ht : CoTr prog w K fr k fv sc ifs t)
    (c : CoSt sc fv fr x ix) (hs : ∀ x, foldedSetIterable it fr.env x = pure x) (hsw : swapsWith (.ListComp elt [⟨.Name x px, it, ifs, 0⟩] sc pos) (some (.Name y py)) spos.line fr.env = pure true) (hi : fr.env.scope.names[i]? = some (y, .local)) :
    ExOk prog w K fr k (.Assign [.Name y py] (.ListComp elt [⟨.Name x px, it, ifs, 0⟩] sc pos) spos) (xAsg i (cLst (cComp g ix fv t F))) := by
  rintro A E s σ X _ _ a J ⟨h⟩
  generalize hb : true = b at h
  cases h with
  | mk h => exact use_coH hg he ht c hs hsw hi a J h hb.symm (by intro _ _ _ h; cases h) fun C D vs n hp dD hDC oD r => ⟨[], by simp, rfl, .lst (n := n) ⟨⟨vw_dead J true D dD, by simp⟩, hDC⟩ oD (r.mono fun a o p e => ⟨⟨⟨p.1, by simp⟩, p.2.1⟩, e⟩)⟩
inductive xOwnN (i : Nat) (g : Evs) (σ : St) : Fl → St → Prop
  | mk {ds : List D} {b : Bool} (h : g σ ds b) (hl : ds.length ≤ 1000000) : xOwnN i g σ .next (σ.set i (some (.ownN (List.replicate ds.length []))))
theorem inner_empty {hp : Heap} {P : Addr → Prop} : ∀ {as : List Addr}, (∀ c ∈ as, ∃ m, hp.get? c = some (lstO [] m)) → Inner prog w hp P as (as.map .ref) (List.replicate as.length [])
  | [], _ => trivial
  | a :: as, h => ⟨rfl, let ⟨m, e⟩ := h a (.head _); ⟨[], m, e, .nil⟩, inner_empty fun c hc => h c (.tail _ hc)⟩
theorem x_ownN {it : Expr} {x y : Str} {px py pl pos spos : Pos} {sc : Scope} {fv : List (Option Nat)} {ix i : Nat} {g : Evs} (hg : ItOk prog w K fr k it g)
    (c : CoSt sc fv fr x ix) (hs : ∀ x, foldedSetIterable it fr.env x = pure x) (hsw : swapsWith (.ListComp (.List [] pl) [⟨.Name x px, it, [], 0⟩] sc pos) (some (.Name y py)) spos.line fr.env = pure true) (hi : fr.env.scope.names[i]? = some (y, .local)) :
    ExOk prog w K fr k (.Assign [.Name y py] (.ListComp (.List [] pl) [⟨.Name x px, it, [], 0⟩] sc pos) spos) (xOwnN i g) := by
  rintro A E s σ X _ _ a J ⟨h, hlen⟩
  refine use_comp a J hg h hlen c hs hsw hi
    (fun I C D j ys hp => ∃ as : List Addr, ys = as.map .ref ∧ as.Nodup ∧ as.length = j ∧ ∀ c ∈ as, (s.heap.get? c = none ∧ c ≠ I ∧ c ≠ C ∧ c ≠ D) ∧ ∃ m, hp.get? c = some (lstO [] m)) (fun I C D hp => ⟨[], rfl, .nil, rfl, by simp⟩) (fun I C D j ys hp hp' hH kk => ?_)
    (fun I C D s4 j d ys N K1 K0 hdr J4 hH al h1 h0 => ?_) (by intro _ _ _ h; cases h) (fun I C D vs n hp dD hDC oD hH => ?_)
  · obtain ⟨as, e1, e2, e3, e4⟩ := hH
    exact ⟨as, e1, e2, e3, fun c hc => let ⟨q, m, q5⟩ := e4 c hc; ⟨q, m, kk c _ q.2.1 q.2.2.1 q.2.2.2 q5⟩⟩
  · obtain ⟨as, e1, e2, e3, e4⟩ := hH
    refine wpAny_pure ?_
    rw [if_pos rfl]
    refine wpAny_List (wpAny_items_nil ⟨Nat.zero_le _, h1 _ _ (.push _ _) ⟨as ++ [s4.heap.objs.size], by rw [e1]; simp, ?_, by simp [e3], fun c hc => ?_⟩⟩)
    · refine List.nodup_append.mpr ⟨e2, by simp, fun c hc c' hc' z => ?_⟩
      rw [List.mem_singleton.mp hc'] at z
      obtain ⟨_, m, q5⟩ := e4 c hc
      rw [z, dead_size] at q5; cases q5
    · rcases List.mem_append.mp hc with hc | hc
      · obtain ⟨q, m, q5⟩ := e4 c hc
        exact ⟨q, m, Heap.get?_push_of_some _ q5⟩
      · rw [List.mem_singleton.mp hc]
        exact ⟨al _ (dead_size _), 0, Heap.get?_push_size _ rfl⟩
  · obtain ⟨as, e1, e2, e3, e4⟩ := hH
    refine ⟨D :: as, fun c hc => ?_, D, as, vs, n, rfl, List.nodup_cons.mpr ⟨fun hm => (e4 D hm).1.2.2.2 rfl, e2⟩, rfl, oD, ?_⟩
    · rcases List.mem_cons.mp hc with rfl | hc
      · exact ⟨dD, hDC, _, oD⟩
      · obtain ⟨q, m, q5⟩ := e4 c hc
        exact ⟨q.1, q.2.2.1, _, q5⟩
    · rw [e1, ← e3]
      exact inner_empty fun c hc => (e4 c hc).2
end
section
variable {prog : Program} {w : World} {K : Frag} {fr : Fm} {k : Nat}
theorem sys_ne {h : Heap} (W : Wd K h) : (h.objs.size == sysModules) = false := by
  obtain ⟨mg, o, _, _, e, _⟩ := W.g
  have h1 : mainGlobals < h.objs.size := Heap.lt_size e
  have h2 : (mainGlobals : Nat) = 3 := rfl
  have h3 : (sysModules : Nat) = 1 := rfl
  have : h.objs.size ≠ sysModules := by
    intro z
    have z' : (h.objs.size : Nat) = 1 := z.trans h3
    have h1' : 3 < h.objs.size := h1
    lia
  simpa using this
inductive compD (ix : Nat) (fk fv : Ev) (σ : St) : List D → List Int × List D → List Int × List D → Prop
  | nil {q : List Int × List D} : compD ix fk fv σ [] q q
  | go {d e : D} {ds : List D} {k : Int} {b c : Bool} {acc q : List Int × List D} (h1 : fk (σ.set ix (some (.froz d))) (.int k) b) (h2 : fv (σ.set ix (some (.froz d))) e c) (hs : e.scalar = true) (r : compD ix fk fv σ ds (putZ acc.1 acc.2 k e) q) : compD ix fk fv σ (d :: ds) acc q
inductive cCompD (it : Evs) (ix : Nat) (fv : List (Option Nat)) (fk fe : Ev) (σ : St) : D → Bool → Prop
  | mk {ds : List D} {b : Bool} {q : List Int × List D} (h1 : it σ ds b) (h2 : compD ix fk fe (coSt b fv σ) ds ([], []) q) (hl : ds.length ≤ 1000000) : cCompD it ix fv fk fe σ (.dctI q.1 q.2) true
theorem ev_compD {it kx vx : Expr} {x : Str} {px pos : Pos} {sc : Scope} {fv : List (Option Nat)} {ix : Nat} {g : Evs} {fk fe : Ev} (hg : ItOk prog w K fr k it g) (hkx : CoEv prog w K fr k fv sc kx fk) (hvx : CoEv prog w K fr k fv sc vx fe)
    (c : CoSt sc fv fr x ix) (hs : ∀ x, foldedSetIterable it fr.env x = pure x) : EvOk prog w K fr k (.DictComp kx vx [⟨.Name x px, it, [], 0⟩] sc pos) (cCompD g ix fv fk fe) := by
  rintro A E s σ X _ _ a J ⟨h1, h2, hlen⟩
  rename_i ds b q
  rw [arm_eval_DictComp]
  refine wpAny_comprehension_free (use := none) rfl hs (closure_eq c.free) c.kind c.locals (wpKp (hg A E s σ X _ _ a J h1) fun xv s1 q1 => wpKp q1 fun itv s2 q2 => ?_)
  obtain ⟨k2, I, rfl, hd, src⟩ := q2
  refine wpAny_newObj_type (comp_core (px := px) (b := b) (fv := fv) (RR := fun acc C => compPost (model prog w) A E none _ acc C) (y0 := []) J k2 hd src c (fun h D ys => h.DictOf (intKind prog w) D ys) List.length
    (fun C D j ys hp => ∃ acc, compD ix fk fe (coSt b fv σ) (ds.drop j) acc q ∧ ys.map (·.1) = acc.1 ∧ IsL prog w hp (fun _ => False) (ys.map (·.2)) acc.2)
    (fun o kk => dictOf_at o kk) (fun ⟨o, _, _, e, _⟩ => ⟨o, e⟩) (fun h => Heap.DictOf.new h) rfl (fun C D hp => ⟨([], []), h2, rfl, .nil⟩)
    (fun C D j ys hp hp' hH kk => ?_)
    (fun env D K' N s' => wpAny (model prog w) A (forIn ([] : List Expr) true fun c r => if r = true then do let ok ← isTrue c env (eval c env); pure (ForInStep.yield ok) else pure (ForInStep.yield r))
        (fun ok s3 => if ok = true then wpAny (model prog w) A (eval kx env) (fun kv s4 => wpAny (model prog w) A (eval vx env) (fun vv s5 => wpAny (model prog w) A (dictSet D kv vv) (fun _ s6 => K' s6) N s5) N s4) N s3 else K' s3) N s')
    (fun acc env R s => codeAny_compStart_dict) (fun env D R Iv hn n s' hI => codeAny_compLoop_testsD Iv (fun n s h => hn n s h _ (fun _ q => q) fun v s1 q => q) n hI)
    (fun C D s4 j d ys N K' hdr hlt J4 acc hl hH _ fin => ?_) ?_)
  · obtain ⟨acc, z1, z2, z3⟩ := hH
    exact ⟨acc, z1, z2, z3.mono fun a o p e => p.elim⟩
  · obtain ⟨ac, z1, z2, z3⟩ := hH
    refine wpAny_pure ?_
    rw [if_pos rfl]
    rw [hdr] at z1
    cases z1 with
    | @go _ e _ kk _ _ _ _ y1 y2 hsc r =>
      refine wpKp (hkx X b C D I A N s4 _ _ _ _ a J4 y1) fun kv s5 q5 => ?_
      obtain ⟨t, rfl⟩ := q5.2.int'
      refine wpKp (hvx X b C D I A N s5 _ _ _ _ a (J4.step q5.1) y2) fun vv s6 q6 => ?_
      have k6 := q5.1.trans q6.1
      have P1 := putZ_at (k := kk) (P := fun _ => False) (h := s6.heap) (q6.2.scalar hsc) (z3.mono (h' := s6.heap) (P' := fun _ => False) fun a o p e => p.elim)
      rw [z2] at P1
      refine wpAny_dictSet_pairs (hsz := Nat.le_trans (Nat.le_trans hl (Nat.le_trans (Nat.le_of_succ_le hlt) hlen)) (show 1000000 ≤ sizeLine by decide)) (PySem.intKind_is prog w kk t) (dictOf_at acc fun _ e => k6.get e) fun h7 hl7 hs7 => ?_
      exact fin s6 h7 (s6.toks + 1) (stored ys kk vv) k6 (fun b o n1 e => (hs7.2 b n1).trans e) (Nat.le_succ _) hl7 (stored_length_le ys kk vv) ⟨_, r, P1.1, P1.2⟩
  · intro D C s' vs m hD dD dC hDC nsC oD hH hsh hkp htk
    refine ⟨m, nsC, fun h' hs' => ?_⟩
    obtain ⟨acc, z1, z2, z3⟩ := hH
    rw [List.drop_length] at z1
    cases z1
    have nsys : (D == sysModules) = false := by rw [← hD]; exact sys_ne (J.step k2).world
    exact ⟨comp_kp k2 hsh hs' dC hd hkp htk, .dctI (vw_dead J true D (k2.alive dD)) nsys (dictOf_at oD fun o e => (hs'.2 D hDC).trans e) z2 (z3.mono fun a o p e => p.elim)⟩
theorem pair_tree {env : Env} {ke ve : Expr} {pos : Pos} : (evalEachOpt [some ke] env).zip ((evalEach [ve] env).map fun v => do let x ← v; standAt pos; pure x) = [(eval ke env, do let x ← eval ve env; standAt pos; pure x)].map fun p => (some p.1, p.2) := rfl
inductive cDict1 (f g : Ev) (σ : St) : D → Bool → Prop
  | mk {k : Int} {e : D} {b c : Bool} (h1 : f σ (.int k) b) (h2 : g σ e c) (hs : e.scalar = true) : cDict1 f g σ (.dctI [k] [e]) true
theorem ev_dict1 {ke ve : Expr} {pos : Pos} {f g : Ev} (hf : EvOk prog w K fr k ke f) (hg : EvOk prog w K fr k ve g) : EvOk prog w K fr k (.Dict [some ke] [ve] pos) (cDict1 f g) := by
  rintro A E s σ X _ _ a J ⟨h1, h2, hsc⟩
  rename_i kk _ _ _
  refine wpAny_Dict_pairs (knd := PySem.intKind prog w) (pairs := [(eval ke fr.env, do let x ← eval ve fr.env; standAt pos; pure x)]) pair_tree (by simp) (by simp) ?_
  have k0 : Kp s { s with heap := s.heap.push { cls := .type "dict", data := .dict #[] } } := kp_push _
  have o0 : (s.heap.push { cls := .type "dict", data := .dict #[] }).DictOf (PySem.intKind prog w) s.heap.objs.size [] := Heap.DictOf.new s.heap
  refine evalPairs_cons (wpKp (hf A E _ σ X _ _ a (J.step k0) h1) fun kv s1 q1 => wpAny_bind (wpKp (hg A E s1 σ X _ _ a ((J.step k0).step q1.1) h2) fun vv s2 q2 => wpAny_bind (wpAny_standAt (wpAny_pure (evalPairs_nil ?_)))))
  obtain ⟨t, rfl⟩ := q1.2.int'
  have k2 := k0.trans (q1.1.trans q2.1)
  refine ⟨[(kk, vv)], ⟨PySem.intKind_is prog w kk t, rfl, trivial⟩, dictOf_at o0 fun _ e => (q1.1.trans q2.1).get e, fun h' o2 hs' => ?_⟩
  have k3 : Kp s { s2 with heap := h', toks := s2.toks + [(Value.int kk t, vv)].length } := by
    obtain ⟨h2', t2, e2⟩ := k2.sh
    refine ⟨⟨h', _, by rw [e2]⟩, fun {b o} e => ?_, Nat.le_trans k2.tk (Nat.le_add_right _ _)⟩
    exact (hs'.2 b (fun z => by rw [z, dead_size] at e; cases e)).trans (k2.get e)
  exact ⟨k3, .dctI (vw_dead J true _ (dead_size _)) (sys_ne J.world) o2 rfl (.cons (q2.2.scalar hsc) .nil)⟩
inductive xNew (i : Nat) (σ : St) : Fl → St → Prop
  | mk : xNew i σ .next (σ.set i (some (.ownI [] [])))
theorem x_new {i : Nat} {x : Str} {kd : NameKind} {px pd pos : Pos} (hi : fr.env.scope.names[i]? = some (x, kd)) (hkd : kindOk fr x kd)
    (hs : swapsWith (.Dict [] [] pd) (some (.Name x px)) pos.line fr.env = pure false) : ExOk prog w K fr k (.Assign [.Name x px] (.Dict [] [] pd) pos) (xNew i) := by
  rintro A E s σ X _ _ a J ⟨⟩
  refine wpAny_Assign_Name (wpAny_Dict_empty ?_) hs
  have k0 : Kp s { s with heap := s.heap.push { cls := .type "dict", data := .dict #[] } } := kp_push _
  have o0 : (s.heap.push { cls := .type "dict", data := .dict #[] }).DictOf (PySem.intKind prog w) s.heap.objs.size [] := Heap.DictOf.new s.heap
  refine wpKp (store_var (mv := .ownI [] []) J k0 hi hkd (Y := [s.heap.objs.size]) (by intro c hc; rw [List.mem_singleton.mp hc]; exact ⟨dead_size _, _, Heap.get?_push_size _ rfl⟩) ⟨_, [], rfl, rfl, sys_ne J.world, o0, rfl, .nil⟩) fun _ s2 q2 => ?_
  obtain ⟨X2, t2, I2⟩ := q2
  exact ⟨X2, t2, I2, rfl⟩
theorem dict1_wp {A : Around} {E : Value → Shared → Prop} {s : Shared} {KK : Type} [DecidableEq KK] {knd : KeyKind prog w KK} {env : Env} {ke ve : Expr} {pos : Pos} {Q : Value → Shared → Prop}
    (h : wpAny (model prog w) A (eval ke env) (fun kv s1 => wpAny (model prog w) A (eval ve env) (fun vv s2 => ∃ k, knd.is k kv = true ∧ s2.heap.DictOf knd s.heap.objs.size [] ∧
      ∀ h', h'.DictOf knd s.heap.objs.size [(k, vv)] → Heap.SameBut s.heap.objs.size s2.heap h' → Q (.ref s.heap.objs.size) { s2 with heap := h', toks := s2.toks + 1 }) E s1) E { s with heap := s.heap.push { cls := .type "dict", data := .dict #[] } }) :
    wpAny (model prog w) A (eval (.Dict [some ke] [ve] pos) env) Q E s := by
  refine wpAny_Dict_pairs (knd := knd) (pairs := [(eval ke env, do let x ← eval ve env; standAt pos; pure x)]) pair_tree (by simp) (by simp) ?_
  refine evalPairs_cons (wpKp h fun kv s1 q1 => wpAny_bind (wpKp q1 fun vv s2 q2 => wpAny_bind (wpAny_standAt (wpAny_pure (evalPairs_nil ?_)))))
  obtain ⟨kk, e1, e2, e3⟩ := q2
  exact ⟨[(kk, vv)], ⟨e1, rfl, trivial⟩, e2, fun h' o2 hs' => e3 h' o2 hs'⟩
inductive xNewS (i : Nat) (y : Str) (σ : St) : Fl → St → Prop
  | mk : xNewS i y σ .next (σ.set i (some (.ownS [y] [.lst []])))
theorem x_newS {i : Nat} {x y : Str} {kd : NameKind} {px pd pc pl pos : Pos} {n : Nat} (hi : fr.env.scope.names[i]? = some (x, kd)) (hkd : kindOk fr x kd)
    (hs : swapsWith (.Dict [some (.Constant (.str y) n pc)] [.List [] pl] pd) (some (.Name x px)) pos.line fr.env = pure false) : ExOk prog w K fr k (.Assign [.Name x px] (.Dict [some (.Constant (.str y) n pc)] [.List [] pl] pd) pos) (xNewS i y) := by
  rintro A E s σ X _ _ a J ⟨⟩
  generalize hv : Expr.Dict [some (.Constant (.str y) n pc)] [.List [] pl] pd = value at hs ⊢
  refine wpAny_Assign_Name ?_ hs
  subst hv
  have o0 : (s.heap.push { cls := .type "dict", data := .dict #[] }).DictOf (PySem.strKind prog w) s.heap.objs.size [] := Heap.DictOf.new s.heap
  refine dict1_wp (knd := PySem.strKind prog w) ?_
  refine wpAny_Constant_str ?_
  refine wpAny_List (wpAny_items_nil ⟨Nat.zero_le _, ?_⟩)
  generalize hH : s.heap.push { cls := .type "dict", data := .dict #[] } = H1 at o0 ⊢
  have hsz : H1.objs.size = s.heap.objs.size + 1 := by rw [← hH, Heap.size_push]
  have k1 : ∀ b o, s.heap.get? b = some o → H1.get? b = some o := fun b o e => by rw [← hH]; exact Heap.get?_push_of_some _ e
  refine ⟨y, PySem.strKind_is prog w y s.toks, o0.push _, fun h' o2 hs' => ?_⟩
  have kk : Kp s { s with heap := h', toks := s.toks + 1 + 1 } :=
    .mk' _ fun b o e => (hs'.2 b (fun z => by rw [z, dead_size] at e; cases e)).trans (Heap.get?_push_of_some _ (k1 b o e))
  have ne : H1.objs.size ≠ s.heap.objs.size := by rw [hsz]; exact Nat.succ_ne_self _
  have dl : s.heap.get? H1.objs.size = none := by
    cases e : s.heap.get? H1.objs.size with
    | none => rfl
    | some o => have := Heap.lt_size (k1 _ _ e); exact absurd this (Nat.lt_irrefl _)
  have ol : h'.get? H1.objs.size = some (lstO [] 0) := (hs'.2 _ ne).trans (Heap.get?_push_size _ rfl)
  refine wpKp (store_var (mv := .ownS [y] [.lst []]) J kk hi hkd (Y := [s.heap.objs.size]) (by intro c hc; rw [List.mem_singleton.mp hc]; exact ⟨dead_size _, let ⟨o, _, _, e, _⟩ := o2; ⟨o, e⟩⟩)
    ⟨_, [(y, .ref H1.objs.size)], rfl, rfl, sys_ne J.world, o2, rfl, .cons (.lst (vs := []) ⟨vw_dead J true _ dl, by simpa using ne⟩ ol .nil) .nil⟩) fun _ s2 q2 => ?_
  obtain ⟨X2, t2, I2⟩ := q2
  exact ⟨X2, t2, I2, rfl⟩
end
inductive forI (i j : Nat) (body : Ex) : List (Int × D) → Ex
  | nil {σ : St} : forI i j body [] σ .next σ
  | go {σ σ' σ2 : St} {p : Int × D} {ds : List (Int × D)} {fl fl2 : Fl} (h : body ((σ.set i (some (.froz (.int p.1)))).set j (some (.froz p.2))) fl σ') (hf : fl = .next ∨ fl = .cont) (h2 : forI i j body ds σ' fl2 σ2) : forI i j body (p :: ds) σ fl2 σ2
  | brk {σ σ' : St} {p : Int × D} {ds : List (Int × D)} (h : body ((σ.set i (some (.froz (.int p.1)))).set j (some (.froz p.2))) .brk σ') : forI i j body (p :: ds) σ .next σ'
  | ret {σ σ' : St} {p : Int × D} {v : D} {ds : List (Int × D)} (h : body ((σ.set i (some (.froz (.int p.1)))).set j (some (.froz p.2))) (.ret v) σ') : forI i j body (p :: ds) σ (.ret v) σ'
theorem forI.inv {i j : Nat} {body : Ex} {p : Int × D} {ds : List (Int × D)} {σ σ2 : St} {fl2 : Fl} (h : forI i j body (p :: ds) σ fl2 σ2) :
    ∃ fl σ', body ((σ.set i (some (.froz (.int p.1)))).set j (some (.froz p.2))) fl σ' ∧ FlGo fl fl2 σ' σ2 (forI i j body ds σ' fl2 σ2) := by
  cases h with
  | go h hf h2 => exact ⟨_, _, h, .go hf h2⟩
  | brk h => exact ⟨_, _, h, .brk⟩
  | ret h => exact ⟨_, _, h, .ret⟩
inductive xItems (i j : Nat) (f : Ev) (body : Ex) (σ : St) : Fl → St → Prop
  | mk {ks : List Int} {vs : List D} {fl : Fl} {σ' : St} (h : f σ (.dctI ks vs) true) (h2 : forI i j body (ks.zip vs) σ fl σ') : xItems i j f body σ fl σ'
section
variable {prog : Program} {w : World} {K : Frag} {fr : Fm} {k : Nat}
theorem zip_at {h : Heap} {P : Addr → Prop} {kvs : List (Int × Value)} {vs : List D} {i : Nat} {k : Int} {v : Value} (r : IsL prog w h P (kvs.map (·.2)) vs) (e : kvs[i]? = some (k, v)) : ∃ d, ((kvs.map (·.1)).zip vs)[i]? = some (k, d) ∧ Is prog w h P v d := by
  obtain ⟨d, hd, x⟩ := r.get' (i := i) (v := v) (by rw [List.getElem?_map, e]; rfl)
  exact ⟨d, List.getElem?_zip_eq_some.mpr ⟨by rw [List.getElem?_map, e]; rfl, hd⟩, x⟩
variable (prog w K fr) in
structure ItemSt (X : Nat → List Addr) (s : Shared) (I da : Addr) (kvs : List (Int × Value)) (ep : Nat) (vs : List D) (l : Nat) (σj : Mine.St) (Xj : Nat → List Addr) (s' : Shared) : Prop where
  sj : Step fr X s Xj s'
  J : Inv prog w K fr σj Xj s'
  it : ∃ ok ov, IsItemIter s'.heap I da l kvs.length ep ok ov
  d : s'.heap.DictAt (PySem.intKind prog w) da kvs ep
  v : IsL prog w s'.heap (Sf fr Xj) (kvs.map (·.2)) vs
  p : Sf fr Xj da
  off : ∀ l, I ∉ Xj l
theorem x_items {i j : Nat} {x y : Str} {kx ky : NameKind} {px py tp apos cpos pos : Pos} {n1 : Nat} {o : Expr} {body : List Stmt} {g : Ev} {f : Ex} (hg : EvOk prog w K fr k o g) (hf : ExsOk prog w K fr k body f) (hi : fr.env.scope.names[i]? = some (x, kx)) (hkx : kindOk fr x kx) (hj : fr.env.scope.names[j]? = some (y, ky)) (hky : kindOk fr y ky)
    (hbase : attributeBase o (Str.ofString "items") fr.env (eval o fr.env) = eval o fr.env) (hline : (apos.endLine == cpos.line) = true)
    (hs : ∀ x, foldedSetIterable (.Call (.Attribute o (Str.ofString "items") apos) [] [] cpos) fr.env x = pure x) :
    ExOk prog w K fr k (.For (.Tuple [.Name x px, .Name y py] n1 tp) (.Call (.Attribute o (Str.ofString "items") apos) [] [] cpos) body [] pos) (xItems i j g f) := by
  rintro A E s σ X fl σ9 a J ⟨h1, h⟩
  rename_i ks vs
  refine hideQ fun Q hQ => wpAny_For ?_ hs
  refine wpAny_Call_method (T := "dict") (id := "dict.items") hbase rfl hline F.plainAttrs_dict F.slot_dict_items F.type_dict_items (wpKp (hg A E s σ X _ _ a J h1) fun xv s1 q => ?_)
  obtain ⟨q0, q⟩ := q
  obtain ⟨da, kvs, rfl, pl, z, o1, rfl, rr⟩ := q.dctI'
  refine ⟨o1.typeIs, fun _ h => (by cases h; exact dictOf_plain o1), ?_⟩
  show wpAny _ _ (callWith cpos (.builtin "dict.items") [.ref da] [] []) _ _ _
  refine method_meetsIn F.slot_dict_items F.entry_dict_items rfl (PySem.evalArgs_none ⟨rfl, o1.typeIs, F.args_dict_items_1 _, _, meets_dict_items (PySem.intKind prog w) da z, ⟨kvs, o1⟩, ?_⟩)
  obtain ⟨ep, dat⟩ := o1.dictAt
  have d1 := dat.push { cls := .type "dict_items", data := .fields #[.ref da] }
  refine wpAny_pyIter_items (v := s1.heap.objs.size) ⟨_, Heap.get?_push_size _ rfl, rfl, rfl⟩ d1 (hideR fun R hR => ?_)
  have kk : Kp s1 { s1 with heap := (s1.heap.push { cls := .type "dict_items", data := .fields #[.ref da] }).push { cls := .type "dict_itemiterator", data := .fields #[.none, .bool false, .ref da, .int 0 0, .int kvs.length 0, .int ep 0, .none, .none] } } :=
    .mk' _ fun b o e => Heap.get?_push_of_some _ (Heap.get?_push_of_some _ e)
  have it0 : IsItemIter ((s1.heap.push { cls := .type "dict_items", data := .fields #[.ref da] }).push { cls := .type "dict_itemiterator", data := .fields #[.none, .bool false, .ref da, .int 0 0, .int kvs.length 0, .int ep 0, .none, .none] }) (s1.heap.push { cls := .type "dict_items", data := .fields #[.ref da] }).objs.size da 0 kvs.length ep .none .none := Heap.get?_push_size _ rfl
  have dI1 : s1.heap.get? (s1.heap.push { cls := .type "dict_items", data := .fields #[.ref da] }).objs.size = none := by
    cases e : s1.heap.get? (s1.heap.push { cls := .type "dict_items", data := .fields #[.ref da] }).objs.size with
    | none => rfl
    | some o => exact absurd (Heap.lt_size (Heap.get?_push_of_some { cls := .type "dict_items", data := .fields #[.ref da] } e)) (Nat.lt_irrefl _)
  have dat2 := d1.push { cls := .type "dict_itemiterator", data := .fields #[.none, .bool false, .ref da, .int 0 0, .int kvs.length 0, .int ep 0, .none, .none] }
  generalize (s1.heap.push { cls := .type "dict_items", data := .fields #[.ref da] }).objs.size = I at it0 dI1 ⊢
  generalize (s1.heap.push { cls := .type "dict_items", data := .fields #[.ref da] }).push { cls := .type "dict_itemiterator", data := .fields #[.none, .bool false, .ref da, .int 0 0, .int kvs.length 0, .int ep 0, .none, .none] } = H2 at it0 kk dat2 ⊢
  clear d1 o1
  have hd := q0.alive dI1
  have IP : fr.P I := J.dead I hd
  have IE : ¬ fr.ex I := fun z => by obtain ⟨o, e⟩ := J.exl I z; rw [hd] at e; cases e
  have IX : ∀ j, I ∉ X j := fun j hj => by
    obtain ⟨_, _, ⟨o, e⟩, _⟩ := J.own j I hj
    rw [hd] at e; cases e
  have Ihe : fr.he.get? I = none := by
    cases q : fr.he.get? I with
    | none => rfl
    | some o => rw [J.keeps _ _ q] at hd; cases hd
  have IL : I ≠ fr.env.locals := fun z => J.pL (z ▸ IP)
  have IC : ∀ p ∈ fr.env.cells, I ≠ p.2 := fun p hp z => J.pC p hp (z ▸ IP)
  have hdi : da ≠ I := fun z => by obtain ⟨o, _, e, _⟩ := dat; rw [z, dI1] at e; cases e
  have len : ((kvs.map (·.1)).zip vs).length = kvs.length := by
    rw [List.length_zip, ← rr.length, List.length_map, List.length_map, Nat.min_self]
  obtain ⟨LI, mkI, useI⟩ : ∃ LI : Nat → Shared → Prop, (∀ l σj Xj s', l ≤ kvs.length → ItemSt prog w K fr X s I da kvs ep vs l σj Xj s' → forI i j f (((kvs.map (·.1)).zip vs).drop l) σj fl σ9 → LI (kvs.length + 1 - l) s') ∧
      ∀ n s', LI n s' → ∃ l σj Xj, n = kvs.length + 1 - l ∧ l ≤ kvs.length ∧ ItemSt prog w K fr X s I da kvs ep vs l σj Xj s' ∧ forI i j f (((kvs.map (·.1)).zip vs).drop l) σj fl σ9 :=
    ⟨fun n s' => ∃ l σj Xj, n = kvs.length + 1 - l ∧ l ≤ kvs.length ∧ ItemSt prog w K fr X s I da kvs ep vs l σj Xj s' ∧ forI i j f (((kvs.map (·.1)).zip vs).drop l) σj fl σ9, fun l σj Xj s' h1 h2 h3 => ⟨l, σj, Xj, rfl, h1, h2, h3⟩, fun _ _ h => h⟩
  refine codeAny_forLoop_any LI ?_ _ (mkI 0 σ X _ (Nat.zero_le _) ⟨.of_keeps (q0.trans kk), J.step (q0.trans kk), ⟨_, _, it0⟩, dat2, rr.keeps kk, pl, IX⟩ h)
  clear it0 kk dat2 dat h h1 rr pl q0 J
  intro n s' hLI
  obtain ⟨l, σj, Xj, rfl, hl, S, hr⟩ := useI n s' hLI
  obtain ⟨ok, ov, itj⟩ := S.it
  have kI : itK { cls := .type "dict_itemiterator", dict := none, data := .fields #[.none, .bool false, .ref da, .int l 0, .int kvs.length 0, .int ep 0, ok, ov], slots := #[] } := ⟨_, rfl⟩
  cases hv : kvs[l]? with
  | none =>
    refine wpAny_pyNext_items_end a.hd itj S.d hv fun h1 he1 => wpAny_execs_nil ?_
    rw [List.drop_eq_nil_of_le (by rw [len]; simpa using hv)] at hr
    cases hr
    exact hR _ _ (hQ _ _ ⟨Xj, S.sj.onI hd he1 (Nat.le_refl _), S.J.stepI itj kI he1 IP IE IL IC S.off Ihe (Nat.le_refl _), rfl⟩)
  | some kv =>
    obtain ⟨kk, v⟩ := kv
    have hlt : l < kvs.length := (List.getElem?_eq_some_iff.mp hv).1
    refine wpAny_pyNext_items_item itj S.d hv fun key h1 hkey heo ht1 hz1 hk1 => ?_
    refine wpAny_letOwnedTupleGo_items heo fun h2 he2 hs2 => ?_
    have hk2 : ∀ b o, b ≠ I → s'.heap.get? b = some o → h2.get? b = some o := fun b o ne e => (hs2.2 b ne).trans (hk1 b o ne e)
    have J1 := S.J.stepI (h' := h2) (tk := s'.toks) itj kI hk2 IP IE IL IC S.off Ihe (Nat.le_refl _)
    have s1' : Step fr X s Xj { s' with heap := h2, toks := s'.toks } := S.sj.onI hd hk2 (Nat.le_refl _)
    have v1 : IsL prog w h2 (Sf fr Xj) (kvs.map (·.2)) vs := S.v.onI itj kI hk2
    have hIne : s'.heap.objs.size ≠ I := fun z => by have := Heap.lt_size itj; rw [z] at this; exact absurd this (Nat.lt_irrefl _)
    obtain ⟨t, rfl⟩ := Value.isInt_shape hkey
    obtain ⟨d, hd1, zv⟩ := zip_at v1 hv
    have hdr : ((kvs.map (·.1)).zip vs).drop l = (kk, d) :: ((kvs.map (·.1)).zip vs).drop (l + 1) := by
      obtain ⟨z, e⟩ := List.getElem?_eq_some_iff.mp hd1
      rw [List.drop_eq_getElem_cons z, e]
    rw [hdr] at hr
    refine wpAny_assign_Tuple a.hd ⟨_, (hs2.2 _ hIne).trans ht1, rfl, _, rfl⟩ rfl rfl fun h3 hx3 => ?_
    have k3 : Kp { s' with heap := h2, toks := s'.toks } { s' with heap := h3 } := .mk' _ fun b o e => hx3 b o (Nat.ne_of_lt (Heap.lt_size e)) e
    refine wpKp (tgs_store _ (is := [i, j]) ⟨tg_name hi hkx, tg_name hj hky, trivial⟩ (J1.step k3) (vs := [.int kk t, v]) (ds := [.int kk, d]) (.cons (.int _ _) (.cons (zv.keeps k3) .nil)) rfl) fun _ s4 q4 => ?_
    obtain ⟨X4, t4, J4⟩ := q4
    have t34 := (Step.of_keeps (fr := fr) (X := Xj) k3).trans t4
    obtain ⟨fl1, σ5, hr1, hr2⟩ := hr.inv
    refine wpKp (hf A _ s4 _ X4 _ _ a J4 hr1) fun w5 s5 q5 => ?_
    obtain ⟨X5, t5, J5, q5⟩ := q5
    have t35 := t34.trans t5
    have S5 : ItemSt prog w K fr X s I da kvs ep vs (l + 1) σ5 X5 s5 := by
      obtain ⟨od, eso, ed, rd⟩ := S.d
      have pd := J1.sf_step t35 da od S.p (hk2 _ _ hdi ed)
      refine ⟨s1'.trans t35, J5, ⟨_, _, t35.kp I _ he2 IL IC S.off⟩, ⟨od, eso, pd.2, rd⟩, v1.step J1 t35, pd.1, fun m hm => ?_⟩
      rcases t35.sub m I hm with ⟨m', hm'⟩ | hd'
      · exact S.off m' hm'
      · rw [show h2.get? I = some _ from he2] at hd'; cases hd'
    exact q5.go (R := fun f => R (.ok f) s5) hr2 (fun h => ⟨_, dec_lt hlt, mkI _ _ X5 s5 hlt S5 h⟩) (fun w5 q e => hR _ _ (hQ _ _ ⟨X5, S5.sj, e ▸ J5, q⟩))
end
theorem isStr_str (x n : Str) (t : Tok) : (Value.str n t).isStr x = decide (n = x) := by
  show (n == x) = _
  by_cases h : n = x
  · simp [h]
  · simp [h]
theorem putL_get (name : Str) (hs : Int) (tok : Tok) (v : Value) (x : Str) : ∀ es : List DictEntry, (∀ e ∈ es, ∃ (n : Str) (t : Tok), e.key = .str n t) →
    ((putL name hs (.str name tok) v es).find? (·.key.isStr x)).map (·.val) = if x = name then some v else (es.find? (·.key.isStr x)).map (·.val)
  | [], _ => by
    unfold putL
    simp only [List.find?_cons, isStr_str, List.find?_nil]
    by_cases h : x = name
    · subst h; simp
    · have : ¬ name = x := fun e => h e.symm
      simp [h, this]
  | e :: r, he => by
    obtain ⟨n, t, hk⟩ := he e (.head _)
    have ih := putL_get name hs tok v x r fun e h => he e (.tail _ h)
    unfold putL
    rw [hk, isStr_str]
    by_cases h1 : n = name
    · subst h1
      simp only [decide_true, if_true, List.find?_cons, isStr_str, hk]
      by_cases h : x = n
      · subst h; simp
      · have : ¬ n = x := fun e => h e.symm
        simp [h, this]
    · simp only [h1, decide_false, Bool.false_eq_true, if_false, List.find?_cons, hk, isStr_str]
      by_cases h : n = x
      · subst h
        simp [h1]
      · simp only [h, decide_false]
        exact ih
theorem putL_keys (name : Str) (hs : Int) (tok : Tok) (v : Value) : ∀ es : List DictEntry, (∀ e ∈ es, ∃ (n : Str) (t : Tok), e.key = .str n t) → ∀ e ∈ putL name hs (.str name tok) v es, ∃ (n : Str) (t : Tok), e.key = .str n t
  | [], _, e, h => by
    unfold putL at h
    rw [List.mem_singleton.mp h]; exact ⟨_, _, rfl⟩
  | e0 :: r, he, e, h => by
    unfold putL at h
    split at h
    · rcases List.mem_cons.mp h with rfl | h
      · exact he e0 (.head _)
      · exact he e (.tail _ h)
    · rcases List.mem_cons.mp h with rfl | h
      · exact he _ (.head _)
      · exact putL_keys name hs tok v r (fun e h => he e (.tail _ h)) e h
theorem putL_len (name : Str) (hs : Int) (key v : Value) : ∀ es : List DictEntry, (putL name hs key v es).length ≤ es.length + 1
  | [] => Nat.le_refl _
  | e0 :: r => by
    unfold putL
    split
    · simp
    · simp only [List.length_cons]; have := putL_len name hs key v r; lia
theorem look_ins {h : Heap} {dx : Addr} {kvs : List (Str × Value)} {es : List DictEntry} {n : Nat} (k : ∀ e ∈ es, ∃ (n : Str) (t : Tok), e.key = .str n t) (g : ∀ x : Str, (es.find? (·.key.isStr x)).map (·.val) = valueAt kvs x) (name : Str) : lookIn name (dictOf es n) = some (valueAt kvs name) := by
  rw [lookIn_dict]
  unfold getL
  have g := g name
  cases q : es.find? (·.key.isStr name) with
  | some e => rw [q] at g; simp only; rw [← g]; rfl
  | none =>
    rw [q] at g
    simp only
    have : es.any (·.refKey) = false := by
      rw [List.any_eq_false]
      intro e he
      obtain ⟨n, t, hk⟩ := k e he
      simp [DictEntry.refKey, hk]
    rw [this, ← g]; rfl
section
variable {prog : Program} {w : World} {K : Frag} {fr : Fm} {k : Nat}
variable (K) in
structure CtxG (C : Addr) (name : Str) : Prop where
  get : findIn K (.ref C) "__getattribute__" = some (some (.builtin "object.__getattribute__"))
  has : hasDictIn K C = true
  no : findIn K (.ref C) name = some none
theorem val_s {h : Heap} {P : Addr → Prop} {k : Str} {kvs : List (Str × Value)} {vs : List D} {d : D} (r : IsL prog w h P (kvs.map (·.2)) vs) (e : valS (kvs.map (·.1)) vs k = some d) : ∃ v, valueAt kvs k = some v ∧ Is prog w h P v d := by
  rcases valS_at (k := k) r with ⟨a, _⟩ | ⟨d', v', a, b, c⟩
  · rw [a] at e; cases e
  · rw [a] at e; cases e; exact ⟨v', b, c⟩
theorem Is.handed {h : Heap} {P : Addr → Prop} {v : Value} {d : D} (x : Is prog w h P v d) : handedIn v = true := by cases x <;> rfl
theorem get_ins {A : Around} {E : Value → Shared → Prop} {s : Shared} {P : Addr → Prop} {C x dx : Addr} {kvs : List (Str × Value)} {vs : List D} {name : Str} {d : D} {expr : Bool} (X : K.In s.heap) (G : CtxG K C name) (o : s.heap.get? x = some (insO C dx)) (od : InsOf s.heap dx kvs) (r : IsL prog w s.heap P (kvs.map (·.2)) vs) (e : valS (kvs.map (·.1)) vs name = some d) :
    wpAny (model prog w) A (getAttr (.ref x) name expr) (fun v s' => Kp s s' ∧ Is prog w s'.heap P v d) E s := by
  obtain ⟨v, e1, z⟩ := val_s r e
  obtain ⟨es, n, g, gk, gf, gl⟩ := od
  exact get_value X (od := some (dictOf es n)) ⟨o, rfl, rfl, g⟩ G.get (findObj_own G.has G.no rfl (by rw [look_ins (h := s.heap) (dx := dx) gk gf, e1])) z.handed ⟨.toks _, z⟩
inductive cAttrC (C : Addr) (i : Nat) (name : Str) (σ : St) : D → Bool → Prop
  | froz {ks : List Str} {vs : List D} {d : D} (h : σ[i]? = some (some (.froz (.inst C ks vs)))) (e : valS ks vs name = some d) : cAttrC C i name σ d true
  | own {ks : List Str} {vs : List D} {d : D} (h : σ[i]? = some (some (.ownW C ks vs))) (e : valS ks vs name = some d) : cAttrC C i name σ d true
theorem ev_attr {C : Addr} {i : Nat} {x name : Str} {kd : NameKind} {px pos : Pos} (hi : fr.env.scope.names[i]? = some (x, kd)) (hd : (x == ("__debug__" : Str)) = false) (G : CtxG K C name) : EvOk prog w K fr k (.Attribute (.Name x px) name pos) (cAttrC C i name) := by
  rintro A E s σ X d _ a I h
  have main : ∀ v, VarAt s.heap fr.env x kd v → ∀ {y dx : Addr} {kvs : List (Str × Value)} {vs : List D}, v = .ref y → s.heap.get? y = some (insO C dx) → InsOf s.heap dx kvs → IsL prog w s.heap (Sf fr X) (kvs.map (·.2)) vs → valS (kvs.map (·.1)) vs name = some d →
      wpAny (model prog w) A (eval (.Attribute (.Name x px) name pos) fr.env) (EvQ prog w fr X s d true) E s := by
    rintro v e2 y dx kvs vs rfl o od rr e4
    rw [arm_eval_Attribute]
    refine wpAny_bind (show wpAny _ _ (eval (.Name x px) fr.env) _ _ _ from wpAny_Name (load_var I.hk (lookup_at I.nd hi) e2 ?_) hd)
    refine wpAny_bind (wpAny_standAt ?_)
    refine wpAny_bind (wpAny_holding (wpKp (get_ins I.world.k G o od rr e4) fun v s' q => ?_))
    exact wpAny_bind (wpAny_pure (wpAny_pure q))
  cases h with
  | froz e e4 =>
    obtain ⟨x', kd', v, a1, b, c⟩ := I.vars i _ e
    rw [hi] at a1; cases a1
    obtain ⟨y, dx, kvs, rfl, p, q, o, od, rfl, rr⟩ := c.2.inst'
    exact main _ b rfl o od rr e4
  | own e e4 =>
    obtain ⟨x', kd', v, a1, b, c⟩ := I.vars i _ e
    rw [hi] at a1; cases a1
    obtain ⟨y, dx, kvs, _, _, rfl, o, od, rfl, rr⟩ := c
    exact main _ b rfl o od rr e4
variable (K) in
structure CtxS (C : Addr) (name : Str) : Prop where
  set : findIn K (.ref C) "__setattr__" = some (some (.builtin "object.__setattr__"))
  over : plainOver K C = true
  taker : takerIn K C name = some none
  has : hasDictIn K C = true
theorem set_ins {A : Around} {E : Value → Shared → Prop} {s : Shared} {C x dx : Addr} {kvs : List (Str × Value)} {name : Str} {v : Value} {Q : Unit → Shared → Prop} (X : K.In s.heap) (G : CtxS K C name) (o : s.heap.get? x = some (insO C dx)) (od : InsOf s.heap dx kvs) (hl : kvs.length ≤ 900)
    (h : ∀ h', Heap.SameBut dx s.heap h' → InsOf h' dx ((name, v) :: kvs) → Q () { s with heap := h', toks := s.toks + 2 }) : wpAny (model prog w) A (setAttr (.ref x) name v) Q E s := by
  obtain ⟨es, n, g, gk, gf, gl⟩ := od
  have I : InstAt s.heap x (insO C dx) C (some (dictOf es n)) := ⟨o, rfl, rfl, g⟩
  refine set_plain X I G.set (osa_open (s := { s with toks := s.toks + 1 }) X I G.over G.taker fun b => ?_)
  obtain ⟨cd, hc, hd'⟩ := any_some G.has
  have hx : s.heap.get? x = some ⟨.ref C, some dx, .plain, #[]⟩ := o
  refine wpAny_bind (wpAny_pure (wpAny_bind (wpAny_bind (wpAny_loadPart hx (wpAny_bind (Looks.here (s := { s with toks := s.toks + 1 }) (looks_clsIn X hc) ?_))))))
  rw [hd']
  refine wpAny_pure (a := some dx) (wpAny_bind (wpAny_pure (wpAny_bind ?_)))
  unfold nsSet
  refine wpAny_bind (wpAny_bind (wpAny_askSetting (wpAny_pure (wpAny_bind (wpAny_mkText (wpAny_bind (wpAny_loadPart g ?_)))))))
  have c : (!es.toArray.any (·.key.isStr name) && es.toArray.any (·.refKey)) = false := by
    rw [Bool.and_eq_false_iff]; right
    rw [Array.any_eq_false']
    intro e he
    obtain ⟨n, t, hk⟩ := gk e (by simpa using he)
    simp [DictEntry.refKey, hk]
  dsimp only
  rw [aRefKeyMayBeTheName_at, c]
  refine wpAny_updatePart g ?_
  have D' : (s.heap.update dx (Obj.putName name (PyData.keyHash w.params name) (.str name (s.toks + 1)) v)).get? dx = some (dictOf (putL name (PyData.keyHash w.params name) (.str name (s.toks + 1)) v es) (putN name es n)) := by
    have := Heap.get?_update_self (h := s.heap) (a := dx) (Obj.putName name (PyData.keyHash w.params name) (.str name (s.toks + 1)) v) g (by rw [putName_dict]; rfl)
    rw [putName_dict] at this
    exact this
  have hlen : (putL name (PyData.keyHash w.params name) (.str name (s.toks + 1)) v es).length ≤ kvs.length + 1 := Nat.le_trans (putL_len _ _ _ _ _) (by lia)
  refine wpAny_bind (wpAny_lookBehind D' (pastItsLine_dict (by rw [List.size_toArray, sizeLine_eq]; lia)) ?_)
  refine wpAny_pure (h _ (Heap.SameBut.update ..) ⟨_, _, D', putL_keys _ _ _ _ _ gk, fun y => ?_, hlen⟩)
  rw [putL_get _ _ _ _ _ _ gk]
  unfold valueAt
  rw [List.find?_cons]
  by_cases hy : y = name
  · subst hy; simp
  · have : ¬ name = y := fun e => hy e.symm
    simp only [hy, this, if_false, decide_false]
    exact gf y
end
section
variable {prog : Program} {w : World} {K : Frag} {fr : Fm} {k : Nat}
inductive xSAttr (C : Addr) (i : Nat) (name : Str) (f : Ev) (σ : St) : Fl → St → Prop
  | mk {ks : List Str} {vs : List D} {d : D} (h : f σ d true) (h2 : σ[i]? = some (some (.ownW C ks vs))) (hl : ks.length ≤ 900) : xSAttr C i name f σ .next (σ.set i (some (.ownW C (name :: ks) (d :: vs))))
theorem x_sattr {C : Addr} {i : Nat} {x name : Str} {kd : NameKind} {px pos' pos : Pos} {e : Expr} {f : Ev} (hf : EvOk prog w K fr k e f) (hi : fr.env.scope.names[i]? = some (x, kd)) (hd : (x == ("__debug__" : Str)) = false) (hw : fr.wr = true) (G : CtxS K C name)
    (hs : swapsWith e (some (.Attribute (.Name x px) name pos')) pos.line fr.env = pure false) : ExOk prog w K fr k (.Assign [.Attribute (.Name x px) name pos'] e pos) (xSAttr C i name f) := by
  rintro A E s σ X _ _ a I ⟨h1, e0, hlen⟩
  rename_i ks vs d
  obtain ⟨x', kd', v, a1, b2, c⟩ := I.vars i _ e0
  rw [hi] at a1; cases a1
  obtain ⟨y, dx, kvs, eX, ne, rfl, o, od, e3, rr⟩ := c
  refine plainObj_wpAny_Assign_Attribute (wpKp (hf A E s σ X _ _ a I h1) fun u s1 q => ?_) hs
  obtain ⟨q0, q⟩ := q
  have I1 := I.step q0
  refine wpAny_Name (load_var I.hk (lookup_at I.nd hi) (b2.keeps fun _ _ e => q0.get e) ?_) hd
  have hl : kvs.length ≤ 900 := by rw [← e3, List.length_map] at hlen; exact hlen
  refine set_ins I1.world.k G (q0.get o) (od.at fun _ e => q0.get e) hl fun h' hs' od' => ?_
  have hz : dx ∈ X i := by rw [eX]; exact .tail _ (.head _)
  have M := mutated (z := dx) (mv' := .ownW C (name :: ks) (d :: vs)) (tk := s1.toks + 2) I1 hw hi hz hs' (let ⟨o, _, _, e, _⟩ := od'.obj; ⟨o, e⟩) (b2.keeps fun _ _ e => q0.get e)
    ⟨y, dx, (name, u) :: kvs, eX, ne, rfl, (hs'.2 _ ne).trans (q0.get o), od', by rw [List.map_cons, e3], .cons (q.mono fun a o p e => ⟨p, (hs'.2 _ (fun z => p.2.2 i (z ▸ hz))).trans e⟩) ((rr.keeps q0).mono fun a o p e => ⟨p, (hs'.2 _ (fun z => p.2.2 i (z ▸ hz))).trans e⟩)⟩ (by lia)
    (fun C2 ks2 vs2 z => by exact I.anc i _ _ _ e0)
  exact ⟨X, (Step.of_keeps q0).trans M.1, M.2, rfl⟩
theorem ev_cls {C : Addr} {x name : Str} {px pos : Pos} {t : Str} {tk : Tok} {mc : Value} (hn : NmOk prog w K fr x (.ref C)) (hr : readsIn K C mc = true) (e : findCls K (.ref C) mc name = some (.val (.str t tk))) : EvOk prog w K fr k (.Attribute (.Name x px) name pos) (cK (.str t)) := by
  rintro A E s σ X _ _ a I ⟨⟩
  rw [arm_eval_Attribute]
  refine wpAny_bind (show wpAny _ _ (eval (.Name x px) fr.env) _ _ _ from hn px A E s σ X _ I ?_)
  refine wpAny_bind (wpAny_standAt (wpAny_bind (wpAny_holding (cls_value I.world.k hr e rfl ?_))))
  exact wpAny_bind (wpAny_pure (wpAny_pure ⟨.toks _, .str _ _⟩))
variable (K) in
structure CtxM (C : Addr) (name : Str) (f : Addr) : Prop where
  get : findIn K (.ref C) "__getattribute__" = some (some (.builtin "object.__getattribute__"))
  no : findIn K (.ref C) "__getattr__" = some none
  fn : findIn K (.ref C) name = some (some (.ref f))
  ty : typeIn K (.ref f) = some (.type "function")
  keep : keepIn K (.ref f) = true
inductive cMeth (C : Addr) (name : Str) (F : List D → D → Prop) (g : Ev) (h : Evs) (σ : St) : D → Bool → Prop
  | mk {ks : List Str} {vs us : List D} {d : D} {b c : Bool} (h1 : g σ (.inst C ks vs) b) (h0 : valS ks vs name = none) (h2 : h σ us c) (h3 : F (.inst C ks vs :: us) d) : cMeth C name F g h σ d ((b && c) || d.scalar)
theorem val_none {h : Heap} {P : Addr → Prop} {k : Str} {kvs : List (Str × Value)} {vs : List D} (r : IsL prog w h P (kvs.map (·.2)) vs) (e : valS (kvs.map (·.1)) vs k = none) : valueAt kvs k = none := by
  rcases valS_at (k := k) r with ⟨_, b⟩ | ⟨d', v', a, b, c⟩
  · exact b
  · rw [a] at e; cases e
theorem callWith_k {A : Around} {E : Value → Shared → Prop} {s : Shared} {fv : Value} {first : List Value} {pos : Pos} {trees : List (Bool × Sem Value)} {Q : Value → Shared → Prop} (X : K.In s.heap) (hk : keepIn K fv = true) (ht : trees.any (·.1) = false)
    (h : wpAny (model prog w) A (spliced trees) (fun vs s₁ => K.In s₁.heap ∧ wpAny (model prog w) A (call fv (first ++ vs)) Q E s₁) E s) : wpAny (model prog w) A (callWith pos fv first trees []) Q E s := by
  refine callWith_of (P := K.In) (by rw [ht]; rfl) (keeps_K hk) ?_
  cases trees with
  | nil =>
    refine PySem.evalArgs_none ⟨X, ?_⟩
    have h : wpAny (model prog w) A (pure []) (fun vs s₁ => K.In s₁.heap ∧ wpAny (model prog w) A (call fv (first ++ vs)) Q E s₁) E s := h
    intro Γ p hΓ
    exact (h Γ p hΓ).2 Γ p hΓ
  | cons t ts =>
    obtain ⟨b, t⟩ := t
    rw [List.any_cons, Bool.or_eq_false_iff] at ht
    have hb : b = false := ht.1
    subst hb
    exact evalArgs_plain h
theorem ev_meth {C f : Addr} {o : Expr} {name : Str} {apos pos : Pos} {args : List Expr} {F : List D → D → Prop} {g : Ev} {h : Evs} (hg : EvOk prog w K fr k o g) (hh : EsOk prog w K fr k pos args h) (hF : GOk prog w K k (.ref f) F) (G : CtxM K C name f)
    (hbase : attributeBase o name fr.env (eval o fr.env) = eval o fr.env)
    (hfew : ((backTo pos (starEach args fr.env)).all (fun x => !x.1) && (backToKw pos (keywordEach [] fr.env)).all (fun x => x.1.isSome)
      && decide (args.length + ([] : List Keyword).length + (if ([] : List Keyword).isEmpty then 0 else 1) < 30)) = true)
    (hline : (apos.endLine == pos.line) = true) (ht : (backTo pos (starEach args fr.env)).any (·.1) = false) : EvOk prog w K fr k (.Call (.Attribute o name apos) args [] pos) (cMeth C name F g h) := by
  rintro A E s σ X _ _ a I ⟨h1, hno, h2, h3⟩
  rw [arm_eval_Call, hbase]
  refine wpAny_bind (wpKp (hg A E s σ X _ _ a I h1) fun ov s1 q1 => wpAny_bind (wpAny_standAt ?_))
  obtain ⟨k1, x1⟩ := q1
  obtain ⟨y, dx, kvs, rfl, p, q, oo, od, e3, rr⟩ := id x1.inst'
  have I1 := I.step k1
  have hform : methodCallForm (args.length + ([] : List Keyword).length) (backTo pos (starEach args fr.env)) (backToKw pos (keywordEach [] fr.env)) = true := hfew
  have hpos : methodCallPos true o fr.env apos pos = pure pos := by unfold methodCallPos; simp [hline]
  obtain ⟨es, n, g1, gk, gf, gl⟩ := od
  have IA : InstAt s1.heap y (insO C dx) C (some (dictOf es n)) := ⟨oo, rfl, rfl, g1⟩
  subst e3
  have hsh : shadowIn (some (dictOf es n)) name = some false := by
    show (lookIn name (dictOf es n)).map _ = _
    rw [look_ins (h := s1.heap) (dx := dx) gk gf, val_none rr hno]; rfl
  unfold methodCall
  rw [hform]
  refine wpAny_bind (wpAny_holding (method_fn I1.world.k IA G.get G.no G.fn G.ty hsh ?_))
  refine wpAny_bind (wpAny_of_eq hpos ?_)
  refine callWith_k I1.world.k G.keep ht (wpKp (hh A E s1 σ X _ _ a I1 h2) fun us s2 q2 => ?_)
  obtain ⟨k2, x2, _⟩ := q2
  have I2 := I1.step k2
  exact ⟨I2.world.k, wpKp (hF A E s2 (Vw fr X _) (.ref y :: us) _ _ a I2.world I2.tk1 (vw_dead I2 _) (.cons ((x1.keeps k2).vand _) (x2.vand' _)) h3) fun v s3 q3 => ⟨(k1.trans k2).trans q3.1, q3.2.vor⟩⟩
inductive cIsi (f : Ev) (σ : St) : D → Bool → Prop
  | mk {i : Int} {b : Bool} (h : f σ (.int i) b) : cIsi f σ (.bool false) true
theorem ev_isi {e : Expr} {x y : Str} {p q pos : Pos} {f : Ev} (hx : NmOk prog w K fr x (.builtin "isinstance")) (hy : NmOk prog w K fr y (.type "tuple")) (hf : EvOk prog w K fr k e f)
    (hs : backTo pos (starEach [e, .Name y q] fr.env) = [(false, eval e fr.env), (false, eval (.Name y q) fr.env)]) : EvOk prog w K fr k (.Call (.Name x p) [e, .Name y q] [] pos) (cIsi f) := by
  rintro A E s σ X _ _ a I ⟨h1⟩
  refine wpAny_Call_Name_kw (hx p A E s σ X _ I ?_)
  rw [hs]
  refine callWith_builtin rfl (evalArgs_plain (spliced_cons (wpKp (hf A E s σ X _ _ a I h1) fun v s1 q1 => spliced_cons (hy q A E s1 σ X _ (I.step q1.1) (spliced_nil ?_)))))
  obtain ⟨k1, x1⟩ := q1
  obtain ⟨t, rfl⟩ := x1.int'
  exact IsiPair.int_tuple ⟨k1.trans (.toks _), .bool _⟩
theorem Ao.under {A : Around} {c : Code} (a : Ao (k + 1) A) (h1 : c.weight ≤ 1) (h2 : c.cUnits ≤ 40) : Ao k (A.under c) :=
  ⟨a.hd, by have := a.dp; show A.depth + c.weight + k < _; lia, by have := a.un; show A.units + c.cUnits + _ + _ < _; lia⟩
theorem tc_weight (C : Addr) (vs : List Value) (kw : List (Str × Value)) : (Code.builtin "type.__call__" ⟨.ref C :: vs, kw⟩).weight = 1 := by kernel_rfl
theorem tc_units (args : Args) : (Code.builtin "type.__call__" args).cUnits = 1 := by kernel_rfl
inductive xInit (C : Addr) (params : List Str) (names : List (Str × NameKind)) (body : Ex) : List D → D → Prop
  | mk {ds vs : List D} {ks : List Str} {σ' : Mine.St} (hl : ds.length + 1 = params.length) (h : body ((inits names (params.tail.zip ds)).set 0 (some (.ownW C [] []))) .next σ') (h2 : σ'[0]? = some (some (.ownW C ks vs))) : xInit C params names body ds (.inst C ks vs)
theorem cls_ok {C f : Addr} {fd : FuncData} {o : Obj} {body : List Stmt} {self : Str} {params : List Str} {F : Ex}
    (hm : makesIn K C = true) (hi : findIn K (.ref C) "__init__" = some (some (.ref f))) (hft : typeIn K (.ref f) = some (.type "function"))
    (ho : K.lookup f = some o) (hdata : o.data = .func fd) (hcd : codeIn K fd.code fd.qualname = true) (hbody : fd.body = .stmts body) (hclo : fd.closure = []) (hgl : fd.globals = mainGlobals) (hbu : fd.builtins = builtinsNs)
    (hbind : ∀ (s : Shared) (vs : List Value), K.In s.heap → vs.length = (self :: params).length → BindsTo s fd ⟨vs, []⟩ ((self :: params).zip vs))
    (hkind : ((self :: params).all fun y => fd.scope.names.lookup y == some .local) = true) (hpn : (self :: params).Nodup) (hnd : (fd.scope.names.map (·.1)).Nodup) (h0 : fd.scope.names[0]? = some (self, .local))
    (hco : fd.scope.isCoroutine = false) (hgen : fd.scope.isGenerator = false) (hk : fd.scope.kind = .function)
    (hF : ∀ (L : Addr) (he : Heap) (P : Addr → Prop) (sx : List Addr), ExsOk prog w K { cFm fd L f he P with sx := sx } k body F) : GOk prog w K (k + 2) (.ref C) (xInit C (self :: params) fd.scope.names F) := by
  rintro A E s P vs _ _ a W tk1 dead x ⟨hlen, h1, e2⟩
  rename_i ds vs' ks σr
  have hlv : vs.length = params.length := x.length.trans (by simpa using hlen)
  obtain ⟨σ0, hσ0⟩ : ∃ σ0 : Mine.St, σ0 = (inits fd.scope.names ((self :: params).tail.zip ds)).set 0 (some (.ownW C [] [])) := ⟨_, rfl⟩
  rw [← hσ0] at h1
  have hmk : ∀ (hp : Heap) (g : Array GenState) (dr : Drawn) (tk : Nat) (os : OsState), s = ⟨hp, g, dr, tk, os⟩ → codeAny (model prog w) A (.call (.ref C) ⟨vs, []⟩) (fun r s' => match r with | .ok (.ret v) => Kp s s' ∧ Is prog w s'.heap P v (.inst C ks vs') | .ok _ => False | .error e => E e s') ⟨hp, g, dr, tk, os⟩ := by
    rintro hp g dr tk os rfl
    refine make_core (makes_of W.k hm) (looks_findIn W.k hi) (fun self => bind_fn W.k self hft) (.inl rfl) ?_
    generalize hs2 : (⟨(hp.push emptyDict).push (instObj C hp.objs.size), g, dr, tk, os⟩ : Shared) = s2
    have k2 : Kp ⟨hp, g, dr, tk, os⟩ s2 := by rw [← hs2]; exact ⟨⟨_, _, rfl⟩, fun e => Heap.get?_push_of_some _ (Heap.get?_push_of_some _ e), Nat.le_refl _⟩
    have W2 := W.keeps fun _ _ e => k2.get e
    have oI : s2.heap.get? (hp.objs.size + 1) = some (insO C hp.objs.size) := by
      rw [← hs2]
      have := Heap.get?_push_size (hp.push emptyDict) (o := instObj C hp.objs.size) rfl
      rw [Heap.size_push] at this
      exact this
    have oD : s2.heap.get? hp.objs.size = some (dictOf [] 0) := by
      rw [← hs2]; exact Heap.get?_push_of_some _ (Heap.get?_push_size _ rfl)
    have sz2 : s2.heap.objs.size = hp.objs.size + 2 := by rw [← hs2]; show ((hp.push _).push _).objs.size = _; rw [Heap.size_push, Heap.size_push]
    have tk2 : tk ≤ s2.toks := k2.tk
    have a1 : Ao (k + 1) (A.under (.builtin "type.__call__" ⟨.ref C :: vs, []⟩)) := a.under (by rw [tc_weight]; exact Nat.le_refl _) (by rw [tc_units]; decide)
    generalize A.under (.builtin "type.__call__" ⟨.ref C :: vs, []⟩) = A1 at a1 ⊢
    refine codeAny_call_function (a1.mono (Nat.zero_le _)).dp (W2.k _ _ ho) hdata hco hgen hbody (codeRec_of W2.k hcd) ?_
    refine hbind s2 (.ref (hp.objs.size + 1) :: vs) W2.k (by simp [hlv]) _ _ _ _ ?_
    rw [hclo]
    have hkl : ∀ y ∈ (self :: params).zip (.ref (hp.objs.size + 1) :: vs), fd.scope.names.lookup y.1 = some .local := fun y hy => by
      have := List.all_eq_true.mp hkind y.1 (List.of_mem_zip hy).1
      simpa using this
    refine wpAny_with_toks (Nat.le_refl s2.toks) (wpAny_newFunctionEnv_cells hk (fun y hy => .inl (hkl y hy)) fun env he s1 Cc htk => ⟨W2.nolimit.keeps Cc.toInCall.keep, codeAny_func ?_⟩)
    subst he
    let fr : Fm := { cFm fd s2.heap.objs.size f hp P with sx := [hp.objs.size + 1, hp.objs.size] }
    have henv : newEnv fd.scope s2.heap.objs.size fd.globals (cellsFrom (s2.heap.objs.size + 1) fd.scope.names []) (fd.qualname ++ ".<locals>.") (some f) fd.code none fd.builtins = fr.env := rfl
    rw [henv] at Cc ⊢
    have hcell : fr.env.cells = cellsFrom (s2.heap.objs.size + 1) fd.scope.names [] := rfl
    have keysnd : (fr.env.cells.map (·.1)).Nodup := by
      rw [hcell, cellsFrom_keys]
      simp only [List.map_nil, List.append_nil]
      exact nodup_reverse (hnd.sublist (List.Sublist.map _ List.filter_sublist))
    have cellAt : ∀ p ∈ fr.env.cells, fr.env.cells.lookup p.1 = some p.2 := fun p hp => lookup_of_mem keysnd hp
    have cellO : ∀ p ∈ fr.env.cells, ∃ o v, s1.heap.get? p.2 = some o ∧ o.data = .cell v := fun p hp => let ⟨o, a, b⟩ := Cc.cell _ _ (cellAt p hp); ⟨o, _, a, b⟩
    have cellLt : ∀ p ∈ fr.env.cells, s2.heap.objs.size < p.2 := fun p hp => Cc.above p.1 p.2 hp
    have deadGe : ∀ a : Nat, hp.objs.size ≤ a → hp.get? a = none := fun a h => by
      cases q : hp.get? a with
      | none => rfl
      | some o => exact absurd (Heap.lt_size q) (Nat.not_lt.mpr h)
    have cellNone : ∀ p ∈ fr.env.cells, hp.get? p.2 = none := fun p hpp => deadGe p.2 (by have := cellLt p hpp; rw [sz2] at this; exact Nat.le_of_lt (Nat.lt_of_le_of_lt (Nat.le_add_right _ 2) this))
    have kp1 : ∀ a o, hp.get? a = some o → s1.heap.get? a = some o := fun a o e => Cc.toInCall.keep _ _ (k2.get e)
    have frP : ∀ a, P a → (∃ o, hp.get? a = some o) → fr.P a := by
      rintro a p ⟨o, e⟩
      refine ⟨p, fun z => ?_, fun c hc z => ?_⟩
      · rw [z, deadGe _ (by rw [sz2]; exact Nat.le_add_right _ 2)] at e; cases e
      · rw [z, cellNone c hc] at e; cases e
    have newP : ∀ a : Nat, hp.objs.size ≤ a → a < hp.objs.size + 2 → fr.P a := fun a h1 h2 => ⟨dead a (deadGe a h1), fun z => by have z : a = s2.heap.objs.size := z; rw [z, sz2] at h2; exact Nat.lt_irrefl _ h2, fun c hc z => by have := cellLt c hc; rw [sz2, ← z] at this; exact absurd this (Nat.not_lt.mpr (Nat.le_of_lt h2))⟩
    let X0 : Nat → List Addr := fun i => if i = 0 then [hp.objs.size + 1, hp.objs.size] else []
    have hX0 : X0 0 = [hp.objs.size + 1, hp.objs.size] := rfl
    have memX : ∀ i a, a ∈ X0 i → i = 0 ∧ (a = hp.objs.size + 1 ∨ a = hp.objs.size) := by
      intro i a h
      by_cases q : i = 0
      · subst q; rw [hX0] at h; simpa using h
      · have : X0 i = [] := by show (if i = 0 then _ else _) = _; rw [if_neg q]
        rw [this] at h; cases h
    have sfAlive : ∀ a, P a → (∃ o, hp.get? a = some o) → Sf fr X0 a := by
      rintro a p ⟨o, e⟩
      refine ⟨frP a p ⟨o, e⟩, id, fun i hi => ?_⟩
      rcases (memX i a hi).2 with z | z
      · rw [z, deadGe _ (Nat.le_succ _)] at e; cases e
      · rw [z, deadGe _ (Nat.le_refl _)] at e; cases e
    have hpv : (((self :: params).zip (Value.ref (hp.objs.size + 1) :: vs)).map (·.1)).Nodup := by
      rw [List.map_fst_zip (by simp [hlv])]; exact hpn
    have I1 : Inv prog w K fr σ0 X0 s1 := {
      wd := W
      hk := hk
      hg := hgl
      hb := hbu
      nd := hnd
      keeps := kp1
      ns := ⟨_, Cc.toInCall.ns⟩
      vars := by
        intro i mv e
        rw [hσ0, List.getElem?_set] at e
        by_cases q : 0 = i
        · subst q
          rw [if_pos rfl] at e
          split at e
          · cases e
            refine ⟨self, .local, .ref (hp.objs.size + 1), h0, ⟨_, Cc.toInCall.ns, bindL_hit (lookup_at hnd h0) _ _ hpv (by simp)⟩, ?_⟩
            rw [hX0]
            exact ⟨_, _, [], rfl, Nat.succ_ne_self _, rfl, Cc.toInCall.keep _ _ oI, ⟨[], 0, Cc.toInCall.keep _ _ oD, by simp, fun _ => rfl, Nat.le_refl _⟩, rfl, .nil⟩
          · cases e
        · rw [if_neg q] at e
          unfold inits at e
          rw [List.getElem?_map] at e
          obtain ⟨p, e1, e2⟩ := Option.map_eq_some_iff.mp e
          obtain ⟨xn, kd⟩ := p
          obtain ⟨dd, e3, rfl⟩ := Option.map_eq_some_iff.mp e2
          have e3 : (params.zip ds).lookup xn = some dd := e3
          obtain ⟨v, e4, z⟩ := zip_lookup x e3
          have hne : (xn == self) = false := by
            have := names_ne hnd e1 h0 (Ne.symm q)
            simpa using this
          have e5 : ((self :: params).zip (Value.ref (hp.objs.size + 1) :: vs)).lookup xn = some v := by
            rw [List.zip_cons_cons, List.lookup_cons, hne]; exact e4
          have hl := lookup_at hnd e1
          have hkd := hkl _ (lookup_mem e5)
          rw [hl] at hkd; cases hkd
          have hXi : X0 i = [] := by show (if i = 0 then _ else _) = _; rw [if_neg (Ne.symm q)]
          rw [hXi]
          exact ⟨xn, .local, v, e1, ⟨_, Cc.toInCall.ns, bindL_hit hl _ _ hpv e5⟩, rfl, z.mono fun a o p e => ⟨sfAlive a p ⟨o, e⟩, kp1 _ _ e⟩⟩
      disj := fun i j a h1 h2 => (memX i a h1).1.trans (memX j a h2).1.symm
      own := by
        intro i a h
        have e1 : hp.objs.size ≤ a ∧ a < hp.objs.size + 2 := by
          rcases (memX i a h).2 with z | z
          · rw [z]; exact ⟨Nat.le_succ _, Nat.lt_succ_self _⟩
          · rw [z]; exact ⟨Nat.le_refl _, Nat.lt_add_of_pos_right (by decide)⟩
        have p := newP a e1.1 e1.2
        refine ⟨p.2.1, p, ?_, fun _ => ⟨deadGe a e1.1, p.2.2⟩⟩
        rcases (memX i a h).2 with z | z
        · rw [z]; exact ⟨_, Cc.toInCall.keep _ _ oI⟩
        · rw [z]; exact ⟨_, Cc.toInCall.keep _ _ oD⟩
      dl := deadGe s2.heap.objs.size (by rw [sz2]; exact Nat.le_add_right _ 2)
      dead := by
        intro a e
        refine ⟨dead a ?_, fun z => ?_, fun p hp' z => ?_⟩
        · show hp.get? a = none
          cases q : hp.get? a with
          | none => rfl
          | some o => rw [kp1 _ _ q] at e; cases e
        · obtain ⟨o, es, ep, g, _⟩ := Cc.toInCall.ns
          have g : s1.heap.get? s2.heap.objs.size = some o := g
          rw [z, g] at e; cases e
        · obtain ⟨o, v, g, _⟩ := cellO p hp'
          rw [z, g] at e; cases e
      pL := fun h => h.2.1 rfl
      pC := fun p hp h => h.2.2 p hp rfl
      lC := fun p hp => Nat.ne_of_gt (cellLt p hp)
      cd := fun _ p hp => ⟨cellNone p hp, cellO p hp⟩
      cinj := fun x y c h1 h2 => name_of_addr Cc.apart (lookup_mem h1) (lookup_mem h2)
      exl := fun a h => h.elim
      tk1 := Nat.le_trans tk1 (Nat.le_trans tk2 htk)
      anc := by
        intro i C' ks vs' e
        rw [hσ0, List.getElem?_set] at e
        by_cases q : 0 = i
        · subst q; rfl
        · rw [if_neg q] at e
          unfold inits at e
          rw [List.getElem?_map] at e
          obtain ⟨p, _, e2⟩ := Option.map_eq_some_iff.mp e
          obtain ⟨dd, _, e4⟩ := Option.map_eq_some_iff.mp e2
          cases e4 }
    have ab := a1.deeper fr.env
    refine wpKp (hF s2.heap.objs.size hp P [hp.objs.size + 1, hp.objs.size] _ _ _ σ0 X0 _ _ ab I1 h1) fun fl s3 q => ?_
    obtain ⟨X2, st, I2, q⟩ := q
    have kk : Kp ⟨hp, g, dr, tk, os⟩ s3 := by
      refine ⟨?_, fun e => I2.keeps _ _ e, Nat.le_trans tk2 (Nat.le_trans htk st.tk)⟩
      obtain ⟨h1, t1, e1⟩ := Cc.toInCall.same
      obtain ⟨h2, t2, e2⟩ := st.sh
      obtain ⟨h3, t3, e3⟩ := k2.sh
      exact ⟨h2, t2, by rw [e2, e1, e3]⟩
    cases (show fl = .next from q)
    refine ⟨rfl, kk, ?_⟩
    obtain ⟨x', kd', v, b1, b2, y, dx, kvs, b3, b4, b5, b6, b7, b8, b9⟩ := I2.vars 0 _ e2
    have b10 := I2.anc 0 _ _ _ e2
    rw [b3] at b10
    cases b10
    have hP : ∀ a, a ∈ X2 0 → P a := fun a h => (I2.own 0 a h).2.1.1
    rw [b3] at hP
    exact .inst (hP _ (.head _)) (hP _ (.tail _ (.head _))) b6 b7 b8 (b9.mono fun a o p e => ⟨p.1.1, e⟩)
  obtain ⟨hp, g, dr, tk, os⟩ := s
  exact wpAny_call (hmk hp g dr tk os rfl)
end
end Mine
namespace Mine
open PySem PySem.Sre
noncomputable def Go (n : Nat) (m m' : M) : Prop := ∀ k, M.runFor (n + k) m = M.runFor k m'
theorem Go.refl (m : M) : Go 0 m m := fun k => by rw [Nat.zero_add]
theorem Go.one {m m' : M} (h : m.outcome = none) (e : m.step = m') : Go 1 m m' := fun k => by
  rw [Nat.add_comm]
  show (if m.outcome.isSome then m else M.runFor k m.step) = _
  rw [h, e]; rfl
theorem Go.trans {a b : Nat} {m m' m'' : M} (x : Go a m m') (y : Go b m' m'') : Go (a + b) m m'' := fun k => by
  rw [Nat.add_assoc, x, y]
theorem run_end (k : Nat) {m : M} (h : m.outcome.isSome = true) : M.runFor k m = m := by
  cases k with
  | zero => rfl
  | succ k =>
    show (if m.outcome.isSome then m else _) = m
    rw [h]; rfl
theorem run_add (a b : Nat) : ∀ m : M, M.runFor (a + b) m = M.runFor b (M.runFor a m) := by
  induction a with
  | zero => intro m; rw [Nat.zero_add]; rfl
  | succ a ih =>
    intro m
    rw [show a + 1 + b = (a + b) + 1 by lia]
    show (if m.outcome.isSome then m else M.runFor (a + b) m.step) = M.runFor b (if m.outcome.isSome then m else M.runFor a m.step)
    cases h : m.outcome.isSome with
    | true => rw [if_pos rfl, if_pos rfl, run_end b h]
    | false => simp only [Bool.false_eq_true, if_false]; exact ih _
noncomputable def Ends (m m' : M) : Prop := ∃ n, n ≤ 100000000 ∧ M.runFor n m = m' ∧ m'.outcome.isSome = true
theorem drive {Mo : Model} {A : Around} {E : Value → Shared → Prop} {s : Shared} {m' : M} {Q : M → Shared → Prop} (q : Q m' s) : ∀ (turns n : Nat) (m : M), n ≤ 4 * turns → 1 ≤ turns → M.runFor n m = m' → m'.outcome.isSome = true → wpAny Mo A (Builtin.Re.reDrive turns m) Q E s := by
  intro turns
  induction turns with
  | zero => intro n m _ h; lia
  | succ t ih =>
    intro n m hn _ hr ho
    show wpAny Mo A (if (m.runFor 4).outcome.isSome then pure (m.runFor 4) else do rule "sre.turn"; Builtin.Re.reDrive t (m.runFor 4)) Q E s
    cases h4 : (m.runFor 4).outcome.isSome with
    | true =>
      rw [if_pos rfl]
      have e : m.runFor 4 = m' := by
        rcases Nat.le_total n 4 with h | h
        · obtain ⟨d, hd⟩ := Nat.exists_eq_add_of_le h
          rw [hd, run_add, hr, run_end _ ho]
        · obtain ⟨d, rfl⟩ := Nat.exists_eq_add_of_le h
          rw [← hr, run_add, run_end _ h4]
      rw [e]; exact wpAny_pure q
    | false =>
      simp only [Bool.false_eq_true, if_false]
      have hgt : 4 < n := by
        rcases Nat.lt_or_ge 4 n with h | h
        · exact h
        · obtain ⟨d, hd⟩ := Nat.exists_eq_add_of_le h
          rw [hd, run_add, hr, run_end _ ho, ho] at h4; cases h4
      obtain ⟨d, rfl⟩ := Nat.exists_eq_add_of_le (Nat.le_of_lt hgt)
      rw [run_add] at hr
      exact wpAny_bind (wpAny_rule (ih d _ (by lia) (by lia) hr ho))
theorem to_end {Mo : Model} {A : Around} {E : Value → Shared → Prop} {s : Shared} {m m' : M} {Q : Option M → Shared → Prop} (h : Ends m m') {r : Option M} (hr : (m'.outcome = some .matched ∧ r = some m') ∨ (m'.outcome = some .failed ∧ r = none)) (q : Q r s) : wpAny Mo A (Builtin.Re.reRunToEnd m) Q E s := by
  obtain ⟨n, hn, e, ho⟩ := h
  unfold Builtin.Re.reRunToEnd
  have h64 : 100000000 ≤ 4 * 2 ^ 64 := by decide
  have h1 : 1 ≤ 2 ^ 64 := by decide
  generalize 2 ^ 64 = turns at h64 h1 ⊢
  refine wpAny_bind (drive ?_ turns n m (by lia) h1 e ho)
  refine wpAny_bind ?_
  refine wpAny_forIn_list _ (fun _ _ s' => s' = s) _ ?_ ?_ _ _ rfl
  · rintro i rest b s' rfl
    split
    · exact wpAny_bind (wpAny_rule (wpAny_pure rfl))
    · exact wpAny_pure rfl
  · rintro b s' rfl
    rcases hr with ⟨h1, rfl⟩ | ⟨h1, rfl⟩
    · rw [h1]; exact wpAny_pure q
    · rw [h1]; exact wpAny_pure q
noncomputable def codeI : Array Nat := #[14, 8, 1, 2, 4294967295, 1, 1, 46, 0, 16, 46, 24, 9, 1, 4294967295, 13, 4, 8, 0, 0, 1, 6, 5, 1]
structure Rst where
  must : Bool
  marks : Array (Option Nat)
  loops : Array Sre.Loop
  inner : Option Nat
  seen : Seen
noncomputable def mI (T : Array Nat) (s : Nat) (first : Bool) (R : Rst) (pc pos : Nat) (ans : Option Bool) : M :=
  { code := codeI, text := T, lim := T.size, start := s, lastStart := T.size, wholeText := false, mustAdvance := R.must, pc := pc, pos := pos, handed := s, outermost := first, marks := R.marks, lastmark := -1, lastindex := -1, loops := R.loops, inner := R.inner,
    frames := [{ wait := .nextStart, pc := 9, pos := s, outermost := first }], weight := 1, answer := ans, seen := R.seen, outcome := none }
theorem i_lit (T : Array Nat) (s : Nat) (first : Bool) (R : Rst) : (mI T s first R 9 s none).step = if s ≥ T.size then mI T s first { R with seen := R.seen.add 16 } 9 s (some false) else
    match accepts codeI 9 (T.getD s 0) (R.seen.add 16) with
    | .error why => (mI T s first { R with seen := R.seen.add 16 } 9 s none).stick why
    | .ok (false, seen) => mI T s first { R with seen := seen } 9 s (some false)
    | .ok (true, seen) => mI T s first { R with seen := seen } 11 (s + 1) none := by rfl
theorem i_rep (T : Array Nat) (s : Nat) (first : Bool) (R : Rst) : (mI T s first R 11 (s + 1) none).step = if ((1 : Nat) : Int) > (T.size : Int) - ((s + 1 : Nat) : Int) then mI T s first { R with seen := R.seen.add 24 } 11 (s + 1) (some false) else
    match Sre.run codeI T 15 (min 4294967295 ((T.size : Int) - ((s + 1 : Nat) : Int)).toNat) (s + 1) 0 ((R.seen.add 24).add 13) with
    | .error why => (mI T s first { R with seen := R.seen.add 24 } 11 (s + 1) none).stick why
    | .ok (n, seen) => if n < 1 then mI T s first { R with seen := seen } 11 (s + 1) (some false) else
      ({ mI T s first { R with seen := seen } 11 (s + 1) none with pos := s + 1 + n }).afterRun .giveBack n (({ mI T s first { R with seen := seen } 11 (s + 1) none with pos := s + 1 + n }).keep R.inner.isSome) := by rfl
theorem i_no (T : Array Nat) (s : Nat) (first : Bool) (R : Rst) (pc pos : Nat) : (mI T s first R pc pos (some false)).step = if s < T.size then mI T (s + 1) false { R with must := false } 9 (s + 1) none else
    { mI T s first R 9 s (some false) with frames := [], weight := 0 } := by rfl
theorem i_end (T : Array Nat) (s : Nat) (first : Bool) (R : Rst) : M.step { mI T s first R 9 s (some false) with frames := [], weight := 0 } = { mI T s first R 9 s (some false) with frames := [], weight := 0, outcome := some .failed } := by rfl
theorem acc_lit (c : Nat) (seen : Seen) : accepts codeI 9 c seen = .ok (c == 46, seen) := by rfl
theorem acc_dig (c : Nat) (seen : Seen) (h : isDigit c = false) : ∃ seen', accepts codeI 15 c seen = .ok (false, seen') := by
  have e : accepts codeI 15 c seen = (do if ← category 0 c then pure (true, ((seen.add 8).add (55 + 0))) else inSet codeI c 23 19 true ((seen.add 8).add (55 + 0)) : Except String (Bool × Seen)) := by rfl
  have e2 : category 0 c = .ok (isDigit c) := by
    have : category 0 c = (Except.ok (isDigit c)).map (· != false) := by rfl
    rw [this]; simp [Except.map]
  rw [e, e2, h]
  exact ⟨_, rfl⟩
noncomputable def noFig (T : Array Nat) : Prop := ∀ i, T.getD i 0 = 46 → i + 1 < T.size → isDigit (T.getD (i + 1) 0) = false
theorem i_fail (T : Array Nat) (h : noFig T) (s : Nat) (hs : s ≤ T.size) (first : Bool) (R : Rst) : ∃ n R' pc pos, n ≤ 2 ∧ Go n (mI T s first R 9 s none) (mI T s first R' pc pos (some false)) := by
  by_cases h1 : s ≥ T.size
  · exact ⟨1, _, 9, s, by decide, Go.one rfl (by rw [i_lit, if_pos h1])⟩
  · by_cases h2 : T.getD s 0 = 46
    · have e1 : (mI T s first R 9 s none).step = mI T s first { R with seen := R.seen.add 16 } 11 (s + 1) none := by
        rw [i_lit, if_neg h1, acc_lit]
        have : (T.getD s 0 == 46) = true := by rw [h2]; rfl
        rw [this]
      by_cases h3 : s + 1 < T.size
      · obtain ⟨seen', e3⟩ := acc_dig (T.getD (s + 1) 0) (((R.seen.add 16).add 24).add 13) (h s h2 h3)
        have hpos : ∃ k, min 4294967295 ((T.size : Int) - ((s + 1 : Nat) : Int)).toNat = k + 1 := ⟨min 4294967295 ((T.size : Int) - ((s + 1 : Nat) : Int)).toNat - 1, by lia⟩
        obtain ⟨k, hk⟩ := hpos
        have e4 : Sre.run codeI T 15 (k + 1) (s + 1) 0 (((R.seen.add 16).add 24).add 13) = .ok (0, seen') := by
          unfold Sre.run
          rw [e3]; rfl
        refine ⟨2, { R with seen := seen' }, 11, s + 1, by decide, (Go.one rfl e1).trans (Go.one rfl ?_)⟩
        rw [i_rep, if_neg (by lia), hk]
        simp only [e4]
        rw [if_pos (by decide)]
      · refine ⟨2, { R with seen := (R.seen.add 16).add 24 }, 11, s + 1, by decide, (Go.one rfl e1).trans (Go.one rfl ?_)⟩
        rw [i_rep, if_pos (by lia)]
    · refine ⟨1, { R with seen := R.seen.add 16 }, 9, s, by decide, Go.one rfl ?_⟩
      rw [i_lit, if_neg h1, acc_lit]
      have : (T.getD s 0 == 46) = false := by simpa using h2
      rw [this]
theorem i_all (T : Array Nat) (h : noFig T) : ∀ (d s : Nat) (first : Bool) (R : Rst), s + d = T.size → ∃ n m', n ≤ 3 * d + 6 ∧ Go n (mI T s first R 9 s none) m' ∧ m'.outcome = some .failed := by
  intro d
  induction d with
  | zero =>
    intro s first R hs
    obtain ⟨n, R', pc, pos, hn, g⟩ := i_fail T h s (by lia) first R
    refine ⟨n + 1 + 1, _, by lia, (g.trans (Go.one rfl (by rw [i_no, if_neg (by lia)]))).trans (Go.one rfl (i_end ..)), rfl⟩
  | succ d ih =>
    intro s first R hs
    obtain ⟨n, R', pc, pos, hn, g⟩ := i_fail T h s (by lia) first R
    obtain ⟨n2, m', hn2, g2, ho⟩ := ih (s + 1) false { R' with must := false } (by lia)
    exact ⟨n + 1 + n2, m', by lia, (g.trans (Go.one rfl (by rw [i_no, if_pos (by lia)]))).trans g2, ho⟩
theorem search_fails (T : Array Nat) (h : noFig T) (hz : T.size ≤ 1000000) : ∃ m', Ends (forSearch codeI T 0 0 T.size false) m' ∧ m'.outcome = some .failed := by
  let R0 : Rst := ⟨false, #[], #[], none, ({} : Seen).add 14⟩
  have e : forSearch codeI T 0 0 T.size false = if (decide (0 > T.size) || decide (T.size - 0 < 2)) = true then { mI T 0 true R0 9 0 (some false) with frames := [], weight := 0, lastStart := 0 } else mI T 0 true R0 9 0 none := by rfl
  by_cases h2 : T.size < 2
  · rw [if_pos (by rw [Bool.or_eq_true]; right; exact decide_eq_true (by lia))] at e
    rw [e]
    exact ⟨{ mI T 0 true R0 9 0 (some false) with frames := [], weight := 0, lastStart := 0, outcome := some .failed }, ⟨1, by decide, rfl, rfl⟩, rfl⟩
  · rw [if_neg (by rw [Bool.or_eq_true]; rintro (z | z) <;> have := of_decide_eq_true z <;> lia)] at e
    obtain ⟨n, m', hn, g, ho⟩ := i_all T h T.size 0 true R0 (Nat.zero_add _)
    refine ⟨m', ⟨n, by lia, ?_, by rw [ho]; rfl⟩, ho⟩
    rw [e]
    have := g 0
    rw [Nat.add_zero] at this
    exact this
end Mine
namespace Mine
open PySem PySem.Sre
noncomputable def codeQ : Array Nat := #[14, 8, 1, 2, 4294967295, 1, 1, 34, 0, 16, 34, 28, 22, 0, 4294967295, 7, 11, 13, 7, 21, 16, 34, 16, 92, 0, 15, 8, 6, 16, 92, 2, 15, 2, 0, 1, 16, 34, 1]
noncomputable def kW : Sre.Kept := { lastmark := -1, lastindex := -1, whole := true, marks := #[] }
noncomputable def fS (s : Nat) (first : Bool) : Sre.Frame := { wait := .nextStart, pc := 9, pos := s, outermost := first }
noncomputable def fP (first : Bool) (i : Nat) (c : Int) : Sre.Frame := { wait := .possMore, pc := 11, pos := i, outermost := first, count := c, kept := kW, loop := 0 }
noncomputable def fB (p i : Nat) : Sre.Frame := { wait := .nextBranch, pc := p, pos := i, outermost := false, kept := kW }
noncomputable def mq (T : Array Nat) (s : Nat) (must : Bool) (lo : Bool) (fs : List Sre.Frame) (wt pc pos handed : Nat) (out : Bool) (ans : Option Bool) (seen : Seen) : M :=
  { code := codeQ, text := T, lim := T.size, start := s, lastStart := T.size, wholeText := false, mustAdvance := must, pc := pc, pos := pos, handed := handed, outermost := out, marks := #[], lastmark := -1, lastindex := -1,
    loops := if lo then #[{ pc := 0, outer := none }] else #[], inner := if lo then some 0 else none, frames := fs, weight := wt, answer := ans, seen := seen, outcome := none }
section
variable (T : Array Nat) (s : Nat) (first must : Bool) (seen : Seen) (i h : Nat) (c : Int)
theorem q_lit : (mq T s must false [fS s first] 1 9 s s first none seen).step = if s ≥ T.size then mq T s must false [fS s first] 1 9 s s first (some false) (seen.add 16) else
    match accepts codeQ 9 (T.getD s 0) (seen.add 16) with
    | .error why => (mq T s must false [fS s first] 1 9 s s first none (seen.add 16)).stick why
    | .ok (false, seen) => mq T s must false [fS s first] 1 9 s s first (some false) seen
    | .ok (true, seen) => mq T s must false [fS s first] 1 11 (s + 1) s first none seen := by rfl
theorem q_no : (mq T s must false [fS s first] 1 9 s s first (some false) seen).step = if s < T.size then mq T (s + 1) false false [fS (s + 1) false] 1 9 (s + 1) (s + 1) false none seen else
    { mq T s must false [] 0 9 s s first (some false) seen with frames := [] } := by rfl
theorem q_end : M.step { mq T s must false [] 0 9 s s first (some false) seen with frames := [] } = { mq T s must false [] 0 9 s s first (some false) seen with outcome := some .failed } := by rfl
theorem q_poss : (mq T s must false [fS s first] 1 11 (s + 1) s first none seen).step = mq T s must true [fP first (s + 1) 0, fS s first] 2 15 (s + 1) (s + 1) false none (seen.add 28) := by rfl
theorem q_br : (mq T s must true [fP first i c, fS s first] 2 15 i i false none seen).step = mq T s must true [fB 16 i, fP first i c, fS s first] 3 17 i i false none (seen.add 7) := by rfl
theorem q_in : (mq T s must true [fB 16 i, fP first i c, fS s first] 3 17 i i false none seen).step = if i ≥ T.size then mq T s must true [fB 16 i, fP first i c, fS s first] 3 17 i i false (some false) (seen.add 13) else
    match accepts codeQ 17 (T.getD i 0) (seen.add 13) with
    | .error why => (mq T s must true [fB 16 i, fP first i c, fS s first] 3 17 i i false none (seen.add 13)).stick why
    | .ok (false, seen) => mq T s must true [fB 16 i, fP first i c, fS s first] 3 17 i i false (some false) seen
    | .ok (true, seen) => mq T s must true [fB 16 i, fP first i c, fS s first] 3 25 (i + 1) i false none seen := by rfl
theorem q_jmp : (mq T s must true [fB 16 i, fP first i c, fS s first] 3 25 (i + 1) i false none seen).step = mq T s must true [fB 16 i, fP first i c, fS s first] 3 34 (i + 1) i false none (seen.add 15) := by rfl
theorem q_suc (p : Nat) : (mq T s must true [fB p i, fP first i c, fS s first] 3 34 h i false none seen).step = mq T s must true [fB p i, fP first i c, fS s first] 3 34 h h false (some true) (seen.add 1) := by rfl
theorem q_yes (p pc : Nat) : (mq T s must true [fB p i, fP first i c, fS s first] 3 pc h h false (some true) seen).step = mq T s must true [fP first i c, fS s first] 2 p i h false (some true) seen := by rfl
theorem q_more (p : Nat) (hc : 0 ≤ c) (hne : i ≠ h) : (mq T s must true [fP first i c, fS s first] 2 p i h false (some true) seen).step = mq T s must true [fP first h (c + 1), fS s first] 2 15 h h false none seen := by
  have e : (mq T s must true [fP first i c, fS s first] 2 p i h false (some true) seen).step = if c + 1 < ((0 : Nat) : Int) then M.attempt (mq T s must true [fS s first] 1 11 i h first none seen) { M.frame (mq T s must true [fS s first] 1 11 i h first none seen) .possBelow with loop := 0, count := c + 1 } (11 + 4) h false
      else if (decide (c + 1 < ((4294967295 : Nat) : Int)) || (4294967295 == maxRepeat)) && (some i != some h) then mq T s must true [fP first h (c + 1), fS s first] 2 15 h h false none seen
      else mq T s must false [fS s first] 1 35 h h first none seen := by rfl
  rw [e, if_neg (by lia), if_pos]
  have h1 : ((4294967295 : Nat) == maxRepeat) = true := by rfl
  rw [h1, Bool.or_true, Bool.true_and]
  simpa using hne
theorem q_bno : (mq T s must true [fB 16 i, fP first i c, fS s first] 3 17 i i false (some false) seen).step = mq T s must true [fB 27 i, fP first i c, fS s first] 3 28 i i false none seen := by rfl
theorem q_bs : (mq T s must true [fB 27 i, fP first i c, fS s first] 3 28 i i false none seen).step = if i ≥ T.size then mq T s must true [fB 27 i, fP first i c, fS s first] 3 28 i i false (some false) (seen.add 16) else
    match accepts codeQ 28 (T.getD i 0) (seen.add 16) with
    | .error why => (mq T s must true [fB 27 i, fP first i c, fS s first] 3 28 i i false none (seen.add 16)).stick why
    | .ok (false, seen) => mq T s must true [fB 27 i, fP first i c, fS s first] 3 28 i i false (some false) seen
    | .ok (true, seen) => mq T s must true [fB 27 i, fP first i c, fS s first] 3 30 (i + 1) i false none seen := by rfl
theorem q_any : (mq T s must true [fB 27 i, fP first i c, fS s first] 3 30 (i + 1) i false none seen).step = if i + 1 ≥ T.size then mq T s must true [fB 27 i, fP first i c, fS s first] 3 30 (i + 1) i false (some false) (seen.add 2) else
    match accepts codeQ 30 (T.getD (i + 1) 0) (seen.add 2) with
    | .error why => (mq T s must true [fB 27 i, fP first i c, fS s first] 3 30 (i + 1) i false none (seen.add 2)).stick why
    | .ok (false, seen) => mq T s must true [fB 27 i, fP first i c, fS s first] 3 30 (i + 1) i false (some false) seen
    | .ok (true, seen) => mq T s must true [fB 27 i, fP first i c, fS s first] 3 31 (i + 1 + 1) i false none seen := by rfl
theorem q_jmp2 : (mq T s must true [fB 27 i, fP first i c, fS s first] 3 31 h i false none seen).step = mq T s must true [fB 27 i, fP first i c, fS s first] 3 34 h i false none (seen.add 15) := by rfl
theorem q_bno2 : (mq T s must true [fB 27 i, fP first i c, fS s first] 3 28 i i false (some false) seen).step = mq T s must true [fP first i c, fS s first] 2 27 i i false (some false) seen := by rfl
theorem q_exit (hc : 0 ≤ c) : (mq T s must true [fP first i c, fS s first] 2 27 i i false (some false) seen).step = mq T s must false [fS s first] 1 35 i i first none seen := by
  have e : (mq T s must true [fP first i c, fS s first] 2 27 i i false (some false) seen).step = if c < ((0 : Nat) : Int) then M.attempt (mq T s must true [fS s first] 1 11 i i first none seen) { M.frame (mq T s must true [fS s first] 1 11 i i first none seen) .possBelow with loop := 0, count := c } (11 + 4) i false
      else if (decide (c < ((4294967295 : Nat) : Int)) || (4294967295 == maxRepeat)) && (some i != some i) then mq T s must true [fP first i c, fS s first] 2 15 i i false none seen
      else mq T s must false [fS s first] 1 35 i i first none seen := by rfl
  rw [e, if_neg (by lia), if_neg]
  simp
theorem q_cl : (mq T s must false [fS s first] 1 35 i i first none seen).step = if i ≥ T.size then mq T s must false [fS s first] 1 35 i i first (some false) (seen.add 16) else
    match accepts codeQ 35 (T.getD i 0) (seen.add 16) with
    | .error why => (mq T s must false [fS s first] 1 35 i i first none (seen.add 16)).stick why
    | .ok (false, seen) => mq T s must false [fS s first] 1 35 i i first (some false) seen
    | .ok (true, seen) => mq T s must false [fS s first] 1 37 (i + 1) i first none seen := by rfl
theorem q_fin : (mq T s false false [fS s first] 1 37 h i first none seen).step = mq T s false false [fS s first] 1 37 h h first (some true) (seen.add 1) := by
  cases first <;> rfl
theorem q_ok : (mq T s must false [fS s first] 1 37 h h first (some true) seen).step = mq T s must false [] 0 9 s h first (some true) seen := by rfl
theorem q_done : (mq T s must false [] 0 9 s h first (some true) seen).step = { mq T s must false [] 0 9 s h first (some true) seen with outcome := some .matched } := by rfl
theorem qa_9 (c : Nat) : accepts codeQ 9 c seen = .ok (c == 34, seen) := by rfl
theorem qa_28 (c : Nat) : accepts codeQ 28 c seen = .ok (c == 92, seen) := by rfl
theorem qa_35 (c : Nat) : accepts codeQ 35 c seen = .ok (c == 34, seen) := by rfl
theorem qa_30 (c : Nat) : accepts codeQ 30 c seen = .ok (c != 10, seen) := by rfl
theorem qa_17 (c : Nat) : ∃ seen', accepts codeQ 17 c seen = .ok (!(c == 34) && !(c == 92), seen') := by
  have e : accepts codeQ 17 c seen = if (c == 34) = true then .ok (false, (seen.add 21).add 16) else if (c == 92) = true then .ok (false, ((seen.add 21).add 16).add 16) else .ok (true, (((seen.add 21).add 16).add 16).add 0) := by rfl
  rw [e]
  cases h1 : (c == 34) with
  | true => exact ⟨_, rfl⟩
  | false =>
    cases h2 : (c == 92) with
    | true => exact ⟨_, rfl⟩
    | false => exact ⟨_, rfl⟩
end
inductive Body (T : Array Nat) : Nat → Nat → Prop
  | stop {j : Nat} (h : j < T.size) (e : T.getD j 0 = 34) : Body T j j
  | char {i j : Nat} (h : i < T.size) (e1 : T.getD i 0 ≠ 34) (e2 : T.getD i 0 ≠ 92) (r : Body T (i + 1) j) : Body T i j
  | esc {i j : Nat} (h : i < T.size) (e : T.getD i 0 = 92) (h2 : i + 1 < T.size) (e2 : T.getD (i + 1) 0 ≠ 10) (r : Body T (i + 2) j) : Body T i j
theorem Body.le {T : Array Nat} {i j : Nat} (b : Body T i j) : i ≤ j ∧ j < T.size := by
  induction b with
  | stop h _ => exact ⟨Nat.le_refl _, h⟩
  | char h _ _ _ ih => exact ⟨by lia, ih.2⟩
  | esc h _ _ _ _ ih => exact ⟨by lia, ih.2⟩
theorem q_body {T : Array Nat} {i j : Nat} (b : Body T i j) : ∀ (s : Nat) (first : Bool) (seen : Seen) (c : Int), 0 ≤ c → ∃ n m', n ≤ 10 * (j - i) + 20 ∧ Go n (mq T s false true [fP first i c, fS s first] 2 15 i i false none seen) m' ∧ m'.outcome = some .matched ∧ m'.start = s ∧ m'.handed = j + 1 := by
  induction b with
  | @stop j h e =>
    intro s first seen c hc
    obtain ⟨s1, e1⟩ := qa_17 ((seen.add 7).add 13) (T.getD j 0)
    have g1 := Go.one (m := mq T s false true [fP first j c, fS s first] 2 15 j j false none seen) rfl (q_br T s first false seen j c)
    have g2 : Go 1 (mq T s false true [fB 16 j, fP first j c, fS s first] 3 17 j j false none (seen.add 7)) (mq T s false true [fB 16 j, fP first j c, fS s first] 3 17 j j false (some false) s1) := Go.one rfl (by
      rw [q_in, if_neg (by lia), e1, e]; rfl)
    have g3 := Go.one (m := mq T s false true [fB 16 j, fP first j c, fS s first] 3 17 j j false (some false) s1) rfl (q_bno T s first false s1 j c)
    have g4 : Go 1 (mq T s false true [fB 27 j, fP first j c, fS s first] 3 28 j j false none s1) (mq T s false true [fB 27 j, fP first j c, fS s first] 3 28 j j false (some false) (s1.add 16)) := Go.one rfl (by
      rw [q_bs, if_neg (by lia), qa_28, e]; rfl)
    have g5 := Go.one (m := mq T s false true [fB 27 j, fP first j c, fS s first] 3 28 j j false (some false) (s1.add 16)) rfl (q_bno2 T s first false (s1.add 16) j c)
    have g6 := Go.one (m := mq T s false true [fP first j c, fS s first] 2 27 j j false (some false) (s1.add 16)) rfl (q_exit T s first false (s1.add 16) j c hc)
    have g7 : Go 1 (mq T s false false [fS s first] 1 35 j j first none (s1.add 16)) (mq T s false false [fS s first] 1 37 (j + 1) j first none ((s1.add 16).add 16)) := Go.one rfl (by
      rw [q_cl, if_neg (by lia), qa_35, e]; rfl)
    have g8 := Go.one (m := mq T s false false [fS s first] 1 37 (j + 1) j first none ((s1.add 16).add 16)) rfl (q_fin T s first ((s1.add 16).add 16) j (j + 1))
    have g9 := Go.one (m := mq T s false false [fS s first] 1 37 (j + 1) (j + 1) first (some true) (((s1.add 16).add 16).add 1)) rfl (q_ok T s first false (((s1.add 16).add 16).add 1) (j + 1))
    have g10 := Go.one (m := mq T s false false [] 0 9 s (j + 1) first (some true) (((s1.add 16).add 16).add 1)) rfl (q_done T s first false (((s1.add 16).add 16).add 1) (j + 1))
    exact ⟨_, _, by lia, (((((((((g1.trans g2).trans g3).trans g4).trans g5).trans g6).trans g7).trans g8).trans g9).trans g10), rfl, rfl, rfl⟩
  | @char i j h e1 e2 r ih =>
    intro s first seen c hc
    obtain ⟨s1, e3⟩ := qa_17 ((seen.add 7).add 13) (T.getD i 0)
    have g1 := Go.one (m := mq T s false true [fP first i c, fS s first] 2 15 i i false none seen) rfl (q_br T s first false seen i c)
    have g2 : Go 1 (mq T s false true [fB 16 i, fP first i c, fS s first] 3 17 i i false none (seen.add 7)) (mq T s false true [fB 16 i, fP first i c, fS s first] 3 25 (i + 1) i false none s1) := Go.one rfl (by
      have z1 : (T.getD i 0 == 34) = false := by simpa using e1
      have z2 : (T.getD i 0 == 92) = false := by simpa using e2
      rw [q_in, if_neg (by lia), e3, z1, z2]; rfl)
    have g3 := Go.one (m := mq T s false true [fB 16 i, fP first i c, fS s first] 3 25 (i + 1) i false none s1) rfl (q_jmp T s first false s1 i c)
    have g4 := Go.one (m := mq T s false true [fB 16 i, fP first i c, fS s first] 3 34 (i + 1) i false none (s1.add 15)) rfl (q_suc T s first false (s1.add 15) i (i + 1) c 16)
    have g5 := Go.one (m := mq T s false true [fB 16 i, fP first i c, fS s first] 3 34 (i + 1) (i + 1) false (some true) ((s1.add 15).add 1)) rfl (q_yes T s first false ((s1.add 15).add 1) i (i + 1) c 16 34)
    have g6 := Go.one (m := mq T s false true [fP first i c, fS s first] 2 16 i (i + 1) false (some true) ((s1.add 15).add 1)) rfl (q_more T s first false ((s1.add 15).add 1) i (i + 1) c 16 hc (by lia))
    obtain ⟨n, m', hn, g7, o1, o2, o3⟩ := ih s first ((s1.add 15).add 1) (c + 1) (by lia)
    have := r.le
    exact ⟨_, m', by lia, ((((((g1.trans g2).trans g3).trans g4).trans g5).trans g6).trans g7), o1, o2, o3⟩
  | @esc i j h e h2 e2 r ih =>
    intro s first seen c hc
    obtain ⟨s1, e3⟩ := qa_17 ((seen.add 7).add 13) (T.getD i 0)
    have g1 := Go.one (m := mq T s false true [fP first i c, fS s first] 2 15 i i false none seen) rfl (q_br T s first false seen i c)
    have g2 : Go 1 (mq T s false true [fB 16 i, fP first i c, fS s first] 3 17 i i false none (seen.add 7)) (mq T s false true [fB 16 i, fP first i c, fS s first] 3 17 i i false (some false) s1) := Go.one rfl (by
      rw [q_in, if_neg (by lia), e3, e]; rfl)
    have g3 := Go.one (m := mq T s false true [fB 16 i, fP first i c, fS s first] 3 17 i i false (some false) s1) rfl (q_bno T s first false s1 i c)
    have g4 : Go 1 (mq T s false true [fB 27 i, fP first i c, fS s first] 3 28 i i false none s1) (mq T s false true [fB 27 i, fP first i c, fS s first] 3 30 (i + 1) i false none (s1.add 16)) := Go.one rfl (by
      rw [q_bs, if_neg (by lia), qa_28, e]; rfl)
    have g5 : Go 1 (mq T s false true [fB 27 i, fP first i c, fS s first] 3 30 (i + 1) i false none (s1.add 16)) (mq T s false true [fB 27 i, fP first i c, fS s first] 3 31 (i + 2) i false none ((s1.add 16).add 2)) := Go.one rfl (by
      have z : (T.getD (i + 1) 0 != 10) = true := by simpa using e2
      rw [q_any, if_neg (by lia), qa_30, z])
    have g6 := Go.one (m := mq T s false true [fB 27 i, fP first i c, fS s first] 3 31 (i + 2) i false none ((s1.add 16).add 2)) rfl (q_jmp2 T s first false ((s1.add 16).add 2) i (i + 2) c)
    have g7 := Go.one (m := mq T s false true [fB 27 i, fP first i c, fS s first] 3 34 (i + 2) i false none (((s1.add 16).add 2).add 15)) rfl (q_suc T s first false (((s1.add 16).add 2).add 15) i (i + 2) c 27)
    have g8 := Go.one (m := mq T s false true [fB 27 i, fP first i c, fS s first] 3 34 (i + 2) (i + 2) false (some true) ((((s1.add 16).add 2).add 15).add 1)) rfl (q_yes T s first false ((((s1.add 16).add 2).add 15).add 1) i (i + 2) c 27 34)
    have g9 := Go.one (m := mq T s false true [fP first i c, fS s first] 2 27 i (i + 2) false (some true) ((((s1.add 16).add 2).add 15).add 1)) rfl (q_more T s first false ((((s1.add 16).add 2).add 15).add 1) i (i + 2) c 27 hc (by lia))
    obtain ⟨n, m', hn, g10, o1, o2, o3⟩ := ih s first ((((s1.add 16).add 2).add 15).add 1) (c + 1) (by lia)
    have := r.le
    exact ⟨_, m', by lia, (((((((((g1.trans g2).trans g3).trans g4).trans g5).trans g6).trans g7).trans g8).trans g9).trans g10), o1, o2, o3⟩
end Mine
namespace Mine
open PySem PySem.W PySem.Calls PyProof.Rows
open PySem.Builtin PySem.Builtin.Re
theorem slot_re_search : Slot "re.Pattern" "search" "re.Pattern.search" :=
  .of (owner := "re.Pattern") (n := "search") (by rw [typeLookup_type, builtinLookup_eq_fast]; kernel_rfl) (by decide +kernel) (by decide +kernel) (by decide +kernel)
    (by first | exact .inl (by decide +kernel) | exact .inr (by decide +kernel)) (by rw [isSubtype_type]; kernel_rfl)
theorem type_re_search : typeOf (.builtin "re.Pattern.search") = pure (.type "method_descriptor") := by show builtinType _ = _; rw [builtinType_eq_fast]; kernel_rfl
theorem entry_re_search : entryFor table "re.Pattern.search" = some Builtin.«re.Pattern.search» := entryFor_of_tree (by kernel_rfl)
theorem args_re_search (a b : Value) : argsOk "re.Pattern.search" ⟨[a, b], []⟩ := by unfold argsOk; kernel_rfl
theorem slot_re_sub : Slot "re.Pattern" "sub" "re.Pattern.sub" :=
  .of (owner := "re.Pattern") (n := "sub") (by rw [typeLookup_type, builtinLookup_eq_fast]; kernel_rfl) (by decide +kernel) (by decide +kernel) (by decide +kernel)
    (by first | exact .inl (by decide +kernel) | exact .inr (by decide +kernel)) (by rw [isSubtype_type]; kernel_rfl)
theorem type_re_sub : typeOf (.builtin "re.Pattern.sub") = pure (.type "method_descriptor") := by show builtinType _ = _; rw [builtinType_eq_fast]; kernel_rfl
theorem entry_re_sub : entryFor table "re.Pattern.sub" = some Builtin.«re.Pattern.sub» := entryFor_of_tree (by kernel_rfl)
theorem args_re_sub (a b c : Value) : argsOk "re.Pattern.sub" ⟨[a, b, c], []⟩ := by unfold argsOk; kernel_rfl
theorem entry_re_loop : entryFor table "re.Pattern.sub.loop" = some Builtin.«re.Pattern.sub.loop» := entryFor_of_tree (by kernel_rfl)
theorem plainAttrs_re : PlainAttrs "re.Pattern" :=
  ⟨⟨"object.__getattribute__", by rw [typeLookup_type, builtinLookup_eq_fast]; kernel_rfl, by decide +kernel⟩, by rw [typeLookup_type, builtinLookup_eq_fast]; kernel_rfl⟩
noncomputable def reInts (c : Array Nat) : Array Value := c.map fun (n : Nat) => Value.int (n : Int) 0
structure PatAt (h : Heap) (p a : Addr) (c : Array Nat) (kind : Int) : Prop where
  pat : ∃ x0 x1 sl, h.get? p = some { cls := .type "re.Pattern", dict := none, data := .fields #[x0, x1, .int 0 0, .none, .none, .ref a, .int kind 0], slots := sl }
  code : ∃ o, h.get? a = some o ∧ o.data = .seq (reInts c) 0
section
variable {prog : Program} {w : World} {A : Around} {E : Value → Shared → Prop} {s : Shared}
theorem call_fin {T : String} {name : Str} {id : String} {B : Builtin} {self : Value} {rest : List Value} {Q : Value → Shared → Prop} (slot : Slot T name id) (hT : s.TypeIs self T) (entry : entryFor table id = some B) (args : argsOk id ⟨self :: rest, []⟩)
    (h : wpAny (model prog w) A.in1 (B ⟨self :: rest, []⟩) (fun fin s' => match fin with
      | .done f => (match (Except.ok f : Result) with | .ok (.ret v) => Q v s' | .ok _ => False | .error e => E e s')
      | .again c' => c'.quiet = true ∧ codeAny (model prog w) A c' (fun r s' => match r with | .ok (.ret v) => Q v s' | .ok _ => False | .error e => E e s') s') E s) :
    wpAny (model prog w) A (call (.builtin id) (self :: rest)) Q E s :=
  wpAny_call (codeAny_call_builtin slot.plain entry (slot.check _ _ _ _ _ _ _ _ hT args h))
theorem raw_ints (c : Array Nat) : ((reInts c).map reRawOf).map Int.toNat = c := by
  unfold reInts
  simp only [Array.map_map]
  have : (Int.toNat ∘ reRawOf ∘ fun n : Nat => Value.int (n : Int) 0) = (_root_.id : Nat → Nat) := by funext n; rfl
  rw [this]; simp
theorem search_call {p a : Addr} {x : Str} {t : Tok} {Q : Value → Shared → Prop} (P : PatAt s.heap p a codeI 0) (h : noFig x.cps) (hz : x.length ≤ 1000000) (q : Q .none s) :
    wpAny (model prog w) A (call (.builtin "re.Pattern.search") [.ref p, .str x t]) Q E s := by
  obtain ⟨⟨x0, x1, sl, hp⟩, oc, hc, hd⟩ := P
  refine call_fin slot_re_search ⟨_, hp, rfl⟩ entry_re_search (args_re_search _ _) ?_
  unfold «re.Pattern.search» reTarget
  refine wpAny_bind (wpAny_bind (wpAny_of_eq (a := [some (.str x t), none, none]) (by kernel_rfl) ?_))
  refine wpAny_bind (wpAny_pure (wpAny_bind (wpAny_pure (wpAny_bind (wpAny_fieldsOf hp rfl ?_)))))
  refine wpAny_bind (wpAny_bind (wpAny_pure (wpAny_pure ?_)))
  show wpAny _ A.in1 (reNoCollectionInside (Value.str x t) 0 >>= fun _ => reRawItems (.ref a) >>= fun is => pure ({ pattern := Value.ref p, string := Value.str x t, code := is.map (·.toNat), text := x.cps, kind := 0, groups := 0, pos := min (0 : Int).toNat x.cps.size, lim := min (2 ^ 63 - 1 : Int).toNat x.cps.size } : ReTarget)) _ _ _
  refine wpAny_bind (wpAny_of_eq (a := ()) rfl ?_)
  unfold reRawItems
  refine wpAny_bind (wpAny_bind (wpAny_seqItems hc hd (wpAny_pure (wpAny_pure ?_))))
  dsimp only [Option.getD_some]
  rw [raw_ints]
  have hsz : x.cps.size = x.length := rfl
  have e1 : min (0 : Int).toNat x.cps.size = 0 := by simp
  have e2 : min (2 ^ 63 - 1 : Int).toNat x.cps.size = x.cps.size := by
    have : (2 ^ 63 - 1 : Int).toNat = 9223372036854775807 := by decide
    rw [this]; lia
  rw [e1, e2]
  obtain ⟨m', he, ho⟩ := search_fails x.cps h (by lia)
  unfold reAnswer
  exact wpAny_bind (to_end he (.inr ⟨ho, rfl⟩) (wpAny_pure q))
end
end Mine
namespace Mine
open PySem PySem.W PySem.Calls PyProof.Rows
open PySem.Builtin PySem.Builtin.Re
theorem slot_bytes_join : Slot "bytes" "join" "bytes.join" :=
  .of (owner := "bytes") (n := "join") (by rw [typeLookup_type, builtinLookup_eq_fast]; kernel_rfl) (by decide +kernel) (by decide +kernel) (by decide +kernel)
    (by first | exact .inl (by decide +kernel) | exact .inr (by decide +kernel)) (by rw [isSubtype_type]; kernel_rfl)
theorem entry_bytes_join : entryFor table "bytes.join" = some Builtin.«bytes.join» := entryFor_of_tree (by kernel_rfl)
theorem args_bytes_join (a b : Value) : argsOk "bytes.join" ⟨[a, b], []⟩ := by
  unfold argsOk; rw [signature?_of (id := "bytes.join") (n := ['n', 'i', 'o', 'j']) (o := ['s', 'e', 't', 'y', 'b']) (by kernel_rfl) FB.owner_bytes]; kernel_rfl
theorem take_eq {id : String} {b : Array UInt8} {t : Tok} : Bytes.takeBuffer? id (.bytes b t) 0 = pure (some (b, none)) := by
  unfold Bytes.takeBuffer?
  rw [KBy.special_eq KBy.look_buffer, KBy.own_buffer, show Bytes.buffer? id (.bytes b t) (full := (0 : Int) == Bytes.fullReadOnly) = pure (some b) from ?_]
  · kernel_rfl
  · unfold Bytes.buffer?
    rw [KBy.special_eq KBy.look_buffer, KBy.own_buffer, KBy.own_release]
    kernel_rfl
theorem takeQ_eq {id : String} {b : Array UInt8} {t : Tok} : Bytes.takeBufferQuiet? id (.bytes b t) 0 = pure (some (b, none)) := by
  unfold Bytes.takeBufferQuiet?
  rw [take_eq]
  rfl
section
variable {prog : Program} {w : World} {A : Around} {E : Value → Shared → Prop} {s : Shared}
noncomputable def bytesV (ps : List (Array UInt8 × Tok)) : List Value := ps.map fun p => .bytes p.1 p.2
theorem letgo_free {M : Model} {Q : Unit → Shared → Prop} : ∀ (taken : List (Value × Option Value)) (keep : List Value), (∀ x ∈ taken, x.2 = none) → Q () s → wpAny M A (Bytes.joinLetGo taken keep) Q E s
  | [], _, _, h => wpAny_pure h
  | (x, u) :: rest, keep, hn, h => by
    have e : u = none := hn (x, u) (.head _)
    subst e
    show wpAny M A (letGo [x] _ >>= fun _ => Bytes.joinLetGo rest keep) Q E s
    exact wpAny_bind (wpAny_letGo (letgo_free rest keep (fun y hy => hn y (.tail _ hy)) h))
theorem joined_nil (bs : List (Array UInt8)) : Bytes.joined #[] bs = bs.foldl (fun a b => a ++ b) #[] := by
  unfold Bytes.joined
  have key : ∀ (l : List (Array UInt8)) (k : Nat) (acc : Array UInt8), (l.zipIdx k).foldl (fun out (x : Array UInt8 × Nat) => (match x with | (p, i) => (if i > 0 then out ++ #[] else out) ++ p : Array UInt8)) acc = l.foldl (fun a b => a ++ b) acc := by
    intro l
    induction l with
    | nil => intro k acc; rfl
    | cons x l ih =>
      intro k acc
      rw [List.zipIdx_cons, List.foldl_cons, List.foldl_cons, ih]
      congr 1
      show (if k > 0 then acc ++ #[] else acc) ++ x = acc ++ x
      split <;> simp
  exact key bs 0 #[]
theorem join_call {l : Addr} {ps : List (Array UInt8 × Tok)} {n : Nat} {t : Tok} {Q : Value → Shared → Prop} (o : s.heap.get? l = some (lstO (bytesV ps) n)) (hne : ps ≠ []) (hz : ps.foldl (fun a p => a + p.1.size) 0 ≤ 1000000)
    (q : ∀ t' k, Q (.bytes (ps.foldl (fun a p => a ++ p.1) #[]) t') { s with toks := k }) : wpAny (model prog w) A (call (.builtin "bytes.join") [.bytes #[] t, .ref l]) Q E s := by
  refine call_fin slot_bytes_join (typeIs_bytes _ _ _) entry_bytes_join (args_bytes_join _ _) ?_
  unfold «bytes.join» Bytes.joinM
  refine wpAny_bind (wpAny_of_eq (a := (.bytes #[] t, .ref l)) (by kernel_rfl) ?_)
  show wpAny _ A.in1 (Bytes.joinItems (.ref l) >>= _) _ _ _
  unfold Bytes.joinItems
  refine wpAny_bind (wpAny_bind (wpAny_typeOf ⟨_, o, rfl⟩ ?_))
  refine wpAny_pure (wpAny_bind (wpAny_seqItems o rfl ?_))
  cases ps with
  | nil => exact absurd rfl hne
  | cons p ps =>
    obtain ⟨b, u⟩ := p
    cases ps with
    | nil =>
      show wpAny _ A.in1 (typeOf (.bytes b u) >>= _) _ _ _
      refine wpAny_bind (wpAny_typeOf (typeIs_bytes s b u) ?_)
      rw [if_pos (by decide)]
      refine wpAny_bind (wpAny_rule (wpAny_pure ?_))
      have h9 := q u s.toks
      have e9 : List.foldl (fun a (p : Array UInt8 × Tok) => a ++ p.1) #[] [(b, u)] = b := by simp
      rw [e9] at h9
      exact h9
    | cons p2 ps =>
      show wpAny _ A.in1 (forIn (m := Sem) [:(bytesV ((b, u) :: p2 :: ps)).toArray.size] ((#[], []) : Array (Array UInt8) × List (Value × Option Value)) _ >>= _) _ _ _
      generalize hps : (b, u) :: p2 :: ps = ps' at *
      have hN : (bytesV ps').toArray.size = ps'.length := by simp [bytesV]
      have jp : ∀ (x : List (Value × Option Value)) (parts : Array (Array UInt8)), parts = (ps'.map (·.1)).toArray → (∀ y ∈ x, y.2 = none) → wpAny (model prog w) A.in1 (do
          let sep ← Bytes.payload (Value.bytes #[] t)
          if Bytes.tooLong (Array.foldl (fun x1 x2 => x1 + x2.size) (sep.size * (parts.size - 1)) parts) = true then unsupported (toString (toString Bytes.Kind.bytes.name ++ toString ".join") ++ toString ":memory")
          let result ← Bytes.Kind.bytes.new (Bytes.joined sep parts.toList)
          holding (result :: x.flatMap fun (y, u) => y :: u.toList) point
          Bytes.joinLetGo x [result]
          ret result) (fun fin s' => match fin with
            | .done f => (match (Except.ok f : Result) with | .ok (.ret v) => Q v s' | .ok _ => False | .error e => E e s')
            | .again c' => c'.quiet = true ∧ codeAny (model prog w) A c' (fun r s' => match r with | .ok (.ret v) => Q v s' | .ok _ => False | .error e => E e s') s') E s := by
        rintro x parts rfl hx
        refine wpAny_bind (wpAny_of_eq (a := #[]) rfl ?_)
        have e1 : Array.foldl (fun x1 (x2 : Array UInt8) => x1 + x2.size) ((#[] : Array UInt8).size * ((ps'.map (·.1)).toArray.size - 1)) (ps'.map (·.1)).toArray = ps'.foldl (fun a p => a + p.1.size) 0 := by
          simp [List.foldl_map]
        rw [e1]
        have e2 : Bytes.tooLong (ps'.foldl (fun a p => a + p.1.size) 0) = false := by
          unfold Bytes.tooLong; exact decide_eq_false (Nat.not_lt.mpr (Nat.le_trans hz (by decide)))
        rw [e2]
        have e3 : Bytes.joined #[] (ps'.map (·.1)).toArray.toList = ps'.foldl (fun a p => a ++ p.1) #[] := by
          rw [joined_nil]; simp [List.foldl_map]
        rw [e3]
        have hsz : (ps'.foldl (fun a p => a ++ p.1) #[]).size ≤ sizeLine := by
          have key : ∀ (l : List (Array UInt8 × Tok)) (acc : Array UInt8) (k : Nat), acc.size = k → (l.foldl (fun a p => a ++ p.1) acc).size = l.foldl (fun a p => a + p.1.size) k := by
            intro l
            induction l with
            | nil => intro acc k h; exact h
            | cons x l ih => intro acc k h; rw [List.foldl_cons, List.foldl_cons]; exact ih _ _ (by simp [h])
          rw [key ps' #[] 0 rfl]
          exact Nat.le_trans hz (by decide)
        refine wpAny_bind (wpAny_mkBytes ?_ hsz)
        exact wpAny_bind (wpAny_holding (wpAny_point (wpAny_bind (letgo_free _ _ hx (wpAny_pure (q _ _))))))
      · rw [Std.Legacy.Range.forIn_eq_forIn_range']
        refine wpAny_bind (wpAny_forIn_list _ (fun rest (bb : Array (Array UInt8) × List (Value × Option Value)) s' => s' = s ∧ ∃ k, rest = List.range' k (ps'.length - k) ∧ k ≤ ps'.length ∧ bb.1 = ((ps'.take k).map (·.1)).toArray ∧ (∀ y ∈ bb.2, y.2 = none ∧ y.1.onHeap = false)) _ ?_ ?_ _ _ ⟨rfl, 0, ?_, Nat.zero_le _, rfl, by simp⟩)
        · rintro j rest ⟨parts, taken⟩ s' ⟨rfl, k, hr, hk, e1, e2⟩
          have hlt : k < ps'.length := by
            rcases Nat.lt_or_ge k ps'.length with h | h
            · exact h
            · rw [show ps'.length - k = 0 by lia] at hr; cases hr
          have hd : ps'.length - k = (ps'.length - (k + 1)) + 1 := by lia
          rw [hd, List.range'_succ] at hr
          injection hr with hj hrest
          subst hj hrest
          have hx : (bytesV ps').toArray.getD j Value.none = .bytes ps'[j].1 ps'[j].2 := by simp [bytesV, hlt]
          have hany : (taken.any fun x => x.1.onHeap) = false := by
            rw [List.any_eq_false]
            intro y hy; rw [(e2 y hy).2]; decide
          have e1 : parts = ((ps'.take j).map (·.1)).toArray := e1
          refine wpAny_bind (wpAny_seqItems o rfl ?_)
          dsimp only
          rw [hx, hany, if_neg (by decide)]
          refine wpAny_bind (wpAny_holding (wpAny_of_eq takeQ_eq ?_))
          dsimp only
          refine wpAny_bind (wpAny_seqItems o rfl ?_)
          dsimp only
          rw [if_neg (by simp)]
          refine wpAny_pure ⟨rfl, j + 1, rfl, hlt, ?_, ?_⟩
          · show parts.push ps'[j].1 = _
            rw [e1, List.take_succ_eq_append_getElem hlt, List.map_append]
            simp only [List.push_toArray, List.map_cons, List.map_nil]
          · intro y hy
            rcases List.mem_append.mp hy with hy | hy
            · exact e2 y hy
            · rw [List.mem_singleton.mp hy]; exact ⟨rfl, rfl⟩
        · rintro ⟨parts, taken⟩ s' ⟨rfl, k, hr, hk, e1, e2⟩
          have hkk : k = ps'.length := by
            rcases Nat.lt_or_ge k ps'.length with h | h
            · have hd : ps'.length - k = (ps'.length - (k + 1)) + 1 := by lia
              rw [hd, List.range'_succ] at hr; cases hr
            · lia
          subst hkk
          rw [List.take_length] at e1
          exact jp taken parts e1 fun y hy => (e2 y hy).1
        · rw [hN]; simp [Std.Legacy.Range.size]
end
end Mine
namespace Mine
open PySem PySem.W PySem.Calls PyProof.Rows
open PySem.Builtin PySem.Builtin.Re
noncomputable def nat8 (d : Array UInt8) : Array Nat := d.map (·.toNat)
noncomputable def cut8 (d : Array UInt8) (p q : Nat) : Array UInt8 := ((nat8 d).extract p q).map Nat.toUInt8
inductive Sub (d : Array UInt8) : Nat → Array UInt8 → Prop
  | last {p : Nat} (hp : p ≤ d.size) (h : ∀ i, p ≤ i → i < d.size → (nat8 d).getD i 0 ≠ 34) : Sub d p (cut8 d p d.size)
  | tok {p q j : Nat} {out : Array UInt8} (hpq : p ≤ q) (h : ∀ i, p ≤ i → i < q → (nat8 d).getD i 0 ≠ 34) (hq : (nat8 d).getD q 0 = 34) (b : Body (nat8 d) (q + 1) j) (r : Sub d (j + 1) out) : Sub d p (cut8 d p q ++ out)
theorem nat8_size (d : Array UInt8) : (nat8 d).size = d.size := by unfold nat8; simp
open Sre in
theorem q_run {T : Array Nat} {q j : Nat} (hq : T.getD q 0 = 34) (b : Body T (q + 1) j) : ∀ (e p : Nat) (first : Bool) (seen : Sre.Seen), p + e = q → (∀ i, p ≤ i → i < q → T.getD i 0 ≠ 34) →
    ∃ n m', n ≤ 12 * T.size + 40 ∧ Go n (mq T p false false [fS p first] 1 9 p p first none seen) m' ∧ m'.outcome = some .matched ∧ m'.start = q ∧ m'.handed = j + 1 := by
  have hb := b.le
  have key : ∀ (e p : Nat) (first : Bool) (seen : Sre.Seen), p + e = q → (∀ i, p ≤ i → i < q → T.getD i 0 ≠ 34) → ∃ n m', n ≤ 2 * e + 10 * (j - q) + 40 ∧ Go n (mq T p false false [fS p first] 1 9 p p first none seen) m' ∧ m'.outcome = some .matched ∧ m'.start = q ∧ m'.handed = j + 1 := by
    intro e
    induction e with
    | zero =>
      intro p first seen he h
      have : p = q := by lia
      subst this
      have g1 : Go 1 (mq T p false false [fS p first] 1 9 p p first none seen) (mq T p false false [fS p first] 1 11 (p + 1) p first none (seen.add 16)) := Go.one rfl (by
        rw [q_lit, if_neg (by lia), qa_9, hq]; rfl)
      have g2 := Go.one (m := mq T p false false [fS p first] 1 11 (p + 1) p first none (seen.add 16)) rfl (q_poss T p first false (seen.add 16))
      obtain ⟨n, m', hn, g3, o⟩ := q_body b p first ((seen.add 16).add 28) 0 (Int.le_refl 0)
      exact ⟨1 + 1 + n, m', by lia, (g1.trans g2).trans g3, o⟩
    | succ e ih =>
      intro p first seen he h
      have z : (T.getD p 0 == 34) = false := by simpa using h p (Nat.le_refl _) (by lia)
      have g1 : Go 1 (mq T p false false [fS p first] 1 9 p p first none seen) (mq T p false false [fS p first] 1 9 p p first (some false) (seen.add 16)) := Go.one rfl (by
        rw [q_lit, if_neg (by lia), qa_9, z])
      have g2 : Go 1 (mq T p false false [fS p first] 1 9 p p first (some false) (seen.add 16)) (mq T (p + 1) false false [fS (p + 1) false] 1 9 (p + 1) (p + 1) false none (seen.add 16)) := Go.one rfl (by
        rw [q_no, if_pos (by lia)])
      obtain ⟨n, m', hn, g3, o⟩ := ih (p + 1) false (seen.add 16) (by lia) (fun i h1 h2 => h i (by lia) h2)
      exact ⟨1 + 1 + n, m', by lia, (g1.trans g2).trans g3, o⟩
  intro e p first seen he h
  obtain ⟨n, m', hn, r⟩ := key e p first seen he h
  exact ⟨n, m', by lia, r⟩
open Sre in
theorem q_none {T : Array Nat} : ∀ (e p : Nat) (first : Bool) (seen : Sre.Seen), p + e = T.size → (∀ i, p ≤ i → i < T.size → T.getD i 0 ≠ 34) →
    ∃ n m', n ≤ 2 * e + 10 ∧ Go n (mq T p false false [fS p first] 1 9 p p first none seen) m' ∧ m'.outcome = some .failed := by
  intro e
  induction e with
  | zero =>
    intro p first seen he h
    have g1 : Go 1 (mq T p false false [fS p first] 1 9 p p first none seen) (mq T p false false [fS p first] 1 9 p p first (some false) (seen.add 16)) := Go.one rfl (by
      rw [q_lit, if_pos (by lia)])
    have g2 : Go 1 (mq T p false false [fS p first] 1 9 p p first (some false) (seen.add 16)) { mq T p false false [] 0 9 p p first (some false) (seen.add 16) with frames := [] } := Go.one rfl (by
      rw [q_no, if_neg (by lia)])
    exact ⟨3, _, by lia, (g1.trans g2).trans (Go.one rfl (q_end T p first false (seen.add 16))), rfl⟩
  | succ e ih =>
    intro p first seen he h
    have z : (T.getD p 0 == 34) = false := by simpa using h p (Nat.le_refl _) (by lia)
    have g1 : Go 1 (mq T p false false [fS p first] 1 9 p p first none seen) (mq T p false false [fS p first] 1 9 p p first (some false) (seen.add 16)) := Go.one rfl (by
      rw [q_lit, if_neg (by lia), qa_9, z])
    have g2 : Go 1 (mq T p false false [fS p first] 1 9 p p first (some false) (seen.add 16)) (mq T (p + 1) false false [fS (p + 1) false] 1 9 (p + 1) (p + 1) false none (seen.add 16)) := Go.one rfl (by
      rw [q_no, if_pos (by lia)])
    obtain ⟨n, m', hn, g3, o⟩ := ih (p + 1) false (seen.add 16) (by lia) (fun i h1 h2 => h i (by lia) h2)
    exact ⟨1 + 1 + n, m', by lia, (g1.trans g2).trans g3, o⟩
open Sre in
theorem q_search (T : Array Nat) (p : Nat) : forSearch codeQ T 0 p T.size false = if (decide (p > T.size) || decide (T.size - p < 2)) = true then { mq T p false false [] 0 9 p p true (some false) (({} : Sre.Seen).add 14) with lastStart := 0 } else mq T p false false [fS p true] 1 9 p p true none (({} : Sre.Seen).add 14) := by rfl
open Sre in
theorem q_found {T : Array Nat} (hz : T.size ≤ 1000000) {p q j : Nat} (hpq : p ≤ q) (h : ∀ i, p ≤ i → i < q → T.getD i 0 ≠ 34) (hq : T.getD q 0 = 34) (b : Body T (q + 1) j) : ∃ m', Ends (forSearch codeQ T 0 p T.size false) m' ∧ m'.outcome = some .matched ∧ m'.start = q ∧ m'.handed = j + 1 := by
  have hb := b.le
  obtain ⟨n, m', hn, g, o⟩ := q_run hq b (q - p) p true (({} : Sre.Seen).add 14) (by lia) h
  refine ⟨m', ⟨n, by lia, ?_, by rw [o.1]; rfl⟩, o⟩
  rw [q_search, if_neg (by rw [Bool.or_eq_true]; rintro (z | z) <;> have := of_decide_eq_true z <;> lia)]
  have := g 0
  rw [Nat.add_zero] at this
  exact this
open Sre in
theorem q_notfound {T : Array Nat} (hz : T.size ≤ 1000000) {p : Nat} (hp : p ≤ T.size) (h : ∀ i, p ≤ i → i < T.size → T.getD i 0 ≠ 34) : ∃ m', Ends (forSearch codeQ T 0 p T.size false) m' ∧ m'.outcome = some .failed := by
  by_cases h2 : T.size - p < 2
  · rw [q_search, if_pos (by rw [Bool.or_eq_true]; right; exact decide_eq_true h2)]
    exact ⟨{ mq T p false false [] 0 9 p p true (some false) (({} : Sre.Seen).add 14) with lastStart := 0, outcome := some .failed }, ⟨1, by decide, rfl, rfl⟩, rfl⟩
  · obtain ⟨n, m', hn, g, o⟩ := q_none (T.size - p) p true (({} : Sre.Seen).add 14) (by lia) h
    refine ⟨m', ⟨n, by lia, ?_, by rw [o]; rfl⟩, o⟩
    rw [q_search, if_neg (by rw [Bool.or_eq_true]; rintro (z | z) <;> have := of_decide_eq_true z <;> lia)]
    have := g 0
    rw [Nat.add_zero] at this
    exact this
end Mine
namespace Mine
open PySem PySem.W PySem.Calls PyProof.Rows
open PySem.Builtin PySem.Builtin.Re
section
variable {prog : Program} {w : World} {A : Around} {E : Value → Shared → Prop} {s : Shared}
theorem textOf_bytes {M : Model} {d : Array UInt8} {t : Tok} {Q : Array Nat × Nat → Shared → Prop} (q : Q (nat8 d, 1) s) : wpAny M A (reTextOf (.bytes d t)) Q E s := by
  unfold reTextOf
  refine wpAny_bind (wpAny_of_eq (a := none) rfl ?_)
  refine wpAny_bind (wpAny_of_eq KBy.quiet_eq (wpAny_pure q))
theorem noColl_bytes {M : Model} {d : Array UInt8} {t : Tok} {Q : Unit → Shared → Prop} (q : Q () s) : wpAny M A (reNoCollectionInside (.bytes d t) 1) Q E s := by
  unfold reNoCollectionInside
  rw [if_pos (by decide)]
  refine wpAny_bind (wpAny_of_eq KBy.isInstance_eq ?_)
  exact wpAny_pure q
theorem whole_bytes {M : Model} {p a : Addr} {d : Array UInt8} {t : Tok} {Q : ReTarget → Shared → Prop} (P : PatAt s.heap p a codeQ 1)
    (q : Q { pattern := .ref p, string := .bytes d t, code := codeQ, text := nat8 d, kind := 1, groups := 0, pos := 0, lim := (nat8 d).size } s) : wpAny M A (reWholeTarget (.ref p) (.bytes d t)) Q E s := by
  obtain ⟨⟨x0, x1, sl, hp⟩, oc, hc, hd⟩ := P
  unfold reWholeTarget
  refine wpAny_bind (wpAny_fieldsOf hp rfl (wpAny_bind (textOf_bytes ?_)))
  show wpAny _ A (reNoCollectionInside (Value.bytes d t) 1 >>= fun _ => reRawItems (.ref a) >>= fun is => pure ({ pattern := Value.ref p, string := Value.bytes d t, code := is.map (·.toNat), text := nat8 d, kind := 1, groups := 0, pos := 0, lim := (nat8 d).size } : ReTarget)) _ _ _
  refine wpAny_bind (noColl_bytes ?_)
  unfold reRawItems
  refine wpAny_bind (wpAny_bind (wpAny_seqItems hc hd (wpAny_pure (wpAny_pure ?_))))
  dsimp only [Option.getD_some]
  rw [raw_ints]
  exact q
theorem push_list {M : Model} {l : Addr} {vs : List Value} {n : Nat} {v : Value} {Q : Unit → Shared → Prop} (o : s.heap.get? l = some (lstO vs n)) (hz : vs.length ≤ 1000000)
    (q : ∀ h' m, Heap.SameBut l s.heap h' → h'.get? l = some (lstO (vs ++ [v]) m) → Q () { s with heap := h' }) : wpAny M A (updateSeq l (·.push v)) Q E s := by
  have e : sizeLine = 16777216 := by decide
  refine wpAny_updateSeq o rfl ?_ (by simp only [List.size_toArray]; lia) (by simp only [Array.size_push, List.size_toArray]; lia)
  obtain ⟨m, o2⟩ := lst_update o (fun xs => xs.push v)
  have e6 : (vs.toArray.push v).toList = vs ++ [v] := by simp
  rw [e6] at o2
  exact q _ m (Heap.SameBut.update ..) o2
theorem slice_eq {M : Model} {d : Array UInt8} {p q : Nat} {Q : Value → Shared → Prop} (hz : d.size ≤ 1000000) (h : Q (.bytes (cut8 d p q) s.toks) { s with toks := s.toks + 1 }) : wpAny M A (reSlice (nat8 d) 1 p q) Q E s := by
  show wpAny M A (mkBytes (cut8 d p q)) Q E s
  refine wpAny_mkBytes h ?_
  have : (cut8 d p q).size ≤ d.size := by
    unfold cut8
    rw [Array.size_map, Array.size_extract, nat8_size]
    lia
  exact Nat.le_trans this (Nat.le_trans hz (by decide))
theorem cut8_size (d : Array UInt8) (p q : Nat) (h : p ≤ q) (hq : q ≤ d.size) : (cut8 d p q).size = q - p := by
  unfold cut8
  rw [Array.size_map, Array.size_extract, nat8_size]
  lia
noncomputable def catB (ps : List (Array UInt8 × Tok)) : Array UInt8 := ps.foldl (fun a p => a ++ p.1) #[]
theorem catB_snoc (ps : List (Array UInt8 × Tok)) (b : Array UInt8) (t : Tok) : catB (ps ++ [(b, t)]) = catB ps ++ b := by unfold catB; rw [List.foldl_append]; rfl
noncomputable def lenB (ps : List (Array UInt8 × Tok)) : Nat := ps.foldl (fun a p => a + p.1.size) 0
theorem lenB_snoc (ps : List (Array UInt8 × Tok)) (b : Array UInt8) (t : Tok) : lenB (ps ++ [(b, t)]) = lenB ps + b.size := by unfold lenB; rw [List.foldl_append]; rfl
theorem bytesV_snoc (ps : List (Array UInt8 × Tok)) (b : Array UInt8) (t : Tok) : bytesV (ps ++ [(b, t)]) = bytesV ps ++ [.bytes b t] := by unfold bytesV; simp
theorem cut8_nil (d : Array UInt8) (p q : Nat) (h : q ≤ p) : cut8 d p q = #[] := by
  unfold cut8
  have : (nat8 d).extract p q = #[] := by
    apply Array.eq_empty_of_size_eq_zero
    rw [Array.size_extract]; lia
  rw [this]; simp
structure Slot1 (s0 s : Shared) (l : Addr) : Prop where
  sh : ∃ h tk, s = { s0 with heap := h, toks := tk }
  kp : ∀ a o, a ≠ l → s0.heap.get? a = some o → s.heap.get? a = some o
  tk : s0.toks ≤ s.toks
theorem Slot1.refl (s : Shared) (l : Addr) : Slot1 s s l := ⟨⟨_, _, rfl⟩, fun _ _ _ e => e, Nat.le_refl _⟩
theorem Slot1.heap {s0 s : Shared} {l : Addr} (x : Slot1 s0 s l) {h' : Heap} (hs : Heap.SameBut l s.heap h') : Slot1 s0 { s with heap := h' } l := by
  refine ⟨?_, fun a o ne e => (hs.2 a ne).trans (x.kp a o ne e), x.tk⟩
  obtain ⟨h, tk, rfl⟩ := x.sh; exact ⟨_, _, rfl⟩
theorem Slot1.tok {s0 s : Shared} {l : Addr} (x : Slot1 s0 s l) {k : Nat} (h : s.toks ≤ k) : Slot1 s0 { s with toks := k } l := by
  refine ⟨?_, x.kp, Nat.le_trans x.tk h⟩
  obtain ⟨h, tk, rfl⟩ := x.sh; exact ⟨_, _, rfl⟩
theorem PatAt.keep {h h' : Heap} {p a : Addr} {c : Array Nat} {kd : Int} (P : PatAt h p a c kd) (k : ∀ b o, (b = p ∨ b = a) → h.get? b = some o → h'.get? b = some o) : PatAt h' p a c kd :=
  let ⟨⟨x0, x1, sl, e⟩, o, e2, e3⟩ := P
  ⟨⟨x0, x1, sl, k _ _ (.inl rfl) e⟩, o, k _ _ (.inr rfl) e2, e3⟩
theorem lit_ok {M : Model} {d : Array UInt8} {t : Tok} {Q : Unit → Shared → Prop} (q : Q () s) : wpAny M A (reLiteralCannotBeTurned (.bytes d t)) Q E s := by
  unfold reLiteralCannotBeTurned
  refine wpAny_bind (wpAny_of_eq (a := none) rfl ?_)
  rw [if_pos (by decide)]
  exact wpAny_bind (wpAny_of_eq KBy.isInstance_eq (wpAny_pure q))
theorem loop_ok {p a l : Addr} {d : Array UInt8} {t r : Tok} {R : Result → Shared → Prop} {s0 : Shared} (hz : d.size ≤ 1000000) (hlp : p ≠ l) (hla : a ≠ l) (P0 : PatAt s0.heap p a codeQ 1) {x : Nat} {out : Array UInt8} (S : Sub d x out) :
    ∀ (s : Shared) (ps : List (Array UInt8 × Tok)) (m cnt : Nat), Slot1 s0 s l → s.heap.get? l = some (lstO (bytesV ps) m) → ps.length ≤ x → lenB ps ≤ x → x ≤ d.size →
      (∀ s' t', Slot1 s0 s' l → R (.ok (.ret (.bytes (catB ps ++ out) t'))) s') →
      codeAny (model prog w) A (.builtin "re.Pattern.sub.loop" ⟨[.ref p, .bytes d t, .bytes #[] r, .int 0 0, .int 0 0, .int (cnt : Int) 0, .int (x : Int) 0, .int (x : Int) 0, .bool false, .ref l, .bool false], []⟩) R s := by
  induction S with
  | @last x hx h =>
    intro s ps m cnt K o hl1 hl2 hle q
    have P := P0.keep (h' := s.heap) fun b o hb e => K.kp b o (by rcases hb with rfl | rfl <;> assumption) e
    refine codeAny_builtin entry_re_loop ?_
    unfold «re.Pattern.sub.loop»
    refine wpAny_bind (whole_bytes P ?_)
    dsimp only
    rw [if_pos (by decide)]
    refine wpAny_bind (lit_ok ?_)
    rw [if_neg (by simp)]
    have hsz := nat8_size d
    obtain ⟨m', he, ho⟩ := q_notfound (T := nat8 d) (by lia) (p := x) (by lia) (by rw [hsz]; exact h)
    refine wpAny_bind (show wpAny _ _ (reRunToEnd (Sre.forSearch codeQ (nat8 d) 0 x (nat8 d).size false)) _ _ _ from to_end he (.inr ⟨ho, rfl⟩) ?_)
    dsimp only
    have fin : ∀ (s1 : Shared) (ps1 : List (Array UInt8 × Tok)) (m1 : Nat), Slot1 s0 s1 l → s1.heap.get? l = some (lstO (bytesV ps1) m1) → lenB ps1 ≤ d.size → catB ps1 = catB ps ++ cut8 d x d.size →
        wpAny (model prog w) (A.under (Code.builtin "re.Pattern.sub.loop" ⟨[.ref p, .bytes d t, .bytes #[] r, .int 0 0, .int 0 0, .int (cnt : Int) 0, .int (x : Int) 0, .int (x : Int) 0, .bool false, .ref l, .bool false], []⟩)) (do
              let joiner ← reSlice (nat8 d) 1 0 0
              let items ← seqItems? (Value.ref l)
              let text ← if (items.getD #[]).isEmpty = true then pure joiner else call (.builtin (if (1 : Nat) == 0 then "str.join" else "bytes.join")) [joiner, .ref l]
              if false = true then do
                  let __do_lift ← holding [text] do
                        let __do_lift ← mkInt (cnt : Int)
                        newTuple [text, __do_lift]
                  ret __do_lift
                else ret text) (fun fin s' => match fin with | .done f => R (.ok f) s' | .again c' => c'.quiet = true ∧ codeAny (model prog w) A c' R s') (fun e s' => R (.error e) s') s1 := by
      intro s1 ps1 m1 K1 o1 hl e1
      refine wpAny_bind (slice_eq hz ?_)
      rw [cut8_nil d 0 0 (Nat.le_refl _)]
      refine wpAny_bind (wpAny_seqItems (s := { s1 with toks := s1.toks + 1 }) o1 rfl ?_)
      dsimp only [Option.getD_some]
      by_cases hn : ps1 = []
      · subst hn
        rw [if_pos (by rfl)]
        refine wpAny_bind (wpAny_pure ?_)
        rw [if_neg (by decide)]
        refine wpAny_pure ?_
        have e2 : catB ps ++ cut8 d x d.size = #[] := by rw [← e1]; rfl
        have := q _ s1.toks (K1.tok (Nat.le_succ s1.toks))
        rw [e2] at this
        exact this
      · rw [if_neg (by
          cases ps1 with
          | nil => exact absurd rfl hn
          | cons y ys => simp [bytesV])]
        refine wpAny_bind (show wpAny _ _ (call (.builtin "bytes.join") [.bytes #[] s1.toks, .ref l]) _ _ _ from wpAny_with_toks (n := s1.toks + 1) (Nat.le_refl _) (join_call (s := { s1 with toks := s1.toks + 1 }) o1 hn (by show lenB ps1 ≤ _; lia) fun t' k htk => ?_))
        rw [if_neg (by decide)]
        refine wpAny_pure ?_
        show R (.ok (.ret (.bytes (catB ps1) t'))) _
        rw [e1]
        exact q _ t' (K1.tok (Nat.le_trans (Nat.le_succ _) htk))
    by_cases hlt : x < d.size
    · rw [if_pos (by show (Int.toNat (x : Int)) < (nat8 d).size; rw [hsz]; simpa using hlt)]
      refine wpAny_bind (show wpAny _ _ (reSlice (nat8 d) 1 x (nat8 d).size) _ _ _ from slice_eq hz ?_)
      rw [hsz]
      refine wpAny_bind (push_list (s := { s with toks := s.toks + 1 }) o (by unfold bytesV; rw [List.length_map]; lia) fun h' m2 hs' o2 => ?_)
      rw [← bytesV_snoc] at o2
      exact fin _ _ m2 ((K.tok (Nat.le_succ s.toks)).heap hs') o2 (by rw [lenB_snoc, cut8_size d x d.size hx (Nat.le_refl _)]; lia) (catB_snoc _ _ _)
    · rw [if_neg (by show ¬ (Int.toNat (x : Int)) < (nat8 d).size; rw [hsz]; simpa using hlt)]
      refine fin s ps m K o (by lia) ?_
      rw [cut8_nil d x d.size (by lia)]; simp
  | @tok x q0 j out hpq h hq b S ih =>
    intro s ps m cnt K o hl1 hl2 hle q
    have P := P0.keep (h' := s.heap) fun b o hb e => K.kp b o (by rcases hb with rfl | rfl <;> assumption) e
    refine codeAny_builtin entry_re_loop ?_
    unfold «re.Pattern.sub.loop»
    refine wpAny_bind (whole_bytes P ?_)
    dsimp only
    rw [if_pos (by decide)]
    refine wpAny_bind (lit_ok ?_)
    rw [if_neg (by simp)]
    have hsz := nat8_size d
    have hb := b.le
    obtain ⟨m', he, ho, hst, hha⟩ := q_found (T := nat8 d) (by lia) hpq h hq b
    refine wpAny_bind (show wpAny _ _ (reRunToEnd (Sre.forSearch codeQ (nat8 d) 0 x (nat8 d).size false)) _ _ _ from to_end he (.inl ⟨ho, rfl⟩) ?_)
    dsimp only
    rw [hst, hha]
    have hneq : (j + 1 == q0) = false := by simpa using (by lia : ¬ j + 1 = q0)
    have again_ok : ∀ (s1 : Shared) (ps1 : List (Array UInt8 × Tok)) (m1 : Nat), Slot1 s0 s1 l → s1.heap.get? l = some (lstO (bytesV ps1) m1) → ps1.length ≤ x + 1 → lenB ps1 ≤ q0 → catB ps1 = catB ps ++ cut8 d x q0 →
        wpAny (model prog w) (A.under (Code.builtin "re.Pattern.sub.loop" ⟨[.ref p, .bytes d t, .bytes #[] r, .int 0 0, .int 0 0, .int (cnt : Int) 0, .int (x : Int) 0, .int (x : Int) 0, .bool false, .ref l, .bool false], []⟩)) (updateSeq l (·.push (.bytes #[] r)) >>= fun _ =>
          again (.builtin "re.Pattern.sub.loop" ⟨[.ref p, .bytes d t, .bytes #[] r, rawInt 0, rawInt 0, rawInt ((cnt : Int) + 1), rawInt ((j + 1 : Nat) : Int), rawInt ((j + 1 : Nat) : Int), .bool (j + 1 == q0), .ref l, .bool false], []⟩)) (fun fin s' => match fin with | .done f => R (.ok f) s' | .again c' => c'.quiet = true ∧ codeAny (model prog w) A c' R s') (fun e s' => R (.error e) s') s1 := by
      intro s1 ps1 m1 K1 o1 hl1' hl2' e1
      refine wpAny_bind (push_list o1 (by unfold bytesV; rw [List.length_map]; lia) fun h' m2 hs' o2 => ?_)
      rw [← bytesV_snoc] at o2
      refine wpAny_pure ⟨Code.quiet_builtin _ (by decide +kernel), ?_⟩
      rw [hneq]
      refine ih _ (ps1 ++ [(#[], r)]) m2 (cnt + 1) (K1.heap hs') o2 (by simp; lia) (by rw [lenB_snoc]; simp; lia) (by lia) fun s' t' K' => ?_
      have := q s' t' K'
      rw [catB_snoc, e1]
      simpa [Array.append_assoc] using this
    by_cases hlt : x < q0
    · rw [if_pos (by show (Int.toNat (x : Int)) < q0; simpa using hlt)]
      refine wpAny_bind (show wpAny _ _ (reSlice (nat8 d) 1 x q0) _ _ _ from slice_eq hz ?_)
      refine wpAny_bind (push_list (s := { s with toks := s.toks + 1 }) o (by unfold bytesV; rw [List.length_map]; lia) fun h' m2 hs' o2 => ?_)
      rw [← bytesV_snoc] at o2
      exact again_ok _ _ m2 ((K.tok (Nat.le_succ s.toks)).heap hs') o2 (by simp; lia) (by rw [lenB_snoc, cut8_size d x q0 hpq (by lia)]; lia) (catB_snoc _ _ _)
    · rw [if_neg (by show ¬ (Int.toNat (x : Int)) < q0; simpa using hlt)]
      refine again_ok s ps m K o (by lia) (by lia) ?_
      rw [cut8_nil d x q0 (by lia)]; simp
end
end Mine
namespace Mine
open PySem PySem.W PySem.Calls PyProof.Rows
open PySem.Builtin PySem.Builtin.Re
section
variable {prog : Program} {w : World} {A : Around} {E : Value → Shared → Prop} {s : Shared}
theorem call_bytes_none : typeLookup (.type "bytes") "__call__" = pure none := by rw [typeLookup_type, builtinLookup_eq_fast]; kernel_rfl
theorem sub_call {p a : Addr} {d out : Array UInt8} {t r : Tok} {Q : Value → Shared → Prop} (P : PatAt s.heap p a codeQ 1) (hz : d.size ≤ 1000000) (S : Sub d 0 out)
    (q : ∀ s' t', Kp s s' → Q (.bytes out t') s') : wpAny (model prog w) A (call (.builtin "re.Pattern.sub") [.ref p, .bytes #[] r, .bytes d t]) Q E s := by
  have hT : s.TypeIs (.ref p) "re.Pattern" := let ⟨⟨_, _, _, e⟩, _⟩ := P; ⟨_, e, rfl⟩
  have plt : ∀ b, (b = p ∨ b = a) → b ≠ s.heap.objs.size := by
    intro b hb z
    obtain ⟨⟨_, _, _, e⟩, o, e2, _⟩ := P
    rcases hb with rfl | rfl
    · rw [z, dead_size] at e; cases e
    · rw [z, dead_size] at e2; cases e2
  refine call_fin slot_re_sub hT entry_re_sub (args_re_sub _ _ _) ?_
  unfold «re.Pattern.sub» reSubstitute
  dsimp only
  refine wpAny_bind (wpAny_of_eq (a := [some (.bytes #[] r), some (.bytes d t), none]) (by kernel_rfl) ?_)
  dsimp only
  refine wpAny_bind (wpAny_pure ?_)
  refine wpAny_bind (wpAny_of_eq (KBy.special_eq call_bytes_none) ?_)
  dsimp only [Option.isSome_none]
  rw [if_neg (by decide)]
  refine wpAny_bind (wpAny_of_eq (a := none) rfl ?_)
  dsimp only
  refine wpAny_bind (wpAny_of_eq KBy.quiet_eq ?_)
  dsimp only
  refine wpAny_bind (wpAny_pure ?_)
  rw [if_neg (by decide), if_pos (by simp)]
  refine wpAny_bind (wpAny_pure ?_)
  dsimp only
  refine wpAny_bind (wpAny_holding (whole_bytes P ?_))
  rw [if_neg (by decide)]
  refine wpAny_bind (wpAny_newObj_type ?_)
  refine wpAny_pure ⟨Code.quiet_builtin _ (by decide +kernel), ?_⟩
  have k0 := kp_push (s := s) { cls := .type "list", dict := none, data := .seq ([] : List Value).toArray }
  have P1 := P.keep (h' := s.heap.push { cls := .type "list", dict := none, data := .seq ([] : List Value).toArray }) fun b o _ e => Heap.get?_push_of_some _ e
  refine loop_ok (s0 := { s with heap := s.heap.push { cls := .type "list", dict := none, data := .seq ([] : List Value).toArray } }) (l := s.heap.objs.size) hz (plt p (.inl rfl)) (plt a (.inr rfl)) P1 S _ [] 0 0 (.refl _ _) (Heap.get?_push_size _ rfl) (Nat.le_refl _) (Nat.le_refl _) (Nat.zero_le _) fun s' t' K => ?_
  have e : catB [] ++ out = out := by show #[] ++ out = out; simp
  rw [e]
  refine q s' t' ⟨?_, fun {b o} e => K.kp b o (fun z => by rw [z, dead_size] at e; cases e) (Heap.get?_push_of_some _ e), K.tk⟩
  obtain ⟨h, tk, rfl⟩ := K.sh
  exact ⟨_, _, rfl⟩
end
end Mine
namespace Mine
open PySem PySem.W PySem.Calls PyProof.Rows
noncomputable def figOk : List Nat → Bool
  | c :: d :: r => !(c == 46 && Sre.isDigit d) && figOk (d :: r)
  | _ => true
theorem figOk_at : ∀ (l : List Nat) (i : Nat), figOk l = true → l.getD i 0 = 46 → i + 1 < l.length → Sre.isDigit (l.getD (i + 1) 0) = false
  | [], _, _, _, h => by simp at h
  | [_], i, _, _, h => by simp at h
  | c :: d :: r, 0, h, e, _ => by
    unfold figOk at h
    rw [Bool.and_eq_true] at h
    have e : c = 46 := e
    subst e
    have := h.1
    simpa using this
  | c :: d :: r, i + 1, h, e, hl => by
    unfold figOk at h
    rw [Bool.and_eq_true] at h
    exact figOk_at (d :: r) i h.2 (by simpa using e) (by simpa using hl)
theorem noFig_of {T : Array Nat} (h : figOk T.toList = true) : noFig T := fun i e hl => by
  have := figOk_at T.toList i h (by simpa [List.getD_eq_getElem?_getD] using e) (by simpa using hl)
  simpa [List.getD_eq_getElem?_getD] using this
noncomputable def strip : Bool → List UInt8 → Option (List UInt8)
  | false, [] => some []
  | true, [] => none
  | false, c :: r => if c = 34 then strip true r else (strip false r).map (c :: ·)
  | true, [c] => if c = 34 then some [] else none
  | true, c :: e :: r => if c = 34 then strip false (e :: r) else if c = 92 then (if e = 10 then none else strip true r) else strip true (e :: r)
theorem nat8_getD (d : Array UInt8) (i : Nat) : (nat8 d).getD i 0 = (d.toList.getD i 0).toNat := by
  unfold nat8
  simp only [Array.getD_eq_getD_getElem?, List.getD_eq_getElem?_getD, Array.getElem?_map, Array.getElem?_toList]
  cases d[i]? <;> rfl
theorem u8_eq {c : UInt8} {n : Nat} (hn : n < 256) (h : c.toNat = n) : c = n.toUInt8 := by
  apply UInt8.toNat_inj.mp
  rw [h]
  show n = (UInt8.ofNat n).toNat
  rw [UInt8.toNat_ofNat']
  lia
theorem cut8_list (d : Array UInt8) (p q : Nat) : (cut8 d p q).toList = (d.toList.drop p).take (q - p) := by
  unfold cut8 nat8
  rw [Array.toList_map, Array.toList_extract, Array.toList_map, List.extract_eq_take_drop]
  rw [← List.map_drop, ← List.map_take, List.map_map]
  have : (Nat.toUInt8 ∘ UInt8.toNat) = (_root_.id : UInt8 → UInt8) := by
    funext c
    show Nat.toUInt8 c.toNat = c
    exact (u8_eq (by exact c.toNat_lt) rfl).symm
  rw [this]; simp
theorem arr_ext {a b : Array UInt8} (h : a.toList = b.toList) : a = b := by
  cases a; cases b; simpa using h
theorem cut8_cons (d : Array UInt8) {p q : Nat} {c : UInt8} {r : List UInt8} (h : d.toList.drop p = c :: r) (hq : p < q) : cut8 d p q = #[c] ++ cut8 d (p + 1) q := by
  apply arr_ext
  rw [Array.toList_append, cut8_list, cut8_list]
  have e : d.toList.drop (p + 1) = r := by
    have := congrArg (List.drop 1) h
    rw [List.drop_drop] at this
    simpa using this
  rw [h, e]
  rw [show q - p = (q - (p + 1)) + 1 by lia]
  rfl
theorem Sub.cons {d : Array UInt8} {p : Nat} {c : UInt8} {r : List UInt8} (h : d.toList.drop p = c :: r) (hc : c ≠ 34) {out : Array UInt8} (S : Sub d (p + 1) out) (hp : p < d.size) : Sub d p (#[c] ++ out) := by
  have hg : d.toList.getD p 0 = c := by
    have := congrArg (fun l => l.getD 0 0) h
    simpa [List.getD_eq_getElem?_getD] using this
  have hT : (nat8 d).getD p 0 ≠ 34 := by
    rw [nat8_getD, hg]
    intro z
    exact hc (u8_eq (by decide) z)
  cases S with
  | last hp1 h1 =>
    rw [← cut8_cons d h hp]
    refine .last (Nat.le_of_lt hp) fun i h2 h3 => ?_
    rcases Nat.eq_or_lt_of_le h2 with rfl | h2
    · exact hT
    · exact h1 i h2 h3
  | tok hpq h1 hq b r =>
    rw [← Array.append_assoc, ← cut8_cons d h (by lia)]
    refine .tok (by lia) (fun i h2 h3 => ?_) hq b r
    rcases Nat.eq_or_lt_of_le h2 with rfl | h2
    · exact hT
    · exact h1 i h2 h3
theorem strip_ok (d : Array UInt8) : ∀ (k p : Nat), d.size - p ≤ k → p ≤ d.size →
    (∀ out, strip false (d.toList.drop p) = some out → Sub d p out.toArray) ∧
    (∀ out, strip true (d.toList.drop p) = some out → ∃ j, Body (nat8 d) p j ∧ Sub d (j + 1) out.toArray) := by
  have hsz := nat8_size d
  intro k
  induction k with
  | zero =>
    intro p hk hp
    have hpp : p = d.size := by lia
    have e : d.toList.drop p = [] := List.drop_eq_nil_of_le (by simp; lia)
    rw [e]
    refine ⟨fun out h => ?_, fun out h => by cases h⟩
    cases h
    have := Sub.last (d := d) hp (fun i h1 h2 => absurd h2 (by lia))
    rw [cut8_nil d p d.size (by lia)] at this
    exact this
  | succ k ih =>
    intro p hk hp
    by_cases hlt : p < d.size
    · obtain ⟨c, r, e⟩ : ∃ c r, d.toList.drop p = c :: r := by
        cases q : d.toList.drop p with
        | nil => have := congrArg List.length q; rw [List.length_drop] at this; simp at this; lia
        | cons c r => exact ⟨c, r, rfl⟩
      have e1 : d.toList.drop (p + 1) = r := by
        have := congrArg (List.drop 1) e
        rw [List.drop_drop] at this
        simpa using this
      have hg : d.toList.getD p 0 = c := by
        have := congrArg (fun l => l.getD 0 0) e
        simpa [List.getD_eq_getElem?_getD] using this
      have hT : (nat8 d).getD p 0 = c.toNat := by rw [nat8_getD, hg]
      obtain ⟨i1, i2⟩ := ih (p + 1) (by lia) (by lia)
      rw [e1] at i1 i2
      rw [e]
      constructor
      · intro out h
        unfold strip at h
        split at h
        · rename_i hc
          obtain ⟨j, b, S⟩ := i2 out h
          have := Sub.tok (d := d) (p := p) (q := p) (Nat.le_refl _) (fun i h1 h2 => absurd h2 (by lia)) (by rw [hT, hc]; rfl) b S
          rw [cut8_nil d p p (Nat.le_refl _)] at this
          simpa using this
        · rename_i hc
          obtain ⟨o, h1, rfl⟩ := Option.map_eq_some_iff.mp h
          have := Sub.cons e hc (i1 o h1) hlt
          simpa using this
      · intro out h
        cases r with
        | nil =>
          unfold strip at h
          split at h
          · rename_i hc
            cases h
            refine ⟨p, .stop (by lia) (by rw [hT, hc]; rfl), i1 [] rfl⟩
          · cases h
        | cons e2 r =>
          unfold strip at h
          split at h
          · rename_i hc
            exact ⟨p, .stop (by lia) (by rw [hT, hc]; rfl), i1 out h⟩
          · rename_i hc
            split at h
            · rename_i hc2
              split at h
              · cases h
              · rename_i hc3
                have hlt2 : p + 1 < d.size := by
                  have := congrArg List.length e1
                  rw [List.length_drop] at this
                  simp at this; lia
                obtain ⟨_, j2⟩ := ih (p + 2) (by lia) (by lia)
                have e3 : d.toList.drop (p + 2) = r := by
                  have := congrArg (List.drop 1) e1
                  rw [List.drop_drop] at this
                  simpa using this
                rw [e3] at j2
                obtain ⟨j, b, S⟩ := j2 out h
                have hg2 : d.toList.getD (p + 1) 0 = e2 := by
                  have := congrArg (fun l => l.getD 0 0) e1
                  simpa [List.getD_eq_getElem?_getD] using this
                refine ⟨j, .esc (by lia) (by rw [hT, hc2]; rfl) (by lia) ?_ b, S⟩
                rw [nat8_getD, hg2]
                intro z
                exact hc3 (u8_eq (by decide) z)
            · rename_i hc2
              obtain ⟨j, b, S⟩ := i2 out h
              refine ⟨j, .char (by lia) ?_ ?_ b, S⟩
              · rw [hT]; intro z; exact hc (u8_eq (by decide) z)
              · rw [hT]; intro z; exact hc2 (u8_eq (by decide) z)
    · have hpp : p = d.size := by lia
      have e : d.toList.drop p = [] := List.drop_eq_nil_of_le (by simp; lia)
      rw [e]
      refine ⟨fun out h => ?_, fun out h => by cases h⟩
      cases h
      have := Sub.last (d := d) hp (fun i h1 h2 => absurd h2 (by lia))
      rw [cut8_nil d p d.size (by lia)] at this
      exact this
section
variable {prog : Program} {w : World} {K : Frag} {fr : Fm} {k : Nat}
inductive cSearch (f : Ev) (σ : St) : D → Bool → Prop
  | mk {x : Str} {b : Bool} (h : f σ (.str x) b) (hf : figOk x.cps.toList = true) (hl : x.length ≤ 1000000) : cSearch f σ .none true
theorem ev_search {p a : Addr} {x : Str} {px apos pos : Pos} {e : Expr} {f : Ev} (hn : NmOk prog w K fr x (.ref p)) (hf : EvOk prog w K fr k e f) (hP : ∀ h, K.In h → PatAt h p a codeI 0)
    (hbase : attributeBase (.Name x px) (Str.ofString "search") fr.env (eval (.Name x px) fr.env) = eval (.Name x px) fr.env)
    (hfew : ((backTo pos (starEach [e] fr.env)).all (fun x => !x.1) && (backToKw pos (keywordEach [] fr.env)).all (fun x => x.1.isSome)
      && decide ([e].length + ([] : List Keyword).length + (if ([] : List Keyword).isEmpty then 0 else 1) < 30)) = true)
    (hline : (apos.endLine == pos.line) = true) (hs : backTo pos (starEach [e] fr.env) = [(false, eval e fr.env)]) :
    EvOk prog w K fr k (.Call (.Attribute (.Name x px) (Str.ofString "search") apos) [e] [] pos) (cSearch f) := by
  rintro A E s σ X _ _ ao I ⟨h1, hfo, hz⟩
  refine wpAny_Call_method hbase hfew hline plainAttrs_re slot_re_search type_re_search (hn px A E s σ X _ I ?_)
  have P := hP _ I.world.k
  refine ⟨let ⟨⟨_, _, _, e⟩, _⟩ := P; ⟨_, e, rfl⟩, fun _ h => (by cases h; exact let ⟨⟨_, _, _, e⟩, _⟩ := P; ⟨_, e, rfl⟩), method_ok (by rw [hs]; rfl) ?_⟩
  rw [hs]
  refine spliced_cons (wpKp (hf A E s σ X _ _ ao I h1) fun v s1 q => spliced_nil ?_)
  obtain ⟨k1, x1⟩ := q
  obtain ⟨t, rfl⟩ := x1.str'
  exact search_call (hP _ (I.step k1).world.k) (noFig_of hfo) hz ⟨k1, .none⟩
inductive cSub (f : Ev) (σ : St) : D → Bool → Prop
  | mk {x : Array UInt8} {out : List UInt8} {b : Bool} (h : f σ (.bytes x) b) (hs : strip false x.toList = some out) (hl : x.size ≤ 1000000) : cSub f σ (.bytes out.toArray) true
theorem ev_sub {p a : Addr} {x : Str} {px pc apos pos : Pos} {n : Nat} {e : Expr} {f : Ev} (hn : NmOk prog w K fr x (.ref p)) (hf : EvOk prog w K fr k e f) (hP : ∀ h, K.In h → PatAt h p a codeQ 1)
    (hbase : attributeBase (.Name x px) (Str.ofString "sub") fr.env (eval (.Name x px) fr.env) = eval (.Name x px) fr.env)
    (hfew : ((backTo pos (starEach [.Constant (.bytes []) n pc, e] fr.env)).all (fun x => !x.1) && (backToKw pos (keywordEach [] fr.env)).all (fun x => x.1.isSome)
      && decide ([.Constant (.bytes []) n pc, e].length + ([] : List Keyword).length + (if ([] : List Keyword).isEmpty then 0 else 1) < 30)) = true)
    (hline : (apos.endLine == pos.line) = true) (hs : backTo pos (starEach [.Constant (.bytes []) n pc, e] fr.env) = [(false, eval (.Constant (.bytes []) n pc) fr.env), (false, eval e fr.env)]) :
    EvOk prog w K fr k (.Call (.Attribute (.Name x px) (Str.ofString "sub") apos) [.Constant (.bytes []) n pc, e] [] pos) (cSub f) := by
  rintro A E s σ X _ _ ao I ⟨h1, h3, hz⟩
  rename_i y out b
  refine wpAny_Call_method hbase hfew hline plainAttrs_re slot_re_sub type_re_sub (hn px A E s σ X _ I ?_)
  have P := hP _ I.world.k
  refine ⟨let ⟨⟨_, _, _, e⟩, _⟩ := P; ⟨_, e, rfl⟩, fun _ h => (by cases h; exact let ⟨⟨_, _, _, e⟩, _⟩ := P; ⟨_, e, rfl⟩), method_ok (by rw [hs]; rfl) ?_⟩
  rw [hs]
  refine spliced_cons (Constant_bytes (spliced_cons (wpKp (hf A E _ σ X _ _ ao (I.step (.toks _)) h1) fun v s1 q => spliced_nil ?_)))
  obtain ⟨k1, x1⟩ := q
  obtain ⟨t, rfl⟩ := x1.bytes'
  have k2 : Kp s s1 := (Kp.toks (s := s) (s.toks + 1)).trans k1
  exact sub_call (hP _ (I.step k2).world.k) hz ((strip_ok y y.size 0 (by lia) (Nat.zero_le _)).1 out (by simpa using h3)) fun s' t' k3 => ⟨k2.trans k3, .bytes _ _⟩
theorem ev_funK {x : Str} {p pos : Pos} {es : List Expr} {fv : Value} {f : List D → D → Prop} {g : Evs} (hn : NmOk prog w K fr x fv) (hg : EsOk prog w K fr k pos es g) (hf : GOk prog w K k fv f) (hk : keepIn K fv = true) (ht : (backTo pos (starEach es fr.env)).any (·.1) = false) :
    EvOk prog w K fr k (.Call (.Name x p) es [] pos) (cFun f g) := by
  rintro A E s σ X _ _ a I ⟨h1, h2⟩
  refine wpAny_Call_Name_kw (hn p A E s σ X _ I ?_)
  refine callWith_k I.world.k hk ht (wpKp (hg A E s σ X _ _ a I h1) fun vs s1 q => ⟨(I.step q.1).world.k, ?_⟩)
  have I1 := I.step q.1
  exact wpKp (hf A E s1 (Vw fr X _) vs _ _ a I1.world I1.tk1 (vw_dead I1 _) q.2.1 h2) fun v s2 q2 => ⟨q.1.trans q2.1, q2.2.vor⟩
inductive cTupOf (f : Ev) (σ : St) : D → Bool → Prop
  | mk {xs : List D} {b : Bool} (h : f σ (.lst xs) b) (hl : xs.length ≤ 1000000) : cTupOf f σ (.tup xs) b
theorem ev_tupOf {x : Str} {p pos : Pos} {e : Expr} {f : Ev} (hn : NmOk prog w K fr x (.type "tuple")) (hf : CnOk prog w K fr k e f) (hs : backTo pos (starEach [e] fr.env) = [(false, eval e fr.env)]) : EvOk prog w K fr k (.Call (.Name x p) [e] [] pos) (cTupOf f) := by
  rintro A E s σ X _ _ a I ⟨h1, hl⟩
  refine wpAny_Call_Name_kw (hn p A E s σ X _ I ?_)
  rw [hs]
  refine PyProof.Rows.callWith_type rfl (evalArgs_plain (spliced_cons (wpKp (hf A E s σ X _ _ a I h1) fun v s1 q => spliced_nil ?_)))
  obtain ⟨k1, l, vs, n, rfl, o, rr⟩ := q
  have e1 := rr.length
  have I1 := I.step k1
  refine call_tuple_list (items := vs.toArray) ⟨_, o, rfl, _, rfl⟩ (fun h' kp => ?_) (by simp only [List.size_toArray]; exact Nat.le_trans (by lia) (show 1000000 ≤ sizeLine by decide))
  have kk : Kp s1 { s1 with heap := h'.push (tupO vs 0) } := .mk' _ fun b o e => Heap.get?_push_of_some _ (kp b o e)
  refine ⟨k1.trans kk, .tup (n := 0) (vw_dead I1 _ _ ?_) (Heap.get?_push_size _ rfl) (rr.keeps kk)⟩
  cases q : s1.heap.get? h'.objs.size with
  | none => rfl
  | some o => exact absurd (Heap.lt_size (kp _ _ q)) (Nat.lt_irrefl _)
inductive lAdd (f g : Ev) (σ : St) : List D → Bool → Prop
  | mk {xs ys : List D} {b c : Bool} (h1 : f σ (.lst xs) b) (h3 : g σ (.lst ys) c) (hl : xs.length + ys.length ≤ 1000000) : lAdd f g σ (xs ++ ys) (b && c)
theorem ls_add {l r : Expr} {pos : Pos} {f g : Ev} (hf : CnOk prog w K fr k l f) (hg : CnOk prog w K fr k r g) : LsOk prog w K fr k (.BinOp l .Add r pos) (lAdd f g) := by
  rintro A E s σ X _ _ a I ⟨h1, h3, hl⟩
  refine wpAny_BinOp (wpKp (hf A E s σ X _ _ a I h1) fun v1 s1 q1 => wpKp (hg A E s1 σ X _ _ a (I.step q1.1) h3) fun v2 s2 q2 => ?_)
  obtain ⟨k1, a1, vs, n, rfl, o1, r1⟩ := q1
  obtain ⟨k2, a2, us, m, rfl, o2, r2⟩ := q2
  have l1 := r1.length
  have l2 := r2.length
  have kk := k1.trans k2
  refine PySem.P.add_list (k2.get o1) o2 ?_ (by simp only [List.size_toArray]; exact Nat.le_trans (by lia) (show 1000000 ≤ sizeLine by decide))
  rw [List.append_toArray]
  have k3 : Kp s2 { s2 with heap := s2.heap.push (lstO (vs ++ us) 0) } := .push _ _
  exact ⟨kk.trans k3, _, vs ++ us, 0, rfl, kk.alive (dead_size _), Heap.get?_push_size _ rfl, ((((r1.keeps k2).vand _).append (r2.vand' _)).off (dead_size _)).keeps k3⟩
inductive lMul (f g : Ev) (σ : St) : List D → Bool → Prop
  | mk {xs : List D} {n : Int} {b c : Bool} (h1 : f σ (.lst xs) b) (h3 : g σ (.int n) c) (hl : xs.length * n.toNat ≤ 1000000) (hs : smallI n = true) : lMul f g σ (List.replicate n.toNat xs).flatten b
theorem ls_mul {l r : Expr} {pos : Pos} {f g : Ev} (hf : CnOk prog w K fr k l f) (hg : EvOk prog w K fr k r g) : LsOk prog w K fr k (.BinOp l .Mult r pos) (lMul f g) := by
  rintro A E s σ X _ _ a I ⟨h1, h3, hl, hsm⟩
  rename_i xs n _
  refine wpAny_BinOp (wpKp (hf A E s σ X _ _ a I h1) fun v1 s1 q1 => wpKp (hg A E s1 σ X _ _ a (I.step q1.1) h3) fun v2 s2 q2 => ?_)
  obtain ⟨k1, a1, vs, m, rfl, o1, r1⟩ := q1
  obtain ⟨k2, x2⟩ := q2
  obtain ⟨t, rfl⟩ := x2.int'
  have l1 := r1.length
  have kk := k1.trans k2
  refine mul_at (k2.get o1) hsm (by rw [l1]; exact hl) ?_
  have k3 : Kp s2 { s2 with heap := s2.heap.push (lstO (List.replicate n.toNat vs).flatten 0) } := .push _ _
  exact ⟨kk.trans k3, _, _, 0, rfl, kk.alive (dead_size _), Heap.get?_push_size _ rfl, (((r1.keeps k2).rep n.toNat).off (dead_size _)).keeps k3⟩
theorem ls_cn {e : Expr} {g : Ls} (hg : LsOk prog w K fr k e g) : CnOk prog w K fr k e (cLst g) := cn_ev (ev_ls hg)
inductive xFail (σ : St) : Fl → St → Prop
theorem x_fail {st : Stmt} : ExOk prog w K fr k st xFail := by
  rintro A E s σ X _ _ a I ⟨⟩
end
section
variable {prog : Program} {w : World} {K : Frag} {k : Nat}
structure DefAt (K : Frag) (f : Addr) (fd : FuncData) (body : List Stmt) (names : List (Str × NameKind)) : Prop where
  at' : ∃ o, K.lookup f = some o ∧ o.data = .func fd
  code : codeIn K fd.code fd.qualname = true
  hbody : fd.body = .stmts body
  clo : fd.closure = []
  glob : fd.globals = mainGlobals
  bui : fd.builtins = builtinsNs
  hnames : fd.scope.names = names
  nd : (names.map (·.1)).Nodup
  co : fd.scope.isCoroutine = false
  gen : fd.scope.isGenerator = false
  kind : fd.scope.kind = .function
theorem def_ok {f : Addr} {fd : FuncData} {body : List Stmt} {names : List (Str × NameKind)} {params : List Str} {F : Ex} (d : DefAt K f fd body names)
    (hbind : ∀ (s : Shared) (vs : List Value), K.In s.heap → vs.length = params.length → BindsTo s fd ⟨vs, []⟩ (params.zip vs))
    (hkind : (params.all fun y => names.lookup y == some .local || names.lookup y == some .cell) = true) (hpn : params.Nodup)
    (hF : ∀ (L : Addr) (he : Heap) (P : Addr → Prop), ExsOk prog w K (cFm fd L f he P) k body F) : GOk prog w K (k + 1) (.ref f) (xFun params names F) := by
  obtain ⟨⟨o, h1, h2⟩, h3, h4, h5, h6, h7, rfl, h8, h9, h10, h11⟩ := d
  exact fn_ok h1 h2 h3 h4 h5 h6 h7 hbind hkind hpn h8 h9 h10 h11 hF
theorem init_ok {C f : Addr} {fd : FuncData} {body : List Stmt} {names : List (Str × NameKind)} {self : Str} {params : List Str} {F : Ex} (d : DefAt K f fd body names)
    (hm : makesIn K C = true) (hi : findIn K (.ref C) "__init__" = some (some (.ref f))) (hft : typeIn K (.ref f) = some (.type "function"))
    (hbind : ∀ (s : Shared) (vs : List Value), K.In s.heap → vs.length = (self :: params).length → BindsTo s fd ⟨vs, []⟩ ((self :: params).zip vs))
    (hkind : ((self :: params).all fun y => names.lookup y == some .local) = true) (hpn : (self :: params).Nodup) (h0 : names[0]? = some (self, .local))
    (hF : ∀ (L : Addr) (he : Heap) (P : Addr → Prop) (sx : List Addr), ExsOk prog w K { cFm fd L f he P with sx := sx } k body F) : GOk prog w K (k + 2) (.ref C) (xInit C (self :: params) names F) := by
  obtain ⟨⟨o, h1, h2⟩, h3, h4, h5, h6, h7, rfl, h8, h9, h10, h11⟩ := d
  exact cls_ok hm hi hft h1 h2 h3 h4 h5 h6 h7 hbind hkind hpn h8 h0 h9 h10 h11 hF
end
abbrev sn (x : String) : Str := Str.ofString x
theorem len_cons {vs : List Value} {n : Nat} (hl : vs.length = n + 1) : ∃ v us, vs = v :: us ∧ us.length = n := by
  cases vs with
  | nil => exact absurd hl nofun
  | cons v us => exact ⟨v, us, rfl, Nat.succ.inj hl⟩
theorem bd1 {s : Shared} {fd : FuncData} {a : Str} {vs : List Value} (hl : vs.length = [a].length) (h : ∀ v, bindArgs fd ⟨[v], []⟩ = pure [(a, v)]) : BindsTo s fd ⟨vs, []⟩ ([a].zip vs) := by
  obtain ⟨v, r1, rfl, h1⟩ := len_cons hl
  obtain rfl := List.eq_nil_of_length_eq_zero h1
  exact .of_eq (h v)
theorem bd2 {s : Shared} {fd : FuncData} {a b : Str} {vs : List Value} (hl : vs.length = [a, b].length) (h : ∀ v u, bindArgs fd ⟨[v, u], []⟩ = pure [(a, v), (b, u)]) : BindsTo s fd ⟨vs, []⟩ ([a, b].zip vs) := by
  obtain ⟨v, r1, rfl, h1⟩ := len_cons hl
  obtain ⟨u, r2, rfl, h2⟩ := len_cons h1
  obtain rfl := List.eq_nil_of_length_eq_zero h2
  exact .of_eq (h v u)
theorem bd3 {s : Shared} {fd : FuncData} {a b c : Str} {vs : List Value} (hl : vs.length = [a, b, c].length) (h : ∀ v u z, bindArgs fd ⟨[v, u, z], []⟩ = pure [(a, v), (b, u), (c, z)]) : BindsTo s fd ⟨vs, []⟩ ([a, b, c].zip vs) := by
  obtain ⟨v, r1, rfl, h1⟩ := len_cons hl
  obtain ⟨u, r2, rfl, h2⟩ := len_cons h1
  obtain ⟨z, r3, rfl, h3⟩ := len_cons h2
  obtain rfl := List.eq_nil_of_length_eq_zero h3
  exact .of_eq (h v u z)
section
variable {prog : Program} {w : World} {K : Frag} {fr : Fm} {k : Nat}
theorem tgs_nil : TgsOk prog w K fr [] [] := trivial
theorem tgs_cons {t : Value → Sem Unit} {ts : List (Value → Sem Unit)} {i : Nat} {is : List Nat} (h : TgOk prog w K fr t i) (r : TgsOk prog w K fr ts is) : TgsOk prog w K fr (t :: ts) (i :: is) := ⟨h, r⟩
noncomputable def freeB (cells : List (Str × Addr)) (names : List (Str × NameKind)) : Bool := names.all fun p => match p.2 with
  | .free => (cells.lookup p.1).isSome
  | _ => true
theorem freeOk_of {cells : List (Str × Addr)} {names : List (Str × NameKind)} (h : freeB cells names = true) : freeOk cells names := by
  intro p hp e
  have := List.all_eq_true.mp h p hp
  rw [e] at this
  exact this
noncomputable def fvB (names onames : List (Str × NameKind)) (fv : List (Option Nat)) : Bool := (List.range fv.length).all fun j => match fv[j]? with
  | some (some i) => match names[j]?, onames[i]? with
    | some (n, .free), some (m, .cell) => n == m
    | _, _ => false
  | _ => true
theorem fvOk_of {names onames : List (Str × NameKind)} {fv : List (Option Nat)} (h : fvB names onames fv = true) : fvOk names onames fv := by
  intro j i e
  have hj : j < fv.length := by
    cases Nat.lt_or_ge j fv.length with
    | inl h => exact h
    | inr h => rw [List.getElem?_eq_none h] at e; cases e
  have := List.all_eq_true.mp h j (List.mem_range.mpr hj)
  simp only [e] at this
  split at this
  · rename_i n m e1 e2
    have := eq_of_beq this
    subst this
    exact ⟨n, e1, e2⟩
  · cases this
noncomputable def cellB (names : List (Str × NameKind)) : Bool := names.all fun p => match p.2 with
  | .cell => false
  | _ => true
theorem cell_of {names : List (Str × NameKind)} (h : cellB names = true) : ∀ y ∈ names, y.2 ≠ .cell := by
  intro p hp e
  have := List.all_eq_true.mp h p hp
  rw [e] at this
  cases this
end
noncomputable abbrev n_init : List (Str × NameKind) := [(sn "self", .local), (sn "ws", .local), (sn "S", .local), (sn "T", .local), (sn "count", .local), (sn "b", .local), (sn "n", .local), (sn "nt", .local), (sn "ch", .local), (sn "Whitespace", .globalImplicit), (sn "len", .globalImplicit), (sn "tuple", .globalImplicit)]
noncomputable def b_init1 : Ex := xCons (xIf (tCmp eqT (cV 8) (cV 2)) (xCons (xAsg 6 (cBin addD (cV 6) (cK (.int 1))))
 (xCons (xAsg 5 (cBin addD (cV 5) (cK (.int 1))))
 (xNil))) (xCons (xIf (tCmp eqT (cV 8) (cV 3)) (xCons (xAsg 6 (cBin addD (cV 6) (cK (.int 1))))
 (xCons (xAsg 7 (cBin addD (cV 7) (cK (.int 1))))
 (xCons (xIf (tCmp geD (cV 5) (cFun lenF (cCons (cV 4) (cNil)))) (xCons (xOwn 4 (lAdd (cVc 4) (cLst (lMul (cLst (cCons (cK (.int 0)) (cNil))) (cBin addD (cBin subD (cV 5) (cFun lenF (cCons (cV 4) (cNil)))) (cK (.int 1)))))))
 (xNil)) (xNil))
 (xCons (xSetL 4 (cV 5) (cBin addD (cIdx (cVc 4) (cV 5)) (cK (.int 1))))
 (xCons (xAsg 5 (cK (.int 0)))
 (xNil)))))) (xCons (xBrk)
 (xNil)))
 (xNil)))
 (xNil)
noncomputable def f_init : Ex := xCons (xSAttr 100 0 (sn "raw") (cV 1))
 (xCons (xSwp [2, 3] (cTup (cCons (cK (.str (sn " "))) (cCons (cK (.str (sn "\t"))) (cNil)))))
 (xCons (xOwn 4 (cNil))
 (xCons (xThree 5 6 7 (cK (.int 0)))
 (xCons (xFor 8 (iStr (cAttrC 100 0 (sn "raw"))) (b_init1))
 (xCons (xSAttr 100 0 (sn "n") (cV 6))
 (xCons (xSAttr 100 0 (sn "nt") (cV 7))
 (xCons (xSAttr 100 0 (sn "norm") (cTup (cCons (cTupOf (cVc 4)) (cCons (cV 5) (cNil)))))
 (xCons (xSAttr 100 0 (sn "is_simple") (cCmp leD (cFun lenF (cCons (cV 4) (cNil))) (cK (.int 1))))
 (xNil)))))))))
noncomputable def g_init : List D → D → Prop := xInit 100 [sn "self", sn "ws"] n_init f_init
noncomputable abbrev n_longest_run_of_spaces : List (Str × NameKind) := [(sn "self", .local), (sn "count", .local), (sn "trailing", .local), (sn "max", .globalImplicit), (sn "len", .globalImplicit)]
noncomputable def f_longest_run_of_spaces : Ex := xCons (xUnp [1, 2] (cAttrC 100 0 (sn "norm")))
 (xCons (xRet (cFun maxF (cCons (cBin subD (cFun lenF (cCons (cV 1) (cNil))) (cK (.int 1))) (cCons (cV 2) (cNil)))))
 (xNil))
noncomputable def g_longest_run_of_spaces : List D → D → Prop := xFun [sn "self"] n_longest_run_of_spaces f_longest_run_of_spaces
noncomputable abbrev n_indent_level : List (Str × NameKind) := [(sn "self", .local), (sn "tabsize", .local), (sn "count", .local), (sn "trailing", .local), (sn "il", .local), (sn "i", .local), (sn "range", .globalImplicit), (sn "len", .globalImplicit)]
noncomputable def b_indent_level1 : Ex := xCons (xAsg 4 (cBin addD (cV 4) (cBin mulD (cBin divD (cV 5) (cV 1)) (cIdx (cVc 2) (cV 5)))))
 (xNil)
noncomputable def f_indent_level : Ex := xCons (xUnp [2, 3] (cAttrC 100 0 (sn "norm")))
 (xCons (xAsg 4 (cK (.int 0)))
 (xCons (xFor 5 (iRange (cCons (cV 1) (cCons (cFun lenF (cCons (cV 2) (cNil))) (cNil)))) (b_indent_level1))
 (xCons (xRet (cBin addD (cV 3) (cBin mulD (cV 1) (cBin addD (cV 4) (cAttrC 100 0 (sn "nt"))))))
 (xNil))))
noncomputable def g_indent_level : List D → D → Prop := xFun [sn "self", sn "tabsize"] n_indent_level f_indent_level
noncomputable abbrev n_equal : List (Str × NameKind) := [(sn "self", .local), (sn "other", .local)]
noncomputable def f_equal : Ex := xCons (xRet (cCmp eqT (cAttrC 100 0 (sn "norm")) (cAttrC 100 1 (sn "norm"))))
 (xNil)
noncomputable def g_equal : List D → D → Prop := xFun [sn "self", sn "other"] n_equal f_equal
noncomputable abbrev n_is_HDN : List (Str × NameKind) := [(sn "text", .local), (sn "IPV4_RE", .globalImplicit)]
noncomputable def f_is_HDN : Ex := xCons (xIf (tVal truD (cSearch (cV 0))) (xCons (xRet (cK (.bool false)))
 (xNil)) (xNil))
 (xCons (xIf (tCmp eqT (cV 0) (cK (.str (sn "")))) (xCons (xRet (cK (.bool false)))
 (xNil)) (xNil))
 (xCons (xIf (tOr (tCmp eqT (cIdx (cVc 0) (cK (.int 0))) (cK (.str (sn ".")))) (tOr (tCmp eqT (cIdx (cVc 0) (cUn negD (cK (.int 1)))) (cK (.str (sn ".")))) (tNil .Or))) (xCons (xRet (cK (.bool false)))
 (xNil)) (xNil))
 (xCons (xRet (cK (.bool true)))
 (xNil))))
noncomputable def g_is_HDN : List D → D → Prop := xFun [sn "text"] n_is_HDN f_is_HDN
noncomputable abbrev n_domain_match : List (Str × NameKind) := [(sn "A", .local), (sn "B", .local), (sn "i", .local), (sn "is_HDN", .globalImplicit)]
noncomputable def f_domain_match : Ex := xCons (xAsg 0 (cMth "str" lowerF (cV 0) (cNil)))
 (xCons (xAsg 1 (cMth "str" lowerF (cV 1) (cNil)))
 (xCons (xIf (tCmp eqT (cV 0) (cV 1)) (xCons (xRet (cK (.bool true)))
 (xNil)) (xNil))
 (xCons (xIf (tNot (tVal truD (cFun g_is_HDN (cCons (cV 0) (cNil))))) (xCons (xRet (cK (.bool false)))
 (xNil)) (xNil))
 (xCons (xAsg 2 (cMth "str" rfindF (cV 0) (cCons (cV 1) (cNil))))
 (xCons (xIf (tOr (tCmp eqT (cV 2) (cUn negD (cK (.int 1)))) (tOr (tCmp eqT (cV 2) (cK (.int 0))) (tNil .Or))) (xCons (xRet (cK (.bool false)))
 (xNil)) (xNil))
 (xCons (xIf (tNot (tVal truD (cMth "str" startF (cV 1) (cCons (cK (.str (sn "."))) (cNil))))) (xCons (xRet (cK (.bool false)))
 (xNil)) (xNil))
 (xCons (xIf (tNot (tVal truD (cFun g_is_HDN (cCons (cFrom (cVc 1) (cK (.int 1))) (cNil))))) (xCons (xRet (cK (.bool false)))
 (xNil)) (xNil))
 (xCons (xRet (cK (.bool true)))
 (xNil)))))))))
noncomputable def g_domain_match : List D → D → Prop := xFun [sn "A", sn "B"] n_domain_match f_domain_match
noncomputable abbrev n_reach : List (Str × NameKind) := [(sn "h", .local), (sn "i", .local), (sn "b", .local), (sn "is_HDN", .globalImplicit)]
noncomputable def f_reach : Ex := xCons (xAsg 1 (cMth "str" findF (cV 0) (cCons (cK (.str (sn "."))) (cNil))))
 (xCons (xIf (tCmp geD (cV 1) (cK (.int 0))) (xCons (xAsg 2 (cFrom (cVc 0) (cBin addD (cV 1) (cK (.int 1)))))
 (xCons (xAsg 1 (cMth "str" findF (cV 2) (cCons (cK (.str (sn "."))) (cNil))))
 (xCons (xIf (tAnd (tVal truD (cFun g_is_HDN (cCons (cV 0) (cNil)))) (tAnd (tOr (tCmp geD (cV 1) (cK (.int 0))) (tOr (tCmp eqT (cV 2) (cK (.str (sn "local")))) (tNil .Or))) (tNil .And))) (xCons (xRet (cBin addD (cK (.str (sn "."))) (cV 2)))
 (xNil)) (xNil))
 (xNil)))) (xNil))
 (xCons (xRet (cV 0))
 (xNil)))
noncomputable def g_reach : List D → D → Prop := xFun [sn "h"] n_reach f_reach
noncomputable abbrev n_paren_depth : List (Str × NameKind) := [(sn "data", .local), (sn "depth", .local), (sn "_quoted", .globalImplicit)]
noncomputable def f_paren_depth : Ex := xCons (xAsg 0 (cSub (cV 0)))
 (xCons (xRet (cBin subD (cBin addD (cV 1) (cMth "bytes" countF (cV 0) (cCons (cK (.bytes [40].toArray)) (cNil)))) (cMth "bytes" countF (cV 0) (cCons (cK (.bytes [41].toArray)) (cNil)))))
 (xNil))
noncomputable def g_paren_depth : List D → D → Prop := xFun [sn "data", sn "depth"] n_paren_depth f_paren_depth
noncomputable abbrev n_add_callers : List (Str × NameKind) := [(sn "target", .local), (sn "source", .local), (sn "new_callers", .local), (sn "func", .local), (sn "caller", .local), (sn "isinstance", .globalImplicit), (sn "tuple", .globalImplicit), (sn "zip", .globalImplicit)]
noncomputable def b_add_callers1 : Ex := xCons (xSetI 2 (cV 3) (cV 4))
 (xNil)
noncomputable def b_add_callers2 : Ex := xCons (xIf (tCmp inD (cV 3) (cV 2)) (xCons (xIf (tVal truD (cIsi (cV 4))) (xCons xFail xNil) (xCons (xAugI 2 (cV 3) (cV 4))
 (xNil)))
 (xNil)) (xCons (xSetI 2 (cV 3) (cV 4))
 (xNil)))
 (xNil)
noncomputable def f_add_callers : Ex := xCons (xNew 2)
 (xCons (xItems 3 4 (cV 0) (b_add_callers1))
 (xCons (xItems 3 4 (cV 1) (b_add_callers2))
 (xCons (xRet (cV 2))
 (xNil))))
noncomputable def g_add_callers : List D → D → Prop := xFun [sn "target", sn "source"] n_add_callers f_add_callers
noncomputable abbrev n_count_calls : List (Str × NameKind) := [(sn "callers", .local), (sn "nc", .local), (sn "calls", .local)]
noncomputable def b_count_calls1 : Ex := xCons (xAug 1 (cV 2))
 (xNil)
noncomputable def f_count_calls : Ex := xCons (xAsg 1 (cK (.int 0)))
 (xCons (xFor 2 (iVals (cV 0)) (b_count_calls1))
 (xCons (xRet (cV 1))
 (xNil)))
noncomputable def g_count_calls : List D → D → Prop := xFun [sn "callers"] n_count_calls f_count_calls
noncomputable abbrev n_lw_river : List (Str × NameKind) := [(sn "numbers", .local), (sn "marks", .local), (sn "hosts", .local), (sn "kids", .local), (sn "turns", .local), (sn "bank", .local), (sn "k", .local), (sn "rest", .local), (sn "place", .local), (sn "spot", .local), (sn "letter", .local), (sn "range", .globalImplicit), (sn "len", .globalImplicit), (sn "divmod", .globalImplicit)]
noncomputable def b_lw_river1 : Ex := xCons (xApp 2 (cBin addD (cBin addD (cBin addD (cV 10) (cIdx (cVc 1) (cBin modD (cBin divD (cV 7) (cK (.int 2))) (cK (.int 5))))) (cK (.str (sn ".")))) (cIdx (cVc 2) (cV 9))))
 (xCons (xApp 3 (cTup (cNil)))
 (xCons (xApp 4 (cK (.int 0)))
 (xNil)))
noncomputable def b_lw_river2 : Ex := xCons (xUnp [7, 8] (cFun divmodF (cCons (cIdx (cVc 0) (cV 6)) (cCons (cBin addD (cV 6) (cK (.int 1))) (cNil)))))
 (xCons (xAsg 9 (cIdx (cVc 5) (cV 8)))
 (xCons (xFor 10 (iStr (cK (.str (sn "ab")))) (b_lw_river1))
 (xCons (xSetL 3 (cV 9) (cTup (cCons (cBin addD (cBin mulD (cK (.int 2)) (cV 6)) (cK (.int 1))) (cCons (cBin addD (cBin mulD (cK (.int 2)) (cV 6)) (cK (.int 2))) (cNil)))))
 (xCons (xSetL 4 (cV 9) (cBin modD (cV 7) (cK (.int 2))))
 (xCons (xAsg 5 (cBin addD (cBin addD (cUpto (cVc 5) (cV 8)) (cLst (cCons (cBin addD (cBin mulD (cK (.int 2)) (cV 6)) (cK (.int 1))) (cCons (cBin addD (cBin mulD (cK (.int 2)) (cV 6)) (cK (.int 2))) (cNil))))) (cFrom (cVc 5) (cBin addD (cV 8) (cK (.int 1))))))
 (xNil))))))
noncomputable def f_lw_river : Ex := xCons (xAsg 1 (cLst (cCons (cK (.str (sn ""))) (cCons (cK (.str (sn "("))) (cCons (cK (.str (sn ")"))) (cCons (cK (.str (sn "\""))) (cCons (cK (.str (sn "\\"))) (cNil))))))))
 (xCons (xOwn 2 (cCons (cK (.str (sn "local"))) (cNil)))
 (xCons (xOwn 3 (cCons (cTup (cNil)) (cNil)))
 (xCons (xOwn 4 (cCons (cK (.int 0)) (cNil)))
 (xCons (xAsg 5 (cLst (cCons (cK (.int 0)) (cNil))))
 (xCons (xFor 6 (iRange (cCons (cFun lenF (cCons (cV 0) (cNil))) (cNil))) (b_lw_river2))
 (xCons (xRet (cTup (cCons (cV 2) (cCons (cV 3) (cCons (cV 4) (cCons (cV 5) (cNil)))))))
 (xNil)))))))
noncomputable def g_lw_river : List D → D → Prop := xFun [sn "numbers"] n_lw_river f_lw_river
noncomputable abbrev n_lw_begun : List (Str × NameKind) := [(sn "hosts", .local), (sn "kids", .local), (sn "orders", .local), (sn "k", .local), (sn "one", .local), (sn "other", .local), (sn "begun", .local), (sn "len", .globalImplicit), (sn "range", .globalImplicit), (sn "max", .globalImplicit)]
noncomputable def b_lw_begun1 : Ex := xCons (xIf (tCmp neT (cIdx (cVc 1) (cV 3)) (cTup (cNil))) (xCons (xSwp [4, 5] (cTup (cCons (cIdx (cVc 2) (cIdx (cIdx (cVc 1) (cV 3)) (cK (.int 0)))) (cCons (cIdx (cVc 2) (cIdx (cIdx (cVc 1) (cV 3)) (cK (.int 1)))) (cNil)))))
 (xCons (xSetL 2 (cV 3) (cIf (tCmp eqT (cV 4) (cV 5)) (cBin addD (cV 4) (cK (.int 1))) (cFun maxF (cCons (cV 4) (cCons (cV 5) (cNil))))))
 (xNil))) (xNil))
 (xNil)
noncomputable def b_lw_begun2 : Ex := xCons (xIf (tOr (tCmp eqT (cIdx (cVc 1) (cV 3)) (cTup (cNil))) (tOr (tCmp eqT (cIdx (cVc 2) (cIdx (cIdx (cVc 1) (cV 3)) (cK (.int 0)))) (cIdx (cVc 2) (cIdx (cIdx (cVc 1) (cV 3)) (cK (.int 1))))) (tNil .Or))) (xCons (xAppN 6 (cBin subD (cIdx (cVc 2) (cV 3)) (cK (.int 1))) (cIdx (cVc 0) (cV 3)))
 (xNil)) (xNil))
 (xNil)
noncomputable def f_lw_begun : Ex := xCons (xOwn 2 (lMul (cLst (cCons (cK (.int 1)) (cNil))) (cFun lenF (cCons (cV 1) (cNil)))))
 (xCons (xFor 3 (iRange (cCons (cBin subD (cFun lenF (cCons (cV 1) (cNil))) (cK (.int 1))) (cCons (cUn negD (cK (.int 1))) (cCons (cUn negD (cK (.int 1))) (cNil))))) (b_lw_begun1))
 (xCons (xOwnN 6 (iRange (cCons (cIdx (cVc 2) (cK (.int 0))) (cNil))))
 (xCons (xFor 3 (iRange (cCons (cFun lenF (cCons (cV 1) (cNil))) (cNil))) (b_lw_begun2))
 (xCons (xRet (cTup (cCons (cV 2) (cCons (cLst (cComp (iLst (cV 6)) 1 [none, none, none] none (cFun sortedF (cCons (cV 1) (cNil))))) (cNil)))))
 (xNil)))))
noncomputable def g_lw_begun : List D → D → Prop := xFun [sn "hosts", sn "kids"] n_lw_begun f_lw_begun
noncomputable abbrev n_lw_rounds : List (Str × NameKind) := [(sn "hosts", .cell), (sn "bank", .local), (sn "ways", .cell), (sn "host", .local), (sn "down", .local), (sn "k", .cell), (sn "row", .cell), (sn "rounds", .local), (sn "meets", .cell), (sn "shared", .local), (sn "kept", .cell), (sn "reach", .globalImplicit), (sn "sorted", .globalImplicit), (sn "range", .globalImplicit), (sn "len", .globalImplicit), (sn "domain_match", .globalImplicit)]
noncomputable def b_lw_rounds1 : Ex := xCons (xAsg 4 (cFrom (cFun g_reach (cCons (cV 3) (cNil))) (cK (.int 1))))
 (xCons (xSetS 2 (cV 3) (cBin addD (cLst (cCons (cV 4) (cNil))) (cGet (cVc 2) (cV 4) (cLst (cNil)))))
 (xNil))
noncomputable def b_lw_rounds2 : Ex := xCons (xAsg 9 (cLst (cComp (iLst (cIdx (cVc 2) (cIdx (cVc 6) (cBin subD (cV 5) (cK (.int 1)))))) 1 [none, none, some 5, some 6, some 2] (some (tCmp inD (cV 1) (cIdx (cVc 4) (cIdx (cVc 3) (cV 2))))) (cV 1))))
 (xCons (xApp 8 (cIdx (cBin addD (cV 9) (cLst (cCons (cK (.str (sn "local"))) (cNil)))) (cK (.int 0))))
 (xNil))
noncomputable def b_lw_rounds3 : Ex := xCons (xIf (tVal truD (cFun g_domain_match (cCons (cIdx (cVc 8) (cV 5)) (cCons (cBin addD (cK (.str (sn "."))) (cIdx (cVc 8) (cBin subD (cV 5) (cK (.int 1))))) (cNil))))) (xCons (xSetL 10 (cBin subD (cV 5) (cK (.int 1))) (cK (.bool false)))
 (xNil)) (xCons (xSetL 10 (cV 5) (cK (.bool false)))
 (xNil)))
 (xNil)
noncomputable def b_lw_rounds4 : Ex := xCons (xApp 7 (cFun sortedF (cCons (cV 6) (cNil))))
 (xCons (xOwn 8 (cNil))
 (xCons (xFor 5 (iRange (cCons (cK (.int 1)) (cCons (cFun lenF (cCons (cV 6) (cNil))) (cNil)))) (b_lw_rounds2))
 (xCons (xOwn 10 (lMul (cLst (cCons (cK (.bool true)) (cNil))) (cFun lenF (cCons (cV 8) (cNil)))))
 (xCons (xFor 5 (iRange (cCons (cK (.int 1)) (cCons (cFun lenF (cCons (cV 8) (cNil))) (cNil)))) (b_lw_rounds3))
 (xCons (xAsg 6 (cLst (cComp (iRange (cCons (cFun lenF (cCons (cV 8) (cNil))) (cNil))) 1 [none, none, some 10, some 8] (some (tVal truD (cIdx (cVc 2) (cV 1)))) (cIdx (cVc 3) (cV 1)))))
 (xNil))))))
noncomputable def f_lw_rounds : Ex := xCons (xNewS 2 (sn "local"))
 (xCons (xFor 3 (iLst (cFrom (cVc 0) (cK (.int 1)))) (b_lw_rounds1))
 (xCons (xAsg 6 (cLst (cComp (iLst (cV 1)) 1 [none, none, some 0] none (cIdx (cVc 2) (cV 1)))))
 (xCons (xOwn 7 (cNil))
 (xCons (xWhile (tVal truD (cV 6)) (b_lw_rounds4))
 (xCons (xRet (cV 7))
 (xNil))))))
noncomputable def g_lw_rounds : List D → D → Prop := xFun [sn "hosts", sn "bank"] n_lw_rounds f_lw_rounds
noncomputable abbrev n_lw_side : List (Str × NameKind) := [(sn "one", .local), (sn "other", .local)]
noncomputable def f_lw_side : Ex := xCons (xRet (cBin addD (cBin addD (cBin addD (cLst (cCons (cBin addD (cK (.str (sn "("))) (cIdx (cVc 0) (cK (.int 0)))) (cNil))) (cFrom (cVc 0) (cK (.int 1)))) (cLst (cCons (cBin addD (cK (.str (sn "))"))) (cIdx (cVc 1) (cK (.int 0)))) (cNil)))) (cFrom (cVc 1) (cK (.int 1)))))
 (xNil)
noncomputable def g_lw_side : List D → D → Prop := xFun [sn "one", sn "other"] n_lw_side f_lw_side
noncomputable abbrev n_lw_course : List (Str × NameKind) := [(sn "hosts", .local), (sn "kids", .local), (sn "turns", .local), (sn "k", .local), (sn "tables", .local), (sn "leads", .local), (sn "words", .local), (sn "lean", .local), (sn "drawn", .local), (sn "small", .local), (sn "great", .local), (sn "order", .local), (sn "range", .globalImplicit), (sn "len", .globalImplicit), (sn "_law_side", .globalImplicit), (sn "max", .globalImplicit), (sn "add_callers", .globalImplicit)]
noncomputable def b_lw_course1 : Ex := xCons (xIf (tCmp eqT (cIdx (cVc 1) (cV 3)) (cTup (cNil))) (xCons (xCont)
 (xNil)) (xNil))
 (xCons (xSetL 8 (cV 3) (cFun g_lw_side (cCons (cIdx (cVc 8) (cIdx (cIdx (cVc 1) (cV 3)) (cIdx (cVc 2) (cV 3)))) (cCons (cIdx (cVc 8) (cIdx (cIdx (cVc 1) (cV 3)) (cBin subD (cK (.int 1)) (cIdx (cVc 2) (cV 3))))) (cNil)))))
 (xCons (xUnp [9, 10] (cIdx (cVc 1) (cV 3)))
 (xCons (xIf (tCmp gtD (cFun maxF (cCons (cIdx (cVc 4) (cV 9)) (cNil))) (cFun maxF (cCons (cIdx (cVc 4) (cV 10)) (cNil)))) (xCons (xSwp [9, 10] (cTup (cCons (cV 10) (cCons (cV 9) (cNil)))))
 (xNil)) (xNil))
 (xCons (xSetL 7 (cV 3) (cFun g_lw_side (cCons (cIdx (cVc 7) (cV 9)) (cCons (cIdx (cVc 7) (cV 10)) (cNil)))))
 (xCons (xSetL 4 (cV 3) (cFun g_add_callers (cCons (cIdx (cVc 4) (cV 9)) (cCons (cIdx (cVc 4) (cV 10)) (cNil)))))
 (xCons (xSetL 5 (cV 3) (cBin addD (cBin addD (cIdx (cVc 5) (cV 9)) (cK (.str (sn "\t")))) (cIdx (cVc 5) (cV 10))))
 (xCons (xAsg 11 (cFun maxF (cCons (cIdx (cVc 4) (cV 10)) (cNil))))
 (xCons (xIf (tCmp eqT (cFun maxF (cCons (cIdx (cVc 4) (cV 9)) (cNil))) (cV 11)) (xCons (xSetL 4 (cV 3) (cFun g_add_callers (cCons (cIdx (cVc 4) (cV 3)) (cCons (cDict1 (cBin addD (cV 11) (cK (.int 1))) (cK (.int 1))) (cNil)))))
 (xCons (xSetL 5 (cV 3) (cBin addD (cBin addD (cIdx (cVc 5) (cV 3)) (cK (.str (sn "\t")))) (cBin mulD (cK (.str (sn " "))) (cBin addD (cV 11) (cK (.int 1))))))
 (xNil))) (xNil))
 (xNil)))))))))
noncomputable def f_lw_course : Ex := xCons (xOwn 4 (cComp (iLst (cV 1)) 1 [none, none] none (cDict1 (cK (.int 1)) (cK (.int 1)))))
 (xCons (xOwn 5 (cComp (iLst (cV 1)) 1 [none, none] none (cK (.str (sn " ")))))
 (xCons (xAsg 6 (cLst (cComp (iLst (cV 0)) 1 [none, none] none (cRep (sn "\"") (sn "\\\"") (cRep (sn "\\") (sn "\\\\") (cIdx (cMth "str" splitF (cV 1) (cCons (cK (.str (sn "."))) cNil)) (cK (.int 0))))))))
 (xCons (xOwn 7 (cComp (iLst (cV 6)) 1 [none, none] none (cLst (cCons (cBin addD (cBin addD (cK (.str (sn "(\""))) (cV 1)) (cK (.str (sn "\"")))) (cNil)))))
 (xCons (xOwn 8 (cComp (iLst (cV 6)) 1 [none, none] none (cLst (cCons (cBin addD (cBin addD (cK (.str (sn "(\""))) (cV 1)) (cK (.str (sn "\"")))) (cNil)))))
 (xCons (xFor 3 (iRange (cCons (cBin subD (cFun lenF (cCons (cV 1) (cNil))) (cK (.int 1))) (cCons (cUn negD (cK (.int 1))) (cCons (cUn negD (cK (.int 1))) (cNil))))) (b_lw_course1))
 (xCons (xRet (cTup (cCons (cV 4) (cCons (cV 5) (cCons (cIdx (cVc 7) (cK (.int 0))) (cCons (cIdx (cVc 8) (cK (.int 0))) (cNil)))))))
 (xNil)))))))
noncomputable def g_lw_course : List D → D → Prop := xFun [sn "hosts", sn "kids", sn "turns"] n_lw_course f_lw_course
noncomputable abbrev n_lw_deep : List (Str × NameKind) := [(sn "kids", .local), (sn "turns", .local), (sn "deep", .local), (sn "waiting", .local), (sn "k", .local), (sn "depth", .local)]
noncomputable def b_lw_deep1 : Ex := xCons (xPop 3 [4, 5])
 (xCons (xIf (tCmp eqT (cIdx (cVc 0) (cV 4)) (cTup (cNil))) (xCons (xApp 2 (cV 5))
 (xNil)) (xCons (xApp 3 (cTup (cCons (cIdx (cIdx (cVc 0) (cV 4)) (cBin subD (cK (.int 1)) (cIdx (cVc 1) (cV 4)))) (cCons (cV 5) (cNil)))))
 (xCons (xApp 3 (cTup (cCons (cIdx (cIdx (cVc 0) (cV 4)) (cIdx (cVc 1) (cV 4))) (cCons (cBin addD (cV 5) (cK (.int 1))) (cNil)))))
 (xNil))))
 (xNil))
noncomputable def f_lw_deep : Ex := xCons (xOwn 2 (cNil))
 (xCons (xOwn 3 (cCons (cTup (cCons (cK (.int 0)) (cCons (cK (.int 1)) (cNil)))) (cNil)))
 (xCons (xWhile (tVal truD (cV 3)) (b_lw_deep1))
 (xCons (xRet (cV 2))
 (xNil))))
noncomputable def g_lw_deep : List D → D → Prop := xFun [sn "kids", sn "turns"] n_lw_deep f_lw_deep
noncomputable abbrev n_lw_told : List (Str × NameKind) := [(sn "pieces", .local), (sn "base", .local), (sn "told", .local), (sn "depth", .local), (sn "piece", .local), (sn "_paren_depth", .globalImplicit)]
noncomputable def b_lw_told1 : Ex := xCons (xAsg 3 (cFun g_paren_depth (cCons (cMth "str" encodeF (cV 4) (cNil)) (cCons (cV 3) (cNil)))))
 (xCons (xApp 2 (cBin subD (cV 3) (cV 1)))
 (xNil))
noncomputable def f_lw_told : Ex := xCons (xOwn 2 (cNil))
 (xCons (xAsg 3 (cV 1))
 (xCons (xFor 4 (iLst (cV 0)) (b_lw_told1))
 (xCons (xRet (cV 2))
 (xNil))))
noncomputable def g_lw_told : List D → D → Prop := xFun [sn "pieces", sn "base"] n_lw_told f_lw_told
noncomputable abbrev n_law : List (Str × NameKind) := [(sn "script", .local), (sn "numbers", .local), (sn "base", .local), (sn "hosts", .local), (sn "kids", .cell), (sn "turns", .local), (sn "bank", .local), (sn "orders", .local), (sn "begun", .local), (sn "due", .cell), (sn "top", .local), (sn "tables", .local), (sn "leads", .cell), (sn "lean", .local), (sn "drawn", .local), (sn "forks", .local), (sn "going", .local), (sn "ended", .local), (sn "u", .local), (sn "lead", .local), (sn "v", .local), (sn "plain", .local), (sn "size", .cell), (sn "tabs", .local), (sn "pieces", .local), (sn "len", .globalImplicit), (sn "sum", .globalImplicit), (sn "_law_river", .globalImplicit), (sn "_law_begun", .globalImplicit), (sn "_law_course", .globalImplicit), (sn "range", .globalImplicit), (sn "count_calls", .globalImplicit), (sn "_law_rounds", .globalImplicit), (sn "Whitespace", .globalImplicit), (sn "max", .globalImplicit), (sn "_law_told", .globalImplicit), (sn "_law_deep", .globalImplicit), (sn "_paren_depth", .globalImplicit)]
noncomputable def b_law1 : Ex := xCons (xIf (tCmp neT (cMeth 100 (sn "longest_run_of_spaces") g_longest_run_of_spaces (cV 19) (cNil)) (cIdx (cVc 7) (cIdx (cVc 15) (cV 18)))) (xCons (xRet (cK (.bool false)))
 (xNil)) (xNil))
 (xNil)
noncomputable def b_law2 : Ex := xCons (xIf (tCmp inotD (cMeth 100 (sn "equal") g_equal (cIdx (cVc 16) (cV 18)) (cCons (cIdx (cVc 16) (cV 20)) (cNil))) (cCmp eqT (cIdx (cVc 11) (cIdx (cVc 15) (cV 18))) (cIdx (cVc 11) (cIdx (cVc 15) (cV 20))))) (xCons (xRet (cK (.bool false)))
 (xNil)) (xNil))
 (xNil)
noncomputable def b_law3 : Ex := xCons (xFor 19 (iLst (cLst (cCons (cIdx (cVc 16) (cV 18)) (cCons (cIdx (cVc 17) (cV 18)) (cNil))))) (b_law1))
 (xCons (xFor 20 (iRange (cCons (cFun lenF (cCons (cV 15) (cNil))) (cNil))) (b_law2))
 (xNil))
noncomputable def b_law4 : Ex := xCons (xAsg 23 (cFun sumF (cCons (cLst (cComp (iRange (cCons (cBin subD (cV 10) (cK (.int 1))) (cNil))) 1 [none, none, some 9, some 22] none (cBin mulD (cIdx (cVc 2) (cV 1)) (cBin addD (cBin divD (cBin addD (cV 1) (cK (.int 1))) (cV 3)) (cK (.int 1)))))) (cNil))))
 (xCons (xIf (tCmp neT (cMeth 100 (sn "indent_level") g_indent_level (cIdx (cVc 16) (cK (.int 0))) (cCons (cV 22) (cNil))) (cBin addD (cV 10) (cBin mulD (cV 22) (cV 23)))) (xCons (xRet (cK (.bool false)))
 (xNil)) (xNil))
 (xNil))
noncomputable def b_law5 : Ex := xCons (xIf (tCmp neT (cFun g_paren_depth (cCons (cMth "str" encodeF (cBin addD (cMth "str" joinF (cK (.str (sn ""))) (cCons (cV 24) (cNil))) (cK (.str (sn ")")))) (cNil)) (cCons (cV 2) (cNil)))) (cV 2)) (xCons (xRet (cK (.bool false)))
 (xNil)) (xNil))
 (xNil)
noncomputable def f_law : Ex := xCons (xAsg 1 (cBin addD (cUpto (cVc 0) (cK (.int 7))) (cFrom (cLst (cCons (cK (.int 3)) (cCons (cK (.int 8)) (cCons (cK (.int 23)) (cCons (cK (.int 37)) (cNil)))))) (cFun lenF (cCons (cV 0) (cNil))))))
 (xCons (xAsg 2 (cFun sumF (cCons (cV 0) (cNil))))
 (xCons (xUnp [3, 4, 5, 6] (cFun g_lw_river (cCons (cV 1) (cNil))))
 (xCons (xUnp [7, 8] (cFun g_lw_begun (cCons (cV 3) (cCons (cV 4) (cNil)))))
 (xCons (xAsg 9 (cLst (cComp (iLst (cV 8)) 1 [none, none, none] none (cFun lenF (cCons (cV 1) (cNil))))))
 (xCons (xAsg 10 (cFun lenF (cCons (cV 9) (cNil))))
 (xCons (xUnp [11, 12, 13, 14] (cFun g_lw_course (cCons (cV 3) (cCons (cV 4) (cCons (cV 5) (cNil))))))
 (xCons (xIf (tOr (tCmp neT (cIdx (cVc 11) (cK (.int 0))) (cCompD (iRange (cCons (cV 10) (cNil))) 1 [none, none, some 9] (cBin addD (cV 1) (cK (.int 1))) (cIdx (cVc 2) (cV 1)))) (tOr (tCmp neT (cFun g_count_calls (cCons (cIdx (cVc 11) (cK (.int 0))) (cNil))) (cFun sumF (cCons (cV 9) (cNil)))) (tNil .Or))) (xCons (xRet (cK (.bool false)))
 (xNil)) (xNil))
 (xCons (xIf (tCmp neT (cFun g_lw_rounds (cCons (cV 3) (cCons (cV 6) (cNil)))) (cV 8)) (xCons (xRet (cK (.bool false)))
 (xNil)) (xNil))
 (xCons (xAsg 15 (cLst (cComp (iRange (cCons (cFun lenF (cCons (cV 4) (cNil))) (cNil))) 1 [none, none, some 4] (some (tCmp neT (cIdx (cVc 2) (cV 1)) (cTup (cNil)))) (cV 1))))
 (xCons (xAsg 16 (cLst (cComp (iLst (cV 15)) 1 [none, none, none, some 12] none (cFun g_init (cCons (cBin addD (cIdx (cVc 3) (cV 1)) (cK (.str (sn "x \t")))) (cNil))))))
 (xCons (xAsg 17 (cLst (cComp (iLst (cV 15)) 1 [none, none, none, some 12] none (cFun g_init (cCons (cBin addD (cIdx (cVc 3) (cV 1)) (cK (.str (sn "\t x\t")))) (cNil))))))
 (xCons (xFor 18 (iRange (cCons (cFun lenF (cCons (cV 15) (cNil))) (cNil))) (b_law3))
 (xCons (xAsg 21 (cMth "str" joinF (cK (.str (sn ""))) (cCons (cLst (cComp (iRange (cCons (cV 10) (cNil))) 1 [none, none, some 9] none (cBin mulD (cBin addD (cBin mulD (cK (.str (sn " "))) (cBin addD (cV 1) (cK (.int 1)))) (cK (.str (sn "\t")))) (cIdx (cVc 2) (cV 1))))) (cNil))))
 (xCons (xIf (tOr (tCmp inotD (cMeth 100 (sn "equal") g_equal (cIdx (cVc 16) (cK (.int 0))) (cCons (cFun g_init (cCons (cUpto (cVc 21) (cUn negD (cK (.int 1)))) (cNil))) (cNil))) (cK (.bool true))) (tOr (tCmp inotD (cMeth 100 (sn "equal") g_equal (cIdx (cVc 17) (cK (.int 0))) (cCons (cFun g_init (cCons (cV 21) (cNil))) (cNil))) (cK (.bool false))) (tNil .Or))) (xCons (xRet (cK (.bool false)))
 (xNil)) (xNil))
 (xCons (xFor 22 (iRange (cCons (cK (.int 1)) (cCons (cBin addD (cV 10) (cK (.int 2))) (cNil)))) (b_law4))
 (xCons (xIf (tOr (tCmp neT (cFun maxF (cCons (cFun g_lw_told (cCons (cV 13) (cCons (cV 2) (cNil)))) (cNil))) (cV 10)) (tOr (tCmp neT (cFun g_lw_told (cCons (cV 14) (cCons (cV 2) (cNil)))) (cFun g_lw_deep (cCons (cV 4) (cCons (cV 5) (cNil))))) (tNil .Or))) (xCons (xRet (cK (.bool false)))
 (xNil)) (xNil))
 (xCons (xFor 24 (iLst (cLst (cCons (cV 13) (cCons (cV 14) (cNil))))) (b_law5))
 (xCons (xRet (cK (.bool true)))
 (xNil)))))))))))))))))))
noncomputable def g_law : List D → D → Prop := xFun [sn "script"] n_law f_law
end Mine
section
open PySem PySem.W PyProof.Rows
set_option maxHeartbeats 0 in
open_top hd for PySem.Challenge.rw_xo0032_01
end
namespace Mine
open PySem PySem.W PySem.Calls PyProof.Rows
section
variable {P : Params}
theorem ctxG_raw : CtxG (hd.heap_39 P) 100 (sn "raw") := ⟨rfl, rfl, rfl⟩
theorem ctxG_norm : CtxG (hd.heap_39 P) 100 (sn "norm") := ⟨rfl, rfl, rfl⟩
theorem ctxG_nt : CtxG (hd.heap_39 P) 100 (sn "nt") := ⟨rfl, rfl, rfl⟩
theorem ctxS_raw : CtxS (hd.heap_39 P) 100 (sn "raw") := ⟨rfl, rfl, rfl, rfl⟩
theorem ctxS_n : CtxS (hd.heap_39 P) 100 (sn "n") := ⟨rfl, rfl, rfl, rfl⟩
theorem ctxS_nt : CtxS (hd.heap_39 P) 100 (sn "nt") := ⟨rfl, rfl, rfl, rfl⟩
theorem ctxS_norm : CtxS (hd.heap_39 P) 100 (sn "norm") := ⟨rfl, rfl, rfl, rfl⟩
theorem ctxS_is_simple : CtxS (hd.heap_39 P) 100 (sn "is_simple") := ⟨rfl, rfl, rfl, rfl⟩
theorem ctxM_longest_run_of_spaces : CtxM (hd.heap_39 P) 100 (sn "longest_run_of_spaces") 62 := ⟨rfl, rfl, rfl, rfl, rfl⟩
theorem ctxM_indent_level : CtxM (hd.heap_39 P) 100 (sn "indent_level") 69 := ⟨rfl, rfl, rfl, rfl, rfl⟩
theorem ctxM_equal : CtxM (hd.heap_39 P) 100 (sn "equal") 76 := ⟨rfl, rfl, rfl, rfl, rfl⟩
theorem clsS : readsIn (hd.heap_39 P) 100 (.type "type") = true ∧ findCls (hd.heap_39 P) (.ref 100) (.type "type") (sn "S") = some (.val (.str (sn " ") 304)) := ⟨rfl, rfl⟩
theorem clsT : readsIn (hd.heap_39 P) 100 (.type "type") = true ∧ findCls (hd.heap_39 P) (.ref 100) (.type "type") (sn "T") = some (.val (.str (sn "\t") 305)) := ⟨rfl, rfl⟩
theorem patI : ∀ h, (hd.heap_39 P).In h → PatAt h 109 108 codeI 0 := fun h hK => ⟨⟨_, _, _, hK _ _ rfl⟩, _, hK _ _ rfl, by simp [reInts, codeI]⟩
theorem patQ : ∀ h, (hd.heap_39 P).In h → PatAt h 135 134 codeQ 1 := fun h hK => ⟨⟨_, _, _, hK _ _ rfl⟩, _, hK _ _ rfl, by simp [reInts, codeQ]⟩
end
end Mine
namespace Mine
set_option maxHeartbeats 1000000
open PySem PySem.W PySem.Calls PyProof.Rows
theorem ok_init {prog : Program} {w : World} {P : Params} : GOk prog w (hd.heap_39 P) 3 (.ref 100) g_init := by
  refine init_ok (k := 1) (f := 55) ⟨⟨_, rfl, rfl⟩, rfl, rfl, rfl, rfl, rfl, rfl, by decide, rfl, rfl, rfl⟩ rfl rfl rfl (fun s vs hK hl => bd2 hl fun _ _ => rfl) rfl (by decide) rfl ?_
  intro L he Pv sx
  exact xs_cons (x_sattr (ev_var rfl rfl) rfl rfl rfl ctxS_raw rfl)
      (xs_cons (x_swp (names := [sn "S", sn "T"]) (ev_tup (es_cons (ev_cls (nm_global rfl rfl rfl) clsS.1 clsS.2) (es_cons (ev_cls (nm_global rfl rfl rfl) clsT.1 clsT.2) (es_nil) rfl) rfl) (by decide)) (tgs_cons (tg_bind rfl (.inl rfl)) (tgs_cons (tg_bind rfl (.inl rfl)) (tgs_nil))) rfl rfl (swapped_two rfl rfl rfl rfl rfl rfl rfl rfl))
      (xs_cons (x_own (ls_list (es_nil) (by decide)) rfl (.inl rfl) rfl)
      (xs_cons (x_three (ev_int) (tg_name rfl (.inl rfl)) (tg_name rfl (.inl rfl)) (tg_name rfl (.inl rfl)) rfl rfl)
      (xs_cons (x_for (it_str (ev_attr rfl rfl ctxG_raw)) (xs_cons (x_if (tr_cmp cmp_eqT (ev_var rfl rfl) (ev_var rfl rfl) rfl) (xs_cons (x_asg (ev_bin bin_add (ev_var rfl rfl) (ev_int)) rfl (.inl rfl) rfl)
      (xs_cons (x_asg (ev_bin bin_add (ev_var rfl rfl) (ev_int)) rfl (.inl rfl) rfl)
      (xs_nil))) (xs_cons (x_if (tr_cmp cmp_eqT (ev_var rfl rfl) (ev_var rfl rfl) rfl) (xs_cons (x_asg (ev_bin bin_add (ev_var rfl rfl) (ev_int)) rfl (.inl rfl) rfl)
      (xs_cons (x_asg (ev_bin bin_add (ev_var rfl rfl) (ev_int)) rfl (.inl rfl) rfl)
      (xs_cons (x_if (tr_cmp cmp_ge (ev_var rfl rfl) (ev_fun (nm_builtin rfl rfl rfl rfl rfl) (es_cons (ev_var rfl rfl) (es_nil) rfl) ((GOk.of fun_len).up (by decide)) rfl rfl (.inl ⟨_, rfl⟩)) rfl) (xs_cons (x_own (ls_add (cn_var rfl rfl) (ls_cn (ls_mul (ls_cn (ls_list (es_cons (ev_int) (es_nil) rfl) (by decide))) (ev_bin bin_add (ev_bin bin_sub (ev_var rfl rfl) (ev_fun (nm_builtin rfl rfl rfl rfl rfl) (es_cons (ev_var rfl rfl) (es_nil) rfl) ((GOk.of fun_len).up (by decide)) rfl rfl (.inl ⟨_, rfl⟩))) (ev_int))))) rfl (.inl rfl) rfl)
      (xs_nil)) (xs_nil))
      (xs_cons (x_setL (ev_bin bin_add (ev_idx (cn_var rfl rfl) (ev_var rfl rfl) (fun _ _ => rfl)) (ev_int)) (ev_var rfl rfl) rfl rfl rfl rfl)
      (xs_cons (x_asg (ev_int) rfl (.inl rfl) rfl)
      (xs_nil)))))) (xs_cons (x_brk)
      (xs_nil)))
      (xs_nil)))
      (xs_nil)) rfl (.inl rfl) (fun _ => rfl))
      (xs_cons (x_sattr (ev_var rfl rfl) rfl rfl rfl ctxS_n rfl)
      (xs_cons (x_sattr (ev_var rfl rfl) rfl rfl rfl ctxS_nt rfl)
      (xs_cons (x_sattr (ev_tup (es_cons (ev_tupOf (nm_builtin rfl rfl rfl rfl rfl) (cn_var rfl rfl) rfl) (es_cons (ev_var rfl rfl) (es_nil) rfl) rfl) (by decide)) rfl rfl rfl ctxS_norm rfl)
      (xs_cons (x_sattr (ev_cmp cmp_le (ev_fun (nm_builtin rfl rfl rfl rfl rfl) (es_cons (ev_var rfl rfl) (es_nil) rfl) ((GOk.of fun_len).up (by decide)) rfl rfl (.inl ⟨_, rfl⟩)) (ev_int) rfl) rfl rfl rfl ctxS_is_simple rfl)
      (xs_nil)))))))))
theorem ok_longest_run_of_spaces {prog : Program} {w : World} {P : Params} : GOk prog w (hd.heap_39 P) 2 (.ref 62) g_longest_run_of_spaces := by
  refine def_ok (k := 1) ⟨⟨_, rfl, rfl⟩, rfl, rfl, rfl, rfl, rfl, rfl, by decide, rfl, rfl, rfl⟩ (fun s vs hK hl => bd1 hl fun _ => rfl) rfl (by decide) ?_
  intro L he Pv
  exact xs_cons (x_unp (ev_attr rfl rfl ctxG_norm) (tgs_cons (tg_name rfl (.inl rfl)) (tgs_cons (tg_name rfl (.inl rfl)) (tgs_nil))) rfl rfl rfl rfl)
      (xs_cons (x_ret (ev_fun (nm_builtin rfl rfl rfl rfl rfl) (es_cons (ev_bin bin_sub (ev_fun (nm_builtin rfl rfl rfl rfl rfl) (es_cons (ev_var rfl rfl) (es_nil) rfl) ((GOk.of fun_len).up (by decide)) rfl rfl (.inl ⟨_, rfl⟩)) (ev_int)) (es_cons (ev_var rfl rfl) (es_nil) rfl) rfl) ((GOk.of fun_max).up (by decide)) rfl rfl (.inl ⟨_, rfl⟩)))
      (xs_nil))
theorem ok_indent_level {prog : Program} {w : World} {P : Params} : GOk prog w (hd.heap_39 P) 2 (.ref 69) g_indent_level := by
  refine def_ok (k := 1) ⟨⟨_, rfl, rfl⟩, rfl, rfl, rfl, rfl, rfl, rfl, by decide, rfl, rfl, rfl⟩ (fun s vs hK hl => bd2 hl fun _ _ => rfl) rfl (by decide) ?_
  intro L he Pv
  exact xs_cons (x_unp (ev_attr rfl rfl ctxG_norm) (tgs_cons (tg_name rfl (.inl rfl)) (tgs_cons (tg_name rfl (.inl rfl)) (tgs_nil))) rfl rfl rfl rfl)
      (xs_cons (x_asg (ev_int) rfl (.inl rfl) rfl)
      (xs_cons (x_for (it_range (nm_builtin rfl rfl rfl rfl rfl) (es_cons (ev_var rfl rfl) (es_cons (ev_fun (nm_builtin rfl rfl rfl rfl rfl) (es_cons (ev_var rfl rfl) (es_nil) rfl) ((GOk.of fun_len).up (by decide)) rfl rfl (.inl ⟨_, rfl⟩)) (es_nil) rfl) rfl) rfl rfl) (xs_cons (x_asg (ev_bin bin_add (ev_var rfl rfl) (ev_bin bin_mul (ev_bin bin_div (ev_var rfl rfl) (ev_var rfl rfl)) (ev_idx (cn_var rfl rfl) (ev_var rfl rfl) (fun _ _ => rfl)))) rfl (.inl rfl) rfl)
      (xs_nil)) rfl (.inl rfl) (fun _ => rfl))
      (xs_cons (x_ret (ev_bin bin_add (ev_var rfl rfl) (ev_bin bin_mul (ev_var rfl rfl) (ev_bin bin_add (ev_var rfl rfl) (ev_attr rfl rfl ctxG_nt)))))
      (xs_nil))))
theorem ok_equal {prog : Program} {w : World} {P : Params} : GOk prog w (hd.heap_39 P) 1 (.ref 76) g_equal := by
  refine def_ok (k := 0) ⟨⟨_, rfl, rfl⟩, rfl, rfl, rfl, rfl, rfl, rfl, by decide, rfl, rfl, rfl⟩ (fun s vs hK hl => bd2 hl fun _ _ => rfl) rfl (by decide) ?_
  intro L he Pv
  exact xs_cons (x_ret (ev_cmp cmp_eqT (ev_attr rfl rfl ctxG_norm) (ev_attr rfl rfl ctxG_norm) rfl))
      (xs_nil)
end Mine
namespace Mine
set_option maxHeartbeats 1000000
open PySem PySem.W PySem.Calls PyProof.Rows
theorem ok_is_HDN {prog : Program} {w : World} {P : Params} : GOk prog w (hd.heap_39 P) 1 (.ref 116) g_is_HDN := by
  refine def_ok (k := 0) ⟨⟨_, rfl, rfl⟩, rfl, rfl, rfl, rfl, rfl, rfl, by decide, rfl, rfl, rfl⟩ (fun s vs hK hl => bd1 hl fun _ => rfl) rfl (by decide) ?_
  intro L he Pv
  exact xs_cons (x_if (tr_val tru_ok (ev_search (nm_global rfl rfl rfl) (ev_var rfl rfl) patI rfl rfl rfl rfl) rfl) (xs_cons (x_ret (ev_bool))
      (xs_nil)) (xs_nil))
      (xs_cons (x_if (tr_cmp cmp_eqT (ev_var rfl rfl) (ev_str) rfl) (xs_cons (x_ret (ev_bool))
      (xs_nil)) (xs_nil))
      (xs_cons (x_if (tr_bool (ts_or (tr_cmp cmp_eqT (ev_idx (cn_var rfl rfl) (ev_int) (fun _ _ => rfl)) (ev_str) rfl) (ts_or (tr_cmp cmp_eqT (ev_idx (cn_var rfl rfl) (ev_un un_neg (ev_int)) (fun _ _ => rfl)) (ev_str) rfl) (ts_nil)))) (xs_cons (x_ret (ev_bool))
      (xs_nil)) (xs_nil))
      (xs_cons (x_ret (ev_bool))
      (xs_nil))))
theorem ok_domain_match {prog : Program} {w : World} {P : Params} : GOk prog w (hd.heap_39 P) 3 (.ref 123) g_domain_match := by
  refine def_ok (k := 2) ⟨⟨_, rfl, rfl⟩, rfl, rfl, rfl, rfl, rfl, rfl, by decide, rfl, rfl, rfl⟩ (fun s vs hK hl => bd2 hl fun _ _ => rfl) rfl (by decide) ?_
  intro L he Pv
  exact xs_cons (x_asg (ev_mth (ev_var rfl rfl) (es_nil) fun_lower F.plainAttrs_str F.slot_str_lower F.type_str_lower rfl rfl rfl rfl) rfl (.inl rfl) rfl)
      (xs_cons (x_asg (ev_mth (ev_var rfl rfl) (es_nil) fun_lower F.plainAttrs_str F.slot_str_lower F.type_str_lower rfl rfl rfl rfl) rfl (.inl rfl) rfl)
      (xs_cons (x_if (tr_cmp cmp_eqT (ev_var rfl rfl) (ev_var rfl rfl) rfl) (xs_cons (x_ret (ev_bool))
      (xs_nil)) (xs_nil))
      (xs_cons (x_if (tr_not (tr_val tru_ok (ev_fun (nm_global rfl rfl rfl) (es_cons (ev_var rfl rfl) (es_nil) rfl) (ok_is_HDN.up (by decide)) rfl rfl (.inr (.inr ⟨_, rfl, _, _, rfl, rfl⟩))) rfl)) (xs_cons (x_ret (ev_bool))
      (xs_nil)) (xs_nil))
      (xs_cons (x_asg (ev_mth (ev_var rfl rfl) (es_cons (ev_var rfl rfl) (es_nil) rfl) fun_rfind F.plainAttrs_str F.slot_str_rfind F.type_str_rfind rfl rfl rfl rfl) rfl (.inl rfl) rfl)
      (xs_cons (x_if (tr_bool (ts_or (tr_cmp cmp_eqT (ev_var rfl rfl) (ev_un un_neg (ev_int)) rfl) (ts_or (tr_cmp cmp_eqT (ev_var rfl rfl) (ev_int) rfl) (ts_nil)))) (xs_cons (x_ret (ev_bool))
      (xs_nil)) (xs_nil))
      (xs_cons (x_if (tr_not (tr_val tru_ok (ev_mth (ev_var rfl rfl) (es_cons (ev_str) (es_nil) rfl) fun_start F.plainAttrs_str F.slot_str_startswith F.type_str_startswith rfl rfl rfl rfl) rfl)) (xs_cons (x_ret (ev_bool))
      (xs_nil)) (xs_nil))
      (xs_cons (x_if (tr_not (tr_val tru_ok (ev_fun (nm_global rfl rfl rfl) (es_cons (ev_from (cn_var rfl rfl) (ev_int)) (es_nil) rfl) (ok_is_HDN.up (by decide)) rfl rfl (.inr (.inr ⟨_, rfl, _, _, rfl, rfl⟩))) rfl)) (xs_cons (x_ret (ev_bool))
      (xs_nil)) (xs_nil))
      (xs_cons (x_ret (ev_bool))
      (xs_nil)))))))))
theorem ok_reach {prog : Program} {w : World} {P : Params} : GOk prog w (hd.heap_39 P) 3 (.ref 130) g_reach := by
  refine def_ok (k := 2) ⟨⟨_, rfl, rfl⟩, rfl, rfl, rfl, rfl, rfl, rfl, by decide, rfl, rfl, rfl⟩ (fun s vs hK hl => bd1 hl fun _ => rfl) rfl (by decide) ?_
  intro L he Pv
  exact xs_cons (x_asg (ev_mth (ev_var rfl rfl) (es_cons (ev_str) (es_nil) rfl) fun_find F.plainAttrs_str F.slot_str_find F.type_str_find rfl rfl rfl rfl) rfl (.inl rfl) rfl)
      (xs_cons (x_if (tr_cmp cmp_ge (ev_var rfl rfl) (ev_int) rfl) (xs_cons (x_asg (ev_from (cn_var rfl rfl) (ev_bin bin_add (ev_var rfl rfl) (ev_int))) rfl (.inl rfl) rfl)
      (xs_cons (x_asg (ev_mth (ev_var rfl rfl) (es_cons (ev_str) (es_nil) rfl) fun_find F.plainAttrs_str F.slot_str_find F.type_str_find rfl rfl rfl rfl) rfl (.inl rfl) rfl)
      (xs_cons (x_if (tr_bool (ts_and (tr_val tru_ok (ev_fun (nm_global rfl rfl rfl) (es_cons (ev_var rfl rfl) (es_nil) rfl) (ok_is_HDN.up (by decide)) rfl rfl (.inr (.inr ⟨_, rfl, _, _, rfl, rfl⟩))) rfl) (ts_and (tr_bool (ts_or (tr_cmp cmp_ge (ev_var rfl rfl) (ev_int) rfl) (ts_or (tr_cmp cmp_eqT (ev_var rfl rfl) (ev_str) rfl) (ts_nil)))) (ts_nil)))) (xs_cons (x_ret (ev_bin bin_add (ev_str) (ev_var rfl rfl)))
      (xs_nil)) (xs_nil))
      (xs_nil)))) (xs_nil))
      (xs_cons (x_ret (ev_var rfl rfl))
      (xs_nil)))
theorem ok_paren_depth {prog : Program} {w : World} {P : Params} : GOk prog w (hd.heap_39 P) 2 (.ref 143) g_paren_depth := by
  refine def_ok (k := 1) ⟨⟨_, rfl, rfl⟩, rfl, rfl, rfl, rfl, rfl, rfl, by decide, rfl, rfl, rfl⟩ (fun s vs hK hl => match vs, hl with | [v, u], _ => BindsTo.of_defaults rfl (hK _ _ rfl) rfl rfl rfl) rfl (by decide) ?_
  intro L he Pv
  exact xs_cons (x_asg (ev_sub (nm_global rfl rfl rfl) (ev_var rfl rfl) patQ rfl rfl rfl rfl) rfl (.inl rfl) rfl)
      (xs_cons (x_ret (ev_bin bin_sub (ev_bin bin_add (ev_var rfl rfl) (ev_mth (ev_var rfl rfl) (es_cons (ev_bytes) (es_nil) rfl) fun_count FB.plainAttrs_bytes slot_bytes_count type_bytes_count rfl rfl rfl rfl)) (ev_mth (ev_var rfl rfl) (es_cons (ev_bytes) (es_nil) rfl) fun_count FB.plainAttrs_bytes slot_bytes_count type_bytes_count rfl rfl rfl rfl)))
      (xs_nil))
theorem ok_add_callers {prog : Program} {w : World} {P : Params} : GOk prog w (hd.heap_39 P) 2 (.ref 150) g_add_callers := by
  refine def_ok (k := 1) ⟨⟨_, rfl, rfl⟩, rfl, rfl, rfl, rfl, rfl, rfl, by decide, rfl, rfl, rfl⟩ (fun s vs hK hl => bd2 hl fun _ _ => rfl) rfl (by decide) ?_
  intro L he Pv
  exact xs_cons (x_new rfl (.inl rfl) rfl)
      (xs_cons (x_items (ev_var rfl rfl) (xs_cons (x_setI (ev_var rfl rfl) (ev_var rfl rfl) rfl rfl rfl rfl)
      (xs_nil)) rfl (.inl rfl) rfl (.inl rfl) rfl rfl (fun _ => rfl))
      (xs_cons (x_items (ev_var rfl rfl) (xs_cons (x_if (tr_cmp cmp_in (ev_var rfl rfl) (ev_var rfl rfl) rfl) (xs_cons (x_if (tr_val tru_ok (ev_isi (nm_builtin rfl rfl rfl rfl rfl) (nm_builtin rfl rfl rfl rfl rfl) (ev_var rfl rfl) rfl) rfl) (xs_cons x_fail xs_nil) (xs_cons (x_augI (ev_var rfl rfl) (ev_var rfl rfl) rfl rfl rfl)
      (xs_nil)))
      (xs_nil)) (xs_cons (x_setI (ev_var rfl rfl) (ev_var rfl rfl) rfl rfl rfl rfl)
      (xs_nil)))
      (xs_nil)) rfl (.inl rfl) rfl (.inl rfl) rfl rfl (fun _ => rfl))
      (xs_cons (x_ret (ev_var rfl rfl))
      (xs_nil))))
theorem ok_count_calls {prog : Program} {w : World} {P : Params} : GOk prog w (hd.heap_39 P) 1 (.ref 157) g_count_calls := by
  refine def_ok (k := 0) ⟨⟨_, rfl, rfl⟩, rfl, rfl, rfl, rfl, rfl, rfl, by decide, rfl, rfl, rfl⟩ (fun s vs hK hl => bd1 hl fun _ => rfl) rfl (by decide) ?_
  intro L he Pv
  exact xs_cons (x_asg (ev_int) rfl (.inl rfl) rfl)
      (xs_cons (x_for (it_vals (ev_var rfl rfl) rfl rfl) (xs_cons (x_aug (ev_var rfl rfl) rfl (.inl rfl))
      (xs_nil)) rfl (.inl rfl) (fun _ => rfl))
      (xs_cons (x_ret (ev_var rfl rfl))
      (xs_nil)))
end Mine
namespace Mine
set_option maxHeartbeats 1000000
open PySem PySem.W PySem.Calls PyProof.Rows
theorem ok_lw_river {prog : Program} {w : World} {P : Params} : GOk prog w (hd.heap_39 P) 2 (.ref 164) g_lw_river := by
  refine def_ok (k := 1) ⟨⟨_, rfl, rfl⟩, rfl, rfl, rfl, rfl, rfl, rfl, by decide, rfl, rfl, rfl⟩ (fun s vs hK hl => bd1 hl fun _ => rfl) rfl (by decide) ?_
  intro L he Pv
  exact xs_cons (x_asg (ev_ls (ls_list (es_cons (ev_str) (es_cons (ev_str) (es_cons (ev_str) (es_cons (ev_str) (es_cons (ev_str) (es_nil) rfl) rfl) rfl) rfl) rfl) (by decide))) rfl (.inl rfl) rfl)
      (xs_cons (x_own (ls_list (es_cons (ev_str) (es_nil) rfl) (by decide)) rfl (.inl rfl) rfl)
      (xs_cons (x_own (ls_list (es_cons (ev_tup (es_nil) (by decide)) (es_nil) rfl) (by decide)) rfl (.inl rfl) rfl)
      (xs_cons (x_own (ls_list (es_cons (ev_int) (es_nil) rfl) (by decide)) rfl (.inl rfl) rfl)
      (xs_cons (x_asg (ev_ls (ls_list (es_cons (ev_int) (es_nil) rfl) (by decide))) rfl (.inl rfl) rfl)
      (xs_cons (x_for (it_range (nm_builtin rfl rfl rfl rfl rfl) (es_cons (ev_fun (nm_builtin rfl rfl rfl rfl rfl) (es_cons (ev_var rfl rfl) (es_nil) rfl) ((GOk.of fun_len).up (by decide)) rfl rfl (.inl ⟨_, rfl⟩)) (es_nil) rfl) rfl rfl) (xs_cons (x_unp (ev_fun (nm_builtin rfl rfl rfl rfl rfl) (es_cons (ev_idx (cn_var rfl rfl) (ev_var rfl rfl) (fun _ _ => rfl)) (es_cons (ev_bin bin_add (ev_var rfl rfl) (ev_int)) (es_nil) rfl) rfl) ((GOk.of fun_divmod).up (by decide)) rfl rfl (.inl ⟨_, rfl⟩)) (tgs_cons (tg_name rfl (.inl rfl)) (tgs_cons (tg_name rfl (.inl rfl)) (tgs_nil))) rfl rfl rfl rfl)
      (xs_cons (x_asg (ev_idx (cn_var rfl rfl) (ev_var rfl rfl) (fun _ _ => rfl)) rfl (.inl rfl) rfl)
      (xs_cons (x_for (it_str (ev_str)) (xs_cons (x_app (ev_bin bin_add (ev_bin bin_add (ev_bin bin_add (ev_var rfl rfl) (ev_idx (cn_var rfl rfl) (ev_bin bin_mod (ev_bin bin_div (ev_var rfl rfl) (ev_int)) (ev_int)) (fun _ _ => rfl))) (ev_str)) (ev_idx (cn_var rfl rfl) (ev_var rfl rfl) (fun _ _ => rfl))) rfl rfl rfl rfl rfl rfl rfl rfl rfl)
      (xs_cons (x_app (ev_tup (es_nil) (by decide)) rfl rfl rfl rfl rfl rfl rfl rfl rfl)
      (xs_cons (x_app (ev_int) rfl rfl rfl rfl rfl rfl rfl rfl rfl)
      (xs_nil)))) rfl (.inl rfl) (fun _ => rfl))
      (xs_cons (x_setL (ev_tup (es_cons (ev_bin bin_add (ev_bin bin_mul (ev_int) (ev_var rfl rfl)) (ev_int)) (es_cons (ev_bin bin_add (ev_bin bin_mul (ev_int) (ev_var rfl rfl)) (ev_int)) (es_nil) rfl) rfl) (by decide)) (ev_var rfl rfl) rfl rfl rfl rfl)
      (xs_cons (x_setL (ev_bin bin_mod (ev_var rfl rfl) (ev_int)) (ev_var rfl rfl) rfl rfl rfl rfl)
      (xs_cons (x_asg (ev_bin bin_add (ev_bin bin_add (ev_upto (cn_var rfl rfl) (ev_var rfl rfl)) (ev_ls (ls_list (es_cons (ev_bin bin_add (ev_bin bin_mul (ev_int) (ev_var rfl rfl)) (ev_int)) (es_cons (ev_bin bin_add (ev_bin bin_mul (ev_int) (ev_var rfl rfl)) (ev_int)) (es_nil) rfl) rfl) (by decide)))) (ev_from (cn_var rfl rfl) (ev_bin bin_add (ev_var rfl rfl) (ev_int)))) rfl (.inl rfl) rfl)
      (xs_nil))))))) rfl (.inl rfl) (fun _ => rfl))
      (xs_cons (x_ret (ev_tup (es_cons (ev_var rfl rfl) (es_cons (ev_var rfl rfl) (es_cons (ev_var rfl rfl) (es_cons (ev_var rfl rfl) (es_nil) rfl) rfl) rfl) rfl) (by decide)))
      (xs_nil)))))))
theorem ok_lw_begun {prog : Program} {w : World} {P : Params} : GOk prog w (hd.heap_39 P) 2 (.ref 169) g_lw_begun := by
  refine def_ok (k := 1) ⟨⟨_, rfl, rfl⟩, rfl, rfl, rfl, rfl, rfl, rfl, by decide, rfl, rfl, rfl⟩ (fun s vs hK hl => bd2 hl fun _ _ => rfl) rfl (by decide) ?_
  intro L he Pv
  exact xs_cons (x_own (ls_mul (ls_cn (ls_list (es_cons (ev_int) (es_nil) rfl) (by decide))) (ev_fun (nm_builtin rfl rfl rfl rfl rfl) (es_cons (ev_var rfl rfl) (es_nil) rfl) ((GOk.of fun_len).up (by decide)) rfl rfl (.inl ⟨_, rfl⟩))) rfl (.inl rfl) rfl)
      (xs_cons (x_for (it_range (nm_builtin rfl rfl rfl rfl rfl) (es_cons (ev_bin bin_sub (ev_fun (nm_builtin rfl rfl rfl rfl rfl) (es_cons (ev_var rfl rfl) (es_nil) rfl) ((GOk.of fun_len).up (by decide)) rfl rfl (.inl ⟨_, rfl⟩)) (ev_int)) (es_cons (ev_un un_neg (ev_int)) (es_cons (ev_un un_neg (ev_int)) (es_nil) rfl) rfl) rfl) rfl rfl) (xs_cons (x_if (tr_cmp cmp_neT (ev_idx (cn_var rfl rfl) (ev_var rfl rfl) (fun _ _ => rfl)) (ev_tup (es_nil) (by decide)) rfl) (xs_cons (x_swp (names := [sn "one", sn "other"]) (ev_tup (es_cons (ev_idx (cn_var rfl rfl) (ev_idx (cn_ev (ev_idx (cn_var rfl rfl) (ev_var rfl rfl) (fun _ _ => rfl))) (ev_int) (fun _ _ => rfl)) (fun _ _ => rfl)) (es_cons (ev_idx (cn_var rfl rfl) (ev_idx (cn_ev (ev_idx (cn_var rfl rfl) (ev_var rfl rfl) (fun _ _ => rfl))) (ev_int) (fun _ _ => rfl)) (fun _ _ => rfl)) (es_nil) rfl) rfl) (by decide)) (tgs_cons (tg_bind rfl (.inl rfl)) (tgs_cons (tg_bind rfl (.inl rfl)) (tgs_nil))) rfl rfl (swapped_two rfl rfl rfl rfl rfl rfl rfl rfl))
      (xs_cons (x_setL (ev_ifexp (tr_cmp cmp_eqT (ev_var rfl rfl) (ev_var rfl rfl) rfl) (ev_bin bin_add (ev_var rfl rfl) (ev_int)) (ev_fun (nm_builtin rfl rfl rfl rfl rfl) (es_cons (ev_var rfl rfl) (es_cons (ev_var rfl rfl) (es_nil) rfl) rfl) ((GOk.of fun_max).up (by decide)) rfl rfl (.inl ⟨_, rfl⟩))) (ev_var rfl rfl) rfl rfl rfl rfl)
      (xs_nil))) (xs_nil))
      (xs_nil)) rfl (.inl rfl) (fun _ => rfl))
      (xs_cons (x_ownN (fv := [none, none]) (ix := 1) (it_range (nm_builtin rfl rfl rfl rfl rfl) (es_cons (ev_idx (cn_var rfl rfl) (ev_int) (fun _ _ => rfl)) (es_nil) rfl) rfl rfl) ⟨rfl, by decide, freeOk_of rfl, fvOk_of rfl, cell_of rfl, rfl, rfl⟩ (fun _ => rfl) rfl rfl)
      (xs_cons (x_for (it_range (nm_builtin rfl rfl rfl rfl rfl) (es_cons (ev_fun (nm_builtin rfl rfl rfl rfl rfl) (es_cons (ev_var rfl rfl) (es_nil) rfl) ((GOk.of fun_len).up (by decide)) rfl rfl (.inl ⟨_, rfl⟩)) (es_nil) rfl) rfl rfl) (xs_cons (x_if (tr_bool (ts_or (tr_cmp cmp_eqT (ev_idx (cn_var rfl rfl) (ev_var rfl rfl) (fun _ _ => rfl)) (ev_tup (es_nil) (by decide)) rfl) (ts_or (tr_cmp cmp_eqT (ev_idx (cn_var rfl rfl) (ev_idx (cn_ev (ev_idx (cn_var rfl rfl) (ev_var rfl rfl) (fun _ _ => rfl))) (ev_int) (fun _ _ => rfl)) (fun _ _ => rfl)) (ev_idx (cn_var rfl rfl) (ev_idx (cn_ev (ev_idx (cn_var rfl rfl) (ev_var rfl rfl) (fun _ _ => rfl))) (ev_int) (fun _ _ => rfl)) (fun _ _ => rfl)) rfl) (ts_nil)))) (xs_cons (x_appN (ev_idx (cn_var rfl rfl) (ev_var rfl rfl) (fun _ _ => rfl)) (ev_bin bin_sub (ev_idx (cn_var rfl rfl) (ev_var rfl rfl) (fun _ _ => rfl)) (ev_int)) rfl rfl rfl (fun _ _ => rfl) rfl rfl rfl rfl rfl rfl)
      (xs_nil)) (xs_nil))
      (xs_nil)) rfl (.inl rfl) (fun _ => rfl))
      (xs_cons (x_ret (ev_tup (es_cons (ev_var rfl rfl) (es_cons (ev_ls (ls_comp (it_lst (ev_var rfl rfl)) (fun X b C D I => ev_fun (nm_builtin rfl rfl rfl rfl rfl) (es_cons (ev_var rfl rfl) (es_nil) rfl) ((GOk.of fun_sorted).up (by decide)) rfl rfl (.inl ⟨_, rfl⟩)) trivial ⟨rfl, by decide, freeOk_of rfl, fvOk_of rfl, cell_of rfl, rfl, rfl⟩ (fun _ => rfl))) (es_nil) rfl) rfl) (by decide)))
      (xs_nil)))))
theorem ok_lw_side {prog : Program} {w : World} {P : Params} : GOk prog w (hd.heap_39 P) 1 (.ref 181) g_lw_side := by
  refine def_ok (k := 0) ⟨⟨_, rfl, rfl⟩, rfl, rfl, rfl, rfl, rfl, rfl, by decide, rfl, rfl, rfl⟩ (fun s vs hK hl => bd2 hl fun _ _ => rfl) rfl (by decide) ?_
  intro L he Pv
  exact xs_cons (x_ret (ev_bin bin_add (ev_bin bin_add (ev_bin bin_add (ev_ls (ls_list (es_cons (ev_bin bin_add (ev_str) (ev_idx (cn_var rfl rfl) (ev_int) (fun _ _ => rfl))) (es_nil) rfl) (by decide))) (ev_from (cn_var rfl rfl) (ev_int))) (ev_ls (ls_list (es_cons (ev_bin bin_add (ev_str) (ev_idx (cn_var rfl rfl) (ev_int) (fun _ _ => rfl))) (es_nil) rfl) (by decide)))) (ev_from (cn_var rfl rfl) (ev_int))))
      (xs_nil)
end Mine
namespace Mine
set_option maxHeartbeats 1000000
open PySem PySem.W PySem.Calls PyProof.Rows
theorem ok_lw_course {prog : Program} {w : World} {P : Params} : GOk prog w (hd.heap_39 P) 3 (.ref 186) g_lw_course := by
  refine def_ok (k := 2) ⟨⟨_, rfl, rfl⟩, rfl, rfl, rfl, rfl, rfl, rfl, by decide, rfl, rfl, rfl⟩ (fun s vs hK hl => bd3 hl fun _ _ _ => rfl) rfl (by decide) ?_
  intro L he Pv
  exact xs_cons (x_ownC (it_lst (ev_var rfl rfl)) (fun X b C D I => ev_dict1 (ev_int) (ev_int)) trivial ⟨rfl, by decide, freeOk_of rfl, fvOk_of rfl, cell_of rfl, rfl, rfl⟩ (fun _ => rfl) rfl rfl)
      (xs_cons (x_ownC (it_lst (ev_var rfl rfl)) (fun X b C D I => ev_str) trivial ⟨rfl, by decide, freeOk_of rfl, fvOk_of rfl, cell_of rfl, rfl, rfl⟩ (fun _ => rfl) rfl rfl)
      (xs_cons (x_asgC (it_lst (ev_var rfl rfl)) (fun X b C D I => EvTk.ok (etk_rep (etk_rep (etk_idx (etk_mth (ev_var rfl rfl) (etk_one etk_str rfl) fun_split F.plainAttrs_str F.slot_str_split F.type_str_split rfl rfl rfl rfl) (ev_int) (fun _ _ => rfl)) rfl rfl rfl) rfl rfl rfl)) trivial ⟨rfl, by decide, freeOk_of rfl, fvOk_of rfl, cell_of rfl, rfl, rfl⟩ (fun _ => rfl) rfl rfl)
      (xs_cons (x_ownC (it_lst (ev_var rfl rfl)) (fun X b C D I => ev_ls (ls_list (es_cons (ev_bin bin_add (ev_bin bin_add (ev_str) (ev_var rfl rfl)) (ev_str)) (es_nil) rfl) (by decide))) trivial ⟨rfl, by decide, freeOk_of rfl, fvOk_of rfl, cell_of rfl, rfl, rfl⟩ (fun _ => rfl) rfl rfl)
      (xs_cons (x_ownC (it_lst (ev_var rfl rfl)) (fun X b C D I => ev_ls (ls_list (es_cons (ev_bin bin_add (ev_bin bin_add (ev_str) (ev_var rfl rfl)) (ev_str)) (es_nil) rfl) (by decide))) trivial ⟨rfl, by decide, freeOk_of rfl, fvOk_of rfl, cell_of rfl, rfl, rfl⟩ (fun _ => rfl) rfl rfl)
      (xs_cons (x_for (it_range (nm_builtin rfl rfl rfl rfl rfl) (es_cons (ev_bin bin_sub (ev_fun (nm_builtin rfl rfl rfl rfl rfl) (es_cons (ev_var rfl rfl) (es_nil) rfl) ((GOk.of fun_len).up (by decide)) rfl rfl (.inl ⟨_, rfl⟩)) (ev_int)) (es_cons (ev_un un_neg (ev_int)) (es_cons (ev_un un_neg (ev_int)) (es_nil) rfl) rfl) rfl) rfl rfl) (xs_cons (x_if (tr_cmp cmp_eqT (ev_idx (cn_var rfl rfl) (ev_var rfl rfl) (fun _ _ => rfl)) (ev_tup (es_nil) (by decide)) rfl) (xs_cons (x_cont)
      (xs_nil)) (xs_nil))
      (xs_cons (x_setL (ev_fun (nm_global rfl rfl rfl) (es_cons (ev_idx (cn_var rfl rfl) (ev_idx (cn_ev (ev_idx (cn_var rfl rfl) (ev_var rfl rfl) (fun _ _ => rfl))) (ev_idx (cn_var rfl rfl) (ev_var rfl rfl) (fun _ _ => rfl)) (fun _ _ => rfl)) (fun _ _ => rfl)) (es_cons (ev_idx (cn_var rfl rfl) (ev_idx (cn_ev (ev_idx (cn_var rfl rfl) (ev_var rfl rfl) (fun _ _ => rfl))) (ev_bin bin_sub (ev_int) (ev_idx (cn_var rfl rfl) (ev_var rfl rfl) (fun _ _ => rfl))) (fun _ _ => rfl)) (fun _ _ => rfl)) (es_nil) rfl) rfl) (ok_lw_side.up (by decide)) rfl rfl (.inr (.inr ⟨_, rfl, _, _, rfl, rfl⟩))) (ev_var rfl rfl) rfl rfl rfl rfl)
      (xs_cons (x_unp (ev_idx (cn_var rfl rfl) (ev_var rfl rfl) (fun _ _ => rfl)) (tgs_cons (tg_name rfl (.inl rfl)) (tgs_cons (tg_name rfl (.inl rfl)) (tgs_nil))) rfl rfl rfl rfl)
      (xs_cons (x_if (tr_cmp cmp_gt (ev_fun (nm_builtin rfl rfl rfl rfl rfl) (es_cons (ev_idx (cn_var rfl rfl) (ev_var rfl rfl) (fun _ _ => rfl)) (es_nil) rfl) ((GOk.of fun_max).up (by decide)) rfl rfl (.inl ⟨_, rfl⟩)) (ev_fun (nm_builtin rfl rfl rfl rfl rfl) (es_cons (ev_idx (cn_var rfl rfl) (ev_var rfl rfl) (fun _ _ => rfl)) (es_nil) rfl) ((GOk.of fun_max).up (by decide)) rfl rfl (.inl ⟨_, rfl⟩)) rfl) (xs_cons (x_swp (names := [sn "small", sn "great"]) (ev_tup (es_cons (ev_var rfl rfl) (es_cons (ev_var rfl rfl) (es_nil) rfl) rfl) (by decide)) (tgs_cons (tg_bind rfl (.inl rfl)) (tgs_cons (tg_bind rfl (.inl rfl)) (tgs_nil))) rfl rfl (swapped_two rfl rfl rfl rfl rfl rfl rfl rfl))
      (xs_nil)) (xs_nil))
      (xs_cons (x_setL (ev_fun (nm_global rfl rfl rfl) (es_cons (ev_idx (cn_var rfl rfl) (ev_var rfl rfl) (fun _ _ => rfl)) (es_cons (ev_idx (cn_var rfl rfl) (ev_var rfl rfl) (fun _ _ => rfl)) (es_nil) rfl) rfl) (ok_lw_side.up (by decide)) rfl rfl (.inr (.inr ⟨_, rfl, _, _, rfl, rfl⟩))) (ev_var rfl rfl) rfl rfl rfl rfl)
      (xs_cons (x_setL (ev_fun (nm_global rfl rfl rfl) (es_cons (ev_idx (cn_var rfl rfl) (ev_var rfl rfl) (fun _ _ => rfl)) (es_cons (ev_idx (cn_var rfl rfl) (ev_var rfl rfl) (fun _ _ => rfl)) (es_nil) rfl) rfl) (ok_add_callers.up (by decide)) rfl rfl (.inr (.inr ⟨_, rfl, _, _, rfl, rfl⟩))) (ev_var rfl rfl) rfl rfl rfl rfl)
      (xs_cons (x_setL (ev_bin bin_add (ev_bin bin_add (ev_idx (cn_var rfl rfl) (ev_var rfl rfl) (fun _ _ => rfl)) (ev_str)) (ev_idx (cn_var rfl rfl) (ev_var rfl rfl) (fun _ _ => rfl))) (ev_var rfl rfl) rfl rfl rfl rfl)
      (xs_cons (x_asg (ev_fun (nm_builtin rfl rfl rfl rfl rfl) (es_cons (ev_idx (cn_var rfl rfl) (ev_var rfl rfl) (fun _ _ => rfl)) (es_nil) rfl) ((GOk.of fun_max).up (by decide)) rfl rfl (.inl ⟨_, rfl⟩)) rfl (.inl rfl) rfl)
      (xs_cons (x_if (tr_cmp cmp_eqT (ev_fun (nm_builtin rfl rfl rfl rfl rfl) (es_cons (ev_idx (cn_var rfl rfl) (ev_var rfl rfl) (fun _ _ => rfl)) (es_nil) rfl) ((GOk.of fun_max).up (by decide)) rfl rfl (.inl ⟨_, rfl⟩)) (ev_var rfl rfl) rfl) (xs_cons (x_setL (ev_fun (nm_global rfl rfl rfl) (es_cons (ev_idx (cn_var rfl rfl) (ev_var rfl rfl) (fun _ _ => rfl)) (es_cons (ev_dict1 (ev_bin bin_add (ev_var rfl rfl) (ev_int)) (ev_int)) (es_nil) rfl) rfl) (ok_add_callers.up (by decide)) rfl rfl (.inr (.inr ⟨_, rfl, _, _, rfl, rfl⟩))) (ev_var rfl rfl) rfl rfl rfl rfl)
      (xs_cons (x_setL (ev_bin bin_add (ev_bin bin_add (ev_idx (cn_var rfl rfl) (ev_var rfl rfl) (fun _ _ => rfl)) (ev_str)) (ev_bin bin_mul (ev_str) (ev_bin bin_add (ev_var rfl rfl) (ev_int)))) (ev_var rfl rfl) rfl rfl rfl rfl)
      (xs_nil))) (xs_nil))
      (xs_nil)))))))))) rfl (.inl rfl) (fun _ => rfl))
      (xs_cons (x_ret (ev_tup (es_cons (ev_var rfl rfl) (es_cons (ev_var rfl rfl) (es_cons (ev_idx (cn_var rfl rfl) (ev_int) (fun _ _ => rfl)) (es_cons (ev_idx (cn_var rfl rfl) (ev_int) (fun _ _ => rfl)) (es_nil) rfl) rfl) rfl) rfl) (by decide)))
      (xs_nil)))))))
theorem ok_lw_deep {prog : Program} {w : World} {P : Params} : GOk prog w (hd.heap_39 P) 1 (.ref 193) g_lw_deep := by
  refine def_ok (k := 0) ⟨⟨_, rfl, rfl⟩, rfl, rfl, rfl, rfl, rfl, rfl, by decide, rfl, rfl, rfl⟩ (fun s vs hK hl => bd2 hl fun _ _ => rfl) rfl (by decide) ?_
  intro L he Pv
  exact xs_cons (x_own (ls_list (es_nil) (by decide)) rfl (.inl rfl) rfl)
      (xs_cons (x_own (ls_list (es_cons (ev_tup (es_cons (ev_int) (es_cons (ev_int) (es_nil) rfl) rfl) (by decide)) (es_nil) rfl) (by decide)) rfl (.inl rfl) rfl)
      (xs_cons (x_while (tr_val tru_ok (ev_var rfl rfl) rfl) (xs_cons (x_pop rfl rfl rfl rfl rfl rfl (tgs_cons (tg_name rfl (.inl rfl)) (tgs_cons (tg_name rfl (.inl rfl)) (tgs_nil))) rfl rfl rfl rfl)
      (xs_cons (x_if (tr_cmp cmp_eqT (ev_idx (cn_var rfl rfl) (ev_var rfl rfl) (fun _ _ => rfl)) (ev_tup (es_nil) (by decide)) rfl) (xs_cons (x_app (ev_var rfl rfl) rfl rfl rfl rfl rfl rfl rfl rfl rfl)
      (xs_nil)) (xs_cons (x_app (ev_tup (es_cons (ev_idx (cn_ev (ev_idx (cn_var rfl rfl) (ev_var rfl rfl) (fun _ _ => rfl))) (ev_bin bin_sub (ev_int) (ev_idx (cn_var rfl rfl) (ev_var rfl rfl) (fun _ _ => rfl))) (fun _ _ => rfl)) (es_cons (ev_var rfl rfl) (es_nil) rfl) rfl) (by decide)) rfl rfl rfl rfl rfl rfl rfl rfl rfl)
      (xs_cons (x_app (ev_tup (es_cons (ev_idx (cn_ev (ev_idx (cn_var rfl rfl) (ev_var rfl rfl) (fun _ _ => rfl))) (ev_idx (cn_var rfl rfl) (ev_var rfl rfl) (fun _ _ => rfl)) (fun _ _ => rfl)) (es_cons (ev_bin bin_add (ev_var rfl rfl) (ev_int)) (es_nil) rfl) rfl) (by decide)) rfl rfl rfl rfl rfl rfl rfl rfl rfl)
      (xs_nil))))
      (xs_nil))))
      (xs_cons (x_ret (ev_var rfl rfl))
      (xs_nil))))
theorem ok_lw_told {prog : Program} {w : World} {P : Params} : GOk prog w (hd.heap_39 P) 3 (.ref 200) g_lw_told := by
  refine def_ok (k := 2) ⟨⟨_, rfl, rfl⟩, rfl, rfl, rfl, rfl, rfl, rfl, by decide, rfl, rfl, rfl⟩ (fun s vs hK hl => bd2 hl fun _ _ => rfl) rfl (by decide) ?_
  intro L he Pv
  exact xs_cons (x_own (ls_list (es_nil) (by decide)) rfl (.inl rfl) rfl)
      (xs_cons (x_asg (ev_var rfl rfl) rfl (.inl rfl) rfl)
      (xs_cons (x_for (it_lst (ev_var rfl rfl)) (xs_cons (x_asg (ev_fun (nm_global rfl rfl rfl) (es_cons (ev_mth (ev_var rfl rfl) (es_nil) fun_encode F.plainAttrs_str F.slot_str_encode F.type_str_encode rfl rfl rfl rfl) (es_cons (ev_var rfl rfl) (es_nil) rfl) rfl) (ok_paren_depth.up (by decide)) rfl rfl (.inr (.inr ⟨_, rfl, _, _, rfl, rfl⟩))) rfl (.inl rfl) rfl)
      (xs_cons (x_app (ev_bin bin_sub (ev_var rfl rfl) (ev_var rfl rfl)) rfl rfl rfl rfl rfl rfl rfl rfl rfl)
      (xs_nil))) rfl (.inl rfl) (fun _ => rfl))
      (xs_cons (x_ret (ev_var rfl rfl))
      (xs_nil))))
end Mine
namespace Mine
set_option maxHeartbeats 0
open PySem PySem.W PySem.Calls PyProof.Rows
theorem ok_lw_rounds {prog : Program} {w : World} {P : Params} : GOk prog w (hd.heap_39 P) 4 (.ref 174) g_lw_rounds := by
  refine def_ok (k := 3) ⟨⟨_, rfl, rfl⟩, rfl, rfl, rfl, rfl, rfl, rfl, by decide, rfl, rfl, rfl⟩ (fun s vs hK hl => bd2 hl fun _ _ => rfl) rfl (by decide) ?_
  intro L he Pv
  exact xs_cons (x_newS rfl (.inr ⟨rfl, rfl, rfl⟩) rfl)
      (xs_cons (x_for (it_lst (ev_from (cn_var rfl rfl) (ev_int))) (xs_cons (x_asg (ev_from (cn_ev (ev_fun (nm_global rfl rfl rfl) (es_cons (ev_var rfl rfl) (es_nil) rfl) (ok_reach.up (by decide)) rfl rfl (.inr (.inr ⟨_, rfl, _, _, rfl, rfl⟩)))) (ev_int)) rfl (.inl rfl) rfl)
      (xs_cons (x_setS (ev_bin bin_add (ev_ls (ls_list (es_cons (ev_var rfl rfl) (es_nil) rfl) (by decide))) (ev_get (cn_var rfl rfl) (ev_var rfl rfl) (ev_ls (ls_list (es_nil) (by decide))) rfl rfl rfl rfl)) (ev_var rfl rfl) rfl rfl rfl rfl)
      (xs_nil))) rfl (.inl rfl) (fun _ => rfl))
      (xs_cons (x_asg (ev_ls (ls_comp (it_lst (ev_var rfl rfl)) (fun X b C D I => ev_idx (cn_var rfl rfl) (ev_var rfl rfl) (fun _ _ => rfl)) trivial ⟨rfl, by decide, freeOk_of rfl, fvOk_of rfl, cell_of rfl, rfl, rfl⟩ (fun _ => rfl))) rfl (.inr ⟨rfl, rfl, rfl⟩) rfl)
      (xs_cons (x_own (ls_list (es_nil) (by decide)) rfl (.inl rfl) rfl)
      (xs_cons (x_while (tr_val tru_ok (ev_var rfl rfl) rfl) (xs_cons (x_app (ev_fun (nm_builtin rfl rfl rfl rfl rfl) (es_cons (ev_var rfl rfl) (es_nil) rfl) ((GOk.of fun_sorted).up (by decide)) rfl rfl (.inl ⟨_, rfl⟩)) rfl rfl rfl rfl rfl rfl rfl rfl rfl)
      (xs_cons (x_own (ls_list (es_nil) (by decide)) rfl (.inr ⟨rfl, rfl, rfl⟩) rfl)
      (xs_cons (x_for (it_range (nm_builtin rfl rfl rfl rfl rfl) (es_cons (ev_int) (es_cons (ev_fun (nm_builtin rfl rfl rfl rfl rfl) (es_cons (ev_var rfl rfl) (es_nil) rfl) ((GOk.of fun_len).up (by decide)) rfl rfl (.inl ⟨_, rfl⟩)) (es_nil) rfl) rfl) rfl rfl) (xs_cons (x_asgC (it_lst (ev_idx (cn_var rfl rfl) (ev_idx (cn_var rfl rfl) (ev_bin bin_sub (ev_var rfl rfl) (ev_int)) (fun _ _ => rfl)) (fun _ _ => rfl))) (fun X b C D I => ev_var rfl rfl) (fun X b C D I => tr_cmp cmp_in (ev_var rfl rfl) (ev_idx (cn_var rfl rfl) (ev_idx (cn_var rfl rfl) (ev_var rfl rfl) (fun _ _ => rfl)) (fun _ _ => rfl)) rfl) ⟨rfl, by decide, freeOk_of rfl, fvOk_of rfl, cell_of rfl, rfl, rfl⟩ (fun _ => rfl) rfl rfl)
      (xs_cons (x_app (ev_idx (cn_ev (ev_bin bin_add (ev_var rfl rfl) (ev_ls (ls_list (es_cons (ev_str) (es_nil) rfl) (by decide))))) (ev_int) (fun _ _ => rfl)) rfl rfl rfl rfl rfl rfl rfl rfl rfl)
      (xs_nil))) rfl (.inr ⟨rfl, rfl, rfl⟩) (fun _ => rfl))
      (xs_cons (x_own (ls_mul (ls_cn (ls_list (es_cons (ev_bool) (es_nil) rfl) (by decide))) (ev_fun (nm_builtin rfl rfl rfl rfl rfl) (es_cons (ev_var rfl rfl) (es_nil) rfl) ((GOk.of fun_len).up (by decide)) rfl rfl (.inl ⟨_, rfl⟩))) rfl (.inr ⟨rfl, rfl, rfl⟩) rfl)
      (xs_cons (x_for (it_range (nm_builtin rfl rfl rfl rfl rfl) (es_cons (ev_int) (es_cons (ev_fun (nm_builtin rfl rfl rfl rfl rfl) (es_cons (ev_var rfl rfl) (es_nil) rfl) ((GOk.of fun_len).up (by decide)) rfl rfl (.inl ⟨_, rfl⟩)) (es_nil) rfl) rfl) rfl rfl) (xs_cons (x_if (tr_val tru_ok (ev_fun (nm_global rfl rfl rfl) (es_cons (ev_idx (cn_var rfl rfl) (ev_var rfl rfl) (fun _ _ => rfl)) (es_cons (ev_bin bin_add (ev_str) (ev_idx (cn_var rfl rfl) (ev_bin bin_sub (ev_var rfl rfl) (ev_int)) (fun _ _ => rfl))) (es_nil) rfl) rfl) (ok_domain_match.up (by decide)) rfl rfl (.inr (.inr ⟨_, rfl, _, _, rfl, rfl⟩))) rfl) (xs_cons (x_setL (ev_bool) (ev_bin bin_sub (ev_var rfl rfl) (ev_int)) rfl rfl rfl rfl)
      (xs_nil)) (xs_cons (x_setL (ev_bool) (ev_var rfl rfl) rfl rfl rfl rfl)
      (xs_nil)))
      (xs_nil)) rfl (.inr ⟨rfl, rfl, rfl⟩) (fun _ => rfl))
      (xs_cons (x_asg (ev_ls (ls_comp (it_range (nm_builtin rfl rfl rfl rfl rfl) (es_cons (ev_fun (nm_builtin rfl rfl rfl rfl rfl) (es_cons (ev_var rfl rfl) (es_nil) rfl) ((GOk.of fun_len).up (by decide)) rfl rfl (.inl ⟨_, rfl⟩)) (es_nil) rfl) rfl rfl) (fun X b C D I => ev_idx (cn_var rfl rfl) (ev_var rfl rfl) (fun _ _ => rfl)) (fun X b C D I => tr_val tru_ok (ev_idx (cn_var rfl rfl) (ev_var rfl rfl) (fun _ _ => rfl)) rfl) ⟨rfl, by decide, freeOk_of rfl, fvOk_of rfl, cell_of rfl, rfl, rfl⟩ (fun _ => rfl))) rfl (.inr ⟨rfl, rfl, rfl⟩) rfl)
      (xs_nil))))))))
      (xs_cons (x_ret (ev_var rfl rfl))
      (xs_nil))))))
end Mine
namespace Mine
set_option maxHeartbeats 0
open PySem PySem.W PySem.Calls PyProof.Rows
theorem ok_law {prog : Program} {w : World} {P : Params} : GOk prog w (hd.heap_39 P) 5 (.ref 205) g_law := by
  refine def_ok (k := 4) ⟨⟨_, rfl, rfl⟩, rfl, rfl, rfl, rfl, rfl, rfl, by decide, rfl, rfl, rfl⟩ (fun s vs hK hl => bd1 hl fun _ => rfl) rfl (by decide) ?_
  intro L he Pv
  exact xs_cons (x_asg (ev_bin bin_add (ev_upto (cn_var rfl rfl) (ev_int)) (ev_from (cn_ev (ev_ls (ls_list (es_cons (ev_int) (es_cons (ev_int) (es_cons (ev_int) (es_cons (ev_int) (es_nil) rfl) rfl) rfl) rfl) (by decide)))) (ev_fun (nm_builtin rfl rfl rfl rfl rfl) (es_cons (ev_var rfl rfl) (es_nil) rfl) ((GOk.of fun_len).up (by decide)) rfl rfl (.inl ⟨_, rfl⟩)))) rfl (.inl rfl) rfl)
      (xs_cons (x_asg (ev_fun (nm_builtin rfl rfl rfl rfl rfl) (es_cons (ev_var rfl rfl) (es_nil) rfl) ((GOk.of fun_sum).up (by decide)) rfl rfl (.inl ⟨_, rfl⟩)) rfl (.inl rfl) rfl)
      (xs_cons (x_unp (ev_fun (nm_global rfl rfl rfl) (es_cons (ev_var rfl rfl) (es_nil) rfl) (ok_lw_river.up (by decide)) rfl rfl (.inr (.inr ⟨_, rfl, _, _, rfl, rfl⟩))) (tgs_cons (tg_name rfl (.inl rfl)) (tgs_cons (tg_name rfl (.inr ⟨rfl, rfl, rfl⟩)) (tgs_cons (tg_name rfl (.inl rfl)) (tgs_cons (tg_name rfl (.inl rfl)) (tgs_nil))))) rfl rfl rfl rfl)
      (xs_cons (x_unp (ev_fun (nm_global rfl rfl rfl) (es_cons (ev_var rfl rfl) (es_cons (ev_var rfl rfl) (es_nil) rfl) rfl) (ok_lw_begun.up (by decide)) rfl rfl (.inr (.inr ⟨_, rfl, _, _, rfl, rfl⟩))) (tgs_cons (tg_name rfl (.inl rfl)) (tgs_cons (tg_name rfl (.inl rfl)) (tgs_nil))) rfl rfl rfl rfl)
      (xs_cons (x_asg (ev_ls (ls_comp (it_lst (ev_var rfl rfl)) (fun X b C D I => ev_fun (nm_builtin rfl rfl rfl rfl rfl) (es_cons (ev_var rfl rfl) (es_nil) rfl) ((GOk.of fun_len).up (by decide)) rfl rfl (.inl ⟨_, rfl⟩)) trivial ⟨rfl, by decide, freeOk_of rfl, fvOk_of rfl, cell_of rfl, rfl, rfl⟩ (fun _ => rfl))) rfl (.inr ⟨rfl, rfl, rfl⟩) rfl)
      (xs_cons (x_asg (ev_fun (nm_builtin rfl rfl rfl rfl rfl) (es_cons (ev_var rfl rfl) (es_nil) rfl) ((GOk.of fun_len).up (by decide)) rfl rfl (.inl ⟨_, rfl⟩)) rfl (.inl rfl) rfl)
      (xs_cons (x_unp (ev_fun (nm_global rfl rfl rfl) (es_cons (ev_var rfl rfl) (es_cons (ev_var rfl rfl) (es_cons (ev_var rfl rfl) (es_nil) rfl) rfl) rfl) (ok_lw_course.up (by decide)) rfl rfl (.inr (.inr ⟨_, rfl, _, _, rfl, rfl⟩))) (tgs_cons (tg_name rfl (.inl rfl)) (tgs_cons (tg_name rfl (.inr ⟨rfl, rfl, rfl⟩)) (tgs_cons (tg_name rfl (.inl rfl)) (tgs_cons (tg_name rfl (.inl rfl)) (tgs_nil))))) rfl rfl rfl rfl)
      (xs_cons (x_if (tr_bool (ts_or (tr_cmp cmp_neT (ev_idx (cn_var rfl rfl) (ev_int) (fun _ _ => rfl)) (ev_compD (it_range (nm_builtin rfl rfl rfl rfl rfl) (es_cons (ev_var rfl rfl) (es_nil) rfl) rfl rfl) (fun X b C D I => ev_bin bin_add (ev_var rfl rfl) (ev_int)) (fun X b C D I => ev_idx (cn_var rfl rfl) (ev_var rfl rfl) (fun _ _ => rfl)) ⟨rfl, by decide, freeOk_of rfl, fvOk_of rfl, cell_of rfl, rfl, rfl⟩ (fun _ => rfl)) rfl) (ts_or (tr_cmp cmp_neT (ev_fun (nm_global rfl rfl rfl) (es_cons (ev_idx (cn_var rfl rfl) (ev_int) (fun _ _ => rfl)) (es_nil) rfl) (ok_count_calls.up (by decide)) rfl rfl (.inr (.inr ⟨_, rfl, _, _, rfl, rfl⟩))) (ev_fun (nm_builtin rfl rfl rfl rfl rfl) (es_cons (ev_var rfl rfl) (es_nil) rfl) ((GOk.of fun_sum).up (by decide)) rfl rfl (.inl ⟨_, rfl⟩)) rfl) (ts_nil)))) (xs_cons (x_ret (ev_bool))
      (xs_nil)) (xs_nil))
      (xs_cons (x_if (tr_cmp cmp_neT (ev_fun (nm_global rfl rfl rfl) (es_cons (ev_var rfl rfl) (es_cons (ev_var rfl rfl) (es_nil) rfl) rfl) (ok_lw_rounds.up (by decide)) rfl rfl (.inr (.inr ⟨_, rfl, _, _, rfl, rfl⟩))) (ev_var rfl rfl) rfl) (xs_cons (x_ret (ev_bool))
      (xs_nil)) (xs_nil))
      (xs_cons (x_asgC (it_range (nm_builtin rfl rfl rfl rfl rfl) (es_cons (ev_fun (nm_builtin rfl rfl rfl rfl rfl) (es_cons (ev_var rfl rfl) (es_nil) rfl) ((GOk.of fun_len).up (by decide)) rfl rfl (.inl ⟨_, rfl⟩)) (es_nil) rfl) rfl rfl) (fun X b C D I => ev_var rfl rfl) (fun X b C D I => tr_cmp cmp_neT (ev_idx (cn_var rfl rfl) (ev_var rfl rfl) (fun _ _ => rfl)) (ev_tup (es_nil) (by decide)) rfl) ⟨rfl, by decide, freeOk_of rfl, fvOk_of rfl, cell_of rfl, rfl, rfl⟩ (fun _ => rfl) rfl rfl)
      (xs_cons (x_asgC (it_lst (ev_var rfl rfl)) (fun X b C D I => ev_funK (nm_global rfl rfl rfl) (es_cons (ev_bin bin_add (ev_idx (cn_var rfl rfl) (ev_var rfl rfl) (fun _ _ => rfl)) (ev_str)) (es_nil) rfl) (ok_init.up (by decide)) rfl rfl) trivial ⟨rfl, by decide, freeOk_of rfl, fvOk_of rfl, cell_of rfl, rfl, rfl⟩ (fun _ => rfl) rfl rfl)
      (xs_cons (x_asgC (it_lst (ev_var rfl rfl)) (fun X b C D I => ev_funK (nm_global rfl rfl rfl) (es_cons (ev_bin bin_add (ev_idx (cn_var rfl rfl) (ev_var rfl rfl) (fun _ _ => rfl)) (ev_str)) (es_nil) rfl) (ok_init.up (by decide)) rfl rfl) trivial ⟨rfl, by decide, freeOk_of rfl, fvOk_of rfl, cell_of rfl, rfl, rfl⟩ (fun _ => rfl) rfl rfl)
      (xs_cons (x_for (it_range (nm_builtin rfl rfl rfl rfl rfl) (es_cons (ev_fun (nm_builtin rfl rfl rfl rfl rfl) (es_cons (ev_var rfl rfl) (es_nil) rfl) ((GOk.of fun_len).up (by decide)) rfl rfl (.inl ⟨_, rfl⟩)) (es_nil) rfl) rfl rfl) (xs_cons (x_for (it_lst (ev_ls (ls_list (es_cons (ev_idx (cn_var rfl rfl) (ev_var rfl rfl) (fun _ _ => rfl)) (es_cons (ev_idx (cn_var rfl rfl) (ev_var rfl rfl) (fun _ _ => rfl)) (es_nil) rfl) rfl) (by decide)))) (xs_cons (x_if (tr_cmp cmp_neT (ev_meth (ev_var rfl rfl) (es_nil) (ok_longest_run_of_spaces.up (by decide)) ctxM_longest_run_of_spaces rfl rfl rfl rfl) (ev_idx (cn_var rfl rfl) (ev_idx (cn_var rfl rfl) (ev_var rfl rfl) (fun _ _ => rfl)) (fun _ _ => rfl)) rfl) (xs_cons (x_ret (ev_bool))
      (xs_nil)) (xs_nil))
      (xs_nil)) rfl (.inl rfl) (fun _ => rfl))
      (xs_cons (x_for (it_range (nm_builtin rfl rfl rfl rfl rfl) (es_cons (ev_fun (nm_builtin rfl rfl rfl rfl rfl) (es_cons (ev_var rfl rfl) (es_nil) rfl) ((GOk.of fun_len).up (by decide)) rfl rfl (.inl ⟨_, rfl⟩)) (es_nil) rfl) rfl rfl) (xs_cons (x_if (tr_cmp cmp_isnot (ev_meth (ev_idx (cn_var rfl rfl) (ev_var rfl rfl) (fun _ _ => rfl)) (es_cons (ev_idx (cn_var rfl rfl) (ev_var rfl rfl) (fun _ _ => rfl)) (es_nil) rfl) (ok_equal.up (by decide)) ctxM_equal rfl rfl rfl rfl) (ev_cmp cmp_eqT (ev_idx (cn_var rfl rfl) (ev_idx (cn_var rfl rfl) (ev_var rfl rfl) (fun _ _ => rfl)) (fun _ _ => rfl)) (ev_idx (cn_var rfl rfl) (ev_idx (cn_var rfl rfl) (ev_var rfl rfl) (fun _ _ => rfl)) (fun _ _ => rfl)) rfl) rfl) (xs_cons (x_ret (ev_bool))
      (xs_nil)) (xs_nil))
      (xs_nil)) rfl (.inl rfl) (fun _ => rfl))
      (xs_nil))) rfl (.inl rfl) (fun _ => rfl))
      (xs_cons (x_asg (ev_mth (ev_str) (es_cons (ev_ls (ls_comp (it_range (nm_builtin rfl rfl rfl rfl rfl) (es_cons (ev_var rfl rfl) (es_nil) rfl) rfl rfl) (fun X b C D I => ev_bin bin_mul (ev_bin bin_add (ev_bin bin_mul (ev_str) (ev_bin bin_add (ev_var rfl rfl) (ev_int))) (ev_str)) (ev_idx (cn_var rfl rfl) (ev_var rfl rfl) (fun _ _ => rfl))) trivial ⟨rfl, by decide, freeOk_of rfl, fvOk_of rfl, cell_of rfl, rfl, rfl⟩ (fun _ => rfl))) (es_nil) rfl) fun_join F.plainAttrs_str F.slot_str_join F.type_str_join rfl rfl rfl rfl) rfl (.inl rfl) rfl)
      (xs_cons (x_if (tr_bool (ts_or (tr_cmp cmp_isnot (ev_meth (ev_idx (cn_var rfl rfl) (ev_int) (fun _ _ => rfl)) (es_cons (ev_funK (nm_global rfl rfl rfl) (es_cons (ev_upto (cn_var rfl rfl) (ev_un un_neg (ev_int))) (es_nil) rfl) (ok_init.up (by decide)) rfl rfl) (es_nil) rfl) (ok_equal.up (by decide)) ctxM_equal rfl rfl rfl rfl) (ev_bool) rfl) (ts_or (tr_cmp cmp_isnot (ev_meth (ev_idx (cn_var rfl rfl) (ev_int) (fun _ _ => rfl)) (es_cons (ev_funK (nm_global rfl rfl rfl) (es_cons (ev_var rfl rfl) (es_nil) rfl) (ok_init.up (by decide)) rfl rfl) (es_nil) rfl) (ok_equal.up (by decide)) ctxM_equal rfl rfl rfl rfl) (ev_bool) rfl) (ts_nil)))) (xs_cons (x_ret (ev_bool))
      (xs_nil)) (xs_nil))
      (xs_cons (x_for (it_range (nm_builtin rfl rfl rfl rfl rfl) (es_cons (ev_int) (es_cons (ev_bin bin_add (ev_var rfl rfl) (ev_int)) (es_nil) rfl) rfl) rfl rfl) (xs_cons (x_asg (ev_fun (nm_builtin rfl rfl rfl rfl rfl) (es_cons (ev_ls (ls_comp (it_range (nm_builtin rfl rfl rfl rfl rfl) (es_cons (ev_bin bin_sub (ev_var rfl rfl) (ev_int)) (es_nil) rfl) rfl rfl) (fun X b C D I => ev_bin bin_mul (ev_idx (cn_var rfl rfl) (ev_var rfl rfl) (fun _ _ => rfl)) (ev_bin bin_add (ev_bin bin_div (ev_bin bin_add (ev_var rfl rfl) (ev_int)) (ev_var rfl rfl)) (ev_int))) trivial ⟨rfl, by decide, freeOk_of rfl, fvOk_of rfl, cell_of rfl, rfl, rfl⟩ (fun _ => rfl))) (es_nil) rfl) ((GOk.of fun_sum).up (by decide)) rfl rfl (.inl ⟨_, rfl⟩)) rfl (.inl rfl) rfl)
      (xs_cons (x_if (tr_cmp cmp_neT (ev_meth (ev_idx (cn_var rfl rfl) (ev_int) (fun _ _ => rfl)) (es_cons (ev_var rfl rfl) (es_nil) rfl) (ok_indent_level.up (by decide)) ctxM_indent_level rfl rfl rfl rfl) (ev_bin bin_add (ev_var rfl rfl) (ev_bin bin_mul (ev_var rfl rfl) (ev_var rfl rfl))) rfl) (xs_cons (x_ret (ev_bool))
      (xs_nil)) (xs_nil))
      (xs_nil))) rfl (.inr ⟨rfl, rfl, rfl⟩) (fun _ => rfl))
      (xs_cons (x_if (tr_bool (ts_or (tr_cmp cmp_neT (ev_fun (nm_builtin rfl rfl rfl rfl rfl) (es_cons (ev_fun (nm_global rfl rfl rfl) (es_cons (ev_var rfl rfl) (es_cons (ev_var rfl rfl) (es_nil) rfl) rfl) (ok_lw_told.up (by decide)) rfl rfl (.inr (.inr ⟨_, rfl, _, _, rfl, rfl⟩))) (es_nil) rfl) ((GOk.of fun_max).up (by decide)) rfl rfl (.inl ⟨_, rfl⟩)) (ev_var rfl rfl) rfl) (ts_or (tr_cmp cmp_neT (ev_fun (nm_global rfl rfl rfl) (es_cons (ev_var rfl rfl) (es_cons (ev_var rfl rfl) (es_nil) rfl) rfl) (ok_lw_told.up (by decide)) rfl rfl (.inr (.inr ⟨_, rfl, _, _, rfl, rfl⟩))) (ev_fun (nm_global rfl rfl rfl) (es_cons (ev_var rfl rfl) (es_cons (ev_var rfl rfl) (es_nil) rfl) rfl) (ok_lw_deep.up (by decide)) rfl rfl (.inr (.inr ⟨_, rfl, _, _, rfl, rfl⟩))) rfl) (ts_nil)))) (xs_cons (x_ret (ev_bool))
      (xs_nil)) (xs_nil))
      (xs_cons (x_for (it_lst (ev_ls (ls_list (es_cons (ev_var rfl rfl) (es_cons (ev_var rfl rfl) (es_nil) rfl) rfl) (by decide)))) (xs_cons (x_if (tr_cmp cmp_neT (ev_fun (nm_global rfl rfl rfl) (es_cons (ev_mth (ev_bin bin_add (ev_mth (ev_str) (es_cons (ev_var rfl rfl) (es_nil) rfl) fun_join F.plainAttrs_str F.slot_str_join F.type_str_join rfl rfl rfl rfl) (ev_str)) (es_nil) fun_encode F.plainAttrs_str F.slot_str_encode F.type_str_encode rfl rfl rfl rfl) (es_cons (ev_var rfl rfl) (es_nil) rfl) rfl) (ok_paren_depth.up (by decide)) rfl rfl (.inr (.inr ⟨_, rfl, _, _, rfl, rfl⟩))) (ev_var rfl rfl) rfl) (xs_cons (x_ret (ev_bool))
      (xs_nil)) (xs_nil))
      (xs_nil)) rfl (.inl rfl) (fun _ => rfl))
      (xs_cons (x_ret (ev_bool))
      (xs_nil)))))))))))))))))))
end Mine
namespace Mine
open PySem PySem.W PySem.Calls PyProof.Rows
theorem son {α : Type} {a : α} {P : Prop} (h : some a = none) : P := nomatch h
theorem nos {α : Type} {a : α} {P : Prop} (h : none = some a) : P := nomatch h
theorem fnt {P : Prop} (h : false = true) : P := nomatch h
noncomputable abbrev natD (k : Nat) : D := .int (k : Int)
noncomputable abbrev lS (l : List Str) : List D := l.map .str
noncomputable abbrev lI (l : List Int) : List D := l.map .int
noncomputable abbrev lN (l : List Nat) : List D := l.map natD
noncomputable abbrev fz (d : D) : Option MV := some (.froz d)
noncomputable abbrev oL (xs : List D) : Option MV := some (.ownL xs)
section
variable {σ : St} {i : Nat} {d : D} {b : Bool} {f g : Ev}
theorem eV (h : σ[i]? = some (fz d)) : cV i σ d true := cV.mk h
theorem eVl {xs : List D} (h : σ[i]? = some (oL xs)) : cV i σ (.lst xs) false := cV.mk h
theorem eVN {xss : List (List D)} (h : σ[i]? = some (some (.ownN xss))) : cV i σ (.lst (xss.map .lst)) false := cV.mk h
theorem eVI {ks : List Int} {xs : List D} (h : σ[i]? = some (some (.ownI ks xs))) : cV i σ (.dctI ks xs) false := cV.mk h
theorem eC (h : σ[i]? = some (fz d)) : cVc i σ d true := cVc.mk h
theorem eCl {xs : List D} (h : σ[i]? = some (oL xs)) : cVc i σ (.lst xs) true := cVc.mk h
theorem eCs {ks : List Str} {xs : List D} (h : σ[i]? = some (some (.ownS ks xs))) : cVc i σ (.dctS ks xs) true := cVc.mk h
theorem eCi {ks : List Int} {xs : List D} (h : σ[i]? = some (some (.ownI ks xs))) : cVc i σ (.dctI ks xs) true := cVc.mk h
theorem eAsg (h : f σ d b) (hb : b = true) : xAsg i f σ .next (σ.set i (fz d)) := .mk (hb ▸ h)
theorem eOwn {g : Ls} {ds : List D} (h : g σ ds b) (hb : b = true) : xOwn i g σ .next (σ.set i (oL ds)) := .mk (hb ▸ h)
theorem eUnp {is : List Nat} {ds : List D} (h : f σ (.tup ds) b) (hb : b = true) (hl : ds.length = is.length) : xUnp is f σ .next (setAll σ (is.zip ds)) := .mk (hb ▸ h) hl
theorem eSwp {is : List Nat} {ds : List D} (h : f σ (.tup ds) b) (hb : b = true) (hl : ds.length = is.length) : xSwp is f σ .next (setAll σ (is.reverse.zip ds.reverse)) := .mk (hb ▸ h) hl
theorem eFor {it : Evs} {body : Ex} {ds : List D} {fl : Fl} {σ' : St} (h : it σ ds b) (hb : b = true) (r : forF i body ds σ fl σ') : xFor i it body σ fl σ' := .mk (hb ▸ h) r
theorem eApp {α : Type} {t : α → D} {l : List α} {x : α} (h2 : σ[i]? = some (oL (l.map t))) (h : f σ d b) (hb : b = true) (hd : d = t x) (hl : l.length ≤ 1000000) : xApp i f σ .next (σ.set i (oL ((l ++ [x]).map t))) := by
  subst hd; rw [List.map_append]; exact .mk (hb ▸ h) h2 (by rw [List.length_map]; exact hl)
theorem eAppR {xs : List D} (h2 : σ[i]? = some (oL xs)) (h : f σ d b) (hb : b = true) (hl : xs.length ≤ 1000000) : xApp i f σ .next (σ.set i (oL (xs ++ [d]))) := .mk (hb ▸ h) h2 hl
theorem eSetL {α : Type} {t : α → D} {l : List α} {n : Nat} {x : α} {c : Bool} (h3 : σ[i]? = some (oL (l.map t))) (h2 : g σ (natD n) c) (h : f σ d b) (hb : b = true) (hd : d = t x) (hn : n < l.length) (hl : l.length ≤ 1000000) : xSetL i g f σ .next (σ.set i (oL ((l.set n x).map t))) := by
  subst hd; rw [List.map_set]; exact .mk (hb ▸ h) h2 h3 (by rw [List.length_map]; exact hn) (by rw [List.length_map]; exact hl)
theorem ix {α : Type} {t : α → D} {l : List α} {n : Nat} {x : α} (hl : l.length ≤ 1000000) (h : l[n]? = some x) : idxD (.lst (l.map t)) (natD n) (t x) :=
  .lst (by rw [List.getElem?_map, h]; rfl) (Nat.lt_of_lt_of_le (List.getElem?_eq_some_iff.mp h).1 (Nat.le_trans hl (by decide)))
theorem rt (h : f σ d b) (hb : b = true) : f σ d true := hb ▸ h
theorem eAsg2 {d' : D} (h : f σ d b) (hb : b = true) (hd : d = d') : xAsg i f σ .next (σ.set i (fz d')) := .mk (hd ▸ hb ▸ h)
theorem xFun_ret {params : List Str} {names : List (Str × NameKind)} {body : Ex} {ds : List D} {σ0 σ' : St} (h0 : inits names (params.zip ds) = σ0) (h : body σ0 (.ret d) σ') (hl : ds.length = params.length) : xFun params names body ds d := by subst h0; exact .ret hl h
theorem eRet {g : Ex} (h : f σ d b) : xCons (xRet f) g σ (.ret d) σ := .out (.mk h) nofun
theorem small_nat {n : Nat} (h : n < 1000000000) : smallI (n : Int) = true := decide_eq_true h
theorem million {n : Nat} (h : n ≤ 1000) : n ≤ 1000000 := Nat.le_trans h (by decide)
theorem eGo {f g : Ex} {σ1 σ2 : St} {fl : Fl} (h1 : f σ .next σ1) (h2 : g σ1 fl σ2) : xCons f g σ fl σ2 := .go h1 h2
theorem eEnd {f : Ex} {σ1 : St} (h1 : f σ .next σ1) : xCons f xNil σ .next σ1 := .go h1 .mk
end
abbrev Kid := Option (Nat × Nat)
noncomputable def kidD : Kid → D
  | none => .tup []
  | some (a, b) => .tup [.int a, .int b]
noncomputable abbrev lK (l : List Kid) : List D := l.map kidD
theorem kN : D.tup [] = kidD none := rfl
theorem kS {a b : Nat} : D.tup [.int a, .int b] = kidD (some (a, b)) := rfl
theorem n20 : (2 : Int) ≠ 0 := by decide
theorem n50 : (5 : Int) ≠ 0 := by decide
noncomputable def marks : List Str := [sn "", sn "(", sn ")", sn "\"", sn "\\"]
inductive Run (R : Fl → St → Prop) (I : St → Prop) : Prop
  | mk {σ' : St} (h : R .next σ') (i : I σ')
inductive Turn (R : Fl → St → Prop) (I : St → Prop) : Prop
  | nx {σ' : St} (h : R .next σ') (i : I σ')
  | ct {σ' : St} (h : R .cont σ') (i : I σ')
theorem for_loop {i : Nat} {body : Ex} : ∀ (ds : List D) (I : Nat → St → Prop) (σ : St), I 0 σ → (∀ j d σ, ds[j]? = some d → I j σ → Turn (body (σ.set i (fz d))) (I (j + 1))) → Run (forF i body ds σ) (I ds.length) := by
  intro ds
  induction ds with
  | nil => exact fun I σ h _ => .mk .nil h
  | cons d ds ih =>
    intro I σ h st
    cases st 0 d σ rfl h with
    | nx e h1 => cases ih (fun j => I (j + 1)) _ h1 (fun j d' σ' hd hI => st (j + 1) d' σ' hd hI) with | mk e2 h2 => exact .mk (.go e (.inl rfl) e2) h2
    | ct e h1 => cases ih (fun j => I (j + 1)) _ h1 (fun j d' σ' hd hI => st (j + 1) d' σ' hd hI) with | mk e2 h2 => exact .mk (.go e (.inr rfl) e2) h2
theorem range_at {n j : Nat} {k : Nat} (h : (List.range n)[j]? = some k) : j < n ∧ k = j := by
  obtain ⟨h1, h2⟩ := List.getElem?_eq_some_iff.mp h
  rw [List.getElem_range] at h2
  rw [List.length_range] at h1
  exact ⟨h1, h2.symm⟩
theorem up_eq (a k : Nat) : (a : Int) + (k : Int) * 1 = ((a + k : Nat) : Int) := by rw [Int.mul_one]; rfl
theorem dn_eq {a k : Nat} (h : k ≤ a) : (a : Int) + (k : Int) * (-1) = ((a - k : Nat) : Int) := by rw [Int.mul_neg_one, ← Int.sub_eq_add_neg, Int.ofNat_sub h]
theorem up_loop {i a n : Nat} {body : Ex} (I : Nat → St → Prop) {σ : St} (h0 : I 0 σ) (st : ∀ j σ, j < n → I j σ → Turn (body (σ.set i (fz (natD (a + j))))) (I (j + 1))) : Run (forF i body (rangeL (a : Int) 1 n) σ) (I n) := by
  have := for_loop (i := i) (body := body) (rangeL (a : Int) 1 n) I σ h0 fun j d σ hd hI => by
    rw [rangeL, List.getElem?_map] at hd
    obtain ⟨k, hk, e⟩ := Option.map_eq_some_iff.mp hd
    obtain ⟨hj, rfl⟩ := range_at hk
    rw [← e, up_eq]
    exact st k σ hj hI
  rwa [rangeL_len] at this
theorem up_loop0 {i n : Nat} {body : Ex} (I : Nat → St → Prop) {σ : St} (h0 : I 0 σ) (st : ∀ j σ, j < n → I j σ → Turn (body (σ.set i (fz (natD j)))) (I (j + 1))) : Run (forF i body (rangeL 0 1 n) σ) (I n) :=
  up_loop (a := 0) I h0 fun j σ hj hI => (Nat.zero_add j).symm ▸ st j σ hj hI
theorem down_loop {i N : Nat} {body : Ex} (I : Nat → St → Prop) {σ : St} (h0 : I N σ) (st : ∀ k σ, k < N → I (k + 1) σ → Turn (body (σ.set i (fz (natD k)))) (I k)) : Run (forF i body (rangeL ((N - 1 : Nat) : Int) (-1) N) σ) (I 0) := by
  have := for_loop (i := i) (body := body) (rangeL ((N - 1 : Nat) : Int) (-1) N) (fun j => I (N - j)) σ h0 fun j d σ hd hI => by
    rw [rangeL, List.getElem?_map] at hd
    obtain ⟨k, hk, e⟩ := Option.map_eq_some_iff.mp hd
    obtain ⟨hj, rfl⟩ := range_at hk
    rw [← e, dn_eq (Nat.le_sub_one_of_lt hj), Nat.sub_right_comm]
    have q : N - k - 1 + 1 = N - k := Nat.sub_add_cancel (Nat.sub_pos_of_lt hj)
    exact st (N - k - 1) σ (Nat.lt_of_lt_of_le (Nat.lt_succ_self _) (Nat.le_trans (Nat.le_of_eq q) (Nat.sub_le ..))) (q.symm ▸ hI)
  rwa [rangeL_len, Nat.sub_self] at this
inductive T where
  | leaf (k : Nat) (p : List Str)
  | fork (k : Nat) (p : List Str) (u : Bool) (l r : T)
noncomputable def T.id : T → Nat
  | .leaf k _ | .fork k _ _ _ _ => k
noncomputable def T.path : T → List Str
  | .leaf _ p | .fork _ p _ _ _ => p
noncomputable def host : List Str → Str
  | [] => sn ""
  | [x] => x
  | x :: y :: r => x ++ sn "." ++ host (y :: r)
theorem host_cons {x : Str} {p : List Str} (h : p ≠ []) : host (x :: p) = x ++ sn "." ++ host p := by
  cases p with
  | nil => exact absurd rfl h
  | cons y r => rfl
noncomputable def T.kid : T → Kid
  | .leaf _ _ => none
  | .fork _ _ _ l r => some (l.id, r.id)
noncomputable def T.turn : T → Int
  | .leaf _ _ => 0
  | .fork _ _ u _ _ => if u then 1 else 0
noncomputable def T.subs : T → List T
  | .leaf k p => [.leaf k p]
  | .fork k p u l r => .fork k p u l r :: (l.subs ++ r.subs)
noncomputable def T.ids (t : T) : List Nat := t.subs.map T.id
noncomputable def T.bank : T → List Nat
  | .leaf k _ => [k]
  | .fork _ _ _ l r => l.bank ++ r.bank
noncomputable def lab (c : String) (m : Str) : Str := sn c ++ m
noncomputable def T.ok : T → List Str → Prop
  | .leaf _ p, q => p = q
  | .fork k p _ l r, q => p = q ∧ k < l.id ∧ k < r.id ∧ ∃ m ∈ marks, l.ok (lab "a" m :: p) ∧ r.ok (lab "b" m :: p)
noncomputable def T.grow (m : Str) (u : Bool) (N : Nat) : T → Nat → T
  | .leaf k p, _ => .fork k p u (.leaf N (lab "a" m :: p)) (.leaf (N + 1) (lab "b" m :: p))
  | .fork k p u' l r, i => if i < l.bank.length then .fork k p u' (l.grow m u N i) r else .fork k p u' l (r.grow m u N (i - l.bank.length))
section
variable {k N : Nat} {p q : List Str} {u u' : Bool} {l r s t : T} {m : Str}
theorem T.cases3 {P : Prop} (h : s ∈ (T.fork k p u l r).subs) (h1 : s = .fork k p u l r → P) (h2 : s ∈ l.subs → P) (h3 : s ∈ r.subs → P) : P :=
  (List.mem_cons.mp h).elim h1 fun h => (List.mem_append.mp h).elim h2 h3
theorem T.leaf1 (h : s ∈ (T.leaf k p).subs) : s = .leaf k p := List.mem_singleton.mp h
theorem T.in_l (h : s ∈ l.subs) : s ∈ (T.fork k p u l r).subs := .tail _ (List.mem_append_left _ h)
theorem T.in_r (h : s ∈ r.subs) : s ∈ (T.fork k p u l r).subs := .tail _ (List.mem_append_right _ h)
theorem T.self_sub (t : T) : t ∈ t.subs := by
  cases t with
  | leaf => exact .head _
  | fork => exact .head _
theorem T.ids_fork : (T.fork k p u l r).ids = k :: (l.ids ++ r.ids) := congrArg (k :: ·) List.map_append
theorem T.bank_ids : ∀ (t : T), ∀ x ∈ t.bank, x ∈ t.ids := by
  intro t
  induction t with
  | leaf k p => exact fun x h => h
  | fork k p u l r il ir =>
    intro x h
    rw [T.ids_fork]
    exact .tail _ ((List.mem_append.mp h).elim (fun h => List.mem_append_left _ (il x h)) fun h => List.mem_append_right _ (ir x h))
theorem T.sub_id (h : s ∈ t.subs) : s.id ∈ t.ids := List.mem_map_of_mem h
theorem T.grow_l {i : Nat} (h : i < l.bank.length) : (T.fork k p u' l r).grow m u N i = .fork k p u' (l.grow m u N i) r := if_pos h
theorem T.grow_r {i : Nat} (h : ¬ i < l.bank.length) : (T.fork k p u' l r).grow m u N i = .fork k p u' l (r.grow m u N (i - l.bank.length)) := if_neg h
theorem T.grow_id (t : T) (i : Nat) : (t.grow m u N i).id = t.id := by
  cases t with
  | leaf => rfl
  | fork k p u' l r =>
    by_cases h : i < l.bank.length
    · rw [T.grow_l h]; rfl
    · rw [T.grow_r h]; rfl
theorem sub_lt_of {i a b : Nat} (h : i < a + b) (h2 : ¬ i < a) : i - a < b := Nat.sub_lt_left_of_lt_add (Nat.le_of_not_lt h2) h
theorem take_far {α : Type} {a : List α} {i : Nat} (h : ¬ i < a.length) : a.take i = a := List.take_of_length_le (Nat.le_of_not_lt h)
theorem T.grow_bank : ∀ (t : T) (i : Nat), i < t.bank.length → (t.grow m u N i).bank = t.bank.take i ++ [N, N + 1] ++ t.bank.drop (i + 1) := by
  intro t
  induction t with
  | leaf k p =>
    intro i h
    rw [Nat.lt_one_iff.mp h]; rfl
  | fork k p u' l r il ir =>
    intro i h
    by_cases h1 : i < l.bank.length
    · rw [T.grow_l h1]
      show _ ++ _ = List.take _ (_ ++ _) ++ _ ++ List.drop _ (_ ++ _)
      rw [il i h1, List.take_append_of_le_length (Nat.le_of_lt h1), List.drop_append_of_le_length h1, List.append_assoc _ _ r.bank]
    · rw [T.grow_r h1]
      show _ ++ _ = List.take _ (_ ++ _) ++ _ ++ List.drop _ (_ ++ _)
      rw [ir _ (sub_lt_of (List.length_append ▸ h) h1), List.take_append, List.drop_append, take_far h1, List.drop_eq_nil_of_le (Nat.le_succ_of_le (Nat.le_of_not_lt h1)), List.nil_append, Nat.succ_sub (Nat.le_of_not_lt h1), List.append_assoc, List.append_assoc, List.append_assoc]
theorem T.grow_ok (hm : m ∈ marks) : ∀ (t : T) (i : Nat) (q : List Str), t.ok q → (∀ x ∈ t.ids, x < N) → (t.grow m u N i).ok q := by
  intro t
  induction t with
  | leaf k p =>
    intro i q h hN
    have := hN k (.head _)
    exact ⟨h, this, Nat.lt_succ_of_lt this, m, hm, rfl, rfl⟩
  | fork k p u' l r il ir =>
    intro i q h hN
    rw [T.ids_fork] at hN
    obtain ⟨m', hm', h4, h5⟩ := h.2.2.2
    by_cases h1 : i < l.bank.length
    · rw [T.grow_l h1]
      exact ⟨h.1, (T.grow_id l i).symm ▸ h.2.1, h.2.2.1, m', hm', il i _ h4 fun x hx => hN x (.tail _ (List.mem_append_left _ hx)), h5⟩
    · rw [T.grow_r h1]
      exact ⟨h.1, h.2.1, (T.grow_id r _).symm ▸ h.2.2.1, m', hm', h4, ir _ _ h5 fun x hx => hN x (.tail _ (List.mem_append_right _ hx))⟩
theorem T.grow_ids : ∀ (t : T) (i : Nat), ((t.grow m u N i).ids).Perm (t.ids ++ [N, N + 1]) := by
  intro t
  induction t with
  | leaf k p => exact fun i => .refl _
  | fork k p u' l r il ir =>
    intro i
    by_cases h1 : i < l.bank.length
    · rw [T.grow_l h1, T.ids_fork, T.ids_fork]
      refine .cons _ (((il i).append_right _).trans ?_)
      show List.Perm _ (l.ids ++ r.ids ++ [N, N + 1])
      rw [List.append_assoc, List.append_assoc]
      exact List.perm_append_comm.append_left _
    · rw [T.grow_r h1, T.ids_fork, T.ids_fork]
      exact .cons _ (((ir _).append_left _).trans (.of_eq (List.append_assoc ..).symm))
inductive Grown (m : Str) (u : Bool) (N spot : Nat) (t : T) (p : List Str) : T → Prop
  | old {s s' : T} (h : s ∈ t.subs) (h1 : s'.id = s.id) (h2 : s'.path = s.path) (h3 : s'.kid = s.kid) (h4 : s'.turn = s.turn) (h5 : s.id ≠ spot) : Grown m u N spot t p s'
  | top : Grown m u N spot t p (.fork spot p u (.leaf N (lab "a" m :: p)) (.leaf (N + 1) (lab "b" m :: p)))
  | a : Grown m u N spot t p (.leaf N (lab "a" m :: p))
  | b : Grown m u N spot t p (.leaf (N + 1) (lab "b" m :: p))
theorem Grown.up {t' : T} {spot : Nat} (k : ∀ s ∈ t.subs, s ∈ t'.subs) (h : Grown m u N spot t p s) : Grown m u N spot t' p s := by
  cases h with
  | old h h1 h2 h3 h4 h5 => exact .old (k _ h) h1 h2 h3 h4 h5
  | top => exact .top
  | a => exact .a
  | b => exact .b
inductive Grow (m : Str) (u : Bool) (N spot : Nat) (t t' : T) : Prop
  | mk {p : List Str} (h : T.leaf spot p ∈ t.subs) (h2 : ∀ s' ∈ t'.subs, Grown m u N spot t p s')
theorem T.grow_subs {spot : Nat} : ∀ (t : T) (i : Nat), t.ids.Nodup → t.bank[i]? = some spot → Grow m u N spot t (t.grow m u N i) := by
  intro t
  induction t with
  | leaf k p =>
    intro i nd h
    cases i with
    | succ i => exact son (h.symm.trans rfl)
    | zero =>
    have e : k = spot := Option.some.inj h
    exact e ▸ .mk (.head _) fun s' hs => T.cases3 hs (fun e => e ▸ .top) (fun h => T.leaf1 h ▸ .a) fun h => T.leaf1 h ▸ .b
  | fork k p u' l r ihl ihr =>
    intro i nd h
    rw [T.ids_fork, List.nodup_cons, List.nodup_append] at nd
    have h : (l.bank ++ r.bank)[i]? = some spot := h
    by_cases hlt : i < l.bank.length
    · rw [List.getElem?_append_left hlt] at h
      rw [T.grow_l hlt]
      have hs : spot ∈ l.ids := T.bank_ids l _ (List.mem_of_getElem? h)
      cases ihl i nd.2.1 h with
      | mk z1 z2 => exact .mk (T.in_l z1) fun s' hs' => T.cases3 hs' (fun e => e ▸ .old (.head _) rfl rfl (congrArg (fun x => some (x, r.id)) (T.grow_id l i)) rfl fun z => nd.1 ((show k = spot from z) ▸ List.mem_append_left _ hs)) (fun h => (z2 s' h).up fun _ => T.in_l) fun h => .old (T.in_r h) rfl rfl rfl rfl fun z => nd.2.2.2 _ hs _ (T.sub_id h) z.symm
    · rw [List.getElem?_append_right (Nat.le_of_not_lt hlt)] at h
      rw [T.grow_r hlt]
      have hs : spot ∈ r.ids := T.bank_ids r _ (List.mem_of_getElem? h)
      cases ihr _ nd.2.2.1 h with
      | mk z1 z2 => exact .mk (T.in_r z1) fun s' hs' => T.cases3 hs' (fun e => e ▸ .old (.head _) rfl rfl (congrArg (fun x => some (l.id, x)) (T.grow_id r _)) rfl fun z => nd.1 ((show k = spot from z) ▸ List.mem_append_right _ hs)) (fun h => .old (T.in_l h) rfl rfl rfl rfl fun z => nd.2.2.2 _ (T.sub_id h) _ hs z) fun h => (z2 s' h).up fun _ => T.in_r
structure At (hs : List Str) (ks : List Kid) (ts : List Int) (s : T) : Prop where
  h : hs[s.id]? = some (host s.path)
  k : ks[s.id]? = some s.kid
  t : ts[s.id]? = some s.turn
structure Arr (t : T) (hs : List Str) (ks : List Kid) (ts : List Int) (N : Nat) : Prop where
  lh : hs.length = N
  lk : ks.length = N
  lt : ts.length = N
  perm : t.ids.Perm (List.range N)
  at' : ∀ s ∈ t.subs, At hs ks ts s
section
variable {hs : List Str} {ks : List Kid} {ts : List Int}
theorem Arr.nodup (R : Arr t hs ks ts N) : t.ids.Nodup := R.perm.nodup_iff.mpr List.nodup_range
theorem Arr.lt' (R : Arr t hs ks ts N) {x : Nat} (h : x ∈ t.ids) : x < N := List.mem_range.mp (R.perm.mem_iff.mp h)
theorem Arr.slt (R : Arr t hs ks ts N) (h : s ∈ t.subs) : s.id < N := R.lt' (T.sub_id h)
theorem T.ok_path (h : t.ok q) : t.path = q := by
  cases t with
  | leaf k p => exact h
  | fork k p u l r => exact h.1
theorem T.subs_ne : ∀ {t : T} {q : List Str}, q ≠ [] → t.ok q → ∀ s ∈ t.subs, s.path ≠ [] := by
  intro t
  induction t with
  | leaf k p => exact fun hq h s hs => T.leaf1 hs ▸ (show p = _ from h) ▸ hq
  | fork k p u l r il ir =>
    intro q hq h s hs
    obtain ⟨m, hm, h4, h5⟩ := h.2.2.2
    exact T.cases3 hs (fun e => e ▸ h.1 ▸ hq) (il (List.cons_ne_nil _ _) h4 s) (ir (List.cons_ne_nil _ _) h5 s)
theorem app_end {α : Type} {a : List α} {x : α} {N : Nat} (h : a.length = N) : (a ++ [x])[N]? = some x := by subst h; exact List.getElem?_concat_length
theorem app_near {α : Type} {a b : List α} {n : Nat} {x : α} (h : a[n]? = some x) : (a ++ b)[n]? = some x := (List.getElem?_append_left (List.getElem?_eq_some_iff.mp h).1).trans h
theorem app_len {α : Type} {a : List α} {x : α} {N : Nat} (h : a.length = N) : (a ++ [x]).length = N + 1 := List.length_append.trans (h ▸ rfl)
theorem Arr.grow (R : Arr t hs ks ts N) (hok : t.ok q) (hq : q ≠ []) {i spot : Nat} (h : t.bank[i]? = some spot) {x : Str} (hx : hs[spot]? = some x) :
    Arr (t.grow m u N i) (hs ++ [lab "a" m ++ sn "." ++ x] ++ [lab "b" m ++ sn "." ++ x]) ((ks ++ [none] ++ [none]).set spot (some (N, N + 1))) ((ts ++ [0] ++ [0]).set spot (if u then 1 else 0)) (N + 2) := by
  have hsp : spot < N := R.lt' (T.bank_ids t _ (List.mem_of_getElem? h))
  have l1 := R.lh
  have l2 := R.lk
  have l3 := R.lt
  cases T.grow_subs (m := m) (u := u) (N := N) t i R.nodup h with
  | @mk p h1 h2 =>
  have hp : hs[spot]? = some (host p) := (R.at' _ h1).h
  have hpe : p ≠ [] := T.subs_ne hq hok _ h1
  have hxp : x = host p := Option.some.inj (hx.symm.trans hp)
  have n1 : ∀ {s' : T}, s'.id ≠ spot → (ks ++ [none] ++ [none])[s'.id]? = some s'.kid → (ts ++ [0] ++ [0])[s'.id]? = some s'.turn → (hs ++ [lab "a" m ++ sn "." ++ x] ++ [lab "b" m ++ sn "." ++ x])[s'.id]? = some (host s'.path) → At (hs ++ [lab "a" m ++ sn "." ++ x] ++ [lab "b" m ++ sn "." ++ x]) ((ks ++ [none] ++ [none]).set spot (some (N, N + 1))) ((ts ++ [0] ++ [0]).set spot (if u then 1 else 0)) s' :=
    fun ne a b c => ⟨c, (List.getElem?_set_ne (Ne.symm ne)).trans a, (List.getElem?_set_ne (Ne.symm ne)).trans b⟩
  refine ⟨app_len (app_len l1), List.length_set.trans (app_len (app_len l2)), List.length_set.trans (app_len (app_len l3)), (T.grow_ids t i).trans ?_, fun s' hs' => ?_⟩
  · rw [List.range_succ, List.range_succ, List.append_assoc]
    exact R.perm.append_right _
  · cases h2 s' hs' with
    | @old s s' a e1 e2 e3 e4 e5 =>
      have := R.at' s a
      refine n1 (e1 ▸ e5) ?_ ?_ ?_
      · rw [e1, e3]; exact app_near (app_near this.k)
      · rw [e1, e4]; exact app_near (app_near this.t)
      · rw [e1, e2]; exact app_near (app_near this.h)
    | top => exact ⟨app_near (app_near hp), List.getElem?_set_self (by rw [app_len (app_len l2)]; exact Nat.lt_add_right 2 hsp), List.getElem?_set_self (by rw [app_len (app_len l3)]; exact Nat.lt_add_right 2 hsp)⟩
    | a => exact n1 (Ne.symm (Nat.ne_of_lt hsp)) (app_near (app_end l2)) (app_near (app_end l3)) ((app_near (app_end l1)).trans (by rw [hxp]; exact congrArg some (host_cons hpe).symm))
    | b => exact n1 (Ne.symm (Nat.ne_of_lt (Nat.lt_succ_of_lt hsp))) (app_end (app_len l2)) (app_end (app_len l3)) ((app_end (app_len l1)).trans (by rw [hxp]; exact congrArg some (host_cons hpe).symm))
end
end
local macro_rules | `(tactic| walk_at "ev") => `(tactic| repeat' first
  | assumption | exact rfl | exact kN | exact kS | exact n20 | exact n50 | exact eV rfl | exact eVl rfl | exact eC rfl | exact eCl rfl | exact eCs rfl | exact eCi rfl | exact cK.mk | exact cNil.mk | exact xNil.mk
  | exact addD.int | exact subD.int | exact mulD.int rfl | apply addD.str | apply addD.lst | apply divD.int | apply modD.int
  | apply cBin.mk | apply cIdx.mk | apply cCons.mk | apply cTup.mk | apply cLst.mk | apply cFun.mk | apply eAsg | apply eApp | apply eSetL | apply eOwn | apply eUnp | apply eSwp | apply eEnd | apply eGo)
noncomputable def rSt (nums : List Int) (hs : List Str) (ks : List Kid) (ts : List Int) (bank : List Nat) (x6 x7 x8 x9 x10 : Option MV) : St :=
  [fz (.lst (lI nums)), fz (.lst (lS marks)), some (.ownL (lS hs)), some (.ownL (lK ks)), some (.ownL (lI ts)), fz (.lst (lN bank)), x6, x7, x8, x9, x10, none, none, none]
section
variable {nums : List Int} {hs : List Str} {ks : List Kid} {ts : List Int} {bank : List Nat} {x6 x7 x8 x9 x10 : Option MV} {rest a : Int} {spot j pl : Nat} {x m c : Str}
theorem app_le {α : Type} {l : List α} {x : α} {n : Nat} (h : l.length ≤ n) : (l ++ [x]).length ≤ n + 1 := Nat.le_trans (Nat.le_of_eq (app_len rfl)) (Nat.succ_le_succ h)
theorem app_lt {α : Type} {l : List α} {x : α} {n : Nat} (h : n < l.length) : n < (l ++ [x]).length := Nat.lt_of_lt_of_le h (Nat.le_trans (Nat.le_succ _) (Nat.le_of_eq (app_len rfl).symm))
theorem s_add {a b : Str} {m n : Nat} (h1 : a.length ≤ m) (h2 : b.length ≤ n) : (a ++ b).length ≤ m + n := by rw [PySem.Str.length_append]; exact Nat.add_le_add h1 h2
theorem room {m n i j : Nat} (h1 : m ≤ i) (h2 : n ≤ j) (h : i + j ≤ 1000000 := by decide) : m + n ≤ 1000000 := Nat.le_trans (Nat.add_le_add h1 h2) h
theorem river_letter (hx : idxD (.lst (lS hs)) (natD spot) (.str x)) (hm : idxD (.lst (lS marks)) (.int ((rest.fdiv 2).fmod 5)) (.str m)) (hc : c.length ≤ 1) (hml : m.length ≤ 1) (hxl : x.length ≤ 1000)
    (l1 : hs.length ≤ 1000000) (l2 : ks.length ≤ 1000000) (l3 : ts.length ≤ 1000000) :
    b_lw_river1 ((rSt nums hs ks ts bank x6 (fz (.int rest)) x8 (fz (natD spot)) x10).set 10 (fz (.str c))) .next (rSt nums (hs ++ [c ++ m ++ sn "." ++ x]) (ks ++ [none]) (ts ++ [0]) bank x6 (fz (.int rest)) x8 (fz (natD spot)) (fz (.str c))) := by
  have h1 := room hc hml
  have ld : (sn ".").length ≤ 1 := Nat.le_refl _
  have h2 := room (s_add hc hml) ld
  have h3 := room (s_add (s_add hc hml) ld) hxl
  unfold b_lw_river1
  walk_at "ev"
theorem river_for {fl : Fl} {σ2 σ' : St} (h : forF 10 b_lw_river1 [.str (sn "a"), .str (sn "b")] σ' fl σ2) : xFor 10 (iStr (cK (.str (sn "ab")))) b_lw_river1 σ' fl σ2 := eFor (iStr.mk cK.mk) rfl h
theorem bank_put : (lN bank).take pl ++ [natD (2 * j + 1), natD (2 * j + 2)] ++ (lN bank).drop (pl + 1) = lN (bank.take pl ++ [2 * j + 1, 2 * j + 2] ++ bank.drop (pl + 1)) := by
  show _ = List.map natD _
  rw [List.map_append, List.map_append, List.map_take, List.map_drop]; rfl
theorem bank_asg {σ : St} (h : bank.length ≤ 1000) (h5 : σ[5]? = some (fz (.lst (lN bank)))) (h6 : σ[6]? = some (fz (natD j))) (h8 : σ[8]? = some (fz (natD pl))) :
    xAsg 5 (cBin addD (cBin addD (cUpto (cVc 5) (cV 8)) (cLst (cCons (cBin addD (cBin mulD (cK (.int 2)) (cV 6)) (cK (.int 1))) (cCons (cBin addD (cBin mulD (cK (.int 2)) (cV 6)) (cK (.int 2))) (cNil))))) (cFrom (cVc 5) (cBin addD (cV 8) (cK (.int 1))))) σ .next
      (σ.set 5 (fz (.lst (lN (bank.take pl ++ [2 * j + 1, 2 * j + 2] ++ bank.drop (pl + 1)))))) := by
  have hl : (lN bank).length ≤ 1000 := List.length_map natD ▸ h
  have h1 : ((lN bank).take pl).length + 2 ≤ 1000000 := room (i := 1000) (j := 2) (Nat.le_trans (List.length_take_le' _ _) hl) (Nat.le_refl 2)
  have h2 : ((lN bank).take pl ++ [natD (2 * j + 1), natD (2 * j + 2)]).length + ((lN bank).drop (pl + 1)).length ≤ 1000000 := by
    refine room (i := 1002) (j := 1000) ?_ ?_
    · rw [List.length_append]; exact Nat.add_le_add (Nat.le_trans (List.length_take_le' _ _) hl) (Nat.le_refl 2)
    · rw [List.length_drop]; exact Nat.le_trans (Nat.sub_le _ _) hl
  have ht : uptoD (.lst (lN bank)) (natD pl) _ := .lst (million hl)
  have hd : fromD (.lst (lN bank)) (natD (pl + 1)) _ := .lst (million hl)
  refine eAsg2 (.mk (.mk (.mk (eC h5) (eV h8) ht) (.mk (.mk (.mk (.mk .mk (eV h6) (.int rfl)) .mk .int) (.mk (.mk (.mk .mk (eV h6) (.int rfl)) .mk .int) .mk))) (addD.lst h1)) (.mk (eC h5) (.mk (eV h8) .mk .int) hd) (addD.lst h2)) rfl (congrArg D.lst bank_put)
theorem river_body {u : Bool} (hdm : divmodF [.int a, .int ((j : Int) + 1)] (.tup [.int rest, natD pl])) (ha : idxD (.lst (lI nums)) (natD j) (.int a)) (hsp : idxD (.lst (lN bank)) (natD pl) (natD spot)) (hx : hs[spot]? = some x) (hm : idxD (.lst (lS marks)) (.int ((rest.fdiv 2).fmod 5)) (.str m))
    (hu : modD (.int rest) (.int 2) (.int (if u then 1 else 0))) (hml : m.length ≤ 1) (hxl : x.length ≤ 1000) (l1 : hs.length ≤ 1000) (l2 : ks.length ≤ 1000) (l3 : ts.length ≤ 1000) (l4 : bank.length ≤ 1000) (s1 : spot < ks.length) (s2 : spot < ts.length) :
    b_lw_river2 ((rSt nums hs ks ts bank x6 x7 x8 x9 x10).set 6 (fz (natD j))) .next (rSt nums (hs ++ [lab "a" m ++ sn "." ++ x] ++ [lab "b" m ++ sn "." ++ x]) ((ks ++ [none] ++ [none]).set spot (some (2 * j + 1, 2 * j + 2)))
      ((ts ++ [0] ++ [0]).set spot (if u then 1 else 0)) (bank.take pl ++ [2 * j + 1, 2 * j + 2] ++ bank.drop (pl + 1)) (fz (natD j)) (fz (.int rest)) (fz (natD pl)) (fz (natD spot)) (fz (.str (sn "b")))) := by
  have m1 : ∀ {α : Type} {l : List α} {y : α}, l.length ≤ 1000 → (l ++ [y]).length ≤ 1000000 := fun h => Nat.le_trans (app_le h) (by decide)
  have m2 : ∀ {α : Type} {l : List α} {y z : α}, l.length ≤ 1000 → (l ++ [y] ++ [z]).length ≤ 1000000 := fun h => Nat.le_trans (app_le (app_le h)) (by decide)
  have f1 := river_letter (nums := nums) (bank := bank) (x6 := fz (natD j)) (x8 := fz (natD pl)) (x10 := x10) (c := sn "a") (ix (million l1) hx) hm (Nat.le_refl 1) hml hxl (million l1) (million l2) (million l3)
  have f2 := river_letter (nums := nums) (hs := hs ++ [lab "a" m ++ sn "." ++ x]) (ks := ks ++ [none]) (ts := ts ++ [0]) (bank := bank) (x6 := fz (natD j)) (x8 := fz (natD pl)) (x10 := fz (.str (sn "a"))) (c := sn "b") (ix (m1 l1) (app_near hx)) hm (Nat.le_refl 1) hml hxl (m1 l1) (m1 l2) (m1 l3)
  unfold b_lw_river2
  refine eGo (eUnp (.mk (.mk (.mk (eC rfl) (eV rfl) ha) (.mk (.mk (eV rfl) .mk .int) .mk)) hdm) rfl rfl) (eGo (eAsg (.mk (eC rfl) (eV rfl) hsp) rfl) (eGo (river_for (.go f1 (.inl rfl) (.go f2 (.inl rfl) .nil))) (eGo (eSetL (x := some (2 * j + 1, 2 * j + 2)) rfl (eV rfl) (.mk (.mk (.mk (.mk .mk (eV rfl) (.int rfl)) .mk .int) (.mk (.mk (.mk .mk (eV rfl) (.int rfl)) .mk .int) .mk))) rfl rfl (app_lt (app_lt s1)) (m2 l2))
    (eGo (eSetL (x := if u then 1 else 0) rfl (eV rfl) (.mk (eV rfl) .mk hu) rfl rfl (app_lt (app_lt s2)) (m2 l3)) (eEnd (bank_asg l4 rfl rfl rfl))))))
end
theorem toNat_lt {x : Int} {n : Nat} (h0 : 0 ≤ x) (h : x < n) : x.toNat < n := (Int.toNat_lt h0).mpr h
inductive DmOk (a : Int) (j : Nat) : Prop
  | mk {pl : Nat} (h : pl < j + 1) (d : divmodF [.int a, .int ((j : Int) + 1)] (.tup [.int (a.fdiv (j + 1)), natD pl]))
theorem dm_ok (a : Int) {j : Nat} (hj : j < 1000) : DmOk a j := by
  have h : (0 : Int) < (j : Int) + 1 := Int.natCast_pos.mpr (Nat.succ_pos j)
  have h0 := Int.fmod_nonneg_of_pos a h
  refine .mk (pl := (a.fmod (j + 1)).toNat) (toNat_lt h0 (Int.fmod_lt_of_pos a h)) ?_
  rw [natD, Int.toNat_of_nonneg h0]
  exact .mk (Int.ne_of_gt h) (small_nat (n := j + 1) (Nat.lt_of_lt_of_le (Nat.succ_lt_succ hj) (by decide)))
inductive MarkOk (r : Int) : Prop
  | mk {m : Str} (h : m ∈ marks) (l : m.length ≤ 1) (d : idxD (.lst (lS marks)) (.int ((r.fdiv 2).fmod 5)) (.str m))
theorem mark_len : ∀ m ∈ marks, m.length ≤ 1 := by decide
theorem mark_ok (r : Int) : MarkOk r := by
  have h0 := Int.fmod_nonneg_of_pos (r.fdiv 2) (show (0 : Int) < 5 by decide)
  have h1 : ((r.fdiv 2).fmod 5).toNat < marks.length := toNat_lt h0 (Int.fmod_lt_of_pos _ (by decide))
  have hm := List.getElem?_eq_getElem h1
  have hi := ix (t := D.str) (show marks.length ≤ 1000000 by decide) hm
  rw [natD, Int.toNat_of_nonneg h0] at hi
  exact .mk (List.mem_of_getElem? hm) (mark_len _ (List.mem_of_getElem? hm)) hi
theorem two_ok {x : Int} (h0 : 0 ≤ x) (h : x < 2) : ∃ u : Bool, x = if u then 1 else 0 := by
  by_cases e : x = 0
  · exact ⟨false, e⟩
  · exact ⟨true, Int.le_antisymm (Int.lt_add_one_iff.mp h) (Int.lt_iff_le_and_ne.mpr ⟨h0, Ne.symm e⟩)⟩
theorem turn_ok (r : Int) : ∃ u : Bool, modD (.int r) (.int 2) (.int (if u then 1 else 0)) :=
  (two_ok (Int.fmod_nonneg_of_pos r (show (0 : Int) < 2 by decide)) (Int.fmod_lt_of_pos r (by decide))).imp fun u e => by rw [← e]; exact .int n20
inductive RI (nums : List Int) (j : Nat) : St → Prop
  | mk {t : T} {hs : List Str} {ks : List Kid} {ts : List Int} {x6 x7 x8 x9 x10 : Option MV} (A : Arr t hs ks ts (2 * j + 1)) (ok : t.ok [sn "local"]) (hb : t.bank.length = j + 1) (hl : ∀ h ∈ hs, h.length ≤ 5 + 3 * j) : RI nums j (rSt nums hs ks ts t.bank x6 x7 x8 x9 x10)
theorem T.grow_bank_len {m : Str} {u : Bool} {N : Nat} : ∀ {t : T} {i : Nat}, i < t.bank.length → (t.grow m u N i).bank.length = t.bank.length + 1 := by
  intro t
  induction t with
  | leaf => exact fun _ => rfl
  | fork k p u' l r il ir =>
    intro i h
    by_cases h1 : i < l.bank.length
    · rw [T.grow_l h1]
      show (_ ++ _ : List Nat).length = (_ ++ _ : List Nat).length + 1
      rw [List.length_append, List.length_append, il h1, Nat.add_right_comm]
    · rw [T.grow_r h1]
      show (_ ++ _ : List Nat).length = (_ ++ _ : List Nat).length + 1
      rw [List.length_append, List.length_append, ir (sub_lt_of (List.length_append ▸ h) h1)]; rfl
theorem le_up {a b c : Nat} (h : a ≤ c) (e : b = a) (hc : c ≤ 1000 := by decide) : b ≤ 1000 := e ▸ Nat.le_trans h hc
theorem odd_le {j : Nat} (hj : j < 7) : 2 * j + 1 ≤ 15 := Nat.le_trans (Nat.succ_le_succ (Nat.mul_le_mul_left 2 (Nat.le_of_lt_succ hj))) (by decide)
theorem at_some {α : Type} {l : List α} {n : Nat} (h : n < l.length) : ∃ x, l[n]? = some x := ⟨_, List.getElem?_eq_getElem h⟩
theorem river_step {nums : List Int} (hn : nums.length ≤ 7) {j : Nat} {σ : St} (hj : j < nums.length) (R : RI nums j σ) : Turn (b_lw_river2 (σ.set 6 (fz (natD j)))) (RI nums (j + 1)) := by
  cases R with
  | @mk t hs ks ts x6 x7 x8 x9 x10 A ok hb hl =>
  have hj7 := Nat.lt_of_lt_of_le hj hn
  have o15 := odd_le hj7
  obtain ⟨a, ha⟩ := at_some hj
  cases dm_ok a (Nat.lt_of_lt_of_le hj7 (by decide)) with
  | @mk pl hp dm =>
  cases mark_ok (a.fdiv (j + 1)) with
  | @mk m hm ml mi =>
  obtain ⟨u, hu⟩ := turn_ok (a.fdiv (j + 1))
  have hpl : pl < t.bank.length := hb ▸ hp
  obtain ⟨spot, hsp⟩ := at_some hpl
  have hlt := A.lt' (T.bank_ids t _ (List.mem_of_getElem? hsp))
  have lb : t.bank.length ≤ 1000 := le_up hj7 hb
  obtain ⟨x, hx⟩ := at_some (A.lh.symm ▸ hlt)
  have hxl := hl _ (List.mem_of_getElem? hx)
  have h26 : 5 + 3 * j ≤ 1000 := Nat.le_trans (Nat.add_le_add_left (Nat.mul_le_mul_left 3 (Nat.le_of_lt hj7)) 5) (by decide)
  have B := river_body (nums := nums) (x6 := x6) (x7 := x7) (x8 := x8) (x9 := x9) (x10 := x10) dm (ix (Nat.le_trans hn (by decide)) ha) (ix (million lb) hsp) hx mi hu ml (Nat.le_trans hxl h26) (le_up o15 A.lh) (le_up o15 A.lk) (le_up o15 A.lt) lb (A.lk.symm ▸ hlt) (A.lt.symm ▸ hlt)
  have G := A.grow (m := m) (u := u) ok (List.cons_ne_nil _ _) hsp hx
  rw [← T.grow_bank (m := m) (u := u) t pl hpl] at B
  refine .nx B (.mk G (T.grow_ok hm t pl _ ok fun x hx => A.lt' hx) ((T.grow_bank_len hpl).trans (congrArg (· + 1) hb)) fun h hh => ?_)
  have new : ∀ {c : Str}, c.length ≤ 1 → (c ++ m ++ sn "." ++ x).length ≤ 5 + 3 * (j + 1) := fun hc =>
    Nat.le_trans (s_add (s_add (s_add hc ml) (Nat.le_refl (sn ".").length)) hxl) (Nat.le_of_eq (show 3 + (5 + 3 * j) = 5 + (3 * j + 3) from Nat.add_comm ..))
  rcases List.mem_append.mp hh with hh | hh
  · rcases List.mem_append.mp hh with hh | hh
    · exact Nat.le_trans (hl h hh) (Nat.add_le_add_left (Nat.mul_le_mul_left 3 (Nat.le_succ j)) 5)
    · exact List.mem_singleton.mp hh ▸ new (Nat.le_refl 1)
  · exact List.mem_singleton.mp hh ▸ new (Nat.le_refl 1)
inductive RiverOk (nums : List Int) : Prop
  | mk {t : T} {hs : List Str} {ks : List Kid} {ts : List Int} (A : Arr t hs ks ts (2 * nums.length + 1)) (ok : t.ok [sn "local"]) (hb : t.bank.length = nums.length + 1) (hl : ∀ h ∈ hs, h.length ≤ 26)
    (g : g_lw_river [.lst (lI nums)] (.tup [.lst (lS hs), .lst (lK ks), .lst (lI ts), .lst (lN t.bank)])) : RiverOk nums
theorem g_river (nums : List Int) (h : nums.length ≤ 7) : RiverOk nums := by
  have R0 : RI nums 0 (rSt nums [sn "local"] [none] [0] [0] none none none none none) :=
    .mk (t := .leaf 0 [sn "local"]) ⟨rfl, rfl, rfl, .refl _, fun s hs => T.leaf1 hs ▸ ⟨rfl, rfl, rfl⟩⟩ rfl rfl fun h hh => List.mem_singleton.mp hh ▸ Nat.le_refl 5
  cases up_loop0 (i := 6) (RI nums) R0 fun j σ hj R => river_step h hj R with
  | mk e R =>
  cases R with
  | mk A ok hb hl =>
  have hn : (lI nums).length ≤ 1000000 := List.length_map D.int ▸ Nat.le_trans h (by decide)
  have L := lenF.lst hn
  rw [List.length_map] at L
  refine .mk A ok hb (fun x hx => Nat.le_trans (hl x hx) (Nat.add_le_add_left (Nat.mul_le_mul_left 3 h) 5)) ?_
  apply xFun_ret rfl (hl := rfl)
  unfold f_lw_river
  exact eGo (eAsg (.mk (.mk .mk (.mk .mk (.mk .mk (.mk .mk (.mk .mk .mk)))))) rfl) (eGo (eOwn (.mk .mk .mk) rfl) (eGo (eOwn (.mk (.mk .mk) .mk) rfl) (eGo (eOwn (.mk .mk .mk) rfl) (eGo (eAsg (.mk (.mk .mk .mk)) rfl)
    (eGo (eFor (.mk (.mk (.mk (.mk (eV rfl) .mk) L) .mk) (.one (small_nat (Nat.lt_of_le_of_lt h (by decide))))) rfl e) (eRet (.mk (.mk (eVl rfl) (.mk (eVl rfl) (.mk (eVl rfl) (.mk (eV rfl) .mk)))))))))))
section
variable {t s r l : T} {hs : List Str} {ks : List Kid} {ts : List Int} {N k : Nat} {p q : List Str} {u : Bool}
theorem T.sub_trans : ∀ {t s r : T}, s ∈ t.subs → r ∈ s.subs → r ∈ t.subs := by
  intro t
  induction t with
  | leaf k p => exact fun h q => T.leaf1 h ▸ q
  | fork k p u a b ia ib => exact fun h q => T.cases3 h (fun e => e ▸ q) (fun h => T.in_l (ia h q)) fun h => T.in_r (ib h q)
theorem T.sub_l (h : T.fork k p u l r ∈ t.subs) : l ∈ t.subs := T.sub_trans h (T.in_l l.self_sub)
theorem T.sub_r (h : T.fork k p u l r ∈ t.subs) : r ∈ t.subs := T.sub_trans h (T.in_r r.self_sub)
theorem T.sub_ok : ∀ {t s : T} {q : List Str}, t.ok q → s ∈ t.subs → s.ok s.path := by
  intro t
  induction t with
  | leaf k p => exact fun h hs => T.leaf1 hs ▸ rfl
  | fork k p u a b ia ib =>
    intro s q h hs
    obtain ⟨m, hm, h4, h5⟩ := h.2.2.2
    exact T.cases3 hs (fun e => e ▸ ⟨rfl, h.2.1, h.2.2.1, m, hm, h4, h5⟩) (ia h4) (ib h5)
theorem Arr.sub_at (A : Arr t hs ks ts N) (h : k < N) : ∃ s ∈ t.subs, s.id = k := List.mem_map.mp (A.perm.mem_iff.mpr (List.mem_range.mpr h))
theorem inj_of {α β : Type} {f : α → β} {x y : α} : ∀ {l : List α}, (l.map f).Nodup → x ∈ l → y ∈ l → f x = f y → x = y := by
  intro l
  induction l with
  | nil => exact fun _ h => nomatch h
  | cons z l ih =>
    intro nd h h' e
    have nd := List.nodup_cons.mp nd
    exact (List.mem_cons.mp h).elim (fun h1 => (List.mem_cons.mp h').elim (fun h2 => h1.trans h2.symm) fun h2 => absurd (h1 ▸ e ▸ List.mem_map_of_mem h2) nd.1)
      fun h1 => (List.mem_cons.mp h').elim (fun h2 => absurd (h2 ▸ e ▸ List.mem_map_of_mem h1) nd.1) fun h2 => ih nd.2 h1 h2 e
theorem Arr.sub_eq {s' : T} (A : Arr t hs ks ts N) (h : s ∈ t.subs) (h' : s' ∈ t.subs) (e : s.id = s'.id) : s = s' := inj_of A.nodup h h' e
noncomputable def T.isLeaf : T → Bool
  | .leaf _ _ => true
  | .fork .. => false
structure Vals {α : Type} (t : T) (N : Nat) (val : T → α) (X : List α) (k : Nat) : Prop where
  len : X.length = N
  at' : ∀ s ∈ t.subs, (k ≤ s.id ∨ s.isLeaf = true) → X[s.id]? = some (val s)
section
variable {α : Type} {val : T → α} {X : List α}
theorem Vals.leaf (A : Arr t hs ks ts N) (h : T.leaf k p ∈ t.subs) (V : Vals t N val X (k + 1)) : Vals t N val X k := by
  refine ⟨V.len, fun s hs q => ?_⟩
  by_cases e : s.id = k
  · exact V.at' _ hs (.inr (A.sub_eq hs h e ▸ rfl))
  · exact V.at' s hs (q.imp (fun q => Nat.lt_of_le_of_ne q (Ne.symm e)) id)
theorem Vals.set {s0 : T} (A : Arr t hs ks ts N) (h : s0 ∈ t.subs) (e0 : s0.id = k) (V : Vals t N val X (k + 1)) : Vals t N val (X.set k (val s0)) k := by
  have hk : k < X.length := V.len ▸ e0 ▸ A.slt h
  refine ⟨List.length_set.trans V.len, fun s hs q => ?_⟩
  by_cases e : s.id = k
  · rw [e, List.getElem?_set_self hk, A.sub_eq hs h (e.trans e0.symm)]
  · rw [List.getElem?_set_ne (Ne.symm e)]
    exact V.at' s hs (q.imp (fun q => Nat.lt_of_le_of_ne q (Ne.symm e)) id)
theorem Vals.all (V : Vals t N val X 0) (h : s ∈ t.subs) : X[s.id]? = some (val s) := V.at' s h (.inl (Nat.zero_le _))
theorem Vals.init {x : α} (A : Arr t hs ks ts N) (h : ∀ k p, val (.leaf k p) = x) : Vals t N val (List.replicate N x) N := by
  refine ⟨List.length_replicate, fun s hs q => ?_⟩
  have := A.slt hs
  cases s with
  | leaf k p => rw [h]; exact List.getElem?_replicate_of_lt this
  | fork => exact q.elim (fun q => absurd this (Nat.not_lt.mpr q)) nofun
end
noncomputable def T.ord : T → Nat
  | .leaf _ _ => 1
  | .fork _ _ _ l r => if l.ord = r.ord then l.ord + 1 else max l.ord r.ord
theorem ord_up {a b : Nat} : a ≤ (if a = b then a + 1 else max a b) ∧ b ≤ (if a = b then a + 1 else max a b) := by
  by_cases e : a = b
  · rw [if_pos e]; exact ⟨Nat.le_succ a, e ▸ Nat.le_succ a⟩
  · rw [if_neg e]; exact ⟨Nat.le_max_left .., Nat.le_max_right ..⟩
theorem T.ord_pos : ∀ (t : T), 1 ≤ t.ord := by
  intro t
  induction t with
  | leaf => exact Nat.le_refl _
  | fork k p u l r il ir => exact Nat.le_trans il ord_up.1
theorem T.ord_sub : ∀ {t s : T}, s ∈ t.subs → s.ord ≤ t.ord := by
  intro t
  induction t with
  | leaf k p => exact fun h => T.leaf1 h ▸ Nat.le_refl _
  | fork k p u l r il ir => exact fun h => T.cases3 h (fun e => e ▸ Nat.le_refl _) (fun h => Nat.le_trans (il h) ord_up.1) fun h => Nat.le_trans (ir h) ord_up.2
noncomputable def T.beg : T → Bool
  | .leaf _ _ => true
  | .fork _ _ _ l r => l.ord == r.ord
theorem T.kids_lt (ok : t.ok q) (h : T.fork k p u l r ∈ t.subs) : k < l.id ∧ k < r.id := ⟨(T.sub_ok ok h).2.1, (T.sub_ok ok h).2.2.1⟩
theorem T.id_le : ∀ {t : T} {q : List Str}, t.ok q → ∀ s ∈ t.subs, t.id ≤ s.id := by
  intro t
  induction t with
  | leaf k p => exact fun _ s h => T.leaf1 h ▸ Nat.le_refl _
  | fork k p u l r il ir =>
    intro q h s hs
    obtain ⟨m, hm, h4, h5⟩ := h.2.2.2
    exact T.cases3 hs (fun e => e ▸ Nat.le_refl _) (fun hs => Nat.le_trans (Nat.le_of_lt h.2.1) (il h4 s hs)) fun hs => Nat.le_trans (Nat.le_of_lt h.2.2.1) (ir h5 s hs)
theorem Arr.root (A : Arr t hs ks ts N) (ok : t.ok q) (h : 1 ≤ N) : t.id = 0 :=
  (A.sub_at h).elim fun s z => Nat.le_zero.mp (z.2 ▸ T.id_le ok s z.1)
end
theorem kid_eq {k : Kid} : eqT (kidD k) (.tup []) k.isNone := by
  cases k with
  | none => exact .gen (.tup (fun _ => true) fun _ _ _ _ h => nos h)
  | some ab => exact .gen (.tup (fun _ => true) fun _ _ _ _ h => nos h)
theorem kid0 {a b : Nat} : idxD (kidD (some (a, b))) (.int 0) (natD a) := .tup (n := 0) rfl (by decide)
theorem kid1 {a b : Nat} : idxD (kidD (some (a, b))) (.int 1) (natD b) := .tup (n := 1) rfl (by decide)
theorem eqI {a b : Int} {c : Bool} (h : (a == b) = c) : eqT (.int a) (.int b) c := h ▸ .gen .int
theorem eqN {a b : Nat} (h : a = b) : eqT (natD a) (natD b) true := eqI (h ▸ beq_self_eq_true _)
theorem neN {a b : Nat} (h : a ≠ b) : eqT (natD a) (natD b) false := eqI (beq_false_of_ne fun e => h (Int.ofNat.inj e))
noncomputable def bSt (hs : List Str) (ks : List Kid) (os : List Nat) (x3 x4 x5 x6 : Option MV) : St :=
  [fz (.lst (lS hs)), fz (.lst (lK ks)), oL (lN os), x3, x4, x5, x6, none, none, none]
section
variable {hs : List Str} {ks : List Kid} {ts : List Int} {os : List Nat} {x3 x4 x5 x6 : Option MV} {N k a b oa ob o : Nat} {σ : St} {t : T} {q : List Str}
theorem begun_leaf (h : idxD (.lst (lK ks)) (natD k) (kidD none)) : b_lw_begun1 ((bSt hs ks os x3 x4 x5 x6).set 3 (fz (natD k))) .next (bSt hs ks os (fz (natD k)) x4 x5 x6) :=
  eEnd (.ff (.mk (.mk (eC rfl) (eV rfl) h) (.mk .mk) (.mk kid_eq)) .mk)
theorem natMax (a b : Nat) : ((max a b : Nat) : Int) = max (a : Int) b := by
  by_cases h : a ≤ b
  · rw [Nat.max_eq_right h, Int.max_eq_right (Int.ofNat_le.mpr h)]
  · rw [Nat.max_eq_left (Nat.le_of_not_le h), Int.max_eq_left (Int.ofNat_le.mpr (Nat.le_of_not_le h))]
theorem ord_val (h4 : σ[4]? = some (fz (natD oa))) (h5 : σ[5]? = some (fz (natD ob))) : cIf (tCmp eqT (cV 4) (cV 5)) (cBin addD (cV 4) (cK (.int 1))) (cFun maxF (cCons (cV 4) (cCons (cV 5) (cNil)))) σ (natD (if oa = ob then oa + 1 else max oa ob)) true := by
  by_cases e : oa = ob
  · rw [if_pos e]; exact .tt (.mk (eV h4) (eV h5) (eqN e)) (rt (.mk (eV h4) .mk .int) rfl)
  · rw [if_neg e, natD, natMax]; exact .ff (.mk (eV h4) (eV h5) (neN e)) (rt (.mk (.mk (eV h4) (.mk (eV h5) .mk)) .two) rfl)
theorem begun_fork (hk : k < os.length) (hl : os.length ≤ 1000000) (h : idxD (.lst (lK ks)) (natD k) (kidD (some (a, b)))) (ha : os[a]? = some oa) (hb : os[b]? = some ob) :
    b_lw_begun1 ((bSt hs ks os x3 x4 x5 x6).set 3 (fz (natD k))) .next (bSt hs ks (os.set k (if oa = ob then oa + 1 else max oa ob)) (fz (natD k)) (fz (natD oa)) (fz (natD ob)) x6) :=
  eEnd (.tt (.mk (.mk (eC rfl) (eV rfl) h) (.mk .mk) (.mk kid_eq)) (eGo (eSwp (.mk (.mk (.mk (eCl rfl) (.mk (.mk (eC rfl) (eV rfl) h) .mk kid0) (ix hl ha)) (.mk (.mk (eCl rfl) (.mk (.mk (eC rfl) (eV rfl) h) .mk kid1) (ix hl hb)) .mk))) rfl rfl)
    (eEnd (eSetL rfl (eV rfl) (ord_val rfl rfl) rfl rfl hk hl))))
inductive B1 (t : T) (N : Nat) (hs : List Str) (ks : List Kid) (k : Nat) : St → Prop
  | mk {os : List Nat} {x3 x4 x5 : Option MV} (V : Vals t N T.ord os k) : B1 t N hs ks k (bSt hs ks os x3 x4 x5 none)
theorem begun_loop1 (A : Arr t hs ks ts N) (ok : t.ok q) (h2 : N ≤ 1000000) : Run (forF 3 b_lw_begun1 (rangeL ((N - 1 : Nat) : Int) (-1) N) (bSt hs ks (List.replicate N 1) none none none none)) (B1 t N hs ks 0) := by
  refine down_loop (B1 t N hs ks) (.mk (Vals.init A fun _ _ => rfl)) fun k σ hk I => ?_
  cases I with
  | mk V =>
  obtain ⟨s, hs', e⟩ := A.sub_at hk
  have hkid := ix (t := kidD) (A.lk ▸ h2) (A.at' s hs').k
  rw [e] at hkid
  cases s with
  | leaf k' p =>
    have e : k' = k := e
    subst e
    exact .nx (begun_leaf hkid) (.mk (V.leaf A hs'))
  | fork k' p u l r =>
    have e : k' = k := e
    subst e
    have lt := T.kids_lt ok hs'
    exact .nx (begun_fork (V.len ▸ hk) (V.len ▸ h2) hkid (V.at' l (T.sub_l hs') (.inl lt.1)) (V.at' r (T.sub_r hs') (.inl lt.2))) (.mk (V.set A hs' rfl))
noncomputable abbrev lR (rows : List (List Str)) : List (List D) := rows.map lS
theorem begun_app {rows : List (List Str)} {x : Str} {row : List Str} (ho : idxD (.lst (lN os)) (natD k) (natD (o + 1))) (hx : idxD (.lst (lS hs)) (natD k) (.str x)) (h2 : o ≤ 1000000) (hr : rows[o]? = some row) (hl : row.length ≤ 1000000) :
    xAppN 6 (cBin subD (cIdx (cVc 2) (cV 3)) (cK (.int 1))) (cIdx (cVc 0) (cV 3)) (bSt hs ks os (fz (natD k)) x4 x5 (some (.ownN (lR rows)))) .next
      (bSt hs ks os (fz (natD k)) x4 x5 (some (.ownN (lR (rows.set o (row ++ [x])))))) := by
  have e4 : (lR rows)[o]? = some (lS row) := by rw [List.getElem?_map, hr]; rfl
  have e5 : natD o = .int (((o + 1 : Nat) : Int) - 1) := congrArg D.int (show (o : Int) = (o : Int) + 1 - 1 from (Int.add_sub_cancel ..).symm)
  have s1 : subD (natD (o + 1)) (.int 1) (natD o) := e5 ▸ .int
  have := xAppN.mk (i := 6) (σ := bSt hs ks os (fz (natD k)) x4 x5 (some (.ownN (lR rows)))) (d := .str x) rfl (cBin.mk (f := cIdx (cVc 2) (cV 3)) (g := cK (.int 1)) (.mk (eCl rfl) (eV rfl) ho) .mk s1) (rt (cIdx.mk (f := cVc 0) (g := cV 3) (eC rfl) (eV rfl) hx) rfl) e4 h2 (by rw [List.length_map]; exact hl)
  rw [show lS row ++ [D.str x] = lS (row ++ [x]) from (List.map_append (f := D.str) (l₁ := row) (l₂ := [x])).symm, ← List.map_set] at this
  exact this
theorem begun2_yes {rows : List (List Str)} {c : Kid} {x : Str} {row : List Str} (h : idxD (.lst (lK ks)) (natD k) (kidD c)) (hc : c = none ∨ ∃ a b oa, c = some (a, b) ∧ idxD (.lst (lN os)) (natD a) (natD oa) ∧ idxD (.lst (lN os)) (natD b) (natD oa)) (ho : idxD (.lst (lN os)) (natD k) (natD (o + 1))) (hx : idxD (.lst (lS hs)) (natD k) (.str x)) (h2 : o ≤ 1000000) (hr : rows[o]? = some row) (hl : row.length ≤ 1000000) :
    b_lw_begun2 ((bSt hs ks os x3 x4 x5 (some (.ownN (lR rows)))).set 3 (fz (natD k))) .next (bSt hs ks os (fz (natD k)) x4 x5 (some (.ownN (lR (rows.set o (row ++ [x])))))) := by
  refine eEnd (.tt ?_ (eEnd (begun_app ho hx h2 hr hl)))
  rcases hc with rfl | ⟨a, b, oa, rfl, ha, hb⟩
  · exact .tt (.mk (.mk (eC rfl) (eV rfl) h) (.mk .mk) kid_eq)
  · exact .ff (.mk (.mk (eC rfl) (eV rfl) h) (.mk .mk) kid_eq) (.tt (.mk (.mk (eCl rfl) (.mk (.mk (eC rfl) (eV rfl) h) .mk kid0) ha) (.mk (eCl rfl) (.mk (.mk (eC rfl) (eV rfl) h) .mk kid1) hb) (eqN rfl)))
theorem begun2_no (h : idxD (.lst (lK ks)) (natD k) (kidD (some (a, b)))) (ha : idxD (.lst (lN os)) (natD a) (natD oa)) (hb : idxD (.lst (lN os)) (natD b) (natD ob)) (ne : oa ≠ ob) :
    b_lw_begun2 ((bSt hs ks os x3 x4 x5 x6).set 3 (fz (natD k))) .next (bSt hs ks os (fz (natD k)) x4 x5 x6) :=
  eEnd (.ff (.ff (.mk (.mk (eC rfl) (eV rfl) h) (.mk .mk) kid_eq) (.ff (.mk (.mk (eCl rfl) (.mk (.mk (eC rfl) (eV rfl) h) .mk kid0) ha) (.mk (eCl rfl) (.mk (.mk (eC rfl) (eV rfl) h) .mk kid1) hb) (neN ne)) .mk)) .mk)
end
noncomputable def T.at (t : T) (k : Nat) : T := (t.subs.find? fun s => s.id == k).getD t
section
variable {t s : T} {hs : List Str} {ks : List Kid} {ts : List Int} {N j m : Nat} {q : List Str} {os : List Nat}
theorem Arr.at_sub (A : Arr t hs ks ts N) (h : s ∈ t.subs) : t.at s.id = s := by
  unfold T.at
  cases e : t.subs.find? fun x => x.id == s.id with
  | none => exact absurd (beq_self_eq_true _) (List.find?_eq_none.mp e s h)
  | some x =>
    have e2 : (x.id == s.id) = true := List.find?_some (p := fun x : T => x.id == s.id) e
    exact A.sub_eq (List.mem_of_find?_eq_some e) h (eq_of_beq e2)
noncomputable def T.hit (t : T) (m k : Nat) : Bool := (t.at k).beg && (t.at k).ord == m + 1
noncomputable def rowTo (t : T) (m j : Nat) : List Str := ((List.range j).filter (t.hit m)).map fun k => host (t.at k).path
theorem rowTo_hit (h : t.at j = s) (hb : s.beg = true) (ho : s.ord = m + 1) : rowTo t m (j + 1) = rowTo t m j ++ [host s.path] := by
  have : t.hit m j = true := by unfold T.hit; rw [h, hb, ho]; exact beq_self_eq_true _
  unfold rowTo
  rw [List.range_succ, List.filter_append, List.map_append, List.filter_cons_of_pos this, ← h]; rfl
theorem rowTo_miss (h : t.at j = s) (hn : s.beg = false ∨ s.ord ≠ m + 1) : rowTo t m (j + 1) = rowTo t m j := by
  have : ¬ t.hit m j = true := by
    unfold T.hit; rw [h]
    intro e
    have e := Bool.and_eq_true_iff.mp e
    exact hn.elim (fun z => fnt (z.symm.trans e.1)) fun z => z (eq_of_beq e.2)
  unfold rowTo
  rw [List.range_succ, List.filter_append, List.map_append, List.filter_cons_of_neg this]; exact List.append_nil _
theorem rowTo_len (t : T) (m j : Nat) : (rowTo t m j).length ≤ j := by
  unfold rowTo
  rw [List.length_map]
  exact Nat.le_trans (List.length_filter_le _ _) (Nat.le_of_eq List.length_range)
inductive B2 (t : T) (hs : List Str) (ks : List Kid) (os : List Nat) (x4 x5 : Option MV) (j : Nat) : St → Prop
  | mk {rows : List (List Str)} {x3 : Option MV} (hr : ∀ m < t.ord, rows[m]? = some (rowTo t m j)) (hl : rows.length = t.ord) : B2 t hs ks os x4 x5 j (bSt hs ks os x3 x4 x5 (some (.ownN (lR rows))))
theorem rows_grow {rows : List (List Str)} {o : Nat} (hj : t.at j = s) (hb : s.beg = true) (ho : s.ord = o + 1) (hr : ∀ m < t.ord, rows[m]? = some (rowTo t m j)) (hl : rows.length = t.ord) :
    ∀ m < t.ord, (rows.set o (rowTo t o j ++ [host s.path]))[m]? = some (rowTo t m (j + 1)) := by
  intro m hm
  by_cases z : o = m
  · subst z; rw [List.getElem?_set_self (hl.symm ▸ hm), rowTo_hit hj hb ho]
  · rw [List.getElem?_set_ne z, hr m hm, rowTo_miss hj (.inr fun e => z (Nat.succ.inj (ho.symm.trans e)))]
theorem begun_loop2 {x3 x4 x5 : Option MV} (A : Arr t hs ks ts N) (V : Vals t N T.ord os 0) (h2 : N ≤ 1000) (ho : t.ord ≤ 1000) :
    Run (forF 3 b_lw_begun2 (rangeL 0 1 N) (bSt hs ks os x3 x4 x5 (some (.ownN (lR (List.replicate t.ord [])))))) (B2 t hs ks os x4 x5 N) := by
  refine up_loop0 (B2 t hs ks os x4 x5) (.mk (fun m hm => List.getElem?_replicate_of_lt hm) List.length_replicate) fun j σ hj I => ?_
  cases I with
  | mk hr hl =>
  obtain ⟨s, hs', e⟩ := A.sub_at hj
  have a := A.at' s hs'
  have hat := A.at_sub hs'
  obtain ⟨o, he⟩ : ∃ o, s.ord = o + 1 := ⟨_, (Nat.sub_add_cancel s.ord_pos).symm⟩
  have hh := ix (t := D.str) (A.lh ▸ million h2) a.h
  have hk := ix (t := kidD) (A.lk ▸ million h2) a.k
  have vo : ∀ {s : T}, s ∈ t.subs → idxD (.lst (lN os)) (natD s.id) (natD s.ord) := fun h => ix (V.len ▸ million h2) (V.all h)
  have vs := vo hs'
  rw [he] at vs
  rw [e] at hh hk vs hat
  have lt : o < t.ord := Nat.lt_of_succ_le (Nat.le_trans (Nat.le_of_eq he.symm) (T.ord_sub hs'))
  have fin := fun hc (hb : s.beg = true) => begun2_yes (x3 := ‹Option MV›) (x4 := x4) (x5 := x5) hk hc vs hh (million (Nat.le_trans (Nat.le_of_lt lt) ho)) (hr o lt) (million (Nat.le_trans (rowTo_len t o j) (Nat.le_trans (Nat.le_of_lt hj) h2)))
  cases s with
  | leaf k' p => exact .nx (fin (.inl rfl) rfl) (.mk (rows_grow hat rfl he hr hl) (List.length_set.trans hl))
  | fork k' p u l r =>
    have vl := vo (T.sub_l hs')
    have vr := vo (T.sub_r hs')
    by_cases z : l.ord = r.ord
    · have hb : (T.fork k' p u l r).beg = true := beq_iff_eq.mpr z
      exact .nx (fin (.inr ⟨_, _, _, rfl, vl, z ▸ vr⟩) hb) (.mk (rows_grow hat hb he hr hl) (List.length_set.trans hl))
    · exact .nx (begun2_no hk vl vr z) (.mk (fun m hm => (hr m hm).trans (congrArg some (rowTo_miss hat (.inl (beq_false_of_ne z))).symm)) hl)
theorem compF_map {α : Type} {ix : Nat} {elt : Ev} {σ : St} {f g : α → D} : ∀ {xs : List α}, (∀ x ∈ xs, elt (σ.set ix (fz (f x))) (g x) true) → compF ix none elt σ (xs.map f) (xs.map g) true := by
  intro xs
  induction xs with
  | nil => exact fun _ => .nil
  | cons x xs ih => exact fun h => .yes (t := none) (b := true) (c := true) rfl (h x (.head _)) (ih fun y hy => h y (.tail _ hy))
theorem eMul1 {σ : St} {f g : Ev} {x : D} {b c : Bool} {n : Nat} (h1 : f σ (.lst [x]) b) (h3 : g σ (natD n) c) (hn : n ≤ 1000000) : lMul f g σ (List.replicate n x) b := by
  have := lMul.mk h1 h3 (Nat.le_trans (Nat.le_of_eq (Nat.one_mul _)) hn) (small_nat (Nat.lt_of_le_of_lt hn (by decide)))
  rwa [List.flatten_replicate_singleton] at this
theorem down_range {n : Nat} (h1 : 1 ≤ n) (h : n ≤ 1000000) : rangeF [.int ((n : Int) - 1), .int (-1), .int (-1)] (rangeL ((n - 1 : Nat) : Int) (-1) n) := by
  have := rangeF.down (a := ((n - 1 : Nat) : Int)) (b := -1) (small_nat (Nat.lt_of_le_of_lt (Nat.le_trans (Nat.sub_le ..) h) (by decide))) rfl
  have e : (((n - 1 : Nat) : Int) - -1).toNat = n := by rw [Int.sub_neg]; exact Nat.sub_add_cancel h1
  rw [e] at this
  rwa [show (n : Int) - 1 = ((n - 1 : Nat) : Int) from (Int.ofNat_sub h1).symm]
theorem eOwnN {σ : St} {g : Evs} {i n : Nat} {b : Bool} (h : g σ (rangeL 0 1 n) b) (hn : n ≤ 1000000) : xOwnN i g σ .next (σ.set i (some (.ownN (lR (List.replicate n []))))) := by
  have := xOwnN.mk (i := i) h ((rangeL_len ..).symm ▸ hn)
  rw [rangeL_len] at this
  rw [lR, List.map_replicate]; exact this
theorem lenN {α : Type} {f : α → D} {l : List α} {N : Nat} (e : l.length = N) (h : N ≤ 1000000) : lenF [.lst (l.map f)] (natD N) := by
  subst e
  have := lenF.lst (xs := l.map f) (List.length_map f ▸ h)
  rwa [List.length_map] at this
theorem rangeN {n : Nat} (h : n ≤ 1000000) : rangeF [natD n] (rangeL 0 1 n) := .one (small_nat (Nat.lt_of_le_of_lt h (by decide)))
noncomputable def begunOf (t : T) (N : Nat) : List (List Str) := (List.range t.ord).map fun m => sortS (rowTo t m N)
theorem list_eq {α β : Type} {l : List α} {n : Nat} {f : Nat → α} (hl : l.length = n) (h : ∀ m < n, l[m]? = some (f m)) (g : α → β) : l.map g = (List.range n).map fun m => g (f m) := by
  refine List.ext_getElem? fun m => ?_
  rw [List.getElem?_map, List.getElem?_map]
  by_cases hm : m < n
  · rw [h m hm, List.getElem?_range hm]; rfl
  · rw [List.getElem?_eq_none (hl ▸ Nat.le_of_not_lt hm), List.getElem?_eq_none (List.length_range.symm ▸ Nat.le_of_not_lt hm)]; rfl
noncomputable abbrev lL (rows : List (List Str)) : List D := rows.map fun r => .lst (lS r)
inductive BegunOk (t : T) (hs : List Str) (ks : List Kid) (N : Nat) : Prop
  | mk {os : List Nat} (V : Vals t N T.ord os 0) (g : g_lw_begun [.lst (lS hs), .lst (lK ks)] (.tup [.lst (lN os), .lst (lL (begunOf t N))])) : BegunOk t hs ks N
theorem g_begun (A : Arr t hs ks ts N) (ok : t.ok q) (h1 : 1 ≤ N) (h2 : N ≤ 63) (ho : t.ord ≤ 1000) : BegunOk t hs ks N := by
  have h1000 : N ≤ 1000 := Nat.le_trans h2 (by decide)
  have hM := million h1000
  cases begun_loop1 A ok hM with
  | mk f1 I1 =>
  cases I1 with
  | @mk os x3 x4 x5 V =>
  cases begun_loop2 (x3 := x3) (x4 := x4) (x5 := x5) A V h1000 ho with
  | mk f2 I2 =>
  cases I2 with
  | @mk rows y3 hr hl =>
  have root := V.all t.self_sub
  rw [A.root ok h1] at root
  have L := lenN (f := kidD) A.lk hM
  refine .mk V ?_
  apply xFun_ret rfl (hl := rfl)
  have e : (lR rows).map D.lst = (List.range t.ord).map fun m => .lst (lS (rowTo t m N)) := (List.map_map ..).trans (list_eq hl hr _)
  have c5 : compF 1 none (cFun sortedF (cCons (cV 1) (cNil))) [none, none, none] ((lR rows).map D.lst) (lL (begunOf t N)) true := by
    rw [e, lL, begunOf, List.map_map]
    exact compF_map fun m _ => rt (cFun.mk (.mk (eV rfl) .mk) (.mk (Nat.lt_succ_of_le (Nat.le_trans (rowTo_len t m N) h2)))) rfl
  have le : ((lR rows).map D.lst).length ≤ 1000000 := by rw [e, List.length_map, List.length_range]; exact million ho
  unfold f_lw_begun
  refine eGo (eOwn (eMul1 (.mk (.mk .mk .mk)) (.mk (.mk (eV rfl) .mk) L) hM) rfl) (eGo (eFor (σ' := bSt hs ks os x3 x4 x5 none) (.mk (.mk (.mk (.mk (.mk (eV rfl) .mk) L) .mk .int) (.mk (.mk .mk .mk) (.mk (.mk .mk .mk) .mk))) (down_range h1 hM)) rfl ?_)
    (eGo (eOwnN (.mk (.mk (.mk (eCl rfl) .mk (ix (t := natD) (n := 0) (V.len ▸ hM) root)) .mk) (rangeN (million ho))) (million ho)) (eGo (eFor (.mk (.mk (.mk (.mk (eV rfl) .mk) L) .mk) (rangeN hM)) rfl f2) (eRet (.mk (.mk (eVl rfl) (.mk (.mk (.mk (.mk (eVN rfl) le) c5 le)) .mk)))))))
  have : List.replicate N (D.int 1) = lN (List.replicate N 1) := (List.map_replicate (f := natD) (n := N) (a := 1)).symm
  rw [this]
  exact f1
end
noncomputable def side : List Str → List Str → List Str
  | x :: xs, y :: ys => (sn "(" ++ x) :: (xs ++ (sn "))" ++ y) :: ys)
  | _, _ => []
theorem side_lS {a b : D} {xs ys : List D} : [a] ++ xs ++ [b] ++ ys = a :: (xs ++ b :: ys) := congrArg (a :: ·) (List.append_assoc ..)
theorem g_side {x y : Str} {xs ys : List Str} (h1 : xs.length ≤ 1000) (h2 : ys.length ≤ 1000) (h3 : x.length ≤ 1000) (h4 : y.length ≤ 1000) :
    g_lw_side [.lst (lS (x :: xs)), .lst (lS (y :: ys))] (.lst (lS (side (x :: xs) (y :: ys)))) := by
  have k1 : (lS (x :: xs)).length ≤ 1001 := List.length_map D.str ▸ Nat.succ_le_succ h1
  have k2 : (lS (y :: ys)).length ≤ 1001 := List.length_map D.str ▸ Nat.succ_le_succ h2
  have q1 : [D.str (sn "(" ++ x)].length + (lS xs).length ≤ 1000000 := room (Nat.le_refl 1) (Nat.le_trans (Nat.le_succ _) k1)
  have q2 : ([D.str (sn "(" ++ x)] ++ lS xs).length + [D.str (sn "))" ++ y)].length ≤ 1000000 := room (i := 1001) k1 (Nat.le_refl 1)
  have q3 : ([D.str (sn "(" ++ x)] ++ lS xs ++ [D.str (sn "))" ++ y)]).length + (lS ys).length ≤ 1000000 := room (i := 1002) (app_le (l := [D.str (sn "(" ++ x)] ++ lS xs) k1) (Nat.le_trans (Nat.le_succ _) k2)
  apply xFun_ret rfl (hl := rfl)
  have e : lS (side (x :: xs) (y :: ys)) = [.str (sn "(" ++ x)] ++ lS xs ++ [.str (sn "))" ++ y)] ++ lS ys := (congrArg (_ :: ·) List.map_append).trans side_lS.symm
  rw [e]
  exact eRet (.mk (.mk (.mk (.mk (.mk (.mk .mk (.mk (eC rfl) .mk (.lst (n := 0) rfl (by decide))) (.str (room (Nat.le_refl 1) h3))) .mk)) (.mk (eC rfl) .mk (.lst (n := 1) (Nat.le_trans k1 (by decide)))) (.lst q1))
    (.mk (.mk (.mk .mk (.mk (eC rfl) .mk (.lst (n := 0) rfl (by decide))) (.str (room (Nat.le_refl 2) h4))) .mk)) (.lst q2)) (.mk (eC rfl) .mk (.lst (n := 1) (Nat.le_trans k2 (by decide)))) (.lst q3))
abbrev Tab := List (Int × Int)
noncomputable abbrev tK (a : Tab) : List Int := a.map (·.1)
noncomputable abbrev tV (a : Tab) : List D := a.map fun p => .int p.2
noncomputable def tabD (a : Tab) : D := .dctI (tK a) (tV a)
noncomputable def got : Tab → Int → Int
  | [], _ => 0
  | p :: a, k => if p.1 = k then p.2 else got a k
noncomputable def put1 (k c : Int) : Tab → Tab
  | [] => [(k, c)]
  | p :: a => if p.1 = k then (p.1, p.2 + c) :: a else p :: put1 k c a
noncomputable def addC (a b : Tab) : Tab := b.foldl (fun a p => put1 p.1 p.2 a) a
section
variable {k c j : Int} {p : Int × Int} {a b acc : Tab}
theorem put1_hit (h : p.1 = k) : put1 k c (p :: a) = (p.1, p.2 + c) :: a := if_pos h
theorem put1_miss (h : ¬ p.1 = k) : put1 k c (p :: a) = p :: put1 k c a := if_neg h
theorem got_hit (h : p.1 = k) : got (p :: a) k = p.2 := if_pos h
theorem got_miss (h : ¬ p.1 = k) : got (p :: a) k = got a k := if_neg h
theorem put1_keys : ∀ {a : Tab}, j ∈ tK (put1 k c a) ↔ j ∈ tK a ∨ j = k := by
  intro a
  induction a with
  | nil => exact List.mem_singleton.trans ⟨.inr, fun h => h.elim nofun id⟩
  | cons p a ih =>
    by_cases h : p.1 = k
    · rw [put1_hit h]; exact ⟨.inl, fun q => q.elim id fun e => (e.trans h.symm) ▸ .head _⟩
    · rw [put1_miss h]
      show j ∈ p.1 :: tK _ ↔ j ∈ p.1 :: tK _ ∨ _
      rw [List.mem_cons, List.mem_cons, ih, or_assoc]
theorem put1_nodup : ∀ {a : Tab}, (tK a).Nodup → (tK (put1 k c a)).Nodup := by
  intro a
  induction a with
  | nil => exact fun _ => List.nodup_cons.mpr ⟨List.not_mem_nil, List.nodup_nil⟩
  | cons p a ih =>
    intro h
    by_cases e : p.1 = k
    · rw [put1_hit e]; exact h
    · rw [put1_miss e]
      have h := List.nodup_cons.mp h
      exact List.nodup_cons.mpr ⟨fun z => (put1_keys.mp z).elim h.1 e, ih h.2⟩
theorem put1_got : ∀ {a : Tab}, got (put1 k c a) j = got a j + if k = j then c else 0 := by
  intro a
  induction a with
  | nil => exact (Int.zero_add _).symm
  | cons p a ih =>
    by_cases e : p.1 = k
    · rw [put1_hit e]
      by_cases f : p.1 = j
      · rw [got_hit (p := (p.1, p.2 + c)) f, got_hit f, if_pos (e ▸ f)]
      · rw [got_miss (p := (p.1, p.2 + c)) f, got_miss f, if_neg (e ▸ f), Int.add_zero]
    · rw [put1_miss e]
      by_cases f : p.1 = j
      · rw [got_hit f, got_hit f, if_neg fun z => e (f.trans z.symm), Int.add_zero]
      · rw [got_miss f, got_miss f, ih]
theorem put1_new : ∀ {a : Tab}, k ∉ tK a → put1 k c a = a ++ [(k, c)] := by
  intro a
  induction a with
  | nil => exact fun _ => rfl
  | cons p a ih => exact fun h => (put1_miss (p := p) (k := k) fun e => h (e ▸ .head _)).trans (congrArg (p :: ·) (ih fun z => h (.tail _ z)))
theorem put1_len : ∀ {a : Tab}, (put1 k c a).length ≤ a.length + 1 := by
  intro a
  induction a with
  | nil => exact Nat.le_refl _
  | cons p a ih =>
    by_cases e : p.1 = k
    · rw [put1_hit e]; exact Nat.le_succ _
    · rw [put1_miss e]; exact Nat.succ_le_succ ih
theorem got_none : ∀ {a : Tab}, k ∉ tK a → got a k = 0 := by
  intro a
  induction a with
  | nil => exact fun _ => rfl
  | cons p a ih => exact fun h => (got_miss (p := p) (k := k) fun e => h (e ▸ .head _)).trans (ih fun z => h (.tail _ z))
theorem addC_nodup : ∀ {b a : Tab}, (tK a).Nodup → (tK (addC a b)).Nodup := by
  intro b
  induction b with
  | nil => exact fun h => h
  | cons p b ih => exact fun h => ih (put1_nodup h)
theorem addC_keys : ∀ {b a : Tab}, j ∈ tK (addC a b) ↔ j ∈ tK a ∨ j ∈ tK b := by
  intro b
  induction b with
  | nil => exact ⟨.inl, fun h => h.elim id nofun⟩
  | cons p b ih =>
    intro a
    show j ∈ tK (addC (put1 p.1 p.2 a) b) ↔ _ ∨ j ∈ p.1 :: tK b
    rw [ih, put1_keys, List.mem_cons, or_assoc]
theorem addC_got : ∀ {b a : Tab}, (tK b).Nodup → got (addC a b) j = got a j + got b j := by
  intro b
  induction b with
  | nil => exact fun _ => (Int.add_zero _).symm
  | cons p b ih =>
    intro a q
    have q := List.nodup_cons.mp q
    show got (addC (put1 p.1 p.2 a) b) j = _
    rw [ih q.2, put1_got, Int.add_assoc]
    by_cases e : p.1 = j
    · rw [if_pos e, got_hit e, got_none (a := b) (e ▸ q.1), Int.add_zero]
    · rw [if_neg e, got_miss e, Int.zero_add]
theorem zip_tab : ∀ (a : Tab), (tK a).zip (tV a) = a.map fun p => (p.1, D.int p.2) := by
  intro a
  induction a with
  | nil => rfl
  | cons p a ih => exact congrArg (_ :: ·) ih
theorem putZ_new (h : k ∉ tK a) : putZ (tK a) (tV a) k (.int c) = (tK (put1 k c a), tV (put1 k c a)) := by
  rw [put1_new h]
  show _ = (List.map _ _, List.map _ _)
  rw [List.map_append, List.map_append]
  exact if_neg fun z => h (List.contains_iff_mem.mp z)
theorem zip_miss {d : D} : ∀ {a : Tab}, k ∉ tK a → ((tK a).zip (tV a)).map (fun p => if p.1 = k then d else p.2) = tV a := by
  intro a
  induction a with
  | nil => exact fun _ => rfl
  | cons p a ih =>
    intro h
    show (if p.1 = k then d else D.int p.2) :: List.map _ ((tK a).zip (tV a)) = D.int p.2 :: _
    rw [if_neg fun e : p.1 = k => h (e ▸ .head _), ih fun z => h (.tail _ z)]
theorem zip_hit : ∀ {a : Tab}, k ∈ tK a → (tK a).Nodup → ((tK a).zip (tV a)).map (fun p => if p.1 = k then .int (got a k + c) else p.2) = tV (put1 k c a) ∧ tK (put1 k c a) = tK a ∧ (((tK a).zip (tV a)).find? fun p => p.1 = k).map (·.2) = some (.int (got a k)) := by
  intro a
  induction a with
  | nil => exact fun h => nomatch h
  | cons p a ih =>
    intro h nd
    have nd := List.nodup_cons.mp nd
    by_cases e : p.1 = k
    · rw [put1_hit e, got_hit e]
      refine ⟨?_, rfl, ?_⟩
      · show (if p.1 = k then D.int (p.2 + c) else D.int p.2) :: List.map _ ((tK a).zip (tV a)) = D.int (p.2 + c) :: tV a
        rw [if_pos e, zip_miss (k := k) (e ▸ nd.1)]
      · exact find_hit (p := (p.1, D.int p.2)) e
    · have ih := ih ((List.mem_cons.mp h).resolve_left (Ne.symm e)) nd.2
      rw [put1_miss e, got_miss e]
      refine ⟨?_, congrArg (p.1 :: ·) ih.2.1, (find_miss (p := (p.1, D.int p.2)) e).trans ih.2.2⟩
      show (if p.1 = k then D.int (got a k + c) else D.int p.2) :: List.map _ ((tK a).zip (tV a)) = D.int p.2 :: tV (put1 k c a)
      rw [if_neg e, ih.1]
theorem putZ_old (h : k ∈ tK a) (nd : (tK a).Nodup) : putZ (tK a) (tV a) k (.int (got a k + c)) = (tK (put1 k c a), tV (put1 k c a)) := by
  have z := zip_hit (c := c) h nd
  rw [z.2.1, ← z.1]
  exact if_pos (List.contains_iff_mem.mpr h)
noncomputable def aSt (a b acc : Tab) (x3 x4 : Option MV) : St := [fz (tabD a), fz (tabD b), some (.ownI (tK acc) (tV acc)), x3, x4, none, none, none]
theorem forI_loop {i j : Nat} {body : Ex} (I : Tab → St → Prop) (st : ∀ p r σ, I (p :: r) σ → Run (body ((σ.set i (fz (.int p.1))).set j (fz (.int p.2)))) (I r)) : ∀ (b : Tab) (σ : St), I b σ → Run (forI i j body (b.map fun p => (p.1, D.int p.2)) σ) (I []) := by
  intro b
  induction b with
  | nil => exact fun σ h => .mk .nil h
  | cons p b ih =>
    intro σ h
    cases st p b σ h with
    | mk e h1 => cases ih _ h1 with | mk e2 h2 => exact .mk (.go e (.inl rfl) e2) h2
section
variable {x3 x4 : Option MV}
theorem set_put {σ : St} (h : k ∉ tK acc) (hl : acc.length ≤ 1000000) (h2 : σ[2]? = some (some (.ownI (tK acc) (tV acc)))) (h3 : σ[3]? = some (fz (.int k))) (h4 : σ[4]? = some (fz (.int c))) : xSetI 2 (cV 3) (cV 4) σ .next (σ.set 2 (some (.ownI (tK (put1 k c acc)) (tV (put1 k c acc))))) := by
  have := xSetI.mk (eV h4) (eV h3) h2 (List.length_map (fun p : Int × Int => p.1) ▸ hl)
  rwa [putZ_new h] at this
theorem add1_body (h : k ∉ tK acc) (hl : acc.length ≤ 1000000) :
    b_add_callers1 (((aSt a b acc x3 x4).set 3 (fz (.int k))).set 4 (fz (.int c))) .next (aSt a b (put1 k c acc) (fz (.int k)) (fz (.int c))) := eEnd (set_put h hl rfl rfl rfl)
theorem add2_body (nd : (tK acc).Nodup) (hl : acc.length ≤ 1000000) :
    b_add_callers2 (((aSt a b acc x3 x4).set 3 (fz (.int k))).set 4 (fz (.int c))) .next (aSt a b (put1 k c acc) (fz (.int k)) (fz (.int c))) := by
  by_cases h : k ∈ tK acc
  · have t : inD (.int k) (.dctI (tK acc) (tV acc)) true := List.contains_iff_mem.mpr h ▸ .dctI
    have := xAugI.mk (i := 2) (g := cV 3) (f := cV 4) (σ := aSt a b acc (fz (.int k)) (fz (.int c))) (eV rfl) rfl (eV rfl) (zip_hit (c := c) h nd).2.2 (List.length_map (fun p : Int × Int => p.1) ▸ hl)
    rw [putZ_old h nd] at this
    exact eEnd (.tt (.mk (eV rfl) (eVI rfl) t) (eEnd (.ff (.mk (.mk (eV rfl)) .bool) (eEnd this))))
  · have t : inD (.int k) (.dctI (tK acc) (tV acc)) false := (Bool.eq_false_iff.mpr fun z => h (List.contains_iff_mem.mp z)) ▸ .dctI
    exact eEnd (.ff (.mk (eV rfl) (eVI rfl) t) (eEnd (set_put h hl rfl rfl rfl)))
end
inductive A1 (a b r : Tab) : St → Prop
  | mk {acc : Tab} {x3 x4 : Option MV} (e : acc ++ r = a) : A1 a b r (aSt a b acc x3 x4)
inductive A2 (a b r : Tab) : St → Prop
  | mk {acc : Tab} {x3 x4 : Option MV} (e : addC acc r = addC a b) (nd : (tK acc).Nodup) (l : acc.length + r.length ≤ 1000) : A2 a b r (aSt a b acc x3 x4)
theorem key_not {acc r : Tab} (h : (tK (acc ++ p :: r)).Nodup) : p.1 ∉ tK acc := by
  rw [tK, List.map_append, List.nodup_append] at h
  exact fun z => h.2.2 _ z _ (.head _) rfl
theorem add1_step {σ : St} {r : Tab} (na : (tK a).Nodup) (h1 : a.length ≤ 1000000) (I : A1 a b (p :: r) σ) : Run (b_add_callers1 ((σ.set 3 (fz (.int p.1))).set 4 (fz (.int p.2)))) (A1 a b r) := by
  cases I with
  | @mk acc x3 x4 e =>
  have hk := key_not (e ▸ na)
  have hl := Nat.le_trans (Nat.le_trans (Nat.le_add_right acc.length _) (Nat.le_of_eq (List.length_append.symm.trans (congrArg List.length e)))) h1
  exact .mk (add1_body hk hl) (.mk (by rw [put1_new hk, List.append_assoc]; exact e))
theorem add2_step {σ : St} {r : Tab} (I : A2 a b (p :: r) σ) : Run (b_add_callers2 ((σ.set 3 (fz (.int p.1))).set 4 (fz (.int p.2)))) (A2 a b r) := by
  cases I with
  | @mk acc x3 x4 e nd l =>
  exact .mk (add2_body nd (Nat.le_trans (Nat.le_trans (Nat.le_add_right _ _) l) (by decide))) (.mk e (put1_nodup nd) (Nat.le_trans (Nat.add_le_add_right put1_len _) (Nat.le_trans (Nat.le_of_eq (Nat.add_right_comm ..)) l)))
theorem g_addC (na : (tK a).Nodup) (h1 : a.length ≤ 500) (h2 : b.length ≤ 500) : g_add_callers [tabD a, tabD b] (tabD (addC a b)) := by
  cases forI_loop (A1 a b) (fun p r σ => add1_step na (Nat.le_trans h1 (by decide))) a (aSt a b [] none none) (.mk rfl) with
  | mk f1 I1 =>
  cases I1 with
  | @mk acc x3 x4 e =>
  have e := (List.append_nil acc).symm.trans e
  subst e
  cases forI_loop (A2 acc b) (fun p r σ => add2_step) b (aSt acc b acc x3 x4) (.mk rfl na (Nat.add_le_add h1 h2)) with
  | mk f2 I2 =>
  cases I2 with
  | mk e2 _ _ =>
  rw [← zip_tab] at f1 f2
  rw [← e2]
  apply xFun_ret rfl (hl := rfl)
  exact eGo .mk (eGo (.mk (eV rfl) f1) (eGo (.mk (eV rfl) f2) (eRet (eVI rfl))))
noncomputable def total : Tab → Int
  | [] => 0
  | p :: a => p.2 + total a
theorem count_go {D0 : D} : ∀ (a : Tab) (n : Int) (x : Option MV), ∃ y, forF 2 b_count_calls1 (tV a) [fz D0, fz (.int n), x] .next [fz D0, fz (.int (n + total a)), y] := by
  intro a
  induction a with
  | nil => exact fun n x => ⟨x, (show n + total [] = n from Int.add_zero n).symm ▸ .nil⟩
  | cons p a ih =>
    intro n x
    obtain ⟨y, e⟩ := ih (n + p.2) (fz (.int p.2))
    rw [Int.add_assoc] at e
    exact ⟨y, .go (eEnd (.mk rfl (eV rfl))) (.inl rfl) e⟩
theorem g_total (a : Tab) : g_count_calls [tabD a] (.int (total a)) := by
  obtain ⟨y, e⟩ := count_go (D0 := tabD a) a 0 none
  rw [Int.zero_add] at e
  apply xFun_ret rfl (hl := rfl)
  exact eGo (eAsg .mk rfl) (eGo (eFor (.mk (eV rfl)) rfl e) (eRet (eV rfl)))
end
noncomputable abbrev pr (k d : Nat) : D := .tup [natD k, natD d]
noncomputable def dSt (ks : List Kid) (ts : List Int) (deep : List Nat) (W : List D) (x4 x5 : Option MV) : St := [fz (.lst (lK ks)), fz (.lst (lI ts)), oL (lN deep), oL W, x4, x5]
section
variable {ks : List Kid} {ts : List Int} {deep : List Nat} {W : List D} {x4 x5 : Option MV} {k d a b : Nat} {u : Bool} {D0 : List Nat} {σ σ' : St}
theorem deep_pop (h2 : W.length < 1000000) : xPop 3 [4, 5] (dSt ks ts deep (W ++ [pr k d]) x4 x5) .next (dSt ks ts deep W (fz (natD k)) (fz (natD d))) := .mk (ds := [natD k, natD d]) rfl rfl h2
theorem deep_leaf (h : idxD (.lst (lK ks)) (natD k) (kidD none)) (h1 : deep.length ≤ 1000000) (h2 : W.length < 1000000) :
    b_lw_deep1 (dSt ks ts deep (W ++ [pr k d]) x4 x5) .next (dSt ks ts (deep ++ [d]) W (fz (natD k)) (fz (natD d))) :=
  eGo (deep_pop h2) (eEnd (.tt (.mk (.mk (eC rfl) (eV rfl) h) (.mk .mk) kid_eq) (eEnd (eApp (t := natD) rfl (eV rfl) rfl rfl h1))))
theorem kid_t : idxD (kidD (some (a, b))) (.int (if u then 1 else 0)) (natD (if u then b else a)) := by
  cases u with
  | true => exact kid1
  | false => exact kid0
theorem kid_o : idxD (kidD (some (a, b))) (.int (1 - if u then 1 else 0)) (natD (if u then a else b)) := by
  cases u with
  | true => exact kid0
  | false => exact kid1
theorem deep_fork (h : idxD (.lst (lK ks)) (natD k) (kidD (some (a, b)))) (ht : idxD (.lst (lI ts)) (natD k) (.int (if u then 1 else 0))) (h2 : W.length < 100000) :
    b_lw_deep1 (dSt ks ts deep (W ++ [pr k d]) x4 x5) .next (dSt ks ts deep (W ++ [pr (if u then a else b) d] ++ [pr (if u then b else a) (d + 1)]) (fz (natD k)) (fz (natD d))) :=
  eGo (deep_pop (Nat.lt_trans h2 (by decide))) (eEnd (.ff (.mk (.mk (eC rfl) (eV rfl) h) (.mk .mk) kid_eq) (eGo (eAppR rfl (.mk (.mk (.mk (.mk (eC rfl) (eV rfl) h) (.mk .mk (.mk (eC rfl) (eV rfl) ht) .int) kid_o) (.mk (eV rfl) .mk))) rfl (Nat.le_trans (Nat.le_of_lt h2) (by decide)))
    (eEnd (eAppR rfl (.mk (.mk (.mk (.mk (eC rfl) (eV rfl) h) (.mk (eC rfl) (eV rfl) ht) kid_t) (.mk (.mk (eV rfl) .mk .int) .mk))) rfl (Nat.le_trans (app_le (Nat.le_of_lt h2)) (by decide)))))))
inductive DFin (ks : List Kid) (ts : List Int) (D0 : List Nat) (σ : St) : Prop
  | mk {n : Nat} {y4 y5 : Option MV} (h : whileF (tVal truD (cV 3)) b_lw_deep1 n σ .next (dSt ks ts D0 [] y4 y5)) : DFin ks ts D0 σ
theorem tru_app {xs : List D} {x : D} (h : xs.length < 1000000) : truD (.lst (xs ++ [x])) true := by
  have := truD.lst (xs := xs ++ [x]) (Nat.le_trans (Nat.le_of_eq (app_len rfl)) h)
  cases xs with
  | nil => exact this
  | cons => exact this
theorem DFin.step {p : D} (h2 : W.length < 1000000) (h : b_lw_deep1 (dSt ks ts deep (W ++ [p]) x4 x5) .next σ') (r : DFin ks ts D0 σ') : DFin ks ts D0 (dSt ks ts deep (W ++ [p]) x4 x5) := by
  cases r with
  | mk r => exact .mk (.go (.mk (eVl rfl) (tru_app h2)) h (.inl rfl) r)
noncomputable def T.size : T → Nat
  | .leaf _ _ => 1
  | .fork _ _ _ l r => l.size + r.size + 1
noncomputable def deepT : T → Nat → List Nat
  | .leaf _ _, d => [d]
  | .fork _ _ u l r, d => if u then deepT r (d + 1) ++ deepT l d else deepT l (d + 1) ++ deepT r d
theorem deepT_len : ∀ (t : T) (d : Nat), (deepT t d).length ≤ t.size := by
  intro t
  induction t with
  | leaf => exact fun d => Nat.le_refl _
  | fork k p u l r il ir =>
    intro d
    cases u with
    | true => exact Nat.le_trans (Nat.le_of_eq List.length_append) (Nat.le_succ_of_le (Nat.le_trans (Nat.add_le_add (ir _) (il _)) (Nat.le_of_eq (Nat.add_comm ..))))
    | false => exact Nat.le_trans (Nat.le_of_eq List.length_append) (Nat.le_succ_of_le (Nat.add_le_add (il _) (ir _)))
noncomputable def DRun (ks : List Kid) (ts : List Int) (D0 : List Nat) (s : T) : Prop := ∀ (d : Nat) (deep : List Nat) (W : List D) (x4 x5 : Option MV), W.length + s.size ≤ 1000 → deep.length + s.size ≤ 1000 → (∀ y4 y5, DFin ks ts D0 (dSt ks ts (deep ++ deepT s d) W y4 y5)) → DFin ks ts D0 (dSt ks ts deep (W ++ [pr s.id d]) x4 x5)
theorem fit1 {w a b : Nat} (h : w + (a + b + 1) ≤ 1000) : w + 1 + a ≤ 1000 ∧ w + b ≤ 1000 ∧ w < 100000 := by lia
theorem DRun.two {l r : T} (hl : DRun ks ts D0 l) (hr : DRun ks ts D0 r) {c : Nat} (hc : c = l.size + r.size + 1) (h1 : W.length + c ≤ 1000) (h2 : deep.length + c ≤ 1000) (K : ∀ y4 y5, DFin ks ts D0 (dSt ks ts (deep ++ (deepT l (d + 1) ++ deepT r d)) W y4 y5)) :
    DFin ks ts D0 (dSt ks ts deep (W ++ [pr r.id d] ++ [pr l.id (d + 1)]) x4 x5) := by
  subst hc
  have f1 := fit1 h1
  have f2 := fit1 h2
  refine hl (d + 1) deep _ _ _ (Nat.le_trans (Nat.le_of_eq (congrArg (· + l.size) (app_len rfl))) f1.1) (Nat.le_trans (Nat.add_le_add_right (Nat.le_succ _) _) f2.1) fun y4 y5 => hr d _ _ _ _ f1.2.1 ?_ fun z4 z5 => ?_
  · have := deepT_len l (d + 1)
    rw [List.length_append, Nat.add_assoc]
    exact Nat.le_trans (Nat.add_le_add_left (Nat.le_succ_of_le (Nat.add_le_add_right this r.size)) _) h2
  · rw [List.append_assoc]; exact K z4 z5
theorem deep_run {t : T} {hs : List Str} {N : Nat} (A : Arr t hs ks ts N) (hN : N ≤ 1000000) : ∀ {s : T}, s ∈ t.subs → DRun ks ts D0 s := by
  intro s
  induction s with
  | leaf k p =>
    intro hs' d deep W x4 x5 h1 h2 K
    have w1 : W.length < 1000000 := Nat.lt_of_lt_of_le h1 (by decide)
    exact .step w1 (deep_leaf (ix (A.lk ▸ hN) (A.at' _ hs').k) (Nat.le_trans (Nat.le_add_right ..) (Nat.le_trans h2 (by decide))) w1) (K _ _)
  | fork k p u l r il ir =>
    intro hs' d deep W x4 x5 h1 h2 K
    have w1 := (fit1 h1).2.2
    have dl := il (T.sub_l hs')
    have dr := ir (T.sub_r hs')
    refine .step (Nat.lt_trans w1 (by decide)) (deep_fork (ix (A.lk ▸ hN) (A.at' _ hs').k) (ix (t := D.int) (A.lt ▸ hN) (A.at' _ hs').t) w1) ?_
    cases u with
    | true => exact dr.two dl (congrArg (· + 1) (Nat.add_comm ..)) h1 h2 K
    | false => exact dl.two dr rfl h1 h2 K
theorem T.ids_len : ∀ (t : T), t.ids.length = t.size := by
  intro t
  induction t with
  | leaf => rfl
  | fork k p u l r il ir => rw [T.ids_fork, List.length_cons, List.length_append, il, ir]; rfl
theorem Arr.size {t : T} {hs : List Str} {N : Nat} (A : Arr t hs ks ts N) : t.size = N := by
  rw [← T.ids_len, A.perm.length_eq, List.length_range]
theorem g_deep {t : T} {hs : List Str} {N : Nat} {q : List Str} (A : Arr t hs ks ts N) (ok : t.ok q) (h1 : 1 ≤ N) (hN : N ≤ 1000) : g_lw_deep [.lst (lK ks), .lst (lI ts)] (.lst (lN (deepT t 1))) := by
  have sz : 0 + t.size ≤ 1000 := (Nat.zero_add _).symm ▸ A.size ▸ hN
  have e := deep_run A (million hN) t.self_sub 1 [] [] none none sz sz fun y4 y5 => .mk (D0 := deepT t 1) (n := 1) (.stop (.mk (eVl rfl) (.lst (Nat.zero_le _))))
  rw [A.root ok h1] at e
  cases e with
  | mk e =>
  apply xFun_ret rfl (hl := rfl)
  exact eGo (eOwn .mk rfl) (eGo (eOwn (.mk (.mk (.mk .mk (.mk .mk .mk))) .mk) rfl) (eGo (.mk e) (eRet (eVl rfl))))
end
section
variable {b : Array UInt8} {c : UInt8} {i j : Nat}
theorem ext_one {x : UInt8} (h : b.toList[i]? = some x) : (b.extract i (i + 1) == #[c]) = (x == c) := by
  have hi := (List.getElem?_eq_some_iff.mp h).1
  have e : b.extract i (i + 1) = #[x] := by
    apply arr_ext
    rw [Array.toList_extract, List.extract_eq_take_drop, Nat.add_sub_cancel_left, List.drop_eq_getElem_cons hi, (List.getElem?_eq_some_iff.mp h).2]; rfl
  rw [e, Bool.eq_iff_iff, beq_iff_eq, beq_iff_eq]
  exact ⟨fun h => (List.cons.inj (congrArg Array.toList h)).1, fun h => h ▸ rfl⟩
noncomputable def occF (b : Array UInt8) (c : UInt8) (acc : List Nat × Nat) (i : Nat) : List Nat × Nat := if i ≥ acc.2 && b.extract i (i + (#[c] : Array UInt8).size) == #[c] then (i :: acc.1, i + (#[c] : Array UInt8).size) else acc
structure Occ (b : Array UInt8) (c : UInt8) (j : Nat) (acc : List Nat × Nat) : Prop where
  lt : acc.2 ≤ j
  n : acc.1.length = (b.toList.take j).count c
theorem Occ.step {acc : List Nat × Nat} (O : Occ b c j acc) (hj : j < b.toList.length) : Occ b c (j + 1) (occF b c acc j) := by
  obtain ⟨x, hx⟩ := at_some hj
  have g : (decide (j ≥ acc.2) && b.extract j (j + 1) == #[c]) = (x == c) := by rw [ext_one hx, decide_eq_true O.lt, Bool.true_and]
  have ct : (b.toList.take (j + 1)).count c = acc.1.length + if x == c then 1 else 0 := by
    rw [List.take_add_one, hx, List.count_append, O.n]
    exact congrArg _ List.count_singleton
  have e : occF b c acc j = if x == c then (j :: acc.1, j + 1) else acc := by rw [← g]; rfl
  rw [e]
  by_cases q : (x == c) = true
  · rw [if_pos q] at ct
    rw [if_pos q]; exact ⟨Nat.le_refl _, ct.symm⟩
  · rw [if_neg q] at ct
    rw [if_neg q]; exact ⟨Nat.le_succ_of_le O.lt, ct.symm⟩
theorem occ_all : ∀ j, j ≤ b.toList.length → Occ b c j ((List.range j).foldl (occF b c) ([], 0)) := by
  intro j
  induction j with
  | zero => exact fun _ => ⟨Nat.le_refl _, rfl⟩
  | succ j ih => exact fun h => by rw [List.range_succ, List.foldl_append]; exact (ih (Nat.le_of_succ_le h)).step h
theorem countB_one (b : Array UInt8) (c : UInt8) : countB b #[c] = b.toList.count c := by
  have l : b.toList.length = b.size := Array.length_toList
  unfold countB
  by_cases h : b.size < (#[c] : Array UInt8).size
  · rw [if_pos h, List.eq_nil_of_length_eq_zero (l.trans (Nat.lt_one_iff.mp h))]; rfl
  · rw [if_neg h]
    have O := (occ_all (b := b) (c := c) b.size (Nat.le_of_eq l.symm)).n
    rw [List.take_of_length_le (Nat.le_of_eq l)] at O
    refine congrArg Nat.cast (Eq.trans ?_ O)
    unfold PySem.Builtin.Bytes.occurrences
    rw [List.length_reverse, show b.size + 1 - (0 + (#[c] : Array UInt8).size) = b.size from rfl, show (List.range b.size).map (· + 0) = List.range b.size from List.map_id _]
    rfl
end
section
variable {c e : UInt8} {a r o1 o2 : List UInt8}
theorem stF34 : strip false (34 :: r) = strip true r := rfl
theorem stF (h : c ≠ 34) : strip false (c :: r) = (strip false r).map (c :: ·) := by
  conv => lhs; unfold strip
  exact if_neg h
theorem stT34 : strip true (34 :: r) = strip false r := by cases r <;> rfl
theorem stT92 : strip true (92 :: e :: r) = if e = 10 then none else strip true r := rfl
theorem stT (h : c ≠ 34) (h2 : c ≠ 92) : strip true (c :: r) = strip true r := by
  cases r with
  | nil => exact if_neg h
  | cons e r => exact (if_neg h).trans (if_neg h2)
theorem strip_append : ∀ {n : Nat} {b : Bool} {a : List UInt8} {o1 : List UInt8}, a.length ≤ n → strip b a = some o1 → strip false r = some o2 → strip b (a ++ r) = some (o1 ++ o2) := by
  intro n
  induction n with
  | zero =>
    intro b a o1 hn h h2
    rw [List.eq_nil_of_length_eq_zero (Nat.le_zero.mp hn)] at h ⊢
    cases b with
    | true => exact nos h
    | false => exact (Option.some.inj h) ▸ h2
  | succ n ih =>
    intro b a o1 hn h h2
    cases a with
    | nil =>
      cases b with
      | true => exact nos h
      | false => exact (Option.some.inj h) ▸ h2
    | cons c a =>
    have hm := Nat.le_of_succ_le_succ hn
    rw [List.cons_append]
    by_cases q : c = 34
    · subst q
      cases b with
      | true => rw [stT34] at h ⊢; exact ih hm h h2
      | false => rw [stF34] at h ⊢; exact ih hm h h2
    cases b with
    | false =>
      rw [stF q] at h ⊢
      obtain ⟨o, ho, e⟩ := Option.map_eq_some_iff.mp h
      rw [ih hm ho h2, ← e]; rfl
    | true =>
    by_cases q2 : c = 92
    · subst q2
      cases a with
      | nil => exact nos h
      | cons e a =>
      rw [List.cons_append, stT92] at *
      by_cases q3 : e = 10
      · rw [if_pos q3] at h; exact nos h
      · rw [if_neg q3] at h ⊢; exact ih (Nat.le_of_succ_le hm) h h2
    · rw [stT q q2] at h ⊢; exact ih hm h h2
end
noncomputable def netO (out : List UInt8) : Int := (out.count 40 : Int) - out.count 41
structure Net (x : Str) (c : Int) : Prop where
  asc : ∀ k ∈ x.cps.toList, k < 128
  out : ∃ out, strip false (x.cps.toList.map Nat.toUInt8) = some out ∧ netO out = c
section
variable {x y : Str} {c d : Int}
theorem net_add (o1 o2 : List UInt8) : netO (o1 ++ o2) = netO o1 + netO o2 := by
  unfold netO; rw [List.count_append, List.count_append]; lia
theorem Net.append (h : Net x c) (g : Net y d) : Net (x ++ y) (c + d) := by
  obtain ⟨o1, h2, h3⟩ := h.out
  obtain ⟨o2, g2, g3⟩ := g.out
  have e : (x ++ y).cps.toList = x.cps.toList ++ y.cps.toList := by rw [PySem.Str.cps_append, Array.toList_append]
  refine ⟨fun k hk => (List.mem_append.mp (e ▸ hk)).elim (h.asc k) (g.asc k), o1 ++ o2, ?_, (net_add ..).trans (h3 ▸ g3 ▸ rfl)⟩
  rw [e, List.map_append]
  exact strip_append (Nat.le_refl _) h2 g2
noncomputable def netB (x : Str) (c : Int) : Bool := (x.cps.toList.all fun k => decide (k < 128)) && match strip false (x.cps.toList.map Nat.toUInt8) with | some out => decide (netO out = c) | none => false
theorem Net.of (h : netB x c = true) : Net x c := by
  have h := Bool.and_eq_true_iff.mp h
  refine ⟨fun k hk => of_decide_eq_true (List.all_eq_true.mp h.1 k hk), ?_⟩
  cases e : strip false (x.cps.toList.map Nat.toUInt8) with
  | none =>
    have h2 := h.2
    rw [e] at h2
    exact fnt h2
  | some out =>
    have h2 := h.2
    rw [e] at h2
    exact ⟨out, rfl, of_decide_eq_true h2⟩
theorem g_paren (h : Net x c) (hl : x.length ≤ 1000000) : g_paren_depth [.bytes (asciiB x), .int d] (.int (d + c)) := by
  obtain ⟨out, h2, h3⟩ := h.out
  have e1 : (asciiB x).size ≤ 1000000 := Nat.le_trans (Nat.le_of_eq (List.size_toArray.trans (List.length_map ..))) hl
  have k40 : countF [.bytes out.toArray, .bytes [40].toArray] (.int (out.count 40)) := by
    rw [← show countB out.toArray [40].toArray = out.count 40 from countB_one out.toArray 40]; exact .mk (by decide)
  have k41 : countF [.bytes out.toArray, .bytes [41].toArray] (.int (out.count 41)) := by
    rw [← show countB out.toArray [41].toArray = out.count 41 from countB_one out.toArray 41]; exact .mk (by decide)
  have fin : d + c = d + (out.count 40 : Int) - (out.count 41 : Int) := by rw [← h3, Int.add_sub_assoc]; rfl
  rw [fin]
  apply xFun_ret rfl (hl := rfl)
  exact eGo (eAsg (.mk (eV rfl) h2 e1) rfl) (eRet (.mk (.mk (eV rfl) (.mk (eV rfl) rfl (.mk .mk .mk) k40) .int) (.mk (eV rfl) rfl (.mk .mk .mk) k41) .int))
end
inductive B where
  | leaf (w : Str)
  | node (a b : B)
noncomputable def B.hd : B → Str
  | .leaf w => sn "(\"" ++ w ++ sn "\""
  | .node a _ => sn "(" ++ a.hd
noncomputable def B.tl : B → List Str
  | .leaf _ => []
  | .node a b => a.tl ++ (sn "))" ++ b.hd) :: b.tl
noncomputable def B.pieces (b : B) : List Str := b.hd :: b.tl
noncomputable def B.told : B → Int → List Int
  | .leaf _, d => [d + 1]
  | .node a b, d => a.told (d + 1) ++ b.told d
noncomputable def B.size : B → Nat
  | .leaf _ => 1
  | .node a b => a.size + b.size + 1
noncomputable def B.ok : B → Prop
  | .leaf w => Net (sn "(\"" ++ w ++ sn "\"") 1 ∧ w.length ≤ 5
  | .node a b => a.ok ∧ b.ok
inductive Told : List Str → Int → List Int → Int → Prop
  | nil {d : Int} : Told [] d [] d
  | cons {x : Str} {xs : List Str} {c d e : Int} {ys : List Int} (h : Net x c) (r : Told xs (d + c) ys e) : Told (x :: xs) d ((d + c) :: ys) e
section
variable {xs us : List Str} {d d' e f c : Int} {ys vs : List Int} {p x : Str}
theorem Told.append (h : Told xs d ys e) : Told us e vs f → Told (xs ++ us) d (ys ++ vs) f := by
  induction h with
  | nil => exact id
  | cons g r ih => exact fun h => .cons g (ih h)
theorem Told.pre (h : Net p c) (hd : d + c = d') (r : Told (x :: xs) d' ys e) : Told ((p ++ x) :: xs) d ys e := by
  subst hd
  cases r with
  | cons g r =>
    rw [Int.add_assoc] at r ⊢
    exact .cons (h.append g) r
theorem net_open : Net (sn "(") 1 := .of (by decide +kernel)
theorem net_shut : Net (sn "))") (-2) := .of (by decide +kernel)
theorem net_close : Net (sn ")") (-1) := .of (by decide +kernel)
theorem net_empty : Net (sn "") 0 := .of (by decide +kernel)
theorem up2 {d : Int} : d + 1 + 1 + -2 = d := by lia
theorem B.toldOf : ∀ {b : B} {d : Int}, b.ok → Told b.pieces d (b.told d) (d + 1) := by
  intro b
  induction b with
  | leaf w => exact fun h => .cons h.1 .nil
  | node a b ia ib => exact fun h => ((ia h.1).pre net_open rfl).append ((ib h.2).pre net_shut up2)
structure Lens (b : B) : Prop where
  n : b.tl.length ≤ b.size
  h : b.hd.length ≤ 7 + b.size
  l : ∀ x ∈ b.tl, x.length ≤ 9 + b.size
theorem le_l {n a b : Nat} : n + a ≤ n + (a + b + 1) := Nat.add_le_add_left (Nat.le_succ_of_le (Nat.le_add_right ..)) n
theorem le_r {n a b : Nat} : n + b ≤ n + (a + b + 1) := Nat.add_le_add_left (Nat.le_succ_of_le (Nat.le_add_left ..)) n
theorem seven {a b : Nat} : 1 + (7 + a) ≤ 7 + (a + b + 1) := Nat.le_trans (Nat.le_of_eq (Nat.add_comm ..)) (Nat.add_le_add_left (Nat.succ_le_succ (Nat.le_add_right a b)) 7)
theorem add_cl (a b : Int) : a + b - a = b := by rw [Int.add_comm, Int.add_sub_cancel]
theorem net_sum {c d e : Int} : c + 0 + (e - (d + c)) = e - d := by lia
theorem B.lens : ∀ {b : B}, b.ok → Lens b := by
  intro b
  induction b with
  | leaf w =>
    exact fun h => ⟨Nat.zero_le _, Nat.le_trans (s_add (s_add (m := 2) (by decide +kernel) h.2) (n := 1) (by decide +kernel)) (Nat.le_refl 8), nofun⟩
  | node a b ia ib =>
    intro h
    have A := ia h.1
    have B := ib h.2
    refine ⟨?_, Nat.le_trans (s_add (m := 1) (Nat.le_refl _) A.h) seven, fun x hx => ?_⟩
    · show (_ ++ _ : List Str).length ≤ a.size + (b.size + 1)
      rw [List.length_append]
      exact Nat.add_le_add A.n (Nat.succ_le_succ B.n)
    · exact (List.mem_append.mp hx).elim (fun h => Nat.le_trans (A.l x h) le_l) fun h => (List.mem_cons.mp h).elim (fun h => h ▸ Nat.le_trans (s_add (m := 2) (Nat.le_refl _) B.h) (Nat.le_trans (Nat.le_of_eq (Nat.add_assoc ..).symm) le_r)) fun h => Nat.le_trans (B.l x h) le_r
noncomputable def tSt (P : D) (base : Int) (acc : List Int) (d : Int) (x4 : Option MV) : St := [fz P, fz (.int base), oL (lI acc), fz (.int d), x4, none]
theorem told_body {P : D} {base : Int} {acc : List Int} {x4 : Option MV} (h : Net x c) (hx : x.length ≤ 1000000) (hn : acc.length ≤ 1000000) :
    b_lw_told1 ((tSt P base acc (base + d) x4).set 4 (fz (.str x))) .next (tSt P base (acc ++ [d + c]) (base + (d + c)) (fz (.str x))) :=
  eGo (eAsg2 (.mk (.mk (.mk (eV rfl) rfl .mk (.mk h.asc hx)) (.mk (eV rfl) .mk)) (g_paren h hx)) rfl (congrArg D.int (Int.add_assoc ..)))
    (eEnd (eApp (t := D.int) rfl (.mk (eV rfl) (eV rfl) .int) rfl (congrArg D.int (add_cl ..)) hn))
theorem told_loop {P : D} {base : Int} (h : Told xs d ys e) : ∀ (acc : List Int) (x4 : Option MV), (∀ x ∈ xs, x.length ≤ 1000000) → acc.length + xs.length ≤ 1000000 →
    ∃ y4, forF 4 b_lw_told1 (lS xs) (tSt P base acc (base + d) x4) .next (tSt P base (acc ++ ys) (base + e) y4) := by
  induction h with
  | nil => exact fun acc x4 _ _ => ⟨x4, (List.append_nil acc).symm ▸ .nil⟩
  | @cons x xs c d e ys h r ih =>
    intro acc x4 hl hn
    have hn2 : acc.length + 1 + xs.length ≤ 1000000 := Nat.le_trans (Nat.le_of_eq (Nat.add_right_comm ..)) hn
    obtain ⟨y4, e⟩ := ih (acc ++ [d + c]) (fz (.str x)) (fun z hz => hl z (.tail _ hz)) (Nat.le_trans (Nat.add_le_add_right (app_le (Nat.le_refl _)) _) hn2)
    rw [List.append_assoc] at e
    exact ⟨y4, .go (told_body h (hl x (.head _)) (Nat.le_trans (Nat.le_add_right ..) hn)) (.inl rfl) e⟩
theorem g_told {base : Int} (h : Told xs 0 ys e) (hl : ∀ x ∈ xs, x.length ≤ 1000000) (hn : xs.length ≤ 1000000) : g_lw_told [.lst (lS xs), .int base] (.lst (lI ys)) := by
  obtain ⟨y4, f⟩ := told_loop (P := .lst (lS xs)) (base := base) h [] none hl ((Nat.zero_add _).symm ▸ hn)
  rw [Int.add_zero] at f
  apply xFun_ret rfl (hl := rfl)
  exact eGo (eOwn .mk rfl) (eGo (eAsg (eV rfl) rfl) (eGo (eFor (.mk (eV rfl) (List.length_map D.str ▸ hn)) rfl f) (eRet (eVl rfl))))
theorem Told.net_join (h : Told xs d ys e) : Net (PySem.Str.join (sn "") xs) (e - d) := by
  induction h with
  | nil => rw [Int.sub_self]; exact net_empty
  | @cons x xs c d e ys h r ih =>
    cases r with
    | nil => rw [add_cl]; exact h
    | cons g q =>
      have := (h.append net_empty).append ih
      rwa [net_sum] at this
end
noncomputable def labs : List Str := marks.map (lab "a") ++ marks.map (lab "b")
inductive okP : List Str → Prop
  | one : okP [sn "local"]
  | up {x : Str} {p : List Str} (h : x ∈ labs) (r : okP p) : okP (x :: p)
noncomputable abbrev cl (x : Str) : List Nat := x.cps.toList
theorem str_ext {a b : Str} (h : cl a = cl b) : a = b := PySem.Str.ext' (Array.toList_inj.mp h)
theorem cl_len (a : Str) : a.length = (cl a).length := rfl
theorem cl_append (a b : Str) : cl (a ++ b) = cl a ++ cl b := by rw [cl, PySem.Str.cps_append, Array.toList_append]
theorem cl_host {x : Str} {p : List Str} (h : p ≠ []) : cl (host (x :: p)) = cl x ++ 46 :: cl (host p) := by
  rw [host_cons h, cl_append, cl_append, List.append_assoc]; rfl
noncomputable def abcS : List Nat := [46, 97, 98, 40, 41, 34, 92, 108, 111, 99]
noncomputable def labB (x : Str) : Bool := decide (46 ∉ cl x) && (cl x).all (fun c => decide (c ∈ abcS)) && decide ((cl x).length ≤ 5) && !(cl x).isEmpty
theorem lab_all : (sn "local" :: labs).all labB = true := by decide +kernel
structure Lb (x : Str) : Prop where
  no : 46 ∉ cl x
  abc : ∀ c ∈ cl x, c ∈ abcS
  len : (cl x).length ≤ 5
  ne : ∃ c r, cl x = c :: r
theorem Lb.of {x : Str} (h : x ∈ sn "local" :: labs) : Lb x := by
  have q := List.all_eq_true.mp lab_all x h
  unfold labB at q
  have q1 := Bool.and_eq_true_iff.mp q
  have q2 := Bool.and_eq_true_iff.mp q1.1
  have q3 := Bool.and_eq_true_iff.mp q2.1
  refine ⟨of_decide_eq_true q3.1, fun c hc => of_decide_eq_true (List.all_eq_true.mp q3.2 c hc), of_decide_eq_true q2.2, ?_⟩
  have q4 := q1.2
  cases e : cl x with
  | nil => rw [e] at q4; exact fnt q4
  | cons c r => exact ⟨c, r, rfl⟩
section
variable {x y s : Str} {p q : List Str}
theorem okP.ne (h : okP p) : p ≠ [] := by
  cases h with
  | one => exact nofun
  | up => exact nofun
theorem okP.lb (h : okP (x :: p)) : Lb x := by
  generalize e : x :: p = l at h
  cases h with
  | one => exact (List.cons.inj e).1 ▸ .of (.head _)
  | up h _ => exact (List.cons.inj e).1 ▸ .of (.tail _ h)
theorem okP.tail (h : okP (x :: p)) (hp : p ≠ []) : okP p := by
  generalize e : x :: p = l at h
  cases h with
  | one => exact absurd (List.cons.inj e).2 hp
  | up _ r => exact (List.cons.inj e).2 ▸ r
theorem dot_split : ∀ {a b u v : List Nat}, 46 ∉ a → 46 ∉ b → a ++ 46 :: u = b ++ 46 :: v → a = b ∧ u = v := by
  intro a
  induction a with
  | nil =>
    intro b u v _ hb h
    cases b with
    | nil => exact ⟨rfl, (List.cons.inj h).2⟩
    | cons c b => exact absurd ((List.cons.inj h).1 ▸ .head _) hb
  | cons c a ih =>
    intro b u v ha hb h
    cases b with
    | nil => exact absurd ((List.cons.inj h).1 ▸ .head _) ha
    | cons d b =>
      have z := ih (fun z => ha (.tail _ z)) (fun z => hb (.tail _ z)) (List.cons.inj h).2
      exact ⟨(List.cons.inj h).1 ▸ z.1 ▸ rfl, z.2⟩
theorem dot_in {a b c : List Nat} (h : a = b ++ 46 :: c) : 46 ∈ a := h ▸ List.mem_append_right _ (.head _)
theorem host_inj (h : okP p) : ∀ {q : List Str}, okP q → host p = host q → p = q := by
  induction h with
  | one =>
    intro q g e
    cases g with
    | one => rfl
    | up hx r => exact absurd (dot_in ((congrArg cl e).trans (cl_host r.ne))) (Lb.of (.head _)).no
  | up hx r ih =>
    intro q g e
    cases g with
    | one => exact absurd (dot_in ((congrArg cl e).symm.trans (cl_host r.ne))) (Lb.of (.head _)).no
    | up hy r' =>
      have e := congrArg cl e
      rw [cl_host r.ne, cl_host r'.ne] at e
      have z := dot_split (Lb.of (.tail _ hx)).no (Lb.of (.tail _ hy)).no e
      rw [str_ext z.1, ih r' (str_ext z.2)]
structure HD (s : Str) : Prop where
  abc : ∀ c ∈ cl s, c ∈ abcS
  fst : ∃ c r, cl s = c :: r ∧ c ≠ 46
  lst : ∃ z d, cl s = z ++ [d] ∧ d ≠ 46
theorem HD.up (hx : Lb x) (h : HD s) (e : cl y = cl x ++ 46 :: cl s) : HD y := by
  refine ⟨fun c hc => (List.mem_append.mp (e ▸ hc)).elim (hx.abc c) fun hc => (List.mem_cons.mp hc).elim (fun e => e ▸ .head _) (h.abc c), ?_, ?_⟩
  · obtain ⟨c, r, f⟩ := hx.ne
    exact ⟨c, r ++ 46 :: cl s, e.trans (f ▸ rfl), fun z => hx.no (f ▸ z ▸ .head _)⟩
  · obtain ⟨z, d, f, n⟩ := h.lst
    exact ⟨cl x ++ 46 :: z, d, by rw [e, f, List.append_assoc]; rfl, n⟩
theorem host_hd (h : okP p) : HD (host p) := by
  induction h with
  | one => exact ⟨(Lb.of (.head _)).abc, ⟨108, _, rfl, by decide⟩, ⟨[108, 111, 99, 97], 108, rfl, by decide⟩⟩
  | up hx r ih => exact ih.up (.of (.tail _ hx)) (cl_host r.ne)
theorem fig_abc : ∀ {l : List Nat}, (∀ c ∈ l, c ∈ abcS) → figOk l = true := by
  intro l
  induction l with
  | nil => exact fun _ => rfl
  | cons c l ih =>
    intro h
    cases l with
    | nil => rfl
    | cons d r =>
      have : Sre.isDigit d = false := (show ∀ d ∈ abcS, Sre.isDigit d = false by decide +kernel) d (h d (.tail _ (.head _)))
      show (!(c == 46 && Sre.isDigit d) && _) = true
      rw [this, Bool.and_false]
      exact ih fun c hc => h c (.tail _ hc)
abbrev dotAt (s : Str) (i : Nat) : Prop := StrLaws.At s (sn ".") s.length i
theorem at_dot {i : Nat} : dotAt s i ↔ (cl s)[i]? = some 46 := StrLaws.subAt_one s 46 i
theorem has_dot {r : List Nat} (h : cl s = cl x ++ 46 :: r) : dotAt s x.length := by
  rw [at_dot, h, cl_len, List.getElem?_append_right (Nat.le_refl _), Nat.sub_self]; rfl
theorem first_dot {r : List Nat} (h : cl s = cl x ++ 46 :: r) (hx : 46 ∉ cl x) {i : Nat} (a : dotAt s i) (n : ∀ k, k < i → ¬ dotAt s k) : i = x.length := by
  rw [at_dot, h] at a
  rcases Nat.lt_trichotomy i x.length with q | q | q
  · rw [List.getElem?_append_left q] at a
    exact absurd (List.mem_of_getElem? a) hx
  · exact q
  · exact absurd (has_dot h) (n _ q)
theorem no_dot (h : 46 ∉ cl s) {i : Nat} : ¬ dotAt s i := fun a => h (List.mem_of_getElem? (at_dot.mp a))
theorem find_dot {r : List Nat} (h : cl s = cl x ++ 46 :: r) (hx : 46 ∉ cl x) : Txt.find s (sn ".") = x.length := by
  rcases find_whole s (sn ".") with ⟨_, n⟩ | ⟨i, e, a, n⟩
  · exact absurd (has_dot h) (n _)
  · rw [e, first_dot h hx a n]
theorem split_host (h : okP (x :: p)) : (Txt.split (host (x :: p)) (sn "."))[0]? = some x := by
  obtain ⟨z, hz⟩ := at_some (split_pos (host (x :: p)) (sn "."))
  refine hz.trans (congrArg some ?_)
  cases p with
  | nil =>
    rcases split_head _ _ (by decide +kernel) z hz with ⟨e, _⟩ | ⟨i, e, a, n⟩
    · exact e
    · exact absurd a (no_dot h.lb.no)
  | cons y r =>
    have e1 : cl (host (x :: y :: r)) = cl x ++ 46 :: cl (host (y :: r)) := cl_host nofun
    rcases split_head _ _ (by decide +kernel) z hz with ⟨_, n⟩ | ⟨i, e, a, n⟩
    · exact absurd (has_dot e1) (n _)
    · have i1 := first_dot e1 h.lb.no a n
      rw [e, i1]
      refine str_ext (Eq.trans (Array.toList_extract ..) ?_)
      rw [List.extract_eq_take_drop, show (host (x :: y :: r)).cps.toList = _ from e1]
      exact List.take_left
theorem lower_abc (h : ∀ c ∈ cl s, c ∈ abcS) : Txt.lower s = s := by
  have ha : ∀ c ∈ abcS, c < 128 ∧ lo1 c = c := by decide +kernel
  rw [lower_ascii fun c hc => (ha c (h c hc)).1]
  refine str_ext (Eq.trans Array.toList_map ?_)
  exact (List.map_congr_left fun c hc => (ha c (h c hc)).2).trans (List.map_id _)
end
section
variable {σ : St} {t : Tr} {f g : Ex} {fl : Fl} {σ' : St}
theorem eSkip (h : t σ false) (r : g σ fl σ') : xCons (xIf t f xNil) g σ fl σ' := .go (.ff h .mk) r
theorem eNot (h : t σ true) : tNot t σ false := .mk h
theorem geT {a b : Int} (h : a ≥ b) : geD (.int a) (.int b) true := (decide_eq_true h) ▸ .mk
theorem geF {a b : Int} (h : ¬ a ≥ b) : geD (.int a) (.int b) false := (decide_eq_false h) ▸ .mk
theorem str_ne {s t : Str} (h : cl s ≠ cl t) : (s == t) = false := beq_false_of_ne fun e => h (congrArg cl e)
theorem neS {s t : Str} (h : cl s ≠ cl t) : eqT (.str s) (.str t) false := str_ne h ▸ .gen .str
theorem eqS {s : Str} : eqT (.str s) (.str s) true := (beq_self_eq_true s) ▸ .gen .str
theorem neZ {a b : Int} (h : a ≠ b) : eqT (.int a) (.int b) false := eqI (beq_false_of_ne h)
end
section
variable {x y s q A : Str} {p : List Str} {c d : Nat} {z : List Nat}
theorem idx_str {i : Int} {n : Nat} (h : seqIndex? i s.length = some n) (hc : (cl s)[n]? = some c) (hi : smallI i = true) : idxD (.str s) (.int i) (.str (chStr c)) :=
  .str (by rw [h]; exact Array.getElem?_toList.symm.trans hc) hi
theorem first_str {r : List Nat} (e : cl s = c :: r) : idxD (.str s) (.int 0) (.str (chStr c)) :=
  idx_str (seqIndex_of (Int.le_refl 0) (Int.ofNat_lt.mpr (show 0 < (cl s).length from e ▸ Nat.succ_pos _))) (e ▸ rfl) rfl
theorem minus1 (n : Nat) : (-1 + ((n + 1 : Nat) : Int)).toNat = n := by lia
theorem minus1' (n : Nat) : -((n + 1 : Nat) : Int) ≤ -1 := by lia
theorem last_str (e : cl s = z ++ [d]) : idxD (.str s) (.int (-1)) (.str (chStr d)) := by
  have hl : s.length = z.length + 1 := (congrArg List.length e).trans List.length_append
  have h := seqIndex_neg (k := -1) (n := s.length) (by decide) (hl ▸ minus1' _)
  rw [hl, minus1] at h
  exact idx_str (hl ▸ h) (e ▸ List.getElem?_concat_length) rfl
theorem chStr_dot (h : c ≠ 46) : eqT (.str (chStr c)) (.str (sn ".")) false := neS fun e => h (List.cons.inj (show [c] = [46] from e)).1
theorem g_hdn (h : HD s) (hl : s.length ≤ 1000000) : g_is_HDN [.str s] (.bool true) := by
  obtain ⟨c, r, e, hc⟩ := h.fst
  obtain ⟨z, d, e2, hd⟩ := h.lst
  apply xFun_ret rfl (hl := rfl)
  exact eSkip (.mk (.mk (eV rfl) (fig_abc h.abc) hl) .none) (eSkip (.mk (eV rfl) .mk (neS fun z => nomatch (e.symm.trans z))) (eSkip (.ff (.mk (.mk (eC rfl) .mk (first_str e)) .mk (chStr_dot hc)) (.ff (.mk (.mk (eC rfl) (.mk .mk .mk) (last_str e2)) .mk (chStr_dot hd)) .mk)) (eRet .mk)))
theorem from_str {t : Str} {a : List Nat} {n : Nat} (h : cl s = a ++ cl t) (hl : s.length ≤ 1000000) (hn : n = a.length) : fromD (.str s) (natD n) (.str t) := by
  have := fromD.str (n := n) hl
  rw [show s.cps.toList = _ from h, hn, List.drop_left] at this
  exact hn ▸ this
theorem tru_hdn {i : Nat} {σ : St} (hi : σ[i]? = some (fz (.str s))) (h : HD s) (hl : s.length ≤ 1000000) : tVal truD (cFun g_is_HDN (cCons (cV i) (cNil))) σ true := .mk (.mk (.mk (eV hi) .mk) (g_hdn h hl)) .bool
inductive Rest (p : List Str) : Prop
  | mk {j : Int} (h : Txt.find (host p) (sn ".") = j) (hj : 0 ≤ j ∨ host p = sn "local") : Rest p
theorem rest_ok (h : okP p) : Rest p := by
  cases h with
  | one => exact .mk rfl (.inr rfl)
  | up hx r => exact .mk (find_dot (cl_host r.ne) (Lb.of (.tail _ hx)).no) (.inl (Int.natCast_nonneg _))
theorem g_reach_host (h : okP (x :: p)) (hp : okP p) (hl : (host (x :: p)).length ≤ 100000) (hl2 : (host p).length ≤ 100000) : g_reach [.str (host (x :: p))] (.str (sn "." ++ host p)) := by
  have e0 := cl_host (x := x) hp.ne
  have hl1 : (host (x :: p)).length ≤ 1000000 := Nat.le_trans hl (by decide)
  have fr : fromD (.str (host (x :: p))) (natD (x.length + 1)) (.str (host p)) := from_str (a := cl x ++ [46]) (by rw [e0, List.append_assoc]; rfl) hl1 (app_len rfl).symm
  have f1 : findF [.str (host (x :: p)), .str (sn ".")] (natD x.length) := by
    rw [natD, ← find_dot e0 h.lb.no]; exact .mk
  have hd := host_hd h
  cases rest_ok hp with
  | @mk j f2 hj =>
  have f2 : findF [.str (host p), .str (sn ".")] (.int j) := f2 ▸ .mk
  apply xFun_ret rfl (hl := rfl)
  refine eGo (eAsg (.mk (eV rfl) rfl (.mk .mk .mk) f1) rfl) (.out (.tt (.mk (eV rfl) .mk (geT (Int.natCast_nonneg _))) (eGo (eAsg (.mk (eC rfl) (.mk (eV rfl) .mk .int) fr) rfl) (eGo (eAsg (.mk (eV rfl) rfl (.mk .mk .mk) f2) rfl)
    (.out (.tt (.tt (tru_hdn rfl hd hl1) (.tt ?_ .mk)) (eRet (.mk .mk (eV rfl) (.str (room (Nat.le_refl 1) hl2))))) nofun)))) nofun)
  by_cases q : 0 ≤ j
  · exact .tt (.mk (eV rfl) .mk (geT q))
  · exact .ff (.mk (eV rfl) .mk (geF q)) (.tt (.mk (eV rfl) .mk (hj.resolve_left q ▸ eqS)))
noncomputable def dotted (q : Str) : Str := sn "." ++ q
theorem cl_dotted (q : Str) : cl (dotted q) = 46 :: cl q := cl_append _ _
theorem len_dotted (q : Str) : (dotted q).length = (cl q).length + 1 := congrArg List.length (cl_dotted q)
theorem dm_head (h : HD A) (hq : HD q) (hl : A.length ≤ 100000) (hl2 : q.length ≤ 100000) {i : Int} (hi : Txt.rfind A (dotted q) = i) {f : Ex} {b : Bool} {σ' : St} (hf : f [fz (.str A), fz (.str (dotted q)), fz (.int i), none] (.ret (.bool b)) σ') :
    xCons (xAsg 0 (cMth "str" lowerF (cV 0) (cNil))) (xCons (xAsg 1 (cMth "str" lowerF (cV 1) (cNil))) (xCons (xIf (tCmp eqT (cV 0) (cV 1)) (xCons (xRet (cK (.bool true))) (xNil)) (xNil)) (xCons (xIf (tNot (tVal truD (cFun g_is_HDN (cCons (cV 0) (cNil))))) (xCons (xRet (cK (.bool false))) (xNil)) (xNil))
      (xCons (xAsg 2 (cMth "str" rfindF (cV 0) (cCons (cV 1) (cNil)))) f)))) [fz (.str A), fz (.str (dotted q)), none, none] (.ret (.bool b)) σ' := by
  have l1 := lower_abc h.abc
  have l2 : Txt.lower (dotted q) = dotted q := lower_abc fun c hc => (List.mem_cons.mp (cl_dotted q ▸ hc)).elim (fun e : c = 46 => by rw [e]; exact .head _) (hq.abc c)
  have m1 : A.length ≤ 1000000 := Nat.le_trans hl (by decide)
  have m2 : (dotted q).length ≤ 1000000 := Nat.le_trans (Nat.le_of_eq (len_dotted q)) (Nat.le_trans (Nat.succ_le_succ hl2) (by decide))
  have w1 := lowerF.mk (x := A) (l1.symm ▸ m1)
  have w2 := lowerF.mk (x := dotted q) (l2.symm ▸ m2)
  rw [l1] at w1
  rw [l2] at w2
  obtain ⟨c, r, e, hc⟩ := h.fst
  exact eGo (eAsg (.mk (eV rfl) rfl .mk w1) rfl) (eGo (eAsg (.mk (eV rfl) rfl .mk w2) rfl) (eSkip (.mk (eV rfl) (eV rfl) (neS fun z => hc (List.cons.inj (e.symm.trans (z.trans (cl_dotted q)))).1)) (eSkip (eNot (tru_hdn rfl h m1)) (eGo (eAsg (.mk (eV rfl) rfl (.mk (eV rfl) .mk) (hi ▸ .mk)) rfl) hf))))
theorem rfind_none {B : Str} (h : A.length < B.length) : Txt.rfind A B = -1 := by
  unfold Txt.rfind
  rcases StrLaws.last_spec A B with ⟨e, n⟩ | ⟨i, e, a, n⟩
  · rw [e]
  · exact absurd (Nat.le_trans (Nat.le_add_left ..) a.1) (Nat.not_le.mpr h)
theorem dm_false (h : HD A) (hq : HD q) (hl : A.length ≤ 100000) (hl2 : q.length ≤ 100000) (hlt : A.length ≤ q.length) : g_domain_match [.str A, .str (dotted q)] (.bool false) := by
  apply xFun_ret rfl (hl := rfl)
  exact dm_head h hq hl hl2 (rfind_none (len_dotted q ▸ Nat.lt_succ_of_le hlt)) (.out (.tt (.tt (.mk (eV rfl) (.mk .mk .mk) (eqI rfl))) (eRet .mk)) nofun)
theorem at_eq (A B : Str) (i : Nat) : StrLaws.At A B A.length i ↔ i + B.length ≤ A.length ∧ ((cl A).drop i).take B.length = cl B := by
  unfold StrLaws.At
  rw [StrLaws.subAt_eq, beq_iff_eq]
inductive Far (A B : Str) : Prop
  | mk {i : Nat} (h : Txt.rfind A B = (i : Int)) (n : i ≠ 0) : Far A B
theorem far_ok (h : HD A) (e : cl A = z ++ 46 :: cl q) : Far A (dotted q) := by
  have hit : StrLaws.At A (dotted q) A.length z.length := by
    rw [at_eq, cl_len A, e, cl_len (dotted q), cl_dotted]
    exact ⟨Nat.le_of_eq List.length_append.symm, by rw [List.drop_left, List.take_length]⟩
  rcases StrLaws.last_spec A (dotted q) with ⟨_, n⟩ | ⟨i, e, a, n⟩
  · exact absurd hit (n _)
  · refine .mk (i := i) (by unfold Txt.rfind; rw [e]) fun z => ?_
    subst z
    rw [at_eq, cl_dotted] at a
    obtain ⟨c, r, e, hc⟩ := h.fst
    have := a.2
    rw [e, len_dotted] at this
    exact hc (List.cons.inj this).1
theorem start_dotted (q : Str) : Txt.startswith (dotted q) (sn ".") = true := by
  unfold Txt.startswith
  rw [StrLaws.subAt_eq, Bool.and_eq_true]
  refine ⟨decide_eq_true (len_dotted q ▸ Nat.succ_le_succ (Nat.zero_le _)), ?_⟩
  show (((cl (dotted q)).drop 0).take 1 == [46]) = true
  rw [cl_dotted]; rfl
theorem dm_true (h : HD A) (hq : HD q) (hl : A.length ≤ 100000) (hl2 : q.length ≤ 100000) (e : cl A = z ++ 46 :: cl q) : g_domain_match [.str A, .str (dotted q)] (.bool true) := by
  have m2 : (dotted q).length ≤ 1000000 := Nat.le_trans (Nat.le_of_eq (len_dotted q)) (Nat.le_trans (Nat.succ_le_succ hl2) (by decide))
  cases far_ok h e with
  | @mk i er hi =>
  have st : startF [.str (dotted q), .str (sn ".")] (.bool true) := start_dotted q ▸ .mk
  apply xFun_ret rfl (hl := rfl)
  exact dm_head h hq hl hl2 er (eSkip (.ff (.mk (eV rfl) (.mk .mk .mk) (neZ (nofun : (i : Int) ≠ -1))) (.ff (.mk (eV rfl) .mk (neN (b := 0) hi)) .mk)) (eSkip (eNot (.mk (.mk (eV rfl) rfl (.mk .mk .mk) st) .bool))
    (eSkip (eNot (.mk (.mk (.mk (.mk (eC rfl) .mk (from_str (a := [46]) (n := 1) (cl_dotted q) m2 rfl)) .mk) (g_hdn hq (Nat.le_trans hl2 (by decide)))) .bool)) (eRet .mk))))
end
abbrev Kv := List (Str × D)
noncomputable abbrev kK (kv : Kv) : List Str := kv.map (·.1)
noncomputable abbrev kV (kv : Kv) : List D := kv.map (·.2)
noncomputable def look : Kv → Str → Option D
  | [], _ => none
  | p :: kv, k => if p.1 = k then some p.2 else look kv k
noncomputable def putS (k : Str) (d : D) : Kv → Kv
  | [] => [(k, d)]
  | p :: kv => if p.1 = k then (p.1, d) :: kv else p :: putS k d kv
section
variable {k j : Str} {d : D} {p : Str × D} {kv : Kv}
theorem putS_hit (h : p.1 = k) : putS k d (p :: kv) = (p.1, d) :: kv := if_pos h
theorem putS_miss (h : ¬ p.1 = k) : putS k d (p :: kv) = p :: putS k d kv := if_neg h
theorem look_hit (h : p.1 = k) : look (p :: kv) k = some p.2 := if_pos h
theorem look_miss (h : ¬ p.1 = k) : look (p :: kv) k = look kv k := if_neg h
theorem zip_kv : ∀ (kv : Kv), (kK kv).zip (kV kv) = kv := by
  intro kv
  induction kv with
  | nil => rfl
  | cons p kv ih => exact congrArg (p :: ·) ih
theorem valS_kv : valS (kK kv) (kV kv) k = look kv k := by
  unfold valS
  rw [zip_kv]
  induction kv with
  | nil => rfl
  | cons p kv ih =>
    by_cases e : p.1 = k
    · rw [find_hit e, look_hit e]
    · rw [find_miss e, look_miss e, ih]
theorem look_put : look (putS k d kv) j = if k = j then some d else look kv j := by
  induction kv with
  | nil => rfl
  | cons p kv ih =>
    by_cases e : p.1 = k
    · rw [putS_hit e]
      by_cases f : p.1 = j
      · rw [look_hit (p := (p.1, d)) f, if_pos (e ▸ f)]
      · rw [look_miss (p := (p.1, d)) f, look_miss f, if_neg (e ▸ f)]
    · rw [putS_miss e]
      by_cases f : p.1 = j
      · rw [look_hit f, look_hit f, if_neg fun z => e (f.trans z.symm)]
      · rw [look_miss f, look_miss f, ih]
theorem putS_len : (putS k d kv).length ≤ kv.length + 1 := by
  induction kv with
  | nil => exact Nat.le_refl _
  | cons p kv ih =>
    by_cases e : p.1 = k
    · rw [putS_hit e]; exact Nat.le_succ _
    · rw [putS_miss e]; exact Nat.succ_le_succ ih
theorem putS_keys : j ∈ kK (putS k d kv) → j ∈ kK kv ∨ j = k := by
  induction kv with
  | nil => exact fun h => .inr (List.mem_singleton.mp h)
  | cons p kv ih =>
    by_cases e : p.1 = k
    · rw [putS_hit e]; exact .inl
    · rw [putS_miss e]; exact fun h => (List.mem_cons.mp h).elim (fun h => .inl (h ▸ .head _)) fun h => (ih h).imp (.tail _) id
theorem putS_nodup (h : (kK kv).Nodup) : (kK (putS k d kv)).Nodup := by
  induction kv with
  | nil => exact List.nodup_cons.mpr ⟨List.not_mem_nil, List.nodup_nil⟩
  | cons p kv ih =>
    by_cases e : p.1 = k
    · rw [putS_hit e]; exact h
    · rw [putS_miss e]
      have h := List.nodup_cons.mp h
      exact List.nodup_cons.mpr ⟨fun z => (putS_keys z).elim h.1 e, ih h.2⟩
theorem putS_new (h : k ∉ kK kv) : kK (putS k d kv) = kK kv ++ [k] ∧ kV (putS k d kv) = kV kv ++ [d] := by
  induction kv with
  | nil => exact ⟨rfl, rfl⟩
  | cons p kv ih =>
    have ih := ih fun z => h (.tail _ z)
    rw [putS_miss fun e : p.1 = k => h (e ▸ .head _)]
    exact ⟨congrArg (p.1 :: ·) ih.1, congrArg (p.2 :: ·) ih.2⟩
theorem kv_miss (h : k ∉ kK kv) : kv.map (fun p => if p.1 = k then d else p.2) = kV kv := by
  induction kv with
  | nil => rfl
  | cons p kv ih =>
    show (if p.1 = k then d else p.2) :: List.map _ kv = p.2 :: _
    rw [if_neg fun e : p.1 = k => h (e ▸ .head _), ih fun z => h (.tail _ z)]
theorem putS_old (h : k ∈ kK kv) (nd : (kK kv).Nodup) : kK (putS k d kv) = kK kv ∧ kv.map (fun p => if p.1 = k then d else p.2) = kV (putS k d kv) := by
  induction kv with
  | nil => exact nomatch h
  | cons p kv ih =>
    have nd := List.nodup_cons.mp nd
    show _ ∧ (if p.1 = k then d else p.2) :: List.map _ kv = _
    by_cases e : p.1 = k
    · rw [putS_hit e, if_pos e, kv_miss (k := k) (e ▸ nd.1)]; exact ⟨rfl, rfl⟩
    · have ih := ih ((List.mem_cons.mp h).resolve_left (Ne.symm e)) nd.2
      rw [putS_miss e, if_neg e, ih.2]; exact ⟨congrArg (p.1 :: ·) ih.1, rfl⟩
theorem putZ_kv (nd : (kK kv).Nodup) : putZ (kK kv) (kV kv) k d = (kK (putS k d kv), kV (putS k d kv)) := by
  unfold putZ
  by_cases h : k ∈ kK kv
  · rw [if_pos (List.contains_iff_mem.mpr h), zip_kv, (putS_old h nd).1, (putS_old h nd).2]
  · rw [if_neg fun z => h (List.contains_iff_mem.mp z), (putS_new h).1, (putS_new h).2]
end
noncomputable def ancs : List Str → List Str
  | [] => []
  | _ :: p => match p with
    | [] => []
    | _ :: _ => host p :: ancs p
theorem ancs_cons {x : Str} {p : List Str} (h : p ≠ []) : ancs (x :: p) = host p :: ancs p := by
  cases p with
  | nil => exact absurd rfl h
  | cons y r => rfl
theorem ancs_len : ∀ p : List Str, (ancs p).length ≤ p.length := by
  intro p
  induction p with
  | nil => exact Nat.le_refl _
  | cons x p ih =>
    cases p with
    | nil => exact Nat.zero_le _
    | cons y r => exact Nat.succ_le_succ ih
theorem path_len {p : List Str} (h : okP p) : p.length ≤ (host p).length := by
  induction h with
  | one => exact Nat.le_of_ble_eq_true rfl
  | up hx r ih =>
    rw [cl_len, cl_host r.ne, List.length_append]
    exact Nat.le_trans (Nat.succ_le_succ ih) (Nat.le_add_left ..)
section
variable {t s : T} {hs : List Str} {ks : List Kid} {ts : List Int} {N : Nat} {q : List Str}
theorem lab_in {m : Str} (hm : m ∈ marks) : lab "a" m ∈ labs ∧ lab "b" m ∈ labs := ⟨List.mem_append_left _ (List.mem_map_of_mem hm), List.mem_append_right _ (List.mem_map_of_mem hm)⟩
theorem T.okP : ∀ {t : T} {q : List Str}, t.ok q → Mine.okP q → ∀ s ∈ t.subs, Mine.okP s.path := by
  intro t
  induction t with
  | leaf k p => exact fun h ok s hs => T.leaf1 hs ▸ (show p = _ from h) ▸ ok
  | fork k p u l r il ir =>
    intro q h ok s hs
    obtain ⟨m, hm, h4, h5⟩ := h.2.2.2
    have ok : Mine.okP p := h.1 ▸ ok
    exact T.cases3 hs (fun e => e ▸ ok) (il h4 (.up (lab_in hm).1 ok) s) (ir h5 (.up (lab_in hm).2 ok) s)
inductive Par (t s : T) : Prop
  | top (h : s = t)
  | up {s' : T} {x : Str} (h : s' ∈ t.subs) (lt : s'.id < s.id) (e : s.path = x :: s'.path)
theorem T.parent : ∀ {t : T} {q : List Str}, t.ok q → ∀ s ∈ t.subs, Par t s := by
  intro t
  induction t with
  | leaf k p => exact fun _ s hs => .top (T.leaf1 hs)
  | fork k p u l r il ir =>
    intro q h s hs
    obtain ⟨m, hm, h4, h5⟩ := h.2.2.2
    refine T.cases3 hs .top (fun hs => ?_) fun hs => ?_
    · cases il h4 s hs with
      | top e => exact .up (T.self_sub _) (e.symm ▸ h.2.1) ((congrArg T.path e).trans (T.ok_path h4))
      | up a lt e => exact .up (T.in_l a) lt e
    · cases ir h5 s hs with
      | top e => exact .up (T.self_sub _) (e.symm ▸ h.2.2.1) ((congrArg T.path e).trans (T.ok_path h5))
      | up a lt e => exact .up (T.in_r a) lt e
theorem Arr.hlen (A : Arr t hs ks ts N) (hl : ∀ h ∈ hs, h.length ≤ 26) (h : s ∈ t.subs) : (host s.path).length ≤ 26 := hl _ (List.mem_of_getElem? (A.at' s h).h)
noncomputable def wSt (hs : List Str) (bank : List Nat) (kv : Kv) (x3 x4 x5 x6 x7 x8 x9 x10 : Option MV) : St :=
  [fz (.lst (lS hs)), fz (.lst (lN bank)), some (.ownS (kK kv) (kV kv)), x3, x4, x5, x6, x7, x8, x9, x10, none, none, none, none, none]
variable {bank : List Nat} {kv : Kv} {x3 x4 x5 x6 x7 x8 x9 x10 : Option MV} {x : Str} {p : List Str}
theorem eGet {σ : St} {f g h : Ev} {ks : List Str} {vs : List D} {k : Str} {d r : D} {b c e : Bool} (hv : valS ks vs k = some r) (h1 : f σ (.dctS ks vs) b) (h2 : g σ (.str k) c) (h3 : h σ d e) : cGet f g h σ r (b && e) := by
  have := cGet.mk h1 h2 h3
  rwa [hv] at this
theorem dot_from (hl : x.length ≤ 100000) : fromD (.str (sn "." ++ x)) (.int 1) (.str x) := from_str (a := [46]) (n := 1) (cl_append _ _) (Nat.le_trans (s_add (Nat.le_refl 1) hl) (by decide)) rfl
theorem ways_step (h : okP (x :: p)) (hp : okP p) (hl : (host (x :: p)).length ≤ 26) (hl2 : (host p).length ≤ 26) (hk : look kv (host p) = some (.lst (lS (ancs p)))) (nd : (kK kv).Nodup) (n1 : kv.length ≤ 1000000) :
    b_lw_rounds1 ((wSt hs bank kv x3 x4 x5 x6 x7 x8 x9 x10).set 3 (fz (.str (host (x :: p))))) .next (wSt hs bank (putS (host (x :: p)) (.lst (lS (ancs (x :: p)))) kv) (fz (.str (host (x :: p)))) (fz (.str (host p))) x5 x6 x7 x8 x9 x10) := by
  have m2 := Nat.le_trans hl2 (show 26 ≤ 100000 by decide)
  have la : (lS (ancs p)).length ≤ 26 := List.length_map D.str ▸ Nat.le_trans (ancs_len p) (Nat.le_trans (path_len hp) hl2)
  have ad : addD (.lst [.str (host p)]) (.lst (lS (ancs p))) (.lst (lS (ancs (x :: p)))) := ancs_cons hp.ne ▸ .lst (room (Nat.le_refl 1) la)
  have S := xSetS.mk (i := 2) (g := cV 3) (f := cBin addD (cLst (cCons (cV 4) (cNil))) (cGet (cVc 2) (cV 4) (cLst (cNil)))) (σ := wSt hs bank kv (fz (.str (host (x :: p)))) (fz (.str (host p))) x5 x6 x7 x8 x9 x10)
    (rt (cBin.mk (.mk (.mk (eV rfl) .mk)) (eGet (valS_kv.trans hk) (eCs rfl) (eV rfl) (.mk .mk)) ad) rfl) (eV rfl) rfl (List.length_map (fun q : Str × D => q.1) ▸ n1)
  rw [putZ_kv nd] at S
  exact eGo (eAsg (.mk (.mk (.mk (eV rfl) .mk) (g_reach_host h hp (Nat.le_trans hl (by decide)) m2)) .mk (dot_from m2)) rfl) (eEnd S)
structure Ways (t : T) (kv : Kv) (j : Nat) : Prop where
  len : kv.length ≤ j + 1
  nd : (kK kv).Nodup
  at' : ∀ s ∈ t.subs, s.id ≤ j → look kv (host s.path) = some (.lst (lS (ancs s.path)))
inductive WI (t : T) (hs : List Str) (bank : List Nat) (x5 x6 x7 x8 x9 x10 : Option MV) (j : Nat) : St → Prop
  | mk {kv : Kv} {x3 x4 : Option MV} (W : Ways t kv j) : WI t hs bank x5 x6 x7 x8 x9 x10 j (wSt hs bank kv x3 x4 x5 x6 x7 x8 x9 x10)
theorem okL : okP [sn "local"] := .one
theorem Ways.put {j : Nat} (A : Arr t hs ks ts N) (ok : t.ok [sn "local"]) (h : s ∈ t.subs) (e : s.id = j + 1) (W : Ways t kv j) : Ways t (putS (host s.path) (.lst (lS (ancs s.path))) kv) (j + 1) := by
  refine ⟨Nat.le_trans putS_len (Nat.succ_le_succ W.len), putS_nodup W.nd, fun s2 h2 q => ?_⟩
  rw [look_put]
  by_cases z : host s.path = host s2.path
  · rw [if_pos z, host_inj (T.okP ok okL s h) (T.okP ok okL s2 h2) z]
  · rw [if_neg z]
    refine W.at' s2 h2 (Nat.le_of_lt_succ (Nat.lt_of_le_of_ne q fun g => z ?_))
    rw [A.sub_eq h h2 (e.trans g.symm)]
theorem ways_turn {j : Nat} {d : D} {σ : St} (A : Arr t hs ks ts N) (ok : t.ok [sn "local"]) (root : t.id = 0) (hN : N ≤ 1000) (hl : ∀ h ∈ hs, h.length ≤ 26) (hd : ((lS hs).drop 1)[j]? = some d) (I : WI t hs bank x5 x6 x7 x8 x9 x10 j σ) :
    Turn (b_lw_rounds1 (σ.set 3 (fz d))) (WI t hs bank x5 x6 x7 x8 x9 x10 (j + 1)) := by
  rw [List.getElem?_drop, List.getElem?_map] at hd
  obtain ⟨H, e, rfl⟩ := Option.map_eq_some_iff.mp hd
  have hj : 1 + j < N := A.lh ▸ (List.getElem?_eq_some_iff.mp e).1
  obtain ⟨s, hs', ids⟩ := A.sub_at hj
  have hH : H = host s.path := Option.some.inj (e.symm.trans (ids ▸ (A.at' s hs').h))
  subst hH
  have ids : s.id = j + 1 := ids.trans (Nat.add_comm ..)
  cases I with
  | mk W =>
  cases T.parent ok s hs' with
  | top q => exact absurd ((q ▸ root : s.id = 0).symm.trans ids) nofun
  | @up s' x a lt pe =>
    have W' := W.put A ok hs' ids
    have sok := T.okP ok okL s hs'
    have sl := A.hlen hl hs'
    rw [pe] at sok sl W' ⊢
    exact .nx (ways_step sok (T.okP ok okL s' a) sl (A.hlen hl a) (W.at' s' a (Nat.le_of_lt_succ (Nat.lt_of_lt_of_eq lt ids))) W.nd (Nat.le_trans W.len (Nat.le_trans (Nat.succ_le_of_lt (Nat.lt_of_le_of_lt (Nat.le_add_left j 1) hj)) (million hN)))) (.mk W')
theorem ways_start (A : Arr t hs ks ts N) (ok : t.ok [sn "local"]) (root : t.id = 0) : Ways t [(sn "local", .lst [])] 0 :=
  ⟨Nat.le_refl _, List.nodup_cons.mpr ⟨List.not_mem_nil, List.nodup_nil⟩, fun s hs' q => by
    rw [A.sub_eq hs' t.self_sub ((Nat.le_zero.mp q).trans root.symm), T.ok_path ok]; rfl⟩
theorem ways_loop (A : Arr t hs ks ts N) (ok : t.ok [sn "local"]) (h1 : 1 ≤ N) (hN : N ≤ 1000) (hl : ∀ h ∈ hs, h.length ≤ 26) :
    Run (forF 3 b_lw_rounds1 ((lS hs).drop 1) (wSt hs bank [(sn "local", .lst [])] x3 x4 x5 x6 x7 x8 x9 x10)) (WI t hs bank x5 x6 x7 x8 x9 x10 (N - 1)) := by
  have len : ((lS hs).drop 1).length = N - 1 := List.length_drop.trans (congrArg (· - 1) ((List.length_map ..).trans A.lh))
  exact len ▸ for_loop _ _ _ (.mk (ways_start A ok (A.root ok h1))) fun j d σ => ways_turn A ok (A.root ok h1) hN hl
end
theorem compF_filter {α : Type} {ix : Nat} {t : Tr} {elt : Ev} {σ : St} {f g : α → D} {p : α → Bool} : ∀ {xs : List α}, (∀ x ∈ xs, t (σ.set ix (fz (f x))) (p x)) → (∀ x ∈ xs, p x = true → elt (σ.set ix (fz (f x))) (g x) true) → compF ix (some t) elt σ (xs.map f) ((xs.filter p).map g) true := by
  intro xs
  induction xs with
  | nil => exact fun _ _ => .nil
  | cons x xs ih =>
    intro h h2
    have ih := ih (fun y hy => h y (.tail _ hy)) fun y hy => h2 y (.tail _ hy)
    have hx := h x (.head _)
    by_cases q : p x = true
    · rw [List.filter_cons_of_pos q]
      exact .yes (t := some t) (b := true) (c := true) (q ▸ hx) (h2 x (.head _) q) ih
    · rw [List.filter_cons_of_neg q]
      exact .no (t := some t) (Bool.eq_false_iff.mpr q ▸ hx) ih
noncomputable def adj {α β : Type} (f : α → α → β) : List α → List β
  | [] => []
  | x :: l => match l with
    | [] => []
    | y :: _ => f x y :: adj f l
section
variable {α β γ : Type} {f : α → α → β} {g : γ → α} {x y : α}
theorem adj_len : ∀ {l : List α}, (adj f l).length = l.length - 1 := by
  intro l
  induction l with
  | nil => rfl
  | cons x l ih =>
    cases l with
    | nil => rfl
    | cons y l => exact congrArg (· + 1) ih
theorem adj_get : ∀ {l : List α} {j : Nat}, l[j]? = some x → l[j + 1]? = some y → (adj f l)[j]? = some (f x y) := by
  intro l
  induction l with
  | nil => exact fun h _ => nos h
  | cons z l ih =>
    intro j h1 h2
    cases l with
    | nil => exact nos h2
    | cons w l =>
    cases j with
    | zero => exact congrArg some (Option.some.inj h1 ▸ Option.some.inj h2 ▸ rfl)
    | succ j => exact ih h1 h2
end
noncomputable def headL : List Str → Str
  | [] => sn "local"
  | x :: _ => x
noncomputable def common (a b : List Str) : List Str := (ancs a).filter fun d => (ancs b).contains d
noncomputable def meet2 (a b : List Str) : Str := headL (common a b)
theorem head_idx {l : List Str} : idxD (.lst (lS l ++ [.str (sn "local")])) (.int 0) (.str (headL l)) := by
  cases l with
  | nil => exact .lst (n := 0) rfl (by decide)
  | cons x l => exact .lst (n := 0) rfl (by decide)
noncomputable abbrev mL (l : List Str) : Option MV := oL (lS l)
noncomputable abbrev lBo (l : List Bool) : List D := l.map .bool
noncomputable abbrev mB (l : List Bool) : Option MV := oL (lBo l)
noncomputable abbrev pS (ps : List (List Str)) : Option MV := fz (.lst (lS (ps.map host)))
theorem sub1 {j : Nat} : subD (natD (1 + j)) (.int 1) (natD j) := by
  have : natD j = .int (((1 + j : Nat) : Int) - 1) := congrArg D.int (add_cl 1 (j : Int)).symm
  exact this ▸ .int
section
variable {hs : List Str} {bank : List Nat} {kv : Kv} {x3 x4 x5 x6 x7 x8 x9 x10 : Option MV} {ps : List (List Str)} {ms : List Str} {j : Nat} {a b : List Str}
theorem host_ix {n : Nat} (h : ps[n]? = some a) (n1 : ps.length ≤ 1000) : idxD (.lst (lS (ps.map host))) (natD n) (.str (host a)) :=
  ix (t := D.str) (List.length_map host ▸ million n1) (by rw [List.getElem?_map, h]; rfl)
theorem meets_step (ha : ps[j]? = some a) (hb : ps[1 + j]? = some b) (ka : look kv (host a) = some (.lst (lS (ancs a)))) (kb : look kv (host b) = some (.lst (lS (ancs b)))) (n1 : ps.length ≤ 1000) (n2 : a.length ≤ 100) (n3 : ms.length ≤ 1000000) :
    b_lw_rounds2 ((wSt hs bank kv x3 x4 x5 (pS ps) x7 (mL ms) x9 x10).set 5 (fz (natD (1 + j)))) .next (wSt hs bank kv x3 x4 (fz (natD (1 + j))) (pS ps) x7 (mL (ms ++ [meet2 a b])) (fz (.lst (lS (common a b)))) x10) := by
  have la : (lS (ancs a)).length ≤ 100 := List.length_map D.str ▸ Nat.le_trans (ancs_len a) n2
  have lc : (lS (common a b)).length ≤ 100 := List.length_map D.str ▸ Nat.le_trans (List.length_filter_le ..) (List.length_map D.str ▸ la)
  have v1 : idxD (.dctS (kK kv) (kV kv)) (.str (host a)) (.lst (lS (ancs a))) := .dctS (valS_kv.trans ka)
  have v2 : idxD (.dctS (kK kv) (kV kv)) (.str (host b)) (.lst (lS (ancs b))) := .dctS (valS_kv.trans kb)
  have C := cComp.mk (it := iLst (cIdx (cVc 2) (cIdx (cVc 6) (cBin subD (cV 5) (cK (.int 1)))))) (ix := 1) (fv := [none, none, some 5, some 6, some 2]) (t := some (tCmp inD (cV 1) (cIdx (cVc 4) (cIdx (cVc 3) (cV 2))))) (elt := cV 1)
    (σ := wSt hs bank kv x3 x4 (fz (natD (1 + j))) (pS ps) x7 (mL ms) x9 x10) (b := true)
    (.mk (.mk (eCs rfl) (.mk (eC rfl) (.mk (eV rfl) .mk sub1) (host_ix ha n1)) v1) (Nat.le_trans la (by decide)))
    (compF_filter (xs := ancs a) (g := D.str) (p := fun d => (ancs b).contains d) (fun x _ => .mk (eV rfl) (.mk (eCs rfl) (.mk (eC rfl) (eV rfl) (host_ix hb n1)) v2) .lstS) fun x _ _ => eV rfl) (Nat.le_trans la (by decide))
  exact eGo (eAsg (.mk C) rfl) (eEnd (eApp (t := D.str) rfl (.mk (.mk (eV rfl) (.mk (.mk .mk .mk)) (.lst (room (j := 1) lc (Nat.le_refl 1)))) .mk head_idx) rfl rfl n3))
inductive MI (hs : List Str) (bank : List Nat) (kv : Kv) (x3 x4 : Option MV) (ps : List (List Str)) (x7 x10 : Option MV) (j : Nat) : St → Prop
  | mk {y5 y9 : Option MV} : MI hs bank kv x3 x4 ps x7 x10 j (wSt hs bank kv x3 x4 y5 (pS ps) x7 (mL ((adj meet2 ps).take j)) y9 x10)
structure Known (kv : Kv) (p : List Str) : Prop where
  len : p.length ≤ 100
  at' : look kv (host p) = some (.lst (lS (ancs p)))
theorem meets_loop (n1 : ps.length ≤ 1000) (np : ∀ p ∈ ps, Known kv p) :
    Run (forF 5 b_lw_rounds2 (rangeL 1 1 (ps.length - 1)) (wSt hs bank kv x3 x4 x5 (pS ps) x7 (mL []) x9 x10)) (MI hs bank kv x3 x4 ps x7 x10 (ps.length - 1)) := by
  refine up_loop (a := 1) (MI hs bank kv x3 x4 ps x7 x10) .mk fun j σ hj I => ?_
  cases I with
  | mk =>
  have hj1 : 1 + j < ps.length := Nat.add_comm .. ▸ Nat.add_lt_of_lt_sub hj
  obtain ⟨a, ha⟩ := at_some (Nat.lt_of_le_of_lt (Nat.le_add_left ..) hj1)
  obtain ⟨b, hb⟩ := at_some hj1
  have ka := np a (List.mem_of_getElem? ha)
  have kb := np b (List.mem_of_getElem? hb)
  refine .nx (meets_step ha hb ka.at' kb.at' n1 ka.len ?_) ?_
  · exact Nat.le_trans (List.length_take_le' ..) (adj_len.symm ▸ Nat.le_trans (Nat.sub_le ..) (million n1))
  · have : (adj meet2 ps).take (j + 1) = (adj meet2 ps).take j ++ [meet2 a b] := by
      rw [List.take_add_one, adj_get ha (Nat.add_comm .. ▸ hb)]; rfl
    exact this ▸ .mk
noncomputable def keptL : Bool → List Bool → List Bool
  | f, [] => [f]
  | f, d :: ds => (f && !d) :: keptL d ds
theorem keptL_len : ∀ {ds : List Bool} {f : Bool}, (keptL f ds).length = ds.length + 1 := by
  intro ds
  induction ds with
  | nil => exact rfl
  | cons d ds ih => exact congrArg (· + 1) ih
theorem keptL_snoc {d : Bool} : ∀ {ds : List Bool} {f : Bool}, keptL f (ds ++ [d]) = (keptL f ds ++ [true]).set (if d then ds.length else ds.length + 1) false := by
  intro ds
  induction ds with
  | nil =>
    intro f
    cases d with
    | true => exact congrArg (· :: [true]) (Bool.and_false f)
    | false => exact congrArg (· :: [false]) (Bool.and_true f)
  | cons e ds ih =>
    intro f
    have ih := ih (f := e)
    cases d with
    | true => exact congrArg ((f && !e) :: ·) ih
    | false => exact congrArg ((f && !e) :: ·) ih
variable {M : List Str} {K : List Bool} {x y : Str} {d : Bool}
theorem kept_step (hx : M[j]? = some x) (hy : M[1 + j]? = some y) (hd : g_domain_match [.str y, .str (dotted x)] (.bool d)) (lx : x.length ≤ 100000) (hK : 1 + j < K.length) (lK : K.length ≤ 1000000) (hM : M.length ≤ 1000000) :
    b_lw_rounds3 ((wSt hs bank kv x3 x4 x5 x6 x7 (mL M) x9 (mB K)).set 5 (fz (natD (1 + j)))) .next (wSt hs bank kv x3 x4 (fz (natD (1 + j))) x6 x7 (mL M) x9 (mB (K.set (if d then j else 1 + j) false))) := by
  have tr : tVal truD (cFun g_domain_match (cCons (cIdx (cVc 8) (cV 5)) (cCons (cBin addD (cK (.str (sn "."))) (cIdx (cVc 8) (cBin subD (cV 5) (cK (.int 1))))) (cNil)))) (wSt hs bank kv x3 x4 (fz (natD (1 + j))) x6 x7 (mL M) x9 (mB K)) d :=
    .mk (.mk (.mk (.mk (eCl rfl) (eV rfl) (ix hM hy)) (.mk (.mk .mk (.mk (eCl rfl) (.mk (eV rfl) .mk sub1) (ix hM hx)) (.str (room (Nat.le_refl 1) lx))) .mk)) hd) .bool
  cases d with
  | true => exact eEnd (.tt tr (eEnd (eSetL (t := D.bool) (x := false) rfl (.mk (eV rfl) .mk sub1) .mk rfl rfl (Nat.lt_of_le_of_lt (Nat.le_add_left ..) hK) lK)))
  | false => exact eEnd (.ff tr (eEnd (eSetL (t := D.bool) (x := false) rfl (eV rfl) .mk rfl rfl hK lK)))
inductive KI (hs : List Str) (bank : List Nat) (kv : Kv) (x3 x4 x6 x7 : Option MV) (M : List Str) (x9 : Option MV) (ds : List Bool) (j : Nat) : St → Prop
  | mk {y5 : Option MV} {K : List Bool} (e : K = keptL true (ds.take j) ++ List.replicate (M.length - 1 - j) true) : KI hs bank kv x3 x4 x6 x7 M x9 ds j (wSt hs bank kv x3 x4 y5 x6 x7 (mL M) x9 (mB K))
theorem kept_loop {ds : List Bool} (n1 : M.length ≤ 1000) (lM : ∀ x ∈ M, x.length ≤ 100000) (hds : ds.length = M.length - 1) (pos : 1 ≤ M.length)
    (hd : ∀ j x y, M[j]? = some x → M[1 + j]? = some y → ∃ d, ds[j]? = some d ∧ g_domain_match [.str y, .str (dotted x)] (.bool d)) :
    Run (forF 5 b_lw_rounds3 (rangeL 1 1 (M.length - 1)) (wSt hs bank kv x3 x4 x5 x6 x7 (mL M) x9 (mB (List.replicate M.length true)))) (KI hs bank kv x3 x4 x6 x7 M x9 ds (M.length - 1)) := by
  have e0 : List.replicate M.length true = keptL true (ds.take 0) ++ List.replicate (M.length - 1 - 0) true := by
    obtain ⟨m, hm⟩ : ∃ m, M.length = m + 1 := ⟨_, (Nat.sub_add_cancel pos).symm⟩
    rw [hm]; rfl
  refine up_loop (a := 1) (KI hs bank kv x3 x4 x6 x7 M x9 ds) (.mk e0) fun j σ hj I => ?_
  cases I with
  | @mk y5 K e =>
  have hj1 : 1 + j < M.length := Nat.add_comm .. ▸ Nat.add_lt_of_lt_sub hj
  obtain ⟨a, ha⟩ := at_some (Nat.lt_of_le_of_lt (Nat.le_add_left ..) hj1)
  obtain ⟨b, hb⟩ := at_some hj1
  obtain ⟨d, h1, h2⟩ := hd j a b ha hb
  have tl : (ds.take j).length = j := List.length_take_of_le (hds ▸ Nat.le_of_lt hj)
  obtain ⟨m, hm⟩ : ∃ m, M.length - 1 - j = m + 1 := ⟨_, (Nat.sub_add_cancel (Nat.sub_pos_of_lt hj)).symm⟩
  have kl : K.length = M.length := by
    rw [e, List.length_append, keptL_len, tl, List.length_replicate, Nat.add_right_comm, Nat.add_sub_cancel' (Nat.le_of_lt hj), Nat.sub_add_cancel pos]
  refine .nx (kept_step ha hb h2 (lM a (List.mem_of_getElem? ha)) (kl ▸ hj1) (kl ▸ million n1) (million n1)) (.mk ?_)
  have hm2 : M.length - 1 - (j + 1) = m := by rw [Nat.sub_succ, hm]; rfl
  have e1 : K = keptL true (ds.take j) ++ [true] ++ List.replicate m true := by rw [e, hm, List.replicate_succ, List.append_assoc]; rfl
  have lt : (if d then j else 1 + j) < (keptL true (ds.take j) ++ [true]).length := by
    rw [app_len rfl, keptL_len, tl]
    cases d with
    | true => exact Nat.lt_succ_of_lt (Nat.lt_succ_self _)
    | false => exact Nat.add_comm .. ▸ Nat.lt_succ_self _
  rw [hm2, List.take_add_one, h1, e1, List.set_append_left _ _ lt]
  refine congrArg (· ++ List.replicate m true) (Eq.trans ?_ keptL_snoc.symm)
  rw [tl, Nat.add_comm 1 j]
end
noncomputable def T.row (m : Nat) : T → List T
  | .leaf k p => if m = 1 then [.leaf k p] else []
  | .fork k p u l r => if l.ord = r.ord ∧ m = l.ord + 1 then [.fork k p u l r] else l.row m ++ r.row m
noncomputable def T.mts (m : Nat) : T → List T
  | .leaf _ _ => []
  | .fork k p u l r => if m ≤ l.ord ∧ m ≤ r.ord then l.mts m ++ .fork k p u l r :: r.mts m else l.mts m ++ r.mts m
section
variable {m k : Nat} {p q : List Str} {u : Bool} {l r t s : T}
theorem T.row_here (c : l.ord = r.ord ∧ m = l.ord + 1) : (T.fork k p u l r).row m = [.fork k p u l r] := if_pos c
theorem T.row_low (c : ¬ (l.ord = r.ord ∧ m = l.ord + 1)) : (T.fork k p u l r).row m = l.row m ++ r.row m := if_neg c
theorem T.mts_here (c : m ≤ l.ord ∧ m ≤ r.ord) : (T.fork k p u l r).mts m = l.mts m ++ .fork k p u l r :: r.mts m := if_pos c
theorem T.mts_low (c : ¬ (m ≤ l.ord ∧ m ≤ r.ord)) : (T.fork k p u l r).mts m = l.mts m ++ r.mts m := if_neg c
theorem T.ord_eq (c : l.ord = r.ord) : (T.fork k p u l r).ord = l.ord + 1 := if_pos c
theorem T.ord_l : l.ord ≤ (T.fork k p u l r).ord := ord_up.1
theorem T.ord_r : r.ord ≤ (T.fork k p u l r).ord := ord_up.2
theorem le_max' {a b m : Nat} (h : m ≤ max a b) : m ≤ a ∨ m ≤ b := by
  by_cases q : a ≤ b
  · rw [Nat.max_eq_right q] at h; exact .inr h
  · rw [Nat.max_eq_left (Nat.le_of_not_le q)] at h; exact .inl h
theorem T.ord_split (h : m ≤ (T.fork k p u l r).ord) (c : ¬ (l.ord = r.ord ∧ m = l.ord + 1)) : m ≤ l.ord ∨ m ≤ r.ord := by
  by_cases e : l.ord = r.ord
  · rw [T.ord_eq e] at h; exact .inl (Nat.le_of_lt_succ (Nat.lt_of_le_of_ne h fun z => c ⟨e, z⟩))
  · exact le_max' (Nat.le_trans h (Nat.le_of_eq (if_neg e)))
theorem T.row_big : ∀ {t : T}, t.ord < m → t.row m = [] := by
  intro t
  induction t with
  | leaf k p => exact fun h => if_neg (Nat.ne_of_gt h)
  | fork k p u l r il ir =>
    intro h
    rw [T.row_low fun c => Nat.ne_of_lt h ((T.ord_eq c.1).trans c.2.symm), il (Nat.lt_of_le_of_lt T.ord_l h), ir (Nat.lt_of_le_of_lt T.ord_r h)]; rfl
theorem T.row_ne (h1 : 1 ≤ m) : ∀ {t : T}, m ≤ t.ord → t.row m ≠ [] := by
  intro t
  induction t with
  | leaf k p => exact fun h e => absurd ((if_pos (Nat.le_antisymm h h1)).symm.trans e) nofun
  | fork k p u l r il ir =>
    intro h
    by_cases c : l.ord = r.ord ∧ m = l.ord + 1
    · rw [T.row_here c]; exact nofun
    · rw [T.row_low c]
      exact (T.ord_split h c).elim (fun h => List.append_ne_nil_of_left_ne_nil (il h) _) fun h => List.append_ne_nil_of_right_ne_nil _ (ir h)
theorem T.mts_big : ∀ {t : T}, t.ord ≤ m → t.mts m = [] := by
  intro t
  induction t with
  | leaf k p => exact fun _ => rfl
  | fork k p u l r il ir =>
    intro h
    have hl := Nat.le_trans T.ord_l h
    have hr := Nat.le_trans T.ord_r h
    rw [T.mts_low fun c => ?_, il hl, ir hr]
    · rfl
    · have a := Nat.le_antisymm hl c.1
      rw [T.ord_eq (a.trans (Nat.le_antisymm c.2 hr)), a] at h
      exact Nat.not_succ_le_self _ h
theorem T.row_sub : ∀ {t : T}, ∀ s ∈ t.row m, s ∈ t.subs := by
  intro t
  induction t with
  | leaf k p =>
    intro s h
    by_cases c : m = 1
    · have e : (T.leaf k p).row m = [.leaf k p] := if_pos c
      rw [e] at h; exact h
    · have e : (T.leaf k p).row m = [] := if_neg c
      rw [e] at h; exact nomatch h
  | fork k p u l r il ir =>
    intro s h
    by_cases c : l.ord = r.ord ∧ m = l.ord + 1
    · rw [T.row_here c] at h; exact List.mem_singleton.mp h ▸ T.self_sub _
    · rw [T.row_low c] at h
      exact (List.mem_append.mp h).elim (fun h => T.in_l (il s h)) fun h => T.in_r (ir s h)
theorem T.mts_sub : ∀ {t : T}, ∀ s ∈ t.mts m, s ∈ t.subs := by
  intro t
  induction t with
  | leaf k p => exact fun _ h => nomatch h
  | fork k p u l r il ir =>
    intro s h
    by_cases c : m ≤ l.ord ∧ m ≤ r.ord
    · rw [T.mts_here c] at h
      exact (List.mem_append.mp h).elim (fun h => T.in_l (il s h)) fun h => (List.mem_cons.mp h).elim (fun e => e ▸ T.self_sub _) fun h => T.in_r (ir s h)
    · rw [T.mts_low c] at h
      exact (List.mem_append.mp h).elim (fun h => T.in_l (il s h)) fun h => T.in_r (ir s h)
noncomputable def desc (x y : T) : Bool := decide (x.path.length < y.path.length)
noncomputable def kp : Bool → List T → List T
  | _, [] => []
  | f, x :: l => match l with
    | [] => if f then [x] else []
    | y :: _ => if f && !desc x y then x :: kp (desc x y) l else kp (desc x y) l
theorem if_app {α : Type} {f : Bool} {x : α} {l : List α} : (if f then x :: l else l) = (if f then [x] else []) ++ l := by cases f <;> rfl
theorem kp_left {B : List T} : ∀ {A : List T} {f : Bool}, A ≠ [] → (∀ a ∈ A, t.path.length < a.path.length) → kp f (A ++ t :: B) = kp f A ++ kp false (t :: B) := by
  intro A
  induction A with
  | nil => exact fun h _ => absurd rfl h
  | cons a A ih =>
    intro f _ h
    cases A with
    | nil =>
      have : desc a t = false := decide_eq_false (Nat.lt_asymm (h a (.head _)))
      show (if f && !desc a t then a :: kp (desc a t) (t :: B) else kp (desc a t) (t :: B)) = (if f then [a] else []) ++ _
      rw [this, if_app, Bool.not_false, Bool.and_true]
    | cons b A =>
      have ih := ih (f := desc a b) nofun fun x hx => h x (.tail _ hx)
      show (if f && !desc a b then a :: kp (desc a b) (b :: A ++ t :: B) else kp (desc a b) (b :: A ++ t :: B)) = (if f && !desc a b then a :: kp (desc a b) (b :: A) else kp (desc a b) (b :: A)) ++ _
      rw [ih, if_app (l := kp (desc a b) (b :: A) ++ kp false (t :: B)), if_app (l := kp (desc a b) (b :: A)), List.append_assoc]
theorem kp_right {b : T} {B : List T} {f : Bool} (h : t.path.length < b.path.length) : kp f (t :: b :: B) = kp true (b :: B) := by
  have : desc t b = true := decide_eq_true h
  show (if f && !desc t b then t :: kp (desc t b) (b :: B) else kp (desc t b) (b :: B)) = _
  rw [this, Bool.not_true, Bool.and_false]; rfl
theorem T.under : ∀ {t : T} {q : List Str}, t.ok q → ∀ s ∈ t.subs, ∃ u, s.path = u ++ q := by
  intro t
  induction t with
  | leaf k p => exact fun h s hs => ⟨[], T.leaf1 hs ▸ h⟩
  | fork k p u l r il ir =>
    intro q h s hs
    obtain ⟨m, hm, h4, h5⟩ := h.2.2.2
    rw [h.1] at h4 h5
    exact T.cases3 hs (fun e => ⟨[], e ▸ h.1⟩) (fun hs => (il h4 s hs).elim fun v e => ⟨v ++ [lab "a" m], e.trans (List.append_assoc v [_] q).symm⟩) fun hs => (ir h5 s hs).elim fun v e => ⟨v ++ [lab "b" m], e.trans (List.append_assoc v [_] q).symm⟩
theorem T.deeper {x : Str} (h : t.ok (x :: p)) (hs : s ∈ t.subs) : p.length < s.path.length :=
  (T.under h s hs).elim fun v e => by rw [e, List.length_append]; exact Nat.le_add_left ..
theorem kept_row (h1 : 1 ≤ m) : ∀ {t : T} {q : List Str}, t.ok q → kp true (t.mts m) = t.row (m + 1) := by
  intro t
  induction t with
  | leaf k p => exact fun _ => (if_neg (c := m + 1 = 1) fun e => Nat.ne_of_gt h1 (Nat.succ.inj e)).symm
  | fork k p u l r jl jr =>
    intro q ok
    obtain ⟨m', hm', h4, h5⟩ := ok.2.2.2
    have il := jl h4
    have ir := jr h5
    have dl : ∀ a ∈ l.mts m, p.length < a.path.length := fun a ha => T.deeper h4 (T.mts_sub a ha)
    have dr : ∀ a ∈ r.mts m, p.length < a.path.length := fun a ha => T.deeper h5 (T.mts_sub a ha)
    have emp : ∀ {s : T}, kp true (s.mts m) = s.row (m + 1) → s.mts m = [] → s.ord ≤ m := fun {s} g z => by
      rw [z] at g
      exact (Nat.lt_or_ge m s.ord).elim (fun q => absurd g.symm (T.row_ne (Nat.le_succ_of_le h1) q)) id
    have nb : (l.mts m ≠ [] ∨ r.mts m ≠ []) → ¬ (l.ord = r.ord ∧ m + 1 = l.ord + 1) := fun z w =>
      have e := Nat.succ.inj w.2
      z.elim (fun z => z (T.mts_big (Nat.le_of_eq e.symm))) fun z => z (T.mts_big (Nat.le_of_eq (w.1.symm.trans e.symm)))
    have fin : ∀ f, r.mts m ≠ [] → kp f (.fork k p u l r :: r.mts m) = r.row (m + 1) := fun f z => by
      rw [← ir]
      cases e : r.mts m with
      | nil => exact absurd e z
      | cons b B => exact kp_right (dr b (e ▸ .head _))
    by_cases c : m ≤ l.ord ∧ m ≤ r.ord
    · rw [T.mts_here c]
      by_cases zl : l.mts m = []
      · by_cases zr : r.mts m = []
        · have a := Nat.le_antisymm (emp il zl) c.1
          have b := Nat.le_antisymm (emp ir zr) c.2
          rw [zl, zr, T.row_here ⟨a.trans b.symm, congrArg (· + 1) a.symm⟩]; rfl
        · rw [T.row_low (nb (.inr zr)), ← il, zl]; exact fin true zr
      · rw [T.row_low (nb (.inl zl)), kp_left (t := .fork k p u l r) zl dl, il]
        by_cases zr : r.mts m = []
        · rw [zr, ← ir, zr]; rfl
        · rw [fin false zr]
    · rw [T.mts_low c]
      by_cases zl : m ≤ l.ord
      · have hr := Nat.lt_of_not_le fun z => c ⟨zl, z⟩
        rw [T.mts_big (Nat.le_of_lt hr), List.append_nil, il, T.row_low fun w => Nat.not_le_of_lt hr (w.1 ▸ zl), T.row_big (t := r) (Nat.lt_succ_of_lt hr), List.append_nil]
      · have hl := Nat.lt_of_not_le zl
        rw [T.mts_big (Nat.le_of_lt hl), List.nil_append, ir, T.row_low fun w => Nat.ne_of_lt hl (Nat.succ.inj w.2).symm, T.row_big (t := l) (Nat.lt_succ_of_lt hl), List.nil_append]
inductive Adj {α : Type} (R : α → α → Prop) : List α → Prop
  | nil : Adj R []
  | one {x : α} : Adj R [x]
  | more {x y : α} {l : List α} (h : R x y) (r : Adj R (y :: l)) : Adj R (x :: y :: l)
theorem Adj.mid {α : Type} {R : α → α → Prop} {t : α} {A B : List α} (hA : Adj R A) (hB : Adj R B) (rb : ∀ b ∈ B, R t b) (ra : ∀ a ∈ A, R a t) : Adj R (A ++ t :: B) := by
  have h0 : Adj R (t :: B) := by
    cases B with
    | nil => exact .one
    | cons b B => exact .more (rb b (.head _)) hB
  induction hA with
  | nil => exact h0
  | one => exact .more (ra _ (.head _)) h0
  | more h r ih => exact .more h (ih fun a ha => ra a (.tail _ ha))
theorem Adj.get {α : Type} {R : α → α → Prop} {l : List α} (hA : Adj R l) : ∀ {j : Nat} {x y : α}, l[j]? = some x → l[j + 1]? = some y → R x y := by
  induction hA with
  | nil => exact fun h _ => nos h
  | one => exact fun _ h => nos h
  | more h r ih =>
    intro j x y h1 h2
    cases j with
    | zero => exact Option.some.inj h1 ▸ Option.some.inj h2 ▸ h
    | succ j => exact ih h1 h2
inductive Kin (x y : T) : Prop
  | down {u : List Str} (h : u ≠ []) (e : y.path = u ++ x.path)
  | up {u : List Str} (h : u ≠ []) (e : x.path = u ++ y.path)
theorem T.kin {x : Str} (h : t.ok (x :: p)) (hs : s ∈ t.subs) : ∃ v, v ≠ [] ∧ s.path = v ++ p :=
  (T.under h s hs).elim fun v e => ⟨v ++ [x], List.append_ne_nil_of_right_ne_nil _ nofun, e.trans (List.append_assoc v [_] p).symm⟩
theorem mts_adj : ∀ {t : T} {q : List Str}, t.ok q → Adj Kin (t.mts m) := by
  intro t
  induction t with
  | leaf k p => exact fun _ => .nil
  | fork k p u l r jl jr =>
    intro q ok
    obtain ⟨m', hm', h4, h5⟩ := ok.2.2.2
    by_cases c : m ≤ l.ord ∧ m ≤ r.ord
    · rw [T.mts_here c]
      exact (jl h4).mid (jr h5) (fun b hb => (T.kin h5 (T.mts_sub b hb)).elim fun v e => .down e.1 e.2) fun a ha => (T.kin h4 (T.mts_sub a ha)).elim fun v e => .up e.1 e.2
    · rw [T.mts_low c]
      by_cases zl : m ≤ l.ord
      · rw [T.mts_big (t := r) (Nat.le_of_lt (Nat.lt_of_not_le fun z => c ⟨zl, z⟩)), List.append_nil]; exact jl h4
      · rw [T.mts_big (t := l) (Nat.le_of_lt (Nat.lt_of_not_le zl)), List.nil_append]; exact jr h5
end
section
variable {m k : Nat} {p q : List Str} {u : Bool} {l r t s : T}
inductive InAncs (b : List Str) (x : Str) : Prop
  | mk {w s : List Str} (h : s ≠ []) (e : b = w ++ s) (e2 : x = host s)
theorem ancs_mem {x : Str} : ∀ {b : List Str}, x ∈ ancs b → InAncs b x := by
  intro b
  induction b with
  | nil => exact fun h => nomatch h
  | cons z b ih =>
    cases b with
    | nil => exact fun h => nomatch h
    | cons y r =>
      intro h
      refine (List.mem_cons.mp h).elim (fun h => .mk (w := [z]) (s := y :: r) nofun rfl h) fun h => ?_
      cases ih h with
      | @mk w s h e e2 => exact .mk (w := z :: w) h (congrArg (z :: ·) e) e2
theorem ancs_has {c : List Str} (hc : c ≠ []) : ∀ {v : List Str}, v ≠ [] → host c ∈ ancs (v ++ c) := by
  intro v
  induction v with
  | nil => exact fun h => absurd rfl h
  | cons x v ih =>
    intro _
    cases v with
    | nil => exact ancs_cons (x := x) hc ▸ .head _
    | cons y v => exact .tail _ (ih nofun)
theorem okP.of_append (hq : q ≠ []) : ∀ {u : List Str}, okP (u ++ q) → okP q := by
  intro u
  induction u with
  | nil => exact id
  | cons x u ih => exact fun h => ih (h.tail (List.append_ne_nil_of_right_ne_nil _ hq))
theorem common_at {la lb : Str} {c v : List Str} (hc : c ≠ []) (hne : la ≠ lb) (ob : okP (v ++ lb :: c)) : ∀ {u : List Str}, okP (u ++ la :: c) → ∃ rest, common (u ++ la :: c) (v ++ lb :: c) = host c :: rest := by
  have hv : v ++ lb :: c = (v ++ [lb]) ++ c := (List.append_assoc v [lb] c).symm
  intro u
  induction u with
  | nil =>
    intro _
    have h : (ancs (v ++ lb :: c)).contains (host c) = true := List.contains_iff_mem.mpr (hv ▸ ancs_has hc (List.append_ne_nil_of_right_ne_nil _ nofun))
    exact ⟨_, by unfold common; rw [List.nil_append, ancs_cons hc]; exact List.filter_cons_of_pos h⟩
  | cons x u ih =>
    intro h
    have ne : u ++ la :: c ≠ [] := List.append_ne_nil_of_right_ne_nil _ nofun
    have ok : okP (u ++ la :: c) := h.tail ne
    have no : ¬ (ancs (v ++ lb :: c)).contains (host (u ++ la :: c)) = true := fun q => by
      cases ancs_mem (List.contains_iff_mem.mp q) with
      | @mk w s h2 h3 h4 =>
      have es := host_inj ok ((h3 ▸ ob : okP (w ++ s)).of_append h2) h4
      subst es
      have e1 : (v ++ [lb]) ++ c = ((w ++ u) ++ [la]) ++ c := hv.symm.trans (h3.trans ((List.append_assoc w u _).symm.trans (List.append_assoc (w ++ u) [la] c).symm))
      exact hne (List.cons.inj (List.append_inj' (List.append_cancel_right e1) rfl).2).1.symm
    refine (ih ok).imp fun rest e => ?_
    rw [← e]
    unfold common
    rw [List.cons_append, ancs_cons ne]
    exact List.filter_cons_of_neg no
theorem meet2_at {la lb : Str} {c u v : List Str} (hc : c ≠ []) (hne : la ≠ lb) (oa : okP (u ++ la :: c)) (ob : okP (v ++ lb :: c)) : meet2 (u ++ la :: c) (v ++ lb :: c) = host c :=
  (common_at hc hne ob oa).elim fun _ e => congrArg headL e
theorem adj_app {α β : Type} {f : α → α → β} {c : β} {bs : List α} (hb : bs ≠ []) : ∀ {as : List α}, as ≠ [] → (∀ a ∈ as, ∀ b ∈ bs, f a b = c) → adj f (as ++ bs) = adj f as ++ c :: adj f bs := by
  intro as
  induction as with
  | nil => exact fun h => absurd rfl h
  | cons a as ih =>
    intro _ h
    cases as with
    | nil =>
      cases bs with
      | nil => exact absurd rfl hb
      | cons b bs => exact congrArg (· :: adj f (b :: bs)) (h a (.head _) b (.head _))
    | cons a' as => exact congrArg (f a a' :: ·) (ih nofun fun x hx => h x (.tail _ hx))
theorem lab_ne (m m' : Str) : lab "a" m ≠ lab "b" m' := fun h => by
  have := congrArg cl h
  unfold lab at this
  rw [cl_append, cl_append] at this
  exact absurd (List.cons.inj this).1 (by decide)
theorem map_ne {α β : Type} {f : α → β} {l : List α} (h : l ≠ []) : l.map f ≠ [] := fun e => h (List.map_eq_nil_iff.mp e)
theorem adj_meets (h1 : 1 ≤ m) : ∀ {t : T} {q : List Str}, t.ok q → okP q → adj meet2 ((t.row m).map T.path) = (t.mts m).map fun s => host s.path := by
  intro t
  induction t with
  | leaf k p =>
    intro q _ _
    show adj meet2 (List.map T.path (if m = 1 then [.leaf k p] else [])) = []
    by_cases c : m = 1
    · rw [if_pos c]; rfl
    · rw [if_neg c]; rfl
  | fork k p u l r jl jr =>
    intro q ok oq
    obtain ⟨m', hm', h4, h5⟩ := ok.2.2.2
    have oq : okP p := ok.1 ▸ oq
    have ol : okP (lab "a" m' :: p) := .up (lab_in hm').1 oq
    have or' : okP (lab "b" m' :: p) := .up (lab_in hm').2 oq
    have il := jl h4 ol
    have ir := jr h5 or'
    by_cases c : l.ord = r.ord ∧ m = l.ord + 1
    · have a : l.ord < m := c.2 ▸ Nat.lt_succ_self _
      rw [T.row_here c, T.mts_low fun z => Nat.not_le_of_lt a z.1, T.mts_big (t := l) (Nat.le_of_lt a), T.mts_big (t := r) (c.1 ▸ Nat.le_of_lt a)]; rfl
    · rw [T.row_low c, List.map_append]
      by_cases d : m ≤ l.ord ∧ m ≤ r.ord
      · rw [T.mts_here d, adj_app (c := host p) (map_ne (T.row_ne h1 d.2)) (map_ne (T.row_ne h1 d.1)) fun a ha b hb => ?_, il, ir, List.map_append]
        · rfl
        · obtain ⟨s, hs, rfl⟩ := List.mem_map.mp ha
          obtain ⟨s', hs', rfl⟩ := List.mem_map.mp hb
          have os := T.okP h4 ol s (T.row_sub s hs)
          have os' := T.okP h5 or' s' (T.row_sub s' hs')
          obtain ⟨v, e⟩ := T.under h4 s (T.row_sub s hs)
          obtain ⟨v', e'⟩ := T.under h5 s' (T.row_sub s' hs')
          rw [e] at os ⊢
          rw [e'] at os' ⊢
          exact meet2_at oq.ne (lab_ne m' m') os os'
      · rw [T.mts_low d]
        by_cases zl : m ≤ l.ord
        · have hr := Nat.lt_of_not_le fun z => d ⟨zl, z⟩
          rw [T.mts_big (t := r) (Nat.le_of_lt hr), List.append_nil, T.row_big (t := r) hr, List.map_nil, List.append_nil]; exact il
        · have hl := Nat.lt_of_not_le zl
          rw [T.mts_big (t := l) (Nat.le_of_lt hl), List.nil_append, T.row_big (t := l) hl, List.map_nil, List.nil_append]; exact ir
noncomputable def T.is (m : Nat) (s : T) : Bool := s.beg && s.ord == m
theorem row_filter : ∀ (t : T), t.row m = t.subs.filter (T.is m) := by
  intro t
  induction t with
  | leaf k p =>
    by_cases h : m = 1
    · subst h; rfl
    · have e : ¬ T.is m (.leaf k p) = true := fun z => h (eq_of_beq (show (1 == m) = true from z)).symm
      show _ = List.filter (T.is m) [.leaf k p]
      rw [List.filter_cons_of_neg e]; exact if_neg h
  | fork k p u l r il ir =>
    show _ = List.filter _ (_ :: (_ ++ _))
    by_cases c : l.ord = r.ord ∧ m = l.ord + 1
    · have e : T.is m (.fork k p u l r) = true := by
        show (l.ord == r.ord && (T.fork k p u l r).ord == m) = true
        rw [T.ord_eq c.1, c.2, beq_self_eq_true, Bool.and_true]; exact beq_iff_eq.mpr c.1
      have a : l.ord < m := c.2 ▸ Nat.lt_succ_self _
      rw [List.filter_cons_of_pos e, List.filter_append, ← il, ← ir, T.row_here c, T.row_big (t := l) a, T.row_big (t := r) (c.1 ▸ a)]; rfl
    · have e : ¬ T.is m (.fork k p u l r) = true := fun z => by
        have z := Bool.and_eq_true_iff.mp z
        have z1 : l.ord = r.ord := eq_of_beq z.1
        exact c ⟨z1, ((T.ord_eq z1).symm.trans (eq_of_beq z.2)).symm⟩
      rw [List.filter_cons_of_neg e, List.filter_append, ← il, ← ir, T.row_low c]
theorem row_perm {hs : List Str} {ks : List Kid} {ts : List Int} {N : Nat} (A : Arr t hs ks ts N) (m : Nat) : ((t.row (m + 1)).map fun s => host s.path).Perm (rowTo t m N) := by
  have e : (t.row (m + 1)).map (fun s => host s.path) = (t.ids.filter (t.hit m)).map fun k => host (t.at k).path := by
    rw [row_filter, T.ids, List.filter_map, List.map_map]
    rw [show t.subs.filter (T.is (m + 1)) = t.subs.filter (t.hit m ∘ T.id) from List.filter_congr fun s hs' => by
      show _ = ((t.at s.id).beg && (t.at s.id).ord == m + 1)
      rw [A.at_sub hs']; rfl]
    exact List.map_congr_left fun s hs' => by
      show _ = host (t.at s.id).path
      rw [A.at_sub (List.mem_filter.mp hs').1]
  rw [e]
  exact (A.perm.filter _).map _
theorem row_one : ∀ t : T, (t.row 1).map T.id = t.bank := by
  intro t
  induction t with
  | leaf => rfl
  | fork k p u l r il ir =>
    rw [T.row_low fun c => Nat.ne_of_lt (Nat.lt_succ_of_le l.ord_pos) c.2, List.map_append, il, ir]; rfl
noncomputable def keepBy {α : Type} : List α → List Bool → List α
  | x :: xs, b :: bs => if b then x :: keepBy xs bs else keepBy xs bs
  | _, _ => []
theorem keep_kp : ∀ {M : List T} {f : Bool}, keepBy M (keptL f (adj desc M)) = kp f M := by
  intro M
  induction M with
  | nil => exact rfl
  | cons x M ih =>
    intro f
    cases M with
    | nil => rfl
    | cons y M =>
      have ih := ih (f := desc x y)
      show (if f && !desc x y then x :: keepBy (y :: M) (keptL (desc x y) (adj desc (y :: M))) else keepBy (y :: M) (keptL (desc x y) (adj desc (y :: M)))) = _
      rw [ih]; rfl
theorem keepBy_map {α β : Type} {g : α → β} : ∀ {xs : List α} {bs : List Bool}, keepBy (xs.map g) bs = (keepBy xs bs).map g := by
  intro xs
  induction xs with
  | nil => exact rfl
  | cons x xs ih =>
    intro bs
    cases bs with
    | nil => rfl
    | cons b bs =>
      cases b with
      | true => exact congrArg (g x :: ·) ih
      | false => exact ih
theorem host_append : ∀ {u : List Str}, okP (u ++ q) → u ≠ [] → q ≠ [] → ∃ z, cl (host (u ++ q)) = z ++ 46 :: cl (host q) := by
  intro u
  induction u with
  | nil => exact fun _ h => absurd rfl h
  | cons x u ih =>
    intro h _ hq
    cases u with
    | nil => exact ⟨cl x, cl_host hq⟩
    | cons y u =>
      obtain ⟨z, e⟩ := ih (h.tail nofun) nofun hq
      exact ⟨cl x ++ 46 :: z, (cl_host (p := y :: u ++ q) nofun).trans (by rw [e, List.append_assoc]; rfl)⟩
theorem host_longer {u : List Str} (h : okP (u ++ q)) (hu : u ≠ []) (hq : q ≠ []) : (host q).length ≤ (host (u ++ q)).length :=
  (host_append h hu hq).elim fun z e => by rw [cl_len, cl_len, e, List.length_append]; exact Nat.le_trans (Nat.le_succ _) (Nat.le_add_left ..)
theorem dm_kin {s' : T} (o : okP s.path) (o' : okP s'.path) (l : (host s.path).length ≤ 100000) (l' : (host s'.path).length ≤ 100000) (h : Kin s s') : g_domain_match [.str (host s'.path), .str (dotted (host s.path))] (.bool (desc s s')) := by
  cases h with
  | @down u hu e =>
    have d : desc s s' = true := decide_eq_true (by rw [e, List.length_append]; exact Nat.lt_add_of_pos_left (List.length_pos_iff.mpr hu))
    obtain ⟨z, ez⟩ := host_append (e ▸ o' : okP (u ++ s.path)) hu o.ne
    rw [d]
    exact dm_true (host_hd o') (host_hd o) l' l (e ▸ ez)
  | @up u hu e =>
    have d : desc s s' = false := decide_eq_false (by rw [e, List.length_append]; exact Nat.not_lt.mpr (Nat.le_add_left ..))
    rw [d]
    exact dm_false (host_hd o') (host_hd o) l' l (e ▸ host_longer (e ▸ o) hu o'.ne)
end
theorem rangeL_nat {n : Nat} : rangeL 0 1 n = (List.range' 0 n).map natD := by
  rw [← List.range_eq_range']
  exact List.map_congr_left fun k _ => congrArg D.int (show (0 : Int) + (k : Int) * 1 = k by rw [Int.zero_add, Int.mul_one])
theorem range1 {n : Nat} (h : n ≤ 1000000) : rangeF [.int 1, natD n] (rangeL 1 1 (n - 1)) := by
  have := rangeF.two (a := 1) (b := n) rfl (small_nat (Nat.lt_of_le_of_lt h (by decide)))
  rwa [show ((n : Int) - 1).toNat = n - 1 from Int.toNat_sub n 1] at this
theorem at_mid {α : Type} {A l : List α} {x : α} : (A ++ x :: l)[A.length]? = some x := (List.getElem?_append_right (Nat.le_refl _)).trans (by rw [Nat.sub_self]; rfl)
section
variable {M : List Str} {K : List Bool}
theorem comp_keep (hM : M.length ≤ 1000000) (hK : K.length ≤ 1000000) : ∀ {xs : List Str} {bs B : List Bool} {A : List Str}, bs.length = xs.length → A.length = B.length → M = A ++ xs → K = B ++ bs →
    compF 1 (some (tVal truD (cIdx (cVc 2) (cV 1)))) (cIdx (cVc 3) (cV 1)) [none, none, mB K, mL M] ((List.range' A.length xs.length).map natD) (lS (keepBy xs bs)) true := by
  intro xs
  induction xs with
  | nil =>
    intro bs B A _ _ _ _
    exact .nil
  | cons x xs ih =>
    intro bs B A hl hA eM eK
    cases bs with
    | nil => exact absurd hl nofun
    | cons b bs =>
    have r := ih (B := B ++ [b]) (A := A ++ [x]) (Nat.succ.inj hl) ((app_len hA).trans (app_len rfl).symm) (eM.trans (List.append_assoc A [x] xs).symm) (eK.trans (List.append_assoc B [b] bs).symm)
    rw [app_len rfl] at r
    have ib := ix (t := D.bool) (n := A.length) hK (by rw [eK, hA]; exact at_mid)
    cases b with
    | true => exact .yes (b := true) (c := true) (.mk (.mk (eCl rfl) (eV rfl) ib) .bool) (.mk (eCl rfl) (eV rfl) (ix (t := D.str) hM (by rw [eM]; exact at_mid))) r
    | false => exact .no (.mk (.mk (eCl rfl) (eV rfl) ib) .bool) r
variable {hs : List Str} {bank : List Nat} {kv : Kv} {x3 x4 x5 x6 x7 x8 x9 x10 : Option MV} {rs : List D} {ps : List (List Str)} {ds : List Bool}
inductive KR (hs : List Str) (bank : List Nat) (kv : Kv) (x3 x4 x6 x7 : Option MV) (M : List Str) (x9 : Option MV) (ds : List Bool) : St → Prop
  | mk {y5 : Option MV} {K : List Bool} (l : K.length = M.length) (e : keepBy M K = keepBy M (keptL true ds)) : KR hs bank kv x3 x4 x6 x7 M x9 ds (wSt hs bank kv x3 x4 y5 x6 x7 (mL M) x9 (mB K))
theorem kept_all (n1 : M.length ≤ 1000) (lM : ∀ x ∈ M, x.length ≤ 100000) (hds : ds.length = M.length - 1)
    (hd : ∀ j x y, M[j]? = some x → M[1 + j]? = some y → ∃ d, ds[j]? = some d ∧ g_domain_match [.str y, .str (dotted x)] (.bool d)) :
    Run (forF 5 b_lw_rounds3 (rangeL 1 1 (M.length - 1)) (wSt hs bank kv x3 x4 x5 x6 x7 (mL M) x9 (mB (List.replicate M.length true)))) (KR hs bank kv x3 x4 x6 x7 M x9 ds) := by
  cases M with
  | nil => exact .mk .nil (.mk rfl rfl)
  | cons a M =>
    cases kept_loop n1 lM hds (Nat.succ_pos _) hd with
    | mk f I =>
    cases I with
    | mk e =>
    rw [Nat.sub_self, List.take_of_length_le (Nat.le_of_eq hds)] at e
    have e := e.trans (List.append_nil _)
    exact .mk f (.mk (e ▸ keptL_len.trans (congrArg (· + 1) hds)) (congrArg _ e))
inductive RS (hs : List Str) (bank : List Nat) (kv : Kv) (x3 x4 : Option MV) (M : List Str) (rs : List D) : St → Prop
  | mk {y5 y8 y9 y10 : Option MV} : RS hs bank kv x3 x4 M rs (wSt hs bank kv x3 x4 y5 (fz (.lst (lS M))) (oL rs) y8 y9 y10)
theorem round_step (n1 : ps.length ≤ 63) (np : ∀ p ∈ ps, Known kv p) (lM : ∀ x ∈ adj meet2 ps, x.length ≤ 100000) (hds : ds.length = (adj meet2 ps).length - 1)
    (hd : ∀ j x y, (adj meet2 ps)[j]? = some x → (adj meet2 ps)[1 + j]? = some y → ∃ d, ds[j]? = some d ∧ g_domain_match [.str y, .str (dotted x)] (.bool d)) (nr : rs.length ≤ 1000000) :
    Run (b_lw_rounds4 (wSt hs bank kv x3 x4 x5 (pS ps) (oL rs) x8 x9 x10)) (RS hs bank kv x3 x4 (keepBy (adj meet2 ps) (keptL true ds)) (rs ++ [.lst (lS (sortS (ps.map host)))])) := by
  have p1 : ps.length ≤ 1000 := Nat.le_trans n1 (by decide)
  have m1 : (adj meet2 ps).length ≤ 1000 := adj_len.symm ▸ Nat.le_trans (Nat.sub_le ..) p1
  cases meets_loop (hs := hs) (bank := bank) (x3 := x3) (x4 := x4) (x5 := x5) (x7 := oL (rs ++ [.lst (lS (sortS (ps.map host)))])) (x9 := x9) (x10 := x10) p1 np with
  | mk f3 I3 =>
  cases I3 with
  | @mk y5 y9 =>
  rw [List.take_of_length_le (Nat.le_of_eq adj_len)] at f3
  generalize adj meet2 ps = M at *
  cases kept_all (hs := hs) (bank := bank) (kv := kv) (x3 := x3) (x4 := x4) (x5 := y5) (x6 := pS ps) (x7 := oL (rs ++ [.lst (lS (sortS (ps.map host)))])) (x9 := y9) m1 lM hds hd with
  | mk f5 I5 =>
  cases I5 with
  | @mk z5 K l e =>
  have L6 : lenF [.lst (lS (ps.map host))] (natD ps.length) := lenN (f := D.str) (List.length_map host) (million p1)
  have L8 : lenF [.lst (lS M)] (natD M.length) := lenN (f := D.str) rfl (million m1)
  have C := cComp.mk (it := iRange (cCons (cFun lenF (cCons (cV 8) (cNil))) (cNil))) (ix := 1) (fv := [none, none, some 10, some 8]) (t := some (tVal truD (cIdx (cVc 2) (cV 1)))) (elt := cIdx (cVc 3) (cV 1)) (σ := wSt hs bank kv x3 x4 z5 (pS ps) (oL (rs ++ [.lst (lS (sortS (ps.map host)))])) (mL M) y9 (mB K)) (b := true)
    (.mk (.mk (.mk (.mk (eVl rfl) .mk) L8) .mk) (rangeL_nat ▸ rangeN (million m1))) (comp_keep (A := []) (B := []) (million m1) (l ▸ million m1) l rfl rfl rfl) (by rw [List.length_map, List.length_range']; exact million m1)
  rw [e] at C
  have rep : List.replicate M.length (D.bool true) = lBo (List.replicate M.length true) := (List.map_replicate (f := D.bool)).symm
  refine .mk (eGo (eAppR rfl (.mk (.mk (eV rfl) .mk) (.mk (Nat.lt_succ_of_le (List.length_map host ▸ n1)))) rfl nr) (eGo (eOwn .mk rfl) (eGo (eFor (.mk (.mk .mk (.mk (.mk (.mk (eV rfl) .mk) L6) .mk)) (range1 (million p1))) rfl f3)
    (eGo (eOwn (eMul1 (.mk (.mk .mk .mk)) (.mk (.mk (eVl rfl) .mk) L8) (million m1)) rfl) (eGo (eFor (.mk (.mk .mk (.mk (.mk (.mk (eVl rfl) .mk) L8) .mk)) (range1 (million m1))) rfl (rep ▸ f5)) (eEnd (eAsg (.mk C) rfl))))))) .mk
end
structure Hosts (t : T) (hs : List Str) (ks : List Kid) (ts : List Int) (N : Nat) : Prop where
  A : Arr t hs ks ts N
  ok : t.ok [sn "local"]
  h1 : 1 ≤ N
  hN : N ≤ 63
  len : ∀ h ∈ hs, h.length ≤ 26
noncomputable abbrev rowS (t : T) (m : Nat) : List Str := (t.row m).map fun s => host s.path
noncomputable abbrev rowD (t : T) (m : Nat) : D := .lst (lS (sortS (rowS t m)))
inductive RFin (hs : List Str) (bank : List Nat) (kv : Kv) (x3 x4 : Option MV) (R : List D) (σ : St) : Prop
  | mk {n : Nat} {y5 y6 y8 y9 y10 : Option MV} (h : whileF (tVal truD (cV 6)) b_lw_rounds4 n σ .next (wSt hs bank kv x3 x4 y5 y6 (oL R) y8 y9 y10)) : RFin hs bank kv x3 x4 R σ
section
variable {t : T} {hs : List Str} {ks : List Kid} {ts : List Int} {N : Nat} {bank : List Nat} {kv : Kv} {x3 x4 x5 x8 x9 x10 : Option MV} {rs : List D} {m j : Nat}
theorem Hosts.okP (H : Hosts t hs ks ts N) {s : T} (h : s ∈ t.subs) : Mine.okP s.path := T.okP H.ok okL s h
theorem Hosts.rlen (H : Hosts t hs ks ts N) (m : Nat) : (t.row m).length ≤ 63 := by
  rw [row_filter]
  refine Nat.le_trans (List.length_filter_le ..) (Nat.le_trans (Nat.le_of_eq ?_) H.hN)
  rw [← List.length_map (as := t.subs) T.id]; exact (T.ids_len t).trans H.A.size
theorem Hosts.hl5 (H : Hosts t hs ks ts N) {s : T} (h : s ∈ t.subs) : (host s.path).length ≤ 100000 := Nat.le_trans (H.A.hlen H.len h) (by decide)
theorem Hosts.known (H : Hosts t hs ks ts N) (hk : ∀ s ∈ t.subs, look kv (host s.path) = some (.lst (lS (ancs s.path)))) : ∀ p ∈ (t.row m).map T.path, Known kv p := fun p hp => by
  obtain ⟨s, hs', rfl⟩ := List.mem_map.mp hp
  have hs' := T.row_sub s hs'
  exact ⟨Nat.le_trans (Nat.le_trans (path_len (H.okP hs')) (H.A.hlen H.len hs')) (by decide), hk s hs'⟩
theorem Hosts.dm (H : Hosts t hs ks ts N) {x y : Str} (hx : ((t.mts m).map fun s => host s.path)[j]? = some x) (hy : ((t.mts m).map fun s => host s.path)[1 + j]? = some y) : ∃ d, (adj desc (t.mts m))[j]? = some d ∧ g_domain_match [.str y, .str (dotted x)] (.bool d) := by
  rw [List.getElem?_map] at hx hy
  obtain ⟨s, ex, rfl⟩ := Option.map_eq_some_iff.mp hx
  obtain ⟨s', ey, rfl⟩ := Option.map_eq_some_iff.mp hy
  have ms := T.mts_sub s (List.mem_of_getElem? ex)
  have ms' := T.mts_sub s' (List.mem_of_getElem? ey)
  rw [Nat.add_comm] at ey
  exact ⟨_, adj_get ex ey, dm_kin (H.okP ms) (H.okP ms') (H.hl5 ms) (H.hl5 ms') ((mts_adj H.ok).get ex ey)⟩
theorem Hosts.round (H : Hosts t hs ks ts N) (hk : ∀ s ∈ t.subs, look kv (host s.path) = some (.lst (lS (ancs s.path)))) (h1 : 1 ≤ m) (nr : rs.length ≤ 1000000) :
    Run (b_lw_rounds4 (wSt hs bank kv x3 x4 x5 (fz (.lst (lS (rowS t m)))) (oL rs) x8 x9 x10)) (RS hs bank kv x3 x4 (rowS t (m + 1)) (rs ++ [rowD t m])) := by
  have am := adj_meets h1 H.ok okL
  have e0 : rowS t m = ((t.row m).map T.path).map host := (List.map_map ..).symm
  have e1 : rowS t (m + 1) = keepBy (adj meet2 ((t.row m).map T.path)) (keptL true (adj desc (t.mts m))) := by rw [am, keepBy_map, keep_kp, kept_row h1 H.ok]
  rw [e1, rowD, e0]
  refine round_step (List.length_map T.path ▸ H.rlen m) (H.known hk) (am ▸ fun x hx => ?_) (by rw [am, List.length_map, adj_len]) (am ▸ fun j x y => H.dm) nr
  obtain ⟨s, hs', rfl⟩ := List.mem_map.mp hx
  exact H.hl5 (T.mts_sub s hs')
theorem tru_ne {xs : List D} (h : xs ≠ []) (l : xs.length ≤ 1000000) : truD (.lst xs) true := by
  cases xs with
  | nil => exact absurd rfl h
  | cons => exact .lst l
theorem Hosts.run (H : Hosts t hs ks ts N) (hk : ∀ s ∈ t.subs, look kv (host s.path) = some (.lst (lS (ancs s.path)))) : ∀ {d m : Nat} {rs : List D} {x5 x8 x9 x10 : Option MV}, 1 ≤ m → m + d = t.ord + 1 → rs.length + d ≤ 1000000 →
    RFin hs bank kv x3 x4 (rs ++ (List.range' m d).map (rowD t)) (wSt hs bank kv x3 x4 x5 (fz (.lst (lS (rowS t m)))) (oL rs) x8 x9 x10) := by
  intro d
  induction d with
  | zero =>
    intro m rs x5 x8 x9 x10 h1 h2 h3
    have e : rowS t m = [] := by rw [rowS, T.row_big (m := m) (Nat.lt_of_lt_of_eq (Nat.lt_succ_self _) h2.symm)]; rfl
    rw [e, show rs ++ (List.range' m 0).map (rowD t) = rs from List.append_nil rs]
    exact .mk (n := 1) (.stop (.mk (eV rfl) (.lst (Nat.zero_le _))))
  | succ d ih =>
    intro m rs x5 x8 x9 x10 h1 h2 h3
    have hm : m ≤ t.ord := Nat.le_of_succ_le_succ (Nat.le_trans (Nat.succ_le_succ (Nat.le_add_right m d)) (Nat.le_of_eq h2))
    cases H.round (bank := bank) (x3 := x3) (x4 := x4) (x5 := x5) (x8 := x8) (x9 := x9) (x10 := x10) hk h1 (Nat.le_trans (Nat.le_add_right ..) h3) with
    | mk e I =>
    cases I with
    | @mk y5 y8 y9 y10 =>
    cases ih (m := m + 1) (rs := rs ++ [rowD t m]) (x5 := y5) (x8 := y8) (x9 := y9) (x10 := y10) (Nat.succ_pos _) ((Nat.add_right_comm ..).trans h2) (Nat.le_trans (Nat.le_of_eq ((congrArg (· + d) (app_len rfl)).trans (Nat.add_right_comm ..))) h3) with
    | mk r =>
    rw [List.append_assoc] at r
    refine .mk (.go (.mk (eV rfl) (tru_ne (map_ne (map_ne (T.row_ne h1 hm))) ?_)) e (.inl rfl) r)
    rw [List.length_map, List.length_map]; exact Nat.le_trans (H.rlen m) (by decide)
theorem begun_rows (A : Arr t hs ks ts N) : (List.range' 1 t.ord).map (rowD t) = lL (begunOf t N) := by
  rw [lL, begunOf, List.range'_eq_map_range, List.map_map, List.map_map]
  exact List.map_congr_left fun m _ => by
    show D.lst (lS (sortS (rowS t (1 + m)))) = _
    rw [Nat.add_comm 1 m, rowS, sortS_congr (row_perm A m)]; rfl
theorem g_rounds (H : Hosts t hs ks ts N) (ho : t.ord ≤ 1000) : g_lw_rounds [.lst (lS hs), .lst (lN t.bank)] (.lst (lL (begunOf t N))) := by
  have hN : N ≤ 1000 := Nat.le_trans H.hN (by decide)
  cases ways_loop (bank := t.bank) (x3 := none) (x4 := none) (x5 := none) (x6 := none) (x7 := none) (x8 := none) (x9 := none) (x10 := none) H.A H.ok H.h1 hN H.len with
  | mk f1 I1 =>
  cases I1 with
  | @mk kv y3 y4 W =>
  have hk : ∀ s ∈ t.subs, look kv (host s.path) = some (.lst (lS (ancs s.path))) := fun s hs' => W.at' s hs' (Nat.le_sub_one_of_lt (H.A.slt hs'))
  cases H.run (bank := t.bank) (kv := kv) (x3 := y3) (x4 := y4) (d := t.ord) (m := 1) (rs := []) (x5 := none) (x8 := none) (x9 := none) (x10 := none) hk (Nat.le_refl _) (Nat.add_comm ..) ((Nat.zero_add _).symm ▸ million ho) with
  | mk f2 =>
  rw [List.nil_append, begun_rows H.A] at f2
  have lh : (lS hs).length ≤ 1000000 := (List.length_map D.str).symm ▸ H.A.lh ▸ million hN
  have r1 : (t.row 1).length ≤ 1000000 := Nat.le_trans (H.rlen 1) (by decide)
  have e1 : lN t.bank = (t.row 1).map fun s => natD s.id := by rw [← row_one, lN, List.map_map]; rfl
  have C := cComp.mk (it := iLst (cV 1)) (ix := 1) (fv := [none, none, some 0]) (t := none) (elt := cIdx (cVc 2) (cV 1)) (σ := wSt hs t.bank kv y3 y4 none none none none none none) (b := true) (.mk (e1 ▸ eV rfl) (List.length_map (as := t.row 1) _ ▸ r1))
    (compF_map (g := fun s => D.str (host s.path)) fun s hs' => .mk (eC rfl) (eV rfl) (ix (t := D.str) (H.A.lh ▸ million hN) (H.A.at' s (T.row_sub s hs')).h)) (List.length_map (as := t.row 1) _ ▸ r1)
  rw [show (t.row 1).map (fun s => D.str (host s.path)) = lS (rowS t 1) from (List.map_map ..).symm] at C
  apply xFun_ret rfl (hl := rfl)
  exact eGo .mk (eGo (eFor (.mk (.mk (eC rfl) .mk (.lst (n := 1) lh)) (by rw [List.length_drop]; exact Nat.le_trans (Nat.sub_le ..) lh)) rfl f1) (eGo (eAsg (.mk C) rfl) (eGo (eOwn .mk rfl) (eGo (.mk f2) (eRet (eVl rfl))))))
end
noncomputable def tabMix (os og : Nat) (a b : Tab) : Tab := if os = og then addC (addC a b) [((og : Int) + 1, 1)] else addC a b
noncomputable def runMix (os og : Nat) (a b : List Nat) : List Nat := if os = og then a ++ b ++ [og + 1] else a ++ b
noncomputable def T.tab : T → Tab
  | .leaf _ _ => [(1, 1)]
  | .fork _ _ _ l r => if r.ord < l.ord then tabMix r.ord l.ord r.tab l.tab else tabMix l.ord r.ord l.tab r.tab
noncomputable def T.runs : T → List Nat
  | .leaf _ _ => [1]
  | .fork _ _ _ l r => if r.ord < l.ord then runMix r.ord l.ord r.runs l.runs else runMix l.ord r.ord l.runs r.runs
noncomputable def esc (x : Str) : Str := Txt.replace (Txt.replace x (sn "\\") (sn "\\\\")) (sn "\"") (sn "\\\"")
noncomputable def T.leanB : T → B
  | .leaf _ p => .leaf (esc (p.headD (sn "")))
  | .fork _ _ _ l r => if r.ord < l.ord then .node r.leanB l.leanB else .node l.leanB r.leanB
noncomputable def T.drawnB : T → B
  | .leaf _ p => .leaf (esc (p.headD (sn "")))
  | .fork _ _ u l r => if u then .node r.drawnB l.drawnB else .node l.drawnB r.drawnB
inductive Two (t l r : T) : T → T → Prop
  | sw (q : r.ord < l.ord) (o : t.ord = if r.ord = l.ord then l.ord + 1 else l.ord) (tb : t.tab = tabMix r.ord l.ord r.tab l.tab) (rn : t.runs = runMix r.ord l.ord r.runs l.runs) (lb : t.leanB = .node r.leanB l.leanB) : Two t l r r l
  | id (q : ¬ r.ord < l.ord) (o : t.ord = if l.ord = r.ord then r.ord + 1 else r.ord) (tb : t.tab = tabMix l.ord r.ord l.tab r.tab) (rn : t.runs = runMix l.ord r.ord l.runs r.runs) (lb : t.leanB = .node l.leanB r.leanB) : Two t l r l r
section
variable {k : Nat} {p : List Str} {u : Bool} {l r t s g : T}
theorem T.two_sw (q : r.ord < l.ord) : Two (.fork k p u l r) l r r l :=
  .sw q ((if_neg (Nat.ne_of_gt q)).trans ((Nat.max_eq_left (Nat.le_of_lt q)).trans (if_neg (Nat.ne_of_lt q)).symm)) (if_pos q) (if_pos q) (if_pos q)
theorem T.two_id (q : ¬ r.ord < l.ord) : Two (.fork k p u l r) l r l r := by
  refine .id q ?_ (if_neg q) (if_neg q) (if_neg q)
  by_cases e : l.ord = r.ord
  · rw [if_pos e, T.ord_eq e, e]
  · rw [if_neg e]; exact (if_neg e).trans (Nat.max_eq_right (Nat.le_of_not_lt q))
theorem T.by_two {P : T → Prop} (h0 : ∀ k p, P (.leaf k p)) (h : ∀ k p u l r s g, Two (.fork k p u l r) l r s g → s.ord ≤ g.ord → (.fork k p u l r : T).ord = (if s.ord = g.ord then g.ord + 1 else g.ord) → (.fork k p u l r : T).tab = tabMix s.ord g.ord s.tab g.tab → (.fork k p u l r : T).runs = runMix s.ord g.ord s.runs g.runs → (.fork k p u l r : T).size = s.size + g.size + 1 → P s → P g → P (.fork k p u l r)) : ∀ t, P t := by
  intro t
  induction t with
  | leaf k p => exact h0 k p
  | fork k p u l r il ir =>
    by_cases q : r.ord < l.ord
    · cases T.two_sw (k := k) (p := p) (u := u) q with
      | sw q o tb rn lb => exact h k p u l r r l (T.two_sw q) (Nat.le_of_lt q) o tb rn (congrArg (· + 1) (Nat.add_comm ..)) ir il
      | id q' => exact absurd q q'
    · cases T.two_id (k := k) (p := p) (u := u) q with
      | sw q' => exact absurd q' q
      | id _ o tb rn lb => exact h k p u l r l r (T.two_id q) (Nat.le_of_not_lt q) o tb rn rfl il ir
end
noncomputable def runC : List Nat → List Nat
  | [] => []
  | a :: l => match l with
    | [] => List.replicate a 32
    | _ :: _ => List.replicate a 32 ++ 9 :: runC l
noncomputable def leadS (rs : List Nat) : Str := ⟨(runC rs).toArray⟩
theorem cl_lead (rs : List Nat) : cl (leadS rs) = runC rs := rfl
theorem runC_append {b : List Nat} (hb : b ≠ []) : ∀ {a : List Nat}, a ≠ [] → runC (a ++ b) = runC a ++ 9 :: runC b := by
  intro a
  induction a with
  | nil => exact fun h => absurd rfl h
  | cons x a ih =>
    intro _
    cases a with
    | nil =>
      cases b with
      | nil => exact absurd rfl hb
      | cons y b => rfl
    | cons y a =>
      show List.replicate x 32 ++ 9 :: runC (y :: a ++ b) = List.replicate x 32 ++ 9 :: runC (y :: a) ++ _
      rw [ih nofun, List.append_assoc]; rfl
section
variable {os og m n : Nat} {a b : Tab}
theorem mix_eq (e : os = og) : tabMix os og a b = addC (addC a b) [((og : Int) + 1, 1)] := if_pos e
theorem mix_ne (e : ¬ os = og) : tabMix os og a b = addC a b := if_neg e
theorem rmix_eq {x y : List Nat} (e : os = og) : runMix os og x y = x ++ y ++ [og + 1] := if_pos e
theorem rmix_ne {x y : List Nat} (e : ¬ os = og) : runMix os og x y = x ++ y := if_neg e
theorem T.runs_ne : ∀ t : T, t.runs ≠ [] := T.by_two (fun _ _ => nofun) fun k p u l r s g _ _ _ _ rn _ hs _ => by
  rw [rn]
  by_cases e : s.ord = g.ord
  · rw [rmix_eq e]; exact List.append_ne_nil_of_right_ne_nil _ nofun
  · rw [rmix_ne e]; exact List.append_ne_nil_of_left_ne_nil hs _
theorem T.tab_nodup : ∀ t : T, (tK t.tab).Nodup := T.by_two (fun _ _ => List.nodup_cons.mpr ⟨List.not_mem_nil, List.nodup_nil⟩) fun k p u l r s g _ _ _ tb _ _ hs _ => by
  rw [tb]
  by_cases e : s.ord = g.ord
  · rw [mix_eq e]; exact addC_nodup (addC_nodup hs)
  · rw [mix_ne e]; exact addC_nodup hs
noncomputable def Keys (a : Tab) (n : Nat) : Prop := ∀ j : Int, j ∈ tK a ↔ 1 ≤ j ∧ j ≤ n
theorem Keys.add (ha : Keys a m) (hb : Keys b n) (h : m ≤ n) : Keys (addC a b) n := fun j => by
  rw [addC_keys, ha, hb]
  exact ⟨fun q => q.elim (fun q => ⟨q.1, Int.le_trans q.2 (Int.ofNat_le.mpr h)⟩) id, .inr⟩
theorem Keys.one {c : Int} (ha : Keys a n) : Keys (addC a [((n : Int) + 1, c)]) (n + 1) := fun j => by
  rw [addC_keys, ha]
  refine ⟨fun q => q.elim (fun q => ⟨q.1, Int.le_trans q.2 (Int.le_of_lt (Int.lt_succ _))⟩) fun q => ?_, fun q => (Int.lt_or_eq_of_le q.2).elim (fun h => .inl ⟨q.1, Int.lt_add_one_iff.mp h⟩) fun h => .inr (h ▸ .head _)⟩
  rw [List.mem_singleton.mp q]
  exact ⟨Int.ofNat_le.mpr (Nat.succ_le_succ (Nat.zero_le n)), Int.le_refl _⟩
theorem T.tab_keys : ∀ t : T, Keys t.tab t.ord := T.by_two (fun _ _ j => ⟨fun h => List.mem_singleton.mp h ▸ ⟨Int.le_refl _, Int.le_refl _⟩, fun h => List.mem_singleton.mpr (Int.le_antisymm h.2 h.1)⟩) fun k p u l r s g _ h o tb _ _ hs hg => by
  rw [tb, o]
  by_cases e : s.ord = g.ord
  · rw [mix_eq e, if_pos e]; exact (hs.add hg h).one
  · rw [mix_ne e, if_neg e]; exact hs.add hg h
theorem addC_len : ∀ {b a : Tab}, (addC a b).length ≤ a.length + b.length := by
  intro b
  induction b with
  | nil => exact Nat.le_refl _
  | cons p b ih => exact Nat.le_trans ih (Nat.le_trans (Nat.add_le_add_right put1_len _) (Nat.le_of_eq (Nat.add_right_comm ..)))
theorem T.tab_len : ∀ t : T, t.tab.length ≤ t.size := T.by_two (fun _ _ => Nat.le_refl _) fun k p u l r s g _ _ _ tb _ z hs hg => by
  rw [tb, z]
  have h := Nat.le_trans (addC_len (b := g.tab) (a := s.tab)) (Nat.add_le_add hs hg)
  by_cases e : s.ord = g.ord
  · rw [mix_eq e]; exact Nat.le_trans addC_len (Nat.succ_le_succ h)
  · rw [mix_ne e]; exact Nat.le_succ_of_le h
theorem T.tab_max (t : T) : maxF [tabD t.tab] (natD t.ord) := by
  have h1 : (t.ord : Int) ∈ tK t.tab := (t.tab_keys _).mpr ⟨Int.ofNat_le.mpr t.ord_pos, Int.le_refl _⟩
  rw [natD, ← maxZ_spec h1 fun x hx => ((t.tab_keys x).mp hx).2]
  exact .dct (List.ne_nil_of_mem h1)
theorem mul_space (n : Nat) : Txt.mul (sn " ") (n : Int) = leadS [n] := str_ext (mul_one_list 32 n)
theorem lead_append {a b : List Nat} (ha : a ≠ []) (hb : b ≠ []) : leadS a ++ sn "\t" ++ leadS b = leadS (a ++ b) :=
  str_ext (by rw [cl_append, cl_append, cl_lead, cl_lead, cl_lead, runC_append hb ha, List.append_assoc]; rfl)
theorem lead_sum {a b : List Nat} {c d : Nat} (ha : a ≠ []) (hb : b ≠ []) (h1 : (leadS a).length ≤ c) (h2 : (leadS b).length ≤ d) : (leadS (a ++ b)).length ≤ c + 1 + d := by
  rw [← lead_append ha hb]; exact s_add (s_add h1 (Nat.le_refl 1)) h2
theorem lead_one {n : Nat} : (leadS [n]).length ≤ n := Nat.le_of_eq (List.length_replicate ..)
theorem T.ord_size : ∀ t : T, t.ord ≤ t.size := T.by_two (fun _ _ => Nat.le_refl _) fun k p u l r s g _ _ o _ _ z hs hg => by
  rw [o, z]
  by_cases e : s.ord = g.ord
  · rw [if_pos e]; exact Nat.succ_le_succ (Nat.le_trans hg (Nat.le_add_left ..))
  · rw [if_neg e]; exact Nat.le_succ_of_le (Nat.le_trans hg (Nat.le_add_left ..))
theorem lead_fit1 {a b c : Nat} (h : c ≤ b) : 3 * a * 64 + 1 + 3 * b * 64 + 1 + (b + 1) ≤ 3 * (a + b + 1) * 64 ∨ 64 < b := by lia
theorem lead_fit2 {a b : Nat} : 3 * a * 64 + 1 + 3 * b * 64 ≤ 3 * (a + b + 1) * 64 := by lia
theorem T.lead_len : ∀ t : T, t.size ≤ 64 → (leadS t.runs).length ≤ 3 * t.size * 64 := T.by_two (fun _ _ _ => (by decide : (leadS [1]).length ≤ 3 * 1 * 64)) fun k p u l r s g _ _ _ _ rn z hs hg h => by
  rw [z] at h ⊢
  have hz := Nat.le_of_succ_le h
  have gz := Nat.le_trans (Nat.le_add_left g.size s.size) hz
  have hs := hs (Nat.le_trans (Nat.le_add_right ..) hz)
  have hg := hg gz
  have H := lead_sum s.runs_ne g.runs_ne hs hg
  rw [rn]
  by_cases e : s.ord = g.ord
  · rw [rmix_eq e]
    exact Nat.le_trans (lead_sum (List.append_ne_nil_of_left_ne_nil s.runs_ne _) nofun H (Nat.le_trans lead_one (Nat.succ_le_succ g.ord_size))) ((lead_fit1 (Nat.le_refl _)).resolve_right (Nat.not_lt.mpr gz))
  · rw [rmix_ne e]; exact Nat.le_trans H lead_fit2
end
noncomputable def wordB (x : Str) : Bool := netB (sn "(\"" ++ esc x ++ sn "\"") 1 && decide ((esc x).length ≤ 5) && decide ((Txt.replace x (sn "\\") (sn "\\\\")).length ≤ 5)
theorem word_all : (sn "local" :: labs).all wordB = true := by decide +kernel
structure Word (x : Str) : Prop where
  net : Net (sn "(\"" ++ esc x ++ sn "\"") 1
  e5 : (esc x).length ≤ 5
  x5 : x.length ≤ 5
  r5 : (Txt.replace x (sn "\\") (sn "\\\\")).length ≤ 5
theorem okP.word {x : Str} {r : List Str} (h : okP (x :: r)) : Word x := by
  have m : x ∈ sn "local" :: labs := by
    generalize e : x :: r = l at h
    cases h with
    | one => exact (List.cons.inj e).1 ▸ .head _
    | up h _ => exact (List.cons.inj e).1 ▸ .tail _ h
  have q := Bool.and_eq_true_iff.mp (List.all_eq_true.mp word_all x m)
  have q1 := Bool.and_eq_true_iff.mp q.1
  exact ⟨.of q1.1, of_decide_eq_true q1.2, (Lb.of m).len, of_decide_eq_true q.2⟩
theorem leaf_ok {p : List Str} (h : okP p) : (B.leaf (esc (p.headD (sn "")))).ok := by
  cases p with
  | nil => exact absurd rfl h.ne
  | cons x r => exact ⟨h.word.net, h.word.e5⟩
theorem T.lean_ok : ∀ {t : T} {q : List Str}, t.ok q → Mine.okP q → t.leanB.ok ∧ t.drawnB.ok := by
  intro t
  induction t with
  | leaf k p =>
    intro q h o
    have h : p = q := h
    subst h
    exact ⟨leaf_ok o, leaf_ok o⟩
  | fork k p u l r jl jr =>
    intro q h o
    obtain ⟨m, hm, h4, h5⟩ := h.2.2.2
    have o : Mine.okP p := h.1 ▸ o
    have il := jl h4 (.up (lab_in hm).1 o)
    have ir := jr h5 (.up (lab_in hm).2 o)
    refine ⟨?_, ?_⟩
    · show (if r.ord < l.ord then B.node r.leanB l.leanB else .node l.leanB r.leanB).ok
      by_cases q : r.ord < l.ord
      · rw [if_pos q]; exact ⟨ir.1, il.1⟩
      · rw [if_neg q]; exact ⟨il.1, ir.1⟩
    · cases u with
      | true => exact ⟨ir.2, il.2⟩
      | false => exact ⟨il.2, ir.2⟩
theorem T.lean_size : ∀ t : T, t.leanB.size = t.size ∧ t.drawnB.size = t.size := by
  intro t
  induction t with
  | leaf => exact ⟨rfl, rfl⟩
  | fork k p u l r il ir =>
    have a : l.leanB.size + r.leanB.size + 1 = l.size + r.size + 1 := il.1 ▸ ir.1 ▸ rfl
    have b : l.drawnB.size + r.drawnB.size + 1 = l.size + r.size + 1 := il.2 ▸ ir.2 ▸ rfl
    refine ⟨?_, ?_⟩
    · show (if r.ord < l.ord then B.node r.leanB l.leanB else .node l.leanB r.leanB).size = _
      by_cases q : r.ord < l.ord
      · rw [if_pos q]; exact (congrArg (· + 1) (Nat.add_comm ..)).trans a
      · rw [if_neg q]; exact a
    · cases u with
      | true => exact (congrArg (· + 1) (Nat.add_comm ..)).trans b
      | false => exact b
theorem T.size_sub : ∀ {t s : T}, s ∈ t.subs → s.size ≤ t.size := by
  intro t
  induction t with
  | leaf k p => exact fun h => T.leaf1 h ▸ Nat.le_refl _
  | fork k p u l r il ir => exact fun h => T.cases3 h (fun e => e ▸ Nat.le_refl _) (fun h => Nat.le_succ_of_le (Nat.le_trans (il h) (Nat.le_add_right ..))) fun h => Nat.le_succ_of_le (Nat.le_trans (ir h) (Nat.le_add_left ..))
noncomputable abbrev lT (l : List Tab) : List D := l.map tabD
noncomputable def pB (b : B) : D := .lst (lS b.pieces)
noncomputable abbrev lB (l : List B) : List D := l.map pB
theorem g_sideB {a b : B} (ha : a.ok) (hb : b.ok) (h1 : a.size ≤ 63) (h2 : b.size ≤ 63) : g_lw_side [pB a, pB b] (pB (.node a b)) :=
  have A := B.lens ha
  have C := B.lens hb
  have up : ∀ {n : Nat}, n ≤ 63 → 7 + n ≤ 1000 := fun h => Nat.le_trans (Nat.add_le_add_left h 7) (by decide)
  g_side (Nat.le_trans A.n (Nat.le_trans h1 (by decide))) (Nat.le_trans C.n (Nat.le_trans h2 (by decide))) (Nat.le_trans A.h (up h1)) (Nat.le_trans C.h (up h2))
noncomputable def cSt (hs : List Str) (ks : List Kid) (ts : List Int) (words : Option MV) (x3 : Option MV) (tabs : List Tab) (leads : List Str) (lean drawn : List B) (x9 x10 x11 : Option MV) : St :=
  [fz (.lst (lS hs)), fz (.lst (lK ks)), fz (.lst (lI ts)), x3, oL (lT tabs), oL (lS leads), words, oL (lB lean), oL (lB drawn), x9, x10, x11, none, none, none, none, none]
noncomputable def bodyPost : Ex := xCons (xSetL 7 (cV 3) (cFun g_lw_side (cCons (cIdx (cVc 7) (cV 9)) (cCons (cIdx (cVc 7) (cV 10)) (cNil)))))
 (xCons (xSetL 4 (cV 3) (cFun g_add_callers (cCons (cIdx (cVc 4) (cV 9)) (cCons (cIdx (cVc 4) (cV 10)) (cNil)))))
 (xCons (xSetL 5 (cV 3) (cBin addD (cBin addD (cIdx (cVc 5) (cV 9)) (cK (.str (sn "\t")))) (cIdx (cVc 5) (cV 10))))
 (xCons (xAsg 11 (cFun maxF (cCons (cIdx (cVc 4) (cV 10)) (cNil))))
 (xCons (xIf (tCmp eqT (cFun maxF (cCons (cIdx (cVc 4) (cV 9)) (cNil))) (cV 11)) (xCons (xSetL 4 (cV 3) (cFun g_add_callers (cCons (cIdx (cVc 4) (cV 3)) (cCons (cDict1 (cBin addD (cV 11) (cK (.int 1))) (cK (.int 1))) (cNil)))))
 (xCons (xSetL 5 (cV 3) (cBin addD (cBin addD (cIdx (cVc 5) (cV 3)) (cK (.str (sn "\t")))) (cBin mulD (cK (.str (sn " "))) (cBin addD (cV 11) (cK (.int 1))))))
 (xNil))) (xNil))
 (xNil)))))
noncomputable def T.leadV (t : T) : Str := leadS t.runs
structure CI (t : T) (N k : Nat) (tabs : List Tab) (leads : List Str) (lean drawn : List B) : Prop where
  a : Vals t N T.tab tabs k
  b : Vals t N T.leadV leads k
  c : Vals t N T.leanB lean k
  d : Vals t N T.drawnB drawn k
structure Ch (t : T) (k : Nat) (s : T) : Prop where
  m : s ∈ t.subs
  lt : k < s.id
  z : s.size ≤ 63
  lo : s.leanB.ok
  dr : s.drawnB.ok
section
variable {t s g : T} {hs : List Str} {ks : List Kid} {ts : List Int} {N k : Nat} {words x3 x9 x10 x11 : Option MV} {tabs : List Tab} {leads : List Str} {lean drawn dr : List B} {u : Bool}
theorem Ch.lead (c : Ch t k s) : s.leadV.length ≤ 12096 := Nat.le_trans (s.lead_len (Nat.le_succ_of_le c.z)) (Nat.mul_le_mul_right 64 (Nat.mul_le_mul_left 3 c.z))
theorem Ch.tl (c : Ch t k s) : s.tab.length ≤ 63 := Nat.le_trans s.tab_len c.z
theorem Ch.at' {α : Type} {val : T → α} {X : List α} {f : α → D} (c : Ch t k s) (V : Vals t N val X (k + 1)) (hN : N ≤ 1000000) : idxD (.lst (X.map f)) (natD s.id) (f (val s)) := ix (V.len ▸ hN) (V.at' s c.m (.inl c.lt))
theorem Ch.at1 {α : Type} {val : T → α} {X : List α} {f : α → D} {y : α} (c : Ch t k s) (V : Vals t N val X (k + 1)) (hN : N ≤ 1000000) : idxD (.lst ((X.set k y).map f)) (natD s.id) (f (val s)) :=
  ix (List.length_set.trans V.len ▸ hN) ((List.getElem?_set_ne (Nat.ne_of_lt c.lt)).trans (V.at' s c.m (.inl c.lt)))
theorem mul_ok {n : Nat} (h : n ≤ 1000) : mulD (.str (sn " ")) (natD n) (.str (leadS [n])) := by
  rw [← mul_space]
  exact .str (Nat.le_trans (Nat.le_of_eq (Nat.one_mul _)) (million h)) (small_nat (Nat.lt_of_le_of_lt h (by decide)))
theorem course_post (hN : N ≤ 1000000) (C : CI t N (k + 1) tabs leads lean drawn) (hk : k < N) (S : Ch t k s) (G : Ch t k g) (ho : s.ord ≤ g.ord) :
    bodyPost (cSt hs ks ts words (fz (natD k)) tabs leads lean dr (fz (natD s.id)) (fz (natD g.id)) x11) .next
      (cSt hs ks ts words (fz (natD k)) (tabs.set k (tabMix s.ord g.ord s.tab g.tab)) (leads.set k (leadS (runMix s.ord g.ord s.runs g.runs))) (lean.set k (.node s.leanB g.leanB)) dr (fz (natD s.id)) (fz (natD g.id)) (fz (natD g.ord))) := by
  have l1 := C.a.len
  have l2 := C.b.len
  have l3 := C.c.len
  have al : (addC s.tab g.tab).length ≤ 126 := Nat.le_trans addC_len (Nat.add_le_add S.tl G.tl)
  have w1 : s.leadV.length + (sn "\t").length ≤ 1000000 := room S.lead (Nat.le_refl 1)
  have w2 : (s.leadV ++ sn "\t").length + g.leadV.length ≤ 1000000 := room (s_add S.lead (Nat.le_refl 1)) G.lead
  have ac := g_addC (b := g.tab) s.tab_nodup (Nat.le_trans S.tl (by decide)) (Nat.le_trans G.tl (by decide))
  have b1 : eqT (natD s.ord) (natD g.ord) (decide (s.ord = g.ord)) := by
    by_cases e : s.ord = g.ord
    · rw [decide_eq_true e]; exact eqN e
    · rw [decide_eq_false e]; exact neN e
  have T1 : tCmp eqT (cFun maxF (cCons (cIdx (cVc 4) (cV 9)) (cNil))) (cV 11) (cSt hs ks ts words (fz (natD k)) (tabs.set k (addC s.tab g.tab)) (leads.set k (leadS (s.runs ++ g.runs))) (lean.set k (.node s.leanB g.leanB)) dr (fz (natD s.id)) (fz (natD g.id)) (fz (natD g.ord))) (decide (s.ord = g.ord)) :=
    .mk (.mk (.mk (.mk (eCl rfl) (eV rfl) (S.at1 C.a hN)) .mk) s.tab_max) (eV rfl) b1
  refine eGo (eSetL (x := B.node s.leanB g.leanB) rfl (eV rfl) (.mk (.mk (.mk (eCl rfl) (eV rfl) (S.at' C.c hN)) (.mk (.mk (eCl rfl) (eV rfl) (G.at' C.c hN)) .mk)) (g_sideB S.lo G.lo (s.lean_size.1 ▸ S.z) (g.lean_size.1 ▸ G.z))) rfl rfl (l3 ▸ hk) (l3 ▸ hN))
    (eGo (eSetL (x := addC s.tab g.tab) rfl (eV rfl) (.mk (.mk (.mk (eCl rfl) (eV rfl) (S.at' C.a hN)) (.mk (.mk (eCl rfl) (eV rfl) (G.at' C.a hN)) .mk)) ac) rfl rfl (l1 ▸ hk) (l1 ▸ hN))
    (eGo (eSetL (x := leadS (s.runs ++ g.runs)) rfl (eV rfl) (.mk (.mk (.mk (eCl rfl) (eV rfl) (S.at' C.b hN)) .mk (.str w1)) (.mk (eCl rfl) (eV rfl) (G.at' C.b hN)) (.str w2)) rfl (congrArg D.str (lead_append s.runs_ne g.runs_ne)) (l2 ▸ hk) (l2 ▸ hN))
    (eGo (eAsg (.mk (.mk (.mk (eCl rfl) (eV rfl) (G.at1 C.a hN)) .mk) g.tab_max) rfl) ?_)))
  by_cases e : s.ord = g.ord
  · have e1 : ∀ {α : Type} {l : List α} {x y : α}, l.set k y = (l.set k x).set k y := List.set_set .. |>.symm
    rw [mix_eq e, rmix_eq e, e1 (l := tabs) (x := addC s.tab g.tab) (y := addC (addC s.tab g.tab) [((g.ord : Int) + 1, 1)]), e1 (l := leads) (x := leadS (s.runs ++ g.runs)) (y := leadS (s.runs ++ g.runs ++ [g.ord + 1]))]
    rw [decide_eq_true e] at T1
    have ac2 := g_addC (b := [((g.ord : Int) + 1, 1)]) (addC_nodup (b := g.tab) s.tab_nodup) (Nat.le_trans al (by decide)) (Nat.le_of_ble_eq_true rfl)
    have i1 : idxD (.lst (lT (tabs.set k (addC s.tab g.tab)))) (natD k) (tabD (addC s.tab g.tab)) := ix (List.length_set.trans l1 ▸ hN) (List.getElem?_set_self (l1 ▸ hk))
    have i2 : idxD (.lst (lS (leads.set k (leadS (s.runs ++ g.runs))))) (natD k) (.str (leadS (s.runs ++ g.runs))) := ix (t := D.str) (List.length_set.trans l2 ▸ hN) (List.getElem?_set_self (l2 ▸ hk))
    have ls : (leadS (s.runs ++ g.runs)).length ≤ 24193 := lead_sum s.runs_ne g.runs_ne S.lead G.lead
    have go := Nat.le_trans g.ord_size G.z
    exact eEnd (.tt T1 (eGo (eSetL (x := addC (addC s.tab g.tab) [((g.ord : Int) + 1, 1)]) rfl (eV rfl) (.mk (.mk (.mk (eCl rfl) (eV rfl) i1) (.mk (.mk (.mk (eV rfl) .mk .int) .mk rfl) .mk)) ac2) rfl rfl (List.length_set.trans l1 ▸ hk) (List.length_set.trans l1 ▸ hN))
      (eEnd (eSetL (x := leadS (s.runs ++ g.runs ++ [g.ord + 1])) rfl (eV rfl) (.mk (.mk (.mk (eCl rfl) (eV rfl) i2) .mk (.str (room ls (Nat.le_refl 1)))) (.mk .mk (.mk (eV rfl) .mk .int) (mul_ok (n := g.ord + 1) (Nat.le_trans (Nat.succ_le_succ go) (by decide)))) (.str (room (s_add ls (Nat.le_refl 1)) (Nat.le_trans lead_one (Nat.succ_le_succ go))))) rfl
        (congrArg D.str (lead_append (List.append_ne_nil_of_left_ne_nil s.runs_ne _) nofun)) (List.length_set.trans l2 ▸ hk) (List.length_set.trans l2 ▸ hN)))))
  · rw [mix_ne e, rmix_ne e]
    rw [decide_eq_false e] at T1
    exact eSkip T1 .mk
theorem gtT {a b : Nat} (h : b < a) : gtD (natD a) (natD b) true := (decide_eq_true (Int.ofNat_lt.mpr h)) ▸ .mk
theorem gtF {a b : Nat} (h : ¬ b < a) : gtD (natD a) (natD b) false := (decide_eq_false fun z => h (Int.ofNat_lt.mp z)) ▸ .mk
theorem course_leaf (h : idxD (.lst (lK ks)) (natD k) (kidD none)) : b_lw_course1 ((cSt hs ks ts words x3 tabs leads lean drawn x9 x10 x11).set 3 (fz (natD k))) .cont (cSt hs ks ts words (fz (natD k)) tabs leads lean drawn x9 x10 x11) :=
  .out (.tt (.mk (.mk (eC rfl) (eV rfl) h) (.mk .mk) kid_eq) (.out .mk nofun)) nofun
theorem course_pre {l r : T} (hN : N ≤ 1000000) (C : CI t N (k + 1) tabs leads lean drawn) (hk : k < N) (L : Ch t k l) (R : Ch t k r) (h : idxD (.lst (lK ks)) (natD k) (kidD (some (l.id, r.id)))) (ht : idxD (.lst (lI ts)) (natD k) (.int (if u then 1 else 0)))
    {p : List Str} : ∃ s g, Two (.fork k p u l r) l r s g ∧ ∀ fl σ', bodyPost (cSt hs ks ts words (fz (natD k)) tabs leads lean (drawn.set k (if u then .node r.drawnB l.drawnB else .node l.drawnB r.drawnB)) (fz (natD s.id)) (fz (natD g.id)) x11) fl σ' →
      b_lw_course1 ((cSt hs ks ts words x3 tabs leads lean drawn x9 x10 x11).set 3 (fz (natD k))) fl σ' := by
  have l4 := C.d.len
  have sd : ∀ {a b : T}, Ch t k a → Ch t k b → g_lw_side [pB a.drawnB, pB b.drawnB] (pB (.node a.drawnB b.drawnB)) := fun A B => g_sideB A.dr B.dr ((T.lean_size _).2 ▸ A.z) ((T.lean_size _).2 ▸ B.z)
  have c2 : xSetL 8 (cV 3) (cFun g_lw_side (cCons (cIdx (cVc 8) (cIdx (cIdx (cVc 1) (cV 3)) (cIdx (cVc 2) (cV 3)))) (cCons (cIdx (cVc 8) (cIdx (cIdx (cVc 1) (cV 3)) (cBin subD (cK (.int 1)) (cIdx (cVc 2) (cV 3))))) (cNil)))) (cSt hs ks ts words (fz (natD k)) tabs leads lean drawn x9 x10 x11) .next
      (cSt hs ks ts words (fz (natD k)) tabs leads lean (drawn.set k (if u then .node r.drawnB l.drawnB else .node l.drawnB r.drawnB)) x9 x10 x11) := by
    cases u with
    | true => exact eSetL (x := B.node r.drawnB l.drawnB) rfl (eV rfl) (.mk (.mk (.mk (eCl rfl) (.mk (.mk (eC rfl) (eV rfl) h) (.mk (eC rfl) (eV rfl) ht) kid1) (R.at' C.d hN)) (.mk (.mk (eCl rfl) (.mk (.mk (eC rfl) (eV rfl) h) (.mk .mk (.mk (eC rfl) (eV rfl) ht) .int) kid0) (L.at' C.d hN)) .mk)) (sd R L)) rfl rfl (l4 ▸ hk) (l4 ▸ hN)
    | false => exact eSetL (x := B.node l.drawnB r.drawnB) rfl (eV rfl) (.mk (.mk (.mk (eCl rfl) (.mk (.mk (eC rfl) (eV rfl) h) (.mk (eC rfl) (eV rfl) ht) kid0) (L.at' C.d hN)) (.mk (.mk (eCl rfl) (.mk (.mk (eC rfl) (eV rfl) h) (.mk .mk (.mk (eC rfl) (eV rfl) ht) .int) kid1) (R.at' C.d hN)) .mk)) (sd L R)) rfl rfl (l4 ▸ hk) (l4 ▸ hN)
  have ml : cFun maxF (cCons (cIdx (cVc 4) (cV 9)) (cNil)) (cSt hs ks ts words (fz (natD k)) tabs leads lean (drawn.set k (if u then .node r.drawnB l.drawnB else .node l.drawnB r.drawnB)) (fz (natD l.id)) (fz (natD r.id)) x11) (natD l.ord) true := rt (cFun.mk (.mk (.mk (eCl rfl) (eV rfl) (L.at' C.a hN)) .mk) l.tab_max) rfl
  have mr : cFun maxF (cCons (cIdx (cVc 4) (cV 10)) (cNil)) (cSt hs ks ts words (fz (natD k)) tabs leads lean (drawn.set k (if u then .node r.drawnB l.drawnB else .node l.drawnB r.drawnB)) (fz (natD l.id)) (fz (natD r.id)) x11) (natD r.ord) true := rt (cFun.mk (.mk (.mk (eCl rfl) (eV rfl) (R.at' C.a hN)) .mk) r.tab_max) rfl
  by_cases q : r.ord < l.ord
  · exact ⟨r, l, T.two_sw q, fun fl σ' K => eSkip (.mk (.mk (eC rfl) (eV rfl) h) (.mk .mk) kid_eq) (eGo c2 (eGo (eUnp (.mk (eC rfl) (eV rfl) h) rfl rfl) (eGo (.tt (.mk ml mr (gtT q)) (eEnd (eSwp (.mk (.mk (eV rfl) (.mk (eV rfl) .mk))) rfl rfl))) K)))⟩
  · exact ⟨l, r, T.two_id q, fun fl σ' K => eSkip (.mk (.mk (eC rfl) (eV rfl) h) (.mk .mk) kid_eq) (eGo c2 (eGo (eUnp (.mk (eC rfl) (eV rfl) h) rfl rfl) (eSkip (.mk ml mr (gtF q)) K)))⟩
end
inductive CS (t : T) (N : Nat) (hs : List Str) (ks : List Kid) (ts : List Int) (words : Option MV) (k : Nat) : St → Prop
  | mk {x3 x9 x10 x11 : Option MV} {tabs : List Tab} {leads : List Str} {lean drawn : List B} (C : CI t N k tabs leads lean drawn) : CS t N hs ks ts words k (cSt hs ks ts words x3 tabs leads lean drawn x9 x10 x11)
noncomputable def wordOf (h : Str) : Str := esc (((Txt.split h (sn "."))[0]?).getD (sn ""))
section
variable {t s : T} {hs : List Str} {ks : List Kid} {ts : List Int} {N k : Nat} {words : Option MV}
theorem Hosts.ch (H : Hosts t hs ks ts N) (m : s ∈ t.subs) (lt : k < s.id) : Ch t k s :=
  have o := T.lean_ok (T.sub_ok H.ok m) (H.okP m)
  ⟨m, lt, Nat.le_trans (T.size_sub m) (H.A.size ▸ H.hN), o.1, o.2⟩
theorem course_step (H : Hosts t hs ks ts N) {σ : St} (hk : k < N) (I : CS t N hs ks ts words (k + 1) σ) : Turn (b_lw_course1 (σ.set 3 (fz (natD k)))) (CS t N hs ks ts words k) := by
  have A := H.A
  have hN : N ≤ 1000000 := Nat.le_trans H.hN (by decide)
  cases I with
  | @mk x3 x9 x10 x11 tabs leads lean drawn C =>
  obtain ⟨s, hs', e⟩ := A.sub_at hk
  have a := A.at' s hs'
  have hkid := ix (t := kidD) (A.lk ▸ hN) a.k
  have hturn := ix (t := D.int) (A.lt ▸ hN) a.t
  rw [e] at hkid hturn
  cases s with
  | leaf k' p =>
    have e : k' = k := e
    subst e
    exact .ct (course_leaf hkid) (.mk ⟨C.a.leaf A hs', C.b.leaf A hs', C.c.leaf A hs', C.d.leaf A hs'⟩)
  | fork k' p u l r =>
    have e : k' = k := e
    subst e
    have lt := T.kids_lt H.ok hs'
    have L := H.ch (T.sub_l hs') lt.1
    have R := H.ch (T.sub_r hs') lt.2
    obtain ⟨s, g, W, pre⟩ := course_pre (hs := hs) (words := words) (x3 := x3) (x9 := x9) (x10 := x10) (x11 := x11) (p := p) hN C hk L R hkid hturn
    have D := C.d.set A hs' rfl
    have fin : ∀ {s g : T}, Ch t k' s → Ch t k' g → s.ord ≤ g.ord → (T.fork k' p u l r).tab = tabMix s.ord g.ord s.tab g.tab → (T.fork k' p u l r).runs = runMix s.ord g.ord s.runs g.runs → (T.fork k' p u l r).leanB = .node s.leanB g.leanB →
        Run (bodyPost (cSt hs ks ts words (fz (natD k')) tabs leads lean (drawn.set k' (if u then .node r.drawnB l.drawnB else .node l.drawnB r.drawnB)) (fz (natD s.id)) (fz (natD g.id)) x11)) (CS t N hs ks ts words k') := fun {s g} S G ho tb rn lb => by
      have c := course_post (hs := hs) (ks := ks) (ts := ts) (words := words) (x11 := x11) (dr := drawn.set k' (if u then .node r.drawnB l.drawnB else .node l.drawnB r.drawnB)) hN C hk S G ho
      rw [← tb, ← rn, ← lb] at c
      exact .mk c (.mk ⟨C.a.set A hs' rfl, C.b.set A hs' rfl, C.c.set A hs' rfl, D⟩)
    cases W with
    | sw q o tb rn lb => cases fin R L (Nat.le_of_lt q) tb rn lb with | mk c i => exact .nx (pre _ _ c) i
    | id q o tb rn lb => cases fin L R (Nat.le_of_not_lt q) tb rn lb with | mk c i => exact .nx (pre _ _ c) i
theorem Vals.init2 {α : Type} {val : T → α} {X : List α} (A : Arr t hs ks ts N) (hl : X.length = N) (h : ∀ s ∈ t.subs, s.isLeaf = true → X[s.id]? = some (val s)) : Vals t N val X N :=
  ⟨hl, fun s m q => h s m (q.resolve_left (Nat.not_le.mpr (A.slt m)))⟩
theorem Hosts.word (H : Hosts t hs ks ts N) (m : s ∈ t.subs) : wordOf (host s.path) = esc (s.path.headD (sn "")) := by
  have o := H.okP m
  cases e : s.path with
  | nil => exact absurd e o.ne
  | cons x r => rw [e] at o; rw [wordOf, split_host o]; rfl
theorem course_start (H : Hosts t hs ks ts N) : CI t N N (ks.map fun _ => [(1, 1)]) (ks.map fun _ => sn " ") ((hs.map wordOf).map B.leaf) ((hs.map wordOf).map B.leaf) := by
  have A := H.A
  have lw : ((hs.map wordOf).map B.leaf).length = N := (List.length_map ..).trans ((List.length_map ..).trans A.lh)
  have w : ∀ s ∈ t.subs, ((hs.map wordOf).map B.leaf)[s.id]? = some (.leaf (esc (s.path.headD (sn "")))) := fun s m => by
    rw [List.getElem?_map, List.getElem?_map, (A.at' s m).h, ← H.word m]; rfl
  have c : ∀ {α : Type} {x : α}, ∀ s ∈ t.subs, (ks.map fun _ => x)[s.id]? = some x := fun s m => by rw [List.getElem?_map, (A.at' s m).k]; rfl
  refine ⟨.init2 A ((List.length_map ..).trans A.lk) fun s m q => ?_, .init2 A ((List.length_map ..).trans A.lk) fun s m q => ?_, .init2 A lw fun s m q => ?_, .init2 A lw fun s m q => ?_⟩
  all_goals
    cases s with
    | fork => exact fnt q
    | leaf k p => first | exact c _ m | exact w _ m
theorem course_loop (H : Hosts t hs ks ts N) (words : Option MV) :
    Run (forF 3 b_lw_course1 (rangeL ((N - 1 : Nat) : Int) (-1) N) (cSt hs ks ts words none (ks.map fun _ => [(1, 1)]) (ks.map fun _ => sn " ") ((hs.map wordOf).map B.leaf) ((hs.map wordOf).map B.leaf) none none none)) (CS t N hs ks ts words 0) :=
  down_loop (CS t N hs ks ts words) (.mk (course_start H)) fun k σ hk I => course_step H hk I
theorem Hosts.of_hs (H : Hosts t hs ks ts N) {h : Str} (hh : h ∈ hs) : ∃ s ∈ t.subs, h = host s.path := by
  obtain ⟨i, hi⟩ := List.mem_iff_getElem?.mp hh
  obtain ⟨s, m, e⟩ := H.A.sub_at (H.A.lh ▸ (List.getElem?_eq_some_iff.mp hi).1)
  exact ⟨s, m, Option.some.inj (hi.symm.trans (e ▸ (H.A.at' s m).h))⟩
inductive Hw (h : Str) : Prop
  | mk {x : Str} (e : (Txt.split h (sn "."))[0]? = some x) (w : Word x) (l : h.length ≤ 26)
theorem Hosts.hw (H : Hosts t hs ks ts N) {h : Str} (hh : h ∈ hs) : Hw h := by
  have l := H.len h hh
  obtain ⟨s, m, rfl⟩ := H.of_hs hh
  have o := H.okP m
  cases e : s.path with
  | nil => exact absurd e o.ne
  | cons x r => rw [e] at o l; exact .mk (split_host o) o.word l
theorem five {a b : Nat} (h : a ≤ 5) (h2 : b ≤ 2) : a + (a + 1) * b ≤ 1000000 := Nat.le_trans (Nat.add_le_add h (Nat.mul_le_mul (Nat.succ_le_succ h) h2)) (by decide)
theorem comp_all {α : Type} {σ : St} {it : Evs} {elt : Ev} {xs : List α} {f g : α → D} (h : it σ (xs.map f) true) (hl : xs.length ≤ 1000000) (he : ∀ x ∈ xs, elt [none, fz (f x)] (g x) true) : cComp it 1 [none, none] none elt σ (xs.map g) true :=
  .mk (b := true) (c := true) h (compF_map he) (List.length_map f ▸ hl)
inductive CourseOk (t : T) (hs : List Str) (ks : List Kid) (ts : List Int) (N : Nat) : Prop
  | mk {tabs : List Tab} {leads : List Str} (a : Vals t N T.tab tabs 0) (b : Vals t N T.leadV leads 0) (g : g_lw_course [.lst (lS hs), .lst (lK ks), .lst (lI ts)] (.tup [.lst (lT tabs), .lst (lS leads), pB t.leanB, pB t.drawnB])) : CourseOk t hs ks ts N
theorem g_course (H : Hosts t hs ks ts N) : CourseOk t hs ks ts N := by
  have A := H.A
  have hN : N ≤ 1000000 := Nat.le_trans H.hN (by decide)
  cases course_loop H (fz (.lst (lS (hs.map wordOf)))) with
  | mk f I =>
  cases I with
  | @mk x3 x9 x10 x11 tabs leads lean drawn C =>
  refine .mk C.a C.b ?_
  have lk : ks.length ≤ 1000000 := A.lk ▸ hN
  have lh : hs.length ≤ 1000000 := A.lh ▸ hN
  have lkD : (lK ks).length ≤ 1000000 := List.length_map kidD ▸ lk
  have lhD : (lS hs).length ≤ 1000000 := List.length_map D.str ▸ lh
  have lw : (hs.map wordOf).length ≤ 1000000 := Nat.le_trans (Nat.le_of_eq (List.length_map ..)) lh
  have lwD : (lS (hs.map wordOf)).length ≤ 1000000 := List.length_map D.str ▸ lw
  have L := lenN (f := kidD) A.lk hN
  have mm : ∀ {α β : Type} {f : α → β} {g : β → D} {l : List α}, (l.map f).map g = l.map fun x => g (f x) := List.map_map ..
  have W : ∀ h ∈ hs, cRep (sn "\"") (sn "\\\"") (cRep (sn "\\") (sn "\\\\") (cIdx (cMth "str" splitF (cV 1) (cCons (cK (.str (sn "."))) cNil)) (cK (.int 0)))) [none, fz (.str h)] (.str (wordOf h)) true := fun h hh => by
    cases H.hw hh with
    | @mk x e w l =>
    rw [wordOf, e]
    have sl := split_le h (sn ".")
    exact .mk (.mk (.mk (.mk (eV rfl) rfl (.mk .mk .mk) (.mk (by decide) (Nat.le_trans l (by decide)))) .mk (ix (t := D.str) (n := 0) (Nat.le_trans sl (Nat.le_trans (Nat.add_le_add_right l 2) (by decide))) e)) (five w.x5 (Nat.le_refl 2)) (by decide +kernel)) (five w.r5 (Nat.le_refl 2)) (by decide +kernel)
  have P : ∀ w ∈ hs.map wordOf, cLst (cCons (cBin addD (cBin addD (cK (.str (sn "(\""))) (cV 1)) (cK (.str (sn "\"")))) (cNil)) [none, fz (.str w)] (pB (.leaf w)) true := fun w hw => by
    obtain ⟨h, hh, rfl⟩ := List.mem_map.mp hw
    cases H.hw hh with
    | @mk x e w l =>
    have w5 : (wordOf h).length ≤ 5 := by rw [wordOf, e]; exact w.e5
    exact rt (cLst.mk (.mk (.mk (.mk .mk (eV rfl) (.str (room (Nat.le_refl 2) w5))) .mk (.str (room (s_add (Nat.le_refl 2) w5) (Nat.le_refl 1)))) .mk)) rfl
  have c1 := comp_all (σ := [fz (.lst (lS hs)), fz (.lst (lK ks)), fz (.lst (lI ts)), none, none, none, none, none, none, none, none, none, none, none, none, none, none]) (it := iLst (cV 1)) (elt := cDict1 (cK (.int 1)) (cK (.int 1))) (g := fun _ => tabD [(1, 1)]) (.mk (eV rfl) lkD) lk fun _ _ => .mk .mk .mk rfl
  rw [← mm (f := fun _ => [(1, 1)]) (g := tabD)] at c1
  have c2 := comp_all (σ := [fz (.lst (lS hs)), fz (.lst (lK ks)), fz (.lst (lI ts)), none, oL (lT (ks.map fun _ => [(1, 1)])), none, none, none, none, none, none, none, none, none, none, none, none]) (it := iLst (cV 1)) (elt := cK (.str (sn " "))) (g := fun _ => .str (sn " ")) (.mk (eV rfl) lkD) lk fun _ _ => .mk
  rw [← mm (f := fun _ => sn " ") (g := D.str)] at c2
  have c3 := comp_all (σ := [fz (.lst (lS hs)), fz (.lst (lK ks)), fz (.lst (lI ts)), none, oL (lT (ks.map fun _ => [(1, 1)])), oL (lS (ks.map fun _ => sn " ")), none, none, none, none, none, none, none, none, none, none, none]) (it := iLst (cV 0)) (.mk (eV rfl) lhD) lh W
  rw [← mm (f := wordOf) (g := D.str)] at c3
  have c4 : ∀ {σ : St}, σ[6]? = some (fz (.lst (lS (hs.map wordOf)))) → cComp (iLst (cV 6)) 1 [none, none] none (cLst (cCons (cBin addD (cBin addD (cK (.str (sn "(\""))) (cV 1)) (cK (.str (sn "\"")))) (cNil))) σ (lB ((hs.map wordOf).map B.leaf)) true := fun h => by
    rw [lB, mm]; exact comp_all (.mk (eV h) lwD) lw P
  have root := A.root H.ok H.h1
  have nl := C.c.all t.self_sub
  have dl := C.d.all t.self_sub
  rw [root] at nl dl
  apply xFun_ret rfl (hl := rfl)
  exact eGo (eOwn c1 rfl) (eGo (eOwn c2 rfl) (eGo (eAsg (.mk c3) rfl) (eGo (eOwn (c4 rfl) rfl) (eGo (eOwn (c4 rfl) rfl) (eGo (eFor (.mk (.mk (.mk (.mk (.mk (eV rfl) .mk) L) .mk .int) (.mk (.mk .mk .mk) (.mk (.mk .mk .mk) .mk))) (down_range H.h1 hN)) rfl f)
    (eRet (.mk (.mk (eVl rfl) (.mk (eVl rfl) (.mk (.mk (eCl rfl) .mk (ix (t := pB) (n := 0) (C.c.len ▸ hN) nl)) (.mk (.mk (eCl rfl) .mk (ix (t := pB) (n := 0) (C.d.len ▸ hN) dl)) .mk)))))))))))
end
structure Bd (c rs : List Nat) : Prop where
  get : ∀ i : Nat, c[i]?.getD 0 = rs.count i
  len : ∀ i : Nat, i < c.length ↔ ∃ a ∈ rs, i ≤ a
structure Pad (c d : List Nat) (b : Nat) : Prop where
  lt : b < d.length
  get : ∀ i : Nat, d[i]?.getD 0 = c[i]?.getD 0
  len : ∀ i : Nat, i < d.length ↔ i < c.length ∨ i ≤ b
  le : d.length ≤ c.length + b + 1
section
variable {c d rs rs' : List Nat} {b a : Nat}
theorem pad_no (h : ¬ c.length ≤ b) : Pad c c b :=
  have h := Nat.lt_of_not_le h
  ⟨h, fun _ => rfl, fun i => ⟨.inl, fun q => q.elim id fun q => Nat.lt_of_le_of_lt q h⟩, Nat.le_trans (Nat.le_add_right _ b) (Nat.le_succ _)⟩
theorem pad_yes (h : c.length ≤ b) : Pad c (c ++ List.replicate (b - c.length + 1) 0) b := by
  have e : (c ++ List.replicate (b - c.length + 1) 0).length = b + 1 := by rw [List.length_append, List.length_replicate, ← Nat.add_assoc, Nat.add_sub_cancel' h]
  refine ⟨e ▸ Nat.lt_succ_self b, fun i => ?_, fun i => ?_, e ▸ Nat.succ_le_succ (Nat.le_add_left ..)⟩
  · by_cases q : i < c.length
    · rw [List.getElem?_append_left q]
    · rw [List.getElem?_append_right (Nat.le_of_not_lt q), List.getElem?_eq_none (l := c) (Nat.le_of_not_lt q), List.getElem?_replicate]
      by_cases z : i - c.length < b - c.length + 1
      · rw [if_pos z]; rfl
      · rw [if_neg z]
  · rw [e]
    exact ⟨fun q => .inr (Nat.le_of_lt_succ q), fun q => Nat.lt_succ_of_le (q.elim (fun q => Nat.le_trans (Nat.le_of_lt q) h) id)⟩
theorem Bd.bump (B : Bd c rs) (P : Pad c d b) : Bd (d.set b (rs.count b + 1)) (rs ++ [b]) := by
  refine ⟨fun i => ?_, fun i => ?_⟩
  · rw [List.count_append, List.count_singleton]
    by_cases h : b = i
    · subst h; rw [List.getElem?_set_self P.lt, beq_self_eq_true]; rfl
    · rw [List.getElem?_set_ne h, P.get, B.get, beq_false_of_ne h]; rfl
  · rw [List.length_set, P.len, B.len]
    exact ⟨fun q => q.elim (fun ⟨a, x, y⟩ => ⟨a, List.mem_append_left _ x, y⟩) fun q => ⟨b, List.mem_append_right _ (.head _), q⟩, fun ⟨a, x, y⟩ => (List.mem_append.mp x).elim (fun x => .inl ⟨a, x, y⟩) fun x => .inr (List.mem_singleton.mp x ▸ y)⟩
theorem Bd.le (B : Bd c rs) {M : Nat} (h : ∀ a ∈ rs, a ≤ M) : c.length ≤ M + 1 := Nat.le_of_not_lt fun q => ((B.len (M + 1)).mp q).elim fun a z => Nat.not_succ_le_self M (Nat.le_trans z.2 (h a z.1))
theorem Bd.ge (B : Bd c rs) (h : a ∈ rs) : a < c.length := (B.len a).mpr ⟨a, h, Nat.le_refl a⟩
theorem Bd.len_le (B : Bd c rs) (C : Bd d rs') (h : ∀ i, rs.count i = rs'.count i) : c.length ≤ d.length := by
  refine Nat.le_of_not_lt fun q => ?_
  obtain ⟨a, x, y⟩ := (B.len _).mp q
  exact Nat.lt_irrefl _ ((C.len _).mpr ⟨a, List.count_pos_iff.mp (h a ▸ List.count_pos_iff.mpr x), y⟩)
theorem Bd.eq (B : Bd c rs) (C : Bd d rs') : c = d ↔ ∀ i, rs.count i = rs'.count i := by
  refine ⟨fun h i => by rw [← B.get, ← C.get, h], fun h => ?_⟩
  have len := Nat.le_antisymm (B.len_le C h) (C.len_le B fun i => (h i).symm)
  refine List.ext_getElem len fun i h1 h2 => ?_
  have e := (B.get i).trans ((h i).trans (C.get i).symm)
  rwa [List.getElem?_eq_getElem h1, List.getElem?_eq_getElem h2] at e
end
noncomputable def iSt (s : Str) (cnt : List Nat) (b : Nat) (n : Int) (nt : Nat) (x8 : Option MV) : St :=
  [some (.ownW 100 [sn "raw"] [.str s]), fz (.str s), fz (.str (sn " ")), fz (.str (sn "\t")), oL (lN cnt), fz (natD b), fz (.int n), fz (natD nt), x8, none, none, none]
section
variable {s : Str} {cnt : List Nat} {b nt c : Nat} {n : Int} {x8 : Option MV}
theorem c32 : eqT (.str (chStr 32)) (.str (sn " ")) true := eqS (s := sn " ")
theorem c9 : eqT (.str (chStr 9)) (.str (sn "\t")) true := eqS (s := sn "\t")
theorem cN (h : c ≠ 32) : eqT (.str (chStr c)) (.str (sn " ")) false := neS fun e => h (List.cons.inj (show [c] = [32] from e)).1
theorem cM (h : c ≠ 9) : eqT (.str (chStr c)) (.str (sn "\t")) false := neS fun e => h (List.cons.inj (show [c] = [9] from e)).1
theorem init_space : b_init1 ((iSt s cnt b n nt x8).set 8 (fz (.str (chStr 32)))) .next (iSt s cnt (b + 1) (n + 1) nt (fz (.str (chStr 32)))) :=
  eEnd (.tt (.mk (eV rfl) (eV rfl) c32) (eGo (eAsg (.mk (eV rfl) .mk .int) rfl) (eEnd (eAsg (.mk (eV rfl) .mk .int) rfl))))
theorem init_other (h1 : c ≠ 32) (h2 : c ≠ 9) : b_init1 ((iSt s cnt b n nt x8).set 8 (fz (.str (chStr c)))) .brk (iSt s cnt b n nt (fz (.str (chStr c)))) :=
  .out (.ff (.mk (eV rfl) (eV rfl) (cN h1)) (.out (.ff (.mk (eV rfl) (eV rfl) (cM h2)) (.out .mk nofun)) nofun)) nofun
inductive TabOk (s : Str) (cnt : List Nat) (b : Nat) (n : Int) (nt : Nat) (x8 : Option MV) : Prop
  | mk {d : List Nat} (P : Pad cnt d b) (h : b_init1 ((iSt s cnt b n nt x8).set 8 (fz (.str (chStr 9)))) .next (iSt s (d.set b (cnt[b]?.getD 0 + 1)) 0 (n + 1) (nt + 1) (fz (.str (chStr 9))))) : TabOk s cnt b n nt x8
theorem init_tab (l1 : cnt.length ≤ 1000) (l2 : b ≤ 1000) : TabOk s cnt b n nt x8 := by
  have L := lenN (f := natD) (l := cnt) rfl (million l1)
  have fin : ∀ {d : List Nat}, Pad cnt d b → (∀ {σ : St}, xIf (tCmp geD (cV 5) (cFun lenF (cCons (cV 4) (cNil)))) (xCons (xOwn 4 (lAdd (cVc 4) (cLst (lMul (cLst (cCons (cK (.int 0)) (cNil))) (cBin addD (cBin subD (cV 5) (cFun lenF (cCons (cV 4) (cNil)))) (cK (.int 1))))))) (xNil)) (xNil) (iSt s cnt b (n + 1) (nt + 1) (fz (.str (chStr 9)))) .next (iSt s d b (n + 1) (nt + 1) (fz (.str (chStr 9))))) → TabOk s cnt b n nt x8 := fun {d} P h => by
    obtain ⟨v, hv⟩ := at_some P.lt
    have e : cnt[b]?.getD 0 = v := (P.get b).symm.trans (by rw [hv]; rfl)
    have dl : d.length ≤ 1000000 := Nat.le_trans P.le (Nat.le_trans (Nat.succ_le_succ (Nat.add_le_add l1 l2)) (by decide))
    refine .mk P ?_
    rw [e]
    exact eEnd (.ff (.mk (eV rfl) (eV rfl) (cN (by decide))) (eEnd (.tt (.mk (eV rfl) (eV rfl) c9) (eGo (eAsg (.mk (eV rfl) .mk .int) rfl) (eGo (eAsg (.mk (eV rfl) .mk .int) rfl) (eGo (h (σ := [])) (eGo (eSetL (t := natD) (x := v + 1) rfl (eV rfl) (.mk (.mk (eCl rfl) (eV rfl) (ix dl hv)) .mk .int) rfl rfl P.lt dl) (eEnd (eAsg .mk rfl)))))))))
  by_cases h : cnt.length ≤ b
  · refine fin (pad_yes h) fun {_} => .tt (.mk (eV rfl) (.mk (.mk (eVl rfl) .mk) L) (geT (Int.ofNat_le.mpr h))) (eEnd ?_)
    have sb : subD (natD b) (natD cnt.length) (natD (b - cnt.length)) := by
      rw [show natD (b - cnt.length) = .int ((b : Int) - cnt.length) from congrArg D.int (Int.ofNat_sub h)]; exact .int
    have lk : b - cnt.length + 1 ≤ 1001 := Nat.succ_le_succ (Nat.le_trans (Nat.sub_le ..) l2)
    have M := eMul1 (σ := iSt s cnt b (n + 1) (nt + 1) (fz (.str (chStr 9)))) (f := cLst (cCons (cK (.int 0)) (cNil))) (g := cBin addD (cBin subD (cV 5) (cFun lenF (cCons (cV 4) (cNil)))) (cK (.int 1))) (n := b - cnt.length + 1) (.mk (.mk .mk .mk)) (.mk (.mk (eV rfl) (.mk (.mk (eVl rfl) .mk) L) sb) .mk .int) (Nat.le_trans lk (by decide))
    have O := eOwn (i := 4) (lAdd.mk (σ := iSt s cnt b (n + 1) (nt + 1) (fz (.str (chStr 9)))) (f := cVc 4) (eCl rfl) (cLst.mk M) (by rw [List.length_map, List.length_replicate]; exact room l1 lk)) rfl
    rw [show lN cnt ++ List.replicate (b - cnt.length + 1) (D.int 0) = lN (cnt ++ List.replicate (b - cnt.length + 1) 0) from by rw [lN, lN, List.map_append, List.map_replicate]; rfl] at O
    exact O
  · exact fin (pad_no h) fun {_} => .ff (.mk (eV rfl) (.mk (.mk (eVl rfl) .mk) L) (geF fun z => h (Int.ofNat_le.mp z))) .mk
noncomputable abbrev chs (l : List Nat) : List D := l.map fun c => D.str (chStr c)
noncomputable def tabC : List Nat → List Nat
  | [] => []
  | a :: rs => List.replicate a 32 ++ 9 :: tabC rs
theorem runC_tab {a : Nat} : ∀ {rs : List Nat}, runC (rs ++ [a]) = tabC rs ++ List.replicate a 32 := by
  intro rs
  induction rs with
  | nil => rfl
  | cons x rs ih =>
    rw [show x :: rs ++ [a] = [x] ++ (rs ++ [a]) from rfl, runC_append (a := [x]) (List.append_ne_nil_of_right_ne_nil _ (List.cons_ne_nil _ _)) (List.cons_ne_nil _ _), ih]
    exact (List.append_assoc (List.replicate x 32) (9 :: tabC rs) _).symm
theorem tabC_append {b : List Nat} : ∀ {a : List Nat}, tabC (a ++ b) = tabC a ++ tabC b := by
  intro a
  induction a with
  | nil => rfl
  | cons x a ih => rw [List.cons_append, tabC, tabC, ih, List.append_assoc]; rfl
theorem tabC_snoc {rs : List Nat} {a : Nat} : tabC (rs ++ [a]) = tabC rs ++ (List.replicate a 32 ++ [9]) := tabC_append
noncomputable def stops : List Nat → Prop
  | [] => True
  | c :: _ => c ≠ 32 ∧ c ≠ 9
noncomputable def Rd (s : Str) (cs : List Nat) (σ : St) (rs : List Nat) (a : Nat) : Prop := ∃ cnt n x8, Bd cnt rs ∧ forF 8 b_init1 (chs cs) σ .next (iSt s cnt a n rs.length x8)
theorem run_spaces {rest rs : List Nat} {e : Nat} (K : ∀ b n x8, b = e → Rd s rest (iSt s cnt b n nt x8) rs c) : ∀ {a b : Nat} {n : Int} {x8 : Option MV}, b + a = e → Rd s (List.replicate a 32 ++ rest) (iSt s cnt b n nt x8) rs c := by
  intro a
  induction a with
  | zero => exact fun h => K _ _ _ h
  | succ a ih =>
    intro b n x8 h
    obtain ⟨cnt', n', x', B, f⟩ := ih (b := b + 1) (n := n + 1) (x8 := fz (.str (chStr 32))) ((Nat.add_right_comm ..).trans h)
    exact ⟨cnt', n', x', B, .go init_space (.inl rfl) f⟩
theorem run_tabs {rest : List Nat} {a : Nat} (st : stops rest) : ∀ {rs qs cnt : List Nat} {n : Int} {x8 : Option MV}, Bd cnt qs → (∀ r ∈ qs, r ≤ 999) → (∀ r ∈ rs, r ≤ 999) → Rd s (tabC rs ++ (List.replicate a 32 ++ rest)) (iSt s cnt 0 n qs.length x8) (qs ++ rs) a := by
  intro rs
  induction rs with
  | nil =>
    intro qs cnt n x8 B _ _
    rw [List.append_nil]
    refine run_spaces (e := a) (fun b n x8 hb => ?_) (Nat.zero_add a)
    subst hb
    cases rest with
    | nil => exact ⟨cnt, n, x8, B, .nil⟩
    | cons c r => exact ⟨cnt, n, _, B, .brk (init_other st.1 st.2)⟩
  | cons r rs ih =>
    intro qs cnt n x8 B hq hr
    rw [tabC, List.append_assoc]
    refine run_spaces (e := r) (fun b n x8 hb => ?_) (Nat.zero_add r)
    subst hb
    have r9 := hr b (.head _)
    cases init_tab (s := s) (cnt := cnt) (b := b) (n := n) (nt := qs.length) (x8 := x8) (B.le hq) (Nat.le_succ_of_le r9) with
    | mk P h =>
    rw [B.get] at h
    obtain ⟨cnt', n', x', B', f⟩ := ih (n := n + 1) (x8 := fz (.str (chStr 9))) (B.bump P) (fun x hx => (List.mem_append.mp hx).elim (hq x) fun hx => List.mem_singleton.mp hx ▸ r9) fun x hx => hr x (.tail _ hx)
    rw [app_len rfl] at f
    rw [List.append_assoc] at B' f
    exact ⟨cnt', n', x', B', .go h (.inl rfl) f⟩
noncomputable def wsD (s : Str) (simple : Bool) (cnt : List Nat) (b : Nat) (n : Int) (nt : Nat) : D := .inst 100 [sn "is_simple", sn "norm", sn "nt", sn "n", sn "raw"] [.bool simple, .tup [.tup (lN cnt), natD b], natD nt, .int n, .str s]
inductive Ws (rs : List Nat) (a : Nat) : D → Prop
  | mk {s : Str} {simple : Bool} {cnt : List Nat} {n : Int} (B : Bd cnt rs) (l : cnt.length ≤ 1000) : Ws rs a (wsD s simple cnt a n rs.length)
theorem g_ws {rs rest : List Nat} {a : Nat} (h : cl s = tabC rs ++ (List.replicate a 32 ++ rest)) (hr : ∀ a ∈ rs, a ≤ 999) (st : stops rest) : ∃ d, g_init [.str s] d ∧ Ws rs a d := by
  obtain ⟨cnt, n, x8, B, f⟩ := run_tabs (s := s) (rest := rest) (a := a) (rs := rs) (qs := []) (cnt := []) (n := 0) (x8 := none) st ⟨fun _ => rfl, fun i => ⟨nofun, nofun⟩⟩ nofun hr
  rw [← h] at f
  have l := B.le hr
  have L := lenN (f := natD) (l := cnt) rfl (million l)
  refine ⟨_, ?_, .mk (s := s) (simple := decide ((cnt.length : Int) ≤ 1)) (n := n) B l⟩
  refine xInit.mk rfl (σ' := [some (.ownW 100 [sn "is_simple", sn "norm", sn "nt", sn "n", sn "raw"] [.bool (decide ((cnt.length : Int) ≤ 1)), .tup [.tup (lN cnt), natD a], natD rs.length, .int n, .str s]), fz (.str s), fz (.str (sn " ")), fz (.str (sn "\t")), oL (lN cnt), fz (natD a), fz (.int n), fz (natD rs.length), x8, none, none, none]) ?_ rfl
  exact eGo (.mk (eV rfl) rfl (Nat.zero_le _)) (eGo (eSwp (.mk (.mk .mk (.mk .mk .mk))) rfl rfl) (eGo (eOwn .mk rfl) (eGo (.mk .mk) (eGo (eFor (.mk (.own rfl rfl)) rfl f) (eGo (.mk (eV rfl) rfl (by decide)) (eGo (.mk (eV rfl) rfl (by decide))
    (eGo (.mk (rt (cTup.mk (.mk (.mk (eCl rfl) (Nat.le_trans (Nat.le_of_eq (List.length_map ..)) (million l))) (.mk (eV rfl) .mk))) rfl) rfl (by decide)) (eEnd (.mk (.mk (.mk (.mk (eVl rfl) .mk) L) .mk .mk) rfl (by decide))))))))))
end
section
variable {a b rs rs' : List Nat} {i j k o : Nat} {d d' : D}
inductive Bit (p : Prop) (f : Bool → Prop) : Prop
  | mk {c : Bool} (h : f c) (e : c = true ↔ p) : Bit p f
theorem eqD_lN : Bit (a = b) (eqD 7 (.tup (lN a)) (.tup (lN b))) := by
  have H := eqD.tup (n := 6) (xs := lN a) (ys := lN b) (fun j => ((a[j]?.getD 0 : Nat) : Int) == ((b[j]?.getD 0 : Nat) : Int)) fun j x y h1 h2 => by
    rw [List.getElem?_map] at h1 h2
    obtain ⟨u, e1, rfl⟩ := Option.map_eq_some_iff.mp h1
    obtain ⟨v, e2, rfl⟩ := Option.map_eq_some_iff.mp h2
    rw [e1, e2]; exact .int
  refine .mk H ?_
  rw [Bool.and_eq_true, List.all_eq_true, beq_iff_eq, List.length_map, List.length_map]
  refine ⟨fun h => List.ext_getElem h.2 fun i h1 h2 => ?_, fun h => h ▸ ⟨fun _ _ => beq_self_eq_true _, rfl⟩⟩
  have := h.1 i (List.mem_range.mpr (Nat.lt_min.mpr ⟨h1, h2⟩))
  rw [List.getElem?_eq_getElem h1, List.getElem?_eq_getElem h2] at this
  exact Int.ofNat.inj (eq_of_beq this)
theorem eqT_norm : Bit (a = b ∧ i = j) (eqT (.tup [.tup (lN a), natD i]) (.tup [.tup (lN b), natD j])) := by
  cases eqD_lN (a := a) (b := b) with
  | @mk c h e =>
  have H := eqD.tup (n := 7) (xs := [.tup (lN a), natD i]) (ys := [.tup (lN b), natD j]) (fun k => if k = 0 then c else (i : Int) == j) fun k x y h1 h2 => by
    match k with
    | 0 => exact Option.some.inj h1 ▸ Option.some.inj h2 ▸ h
    | 1 => exact Option.some.inj h1 ▸ Option.some.inj h2 ▸ .int
    | k + 2 => exact nos h1
  refine .mk (.gen H) ?_
  show ((c && (((i : Int) == j) && true)) && true) = true ↔ _
  rw [Bool.and_true, Bool.and_true, Bool.and_eq_true, e, beq_iff_eq]
  exact and_congr_right fun _ => ⟨Int.ofNat.inj, congrArg _⟩
theorem g_eq (W : Ws rs i d) (W' : Ws rs' j d') : Bit ((∀ k, rs.count k = rs'.count k) ∧ i = j) (fun c => g_equal [d, d'] (.bool c)) := by
  cases W with
  | mk B l =>
  cases W' with
  | mk B' l' =>
  cases eqT_norm (a := _) (b := _) (i := i) (j := j) with
  | mk h e =>
  refine .mk ?_ (e.trans (and_congr_left fun _ => B.eq B'))
  apply xFun_ret rfl (hl := rfl)
  exact eRet (.mk (.froz rfl rfl) (.froz rfl rfl) h)
theorem lenT {α : Type} {f : α → D} {l : List α} (h : l.length ≤ 1000000) : lenF [.tup (l.map f)] (natD l.length) := by
  have := lenF.tup (xs := l.map f) (List.length_map f ▸ h)
  rwa [List.length_map] at this
theorem long_val {n : Nat} (h1 : n ≤ o + 1) (h2 : i ≤ o) (h3 : i = o ∨ o < n) : max ((n : Int) - 1) i = o :=
  Int.le_antisymm (Int.max_le.mpr ⟨Int.sub_right_le_of_le_add (Int.ofNat_le.mpr h1), Int.ofNat_le.mpr h2⟩) (h3.elim (fun e => e ▸ Int.le_max_right ..) fun h => Int.le_trans (Int.le_sub_right_of_add_le (Int.ofNat_le.mpr h)) (Int.le_max_left ..))
theorem g_long (W : Ws rs i d) (h : ∀ r ∈ rs, r ≤ o) (h2 : i ≤ o) (h3 : i = o ∨ o ∈ rs) : g_longest_run_of_spaces [d] (natD o) := by
  cases W with
  | mk B l =>
  rw [natD, ← long_val (B.le h) h2 (h3.imp_right B.ge)]
  apply xFun_ret rfl (hl := rfl)
  exact eGo (eUnp (.froz rfl rfl) rfl rfl) (eRet (.mk (.mk (.mk (.mk (.mk (eV rfl) .mk) (lenT (million l))) .mk .int) (.mk (eV rfl) .mk)) .two))
noncomputable def psum (f : Nat → Nat) : Nat → Nat
  | 0 => 0
  | n + 1 => psum f n + f n
section
variable {f g : Nat → Nat} {m n M : Nat}
theorem psum_add : ∀ {n : Nat}, psum f (m + n) = psum f m + psum (fun j => f (m + j)) n := by
  intro n
  induction n with
  | zero => rfl
  | succ n ih =>
    show psum f (m + n) + _ = psum f m + (_ + _)
    rw [ih, Nat.add_assoc]; rfl
theorem psum_zero : ∀ {n : Nat}, (∀ i, i < n → f i = 0) → psum f n = 0 := by
  intro n
  induction n with
  | zero => exact fun _ => rfl
  | succ n ih => exact fun h => (congrArg (psum f n + ·) (h n (Nat.lt_succ_self n))).trans (ih fun i hi => h i (Nat.lt_succ_of_lt hi))
theorem psum_congr : ∀ {n : Nat}, (∀ i, i < n → f i = g i) → psum f n = psum g n := by
  intro n
  induction n with
  | zero => exact fun _ => rfl
  | succ n ih =>
    intro h
    show psum f n + f n = psum g n + g n
    rw [ih fun i hi => h i (Nat.lt_succ_of_lt hi), h n (Nat.lt_succ_self n)]
theorem psum_plus : ∀ {n : Nat}, psum (fun i => f i + g i) n = psum f n + psum g n := by
  intro n
  induction n with
  | zero => rfl
  | succ n ih =>
    show psum _ n + (f n + g n) = (psum f n + f n) + (psum g n + g n)
    rw [ih, Nat.add_add_add_comm]
theorem il_eq {cnt : List Nat} (B : Bd cnt rs) (hM : ∀ r ∈ rs, r < M) : psum (fun j => (m + j) / m * rs.count (m + j)) (cnt.length - m) = psum (fun i => i / m * rs.count i) M := by
  have lo : ∀ i, i < m → i / m * rs.count i = 0 := fun i hi => by rw [Nat.div_eq_of_lt hi, Nat.zero_mul]
  have hi : ∀ i, cnt.length ≤ i → i / m * rs.count i = 0 := fun i hi => by rw [List.count_eq_zero.mpr fun z => Nat.not_lt.mpr hi (B.ge z)]; rfl
  have lM : cnt.length ≤ M := Nat.le_of_not_lt fun q => ((B.len M).mp q).elim fun a z => Nat.not_lt.mpr z.2 (hM a z.1)
  by_cases h : m ≤ cnt.length
  · obtain ⟨n, hn⟩ := Nat.exists_eq_add_of_le h
    obtain ⟨k, hk⟩ := Nat.exists_eq_add_of_le lM
    rw [hk, psum_add, psum_zero (f := fun j => (cnt.length + j) / m * rs.count (cnt.length + j)) fun i _ => hi _ (Nat.le_add_right ..), hn, psum_add, psum_zero lo, Nat.zero_add, Nat.add_zero, Nat.add_sub_cancel_left]
  · have h := Nat.le_of_not_le h
    rw [Nat.sub_eq_zero_of_le h, psum_zero fun i _ => (Nat.lt_or_ge i m).elim (lo i) fun q => hi i (Nat.le_trans h q)]; rfl
noncomputable def lvSt (W : D) (m : Nat) (cnt : List Nat) (b il : Nat) (x5 : Option MV) : St := [fz W, fz (natD m), fz (.tup (lN cnt)), fz (natD b), fz (natD il), x5, none, none]
theorem natS {n : Nat} (h : n ≤ 1000000) : smallI (n : Int) = true := small_nat (Nat.lt_of_le_of_lt h (by decide))
theorem mulN {x y : Nat} (h : x ≤ 1000000) : mulD (natD x) (natD y) (natD (x * y)) := by
  rw [show natD (x * y) = .int ((x : Int) * y) from congrArg D.int (Int.natCast_mul ..)]; exact .int (natS h)
theorem divN {x y : Nat} (h1 : 1 ≤ y) (h : y ≤ 1000000) : divD (natD x) (natD y) (natD (x / y)) := by
  rw [show natD (x / y) = .int ((x : Int).fdiv y) from congrArg D.int (Int.ofNat_fdiv x y)]
  exact .int (fun e => Nat.ne_of_gt h1 (Int.ofNat.inj e)) (natS h)
theorem indent_step {W : D} {cnt : List Nat} {bb il : Nat} {x5 : Option MV} (B : Bd cnt rs) (hm : 1 ≤ m) (hm2 : m ≤ 1000) (hi : i < cnt.length) (hc : cnt.length ≤ 1000) :
    b_indent_level1 ((lvSt W m cnt bb il x5).set 5 (fz (natD i))) .next (lvSt W m cnt bb (il + i / m * rs.count i) (fz (natD i))) := by
  obtain ⟨v, hv⟩ := at_some hi
  rw [← B.get i, hv]
  have i1 : idxD (.tup (lN cnt)) (natD i) (natD v) := .tup (by rw [List.getElem?_map, hv]; rfl) (Nat.lt_of_lt_of_le hi (Nat.le_trans hc (by decide)))
  exact eEnd (eAsg (.mk (eV rfl) (.mk (.mk (eV rfl) (eV rfl) (divN hm (million hm2))) (.mk (eC rfl) (eV rfl) i1) (mulN (Nat.le_trans (Nat.div_le_self ..) (million (Nat.le_trans (Nat.le_of_lt hi) hc))))) .int) rfl)
inductive LI (W : D) (m : Nat) (cnt rs : List Nat) (b j : Nat) : St → Prop
  | mk {x5 : Option MV} : LI W m cnt rs b j (lvSt W m cnt b (psum (fun j => (m + j) / m * rs.count (m + j)) j) x5)
theorem range2 (h1 : m ≤ 1000000) (h2 : n ≤ 1000000) : rangeF [natD m, natD n] (rangeL (m : Int) 1 (n - m)) := by
  have := rangeF.two (natS h1) (natS h2)
  rwa [show ((n : Int) - m).toNat = n - m from Int.toNat_sub n m] at this
theorem g_indent (W : Ws rs i d) (hm : 1 ≤ m) (hm2 : m ≤ 1000) (hM : ∀ r ∈ rs, r < M) : g_indent_level [d, natD m] (natD (i + m * (psum (fun i => i / m * rs.count i) M + rs.length))) := by
  cases W with
  | @mk s simple cnt n B l =>
  rw [← il_eq B hM]
  cases up_loop (i := 5) (a := m) (n := cnt.length - m) (body := b_indent_level1) (LI (wsD s simple cnt i n rs.length) m cnt rs i) (σ := lvSt (wsD s simple cnt i n rs.length) m cnt i 0 none) .mk fun j σ hj I => by
    cases I with
    | mk => exact .nx (indent_step B hm hm2 (Nat.add_lt_of_lt_sub' hj) l) .mk
  with
  | mk f I =>
  cases I with
  | mk =>
  have L := lenT (f := natD) (million l)
  apply xFun_ret rfl (hl := rfl)
  exact eGo (eUnp (.froz rfl rfl) rfl rfl) (eGo (eAsg .mk rfl) (eGo (eFor (.mk (.mk (eV rfl) (.mk (.mk (.mk (eV rfl) .mk) L) .mk)) (range2 (million hm2) (million l))) rfl f)
    (eRet (.mk (eV rfl) (.mk (eV rfl) (.mk (eV rfl) (.froz rfl rfl) .int) (mulN (million hm2))) .int))))
end
end
section
variable {k m : Nat} {p : List Str} {u : Bool} {l r t s g : T}
theorem Two.lb (W : Two t l r s g) : t.leanB = .node s.leanB g.leanB := by
  cases W with
  | sw _ _ _ _ lb => exact lb
  | id _ _ _ _ lb => exact lb
theorem Two.row (W : Two (.fork k p u l r) l r s g) : ((T.fork k p u l r).row m).length = if s.ord = g.ord ∧ m = g.ord + 1 then 1 else (s.row m).length + (g.row m).length := by
  by_cases c : l.ord = r.ord ∧ m = l.ord + 1
  · rw [T.row_here c]
    cases W with
    | sw q => exact absurd c.1 (Nat.ne_of_gt q)
    | id => exact (if_pos ⟨c.1, c.1 ▸ c.2⟩).symm
  · rw [T.row_low c, List.length_append]
    cases W with
    | sw q => rw [if_neg (c := r.ord = l.ord ∧ m = l.ord + 1) fun z => Nat.ne_of_lt q z.1, Nat.add_comm]
    | id => rw [if_neg (c := l.ord = r.ord ∧ m = r.ord + 1) fun z => c ⟨z.1, z.1 ▸ z.2⟩]
theorem count1 {a : Nat} : [a].count m = if a = m then 1 else 0 := by
  rw [List.count_singleton]
  by_cases h : a = m
  · rw [if_pos h, if_pos (beq_iff_eq.mpr h)]
  · rw [if_neg h, if_neg fun z => h (eq_of_beq z)]
theorem T.runs_count (m : Nat) : ∀ t : T, t.runs.count m = (t.row m).length := T.by_two (fun k p => by
  show [1].count m = (if m = 1 then [T.leaf k p] else []).length
  rw [count1]
  by_cases h : m = 1
  · rw [if_pos h, if_pos h.symm]; rfl
  · rw [if_neg h, if_neg (Ne.symm h)]; rfl) fun k p u l r s g W h o _ rn _ hs hg => by
  rw [rn, W.row]
  by_cases e : s.ord = g.ord
  · rw [rmix_eq e, List.count_append, List.count_append, hs, hg, count1]
    by_cases c : m = g.ord + 1
    · rw [if_pos c.symm, if_pos ⟨e, c⟩, T.row_big (t := s) (c ▸ e ▸ Nat.lt_succ_self _), T.row_big (t := g) (c ▸ Nat.lt_succ_self _)]; rfl
    · rw [if_neg (Ne.symm c), if_neg fun z => c z.2]; rfl
  · rw [rmix_ne e, List.count_append, hs, hg, if_neg fun z => e z.1]
theorem T.got_count (m : Nat) : ∀ t : T, got t.tab (m : Int) = (t.runs.count m : Int) := by
  have one : ∀ {j : Nat}, got [((j : Int), 1)] (m : Int) = ([j].count m : Int) := fun {j} => by
    rw [count1]
    by_cases h : j = m
    · rw [if_pos h]; exact if_pos (congrArg _ h)
    · rw [if_neg h]; exact if_neg fun z => h (Int.ofNat.inj z)
  refine T.by_two (fun k p => one (j := 1)) fun k p u l r s g W h o tb rn _ hs hg => ?_
  rw [tb, rn]
  by_cases e : s.ord = g.ord
  · rw [mix_eq e, rmix_eq e, addC_got (b := [((g.ord : Int) + 1, 1)]) (List.nodup_cons.mpr ⟨List.not_mem_nil, List.nodup_nil⟩), addC_got g.tab_nodup, List.count_append, List.count_append, hs, hg]
    exact congrArg _ (one (j := g.ord + 1))
  · rw [mix_ne e, rmix_ne e, addC_got g.tab_nodup, List.count_append, hs, hg]; rfl
theorem T.runs_last : ∀ t : T, ∃ rs, t.runs = rs ++ [t.ord] := T.by_two (fun _ _ => ⟨[], rfl⟩) fun k p u l r s g W h o _ rn _ _ hg => by
  rw [rn, o]
  by_cases e : s.ord = g.ord
  · rw [rmix_eq e, if_pos e]; exact ⟨_, rfl⟩
  · rw [rmix_ne e, if_neg e]; exact hg.imp' (s.runs ++ ·) fun rs z => by rw [z, List.append_assoc]
theorem T.runs_mem : ∀ t : T, ∀ a ∈ t.runs, 1 ≤ a ∧ a ≤ t.ord := T.by_two (fun _ _ a h => ⟨Nat.le_of_eq (List.mem_singleton.mp h).symm, Nat.le_of_eq (List.mem_singleton.mp h)⟩) fun k p u l r s g W h o _ rn _ hs hg a ha => by
  rw [rn] at ha
  rw [o]
  by_cases e : s.ord = g.ord
  · rw [rmix_eq e] at ha
    rw [if_pos e]
    exact (List.mem_append.mp ha).elim (fun ha => (List.mem_append.mp ha).elim (fun z => ⟨(hs a z).1, Nat.le_succ_of_le (Nat.le_trans (hs a z).2 h)⟩) fun z => ⟨(hg a z).1, Nat.le_succ_of_le (hg a z).2⟩) fun z => ⟨Nat.le_trans (Nat.succ_pos g.ord) (Nat.le_of_eq (List.mem_singleton.mp z).symm), Nat.le_of_eq (List.mem_singleton.mp z)⟩
  · rw [rmix_ne e] at ha
    rw [if_neg e]
    exact (List.mem_append.mp ha).elim (fun z => ⟨(hs a z).1, Nat.le_trans (hs a z).2 h⟩) (hg a)
theorem T.mem_runs : ∀ (t : T) {a : Nat}, 1 ≤ a → a ≤ t.ord → a ∈ t.runs := T.by_two (fun _ _ _ h1 h2 => List.mem_singleton.mpr (Nat.le_antisymm h2 h1)) fun k p u l r s g W h o _ rn _ _ hg a h1 h2 => by
  rw [rn]
  rw [o] at h2
  by_cases e : s.ord = g.ord
  · rw [rmix_eq e]
    rw [if_pos e] at h2
    exact (Nat.lt_or_eq_of_le h2).elim (fun z => List.mem_append_left _ (List.mem_append_right _ (hg h1 (Nat.le_of_lt_succ z)))) fun z => List.mem_append_right _ (z ▸ .head _)
  · rw [rmix_ne e]
    rw [if_neg e] at h2
    exact List.mem_append_right _ (hg h1 h2)
theorem T.runs_no (t : T) {a : Nat} (h : ¬ (1 ≤ a ∧ a ≤ t.ord)) : t.runs.count a = 0 := List.count_eq_zero.mpr fun z => h (t.runs_mem a z)
theorem T.count_top : ∀ t : T, t.runs.count t.ord = 1 := T.by_two (fun _ _ => rfl) fun k p u l r s g W h o _ rn _ _ hg => by
  rw [rn, o]
  by_cases e : s.ord = g.ord
  · rw [rmix_eq e, if_pos e, List.count_append, List.count_append, s.runs_no fun z => Nat.not_succ_le_self _ (e ▸ z.2), g.runs_no fun z => Nat.not_succ_le_self _ z.2, count1, if_pos rfl]
  · rw [rmix_ne e, if_neg e, List.count_append, hg, s.runs_no fun z => e (Nat.le_antisymm h z.2)]
theorem T.runs_size : ∀ t : T, t.runs.length ≤ t.size := T.by_two (fun _ _ => Nat.le_refl _) fun k p u l r s g W h o _ rn z hs hg => by
  rw [rn, z]
  by_cases e : s.ord = g.ord
  · rw [rmix_eq e, List.length_append, List.length_append]; exact Nat.succ_le_succ (Nat.add_le_add hs hg)
  · rw [rmix_ne e, List.length_append]; exact Nat.le_succ_of_le (Nat.add_le_add hs hg)
theorem total_put {k c : Int} : ∀ {a : Tab}, total (put1 k c a) = total a + c := by
  intro a
  induction a with
  | nil => exact Int.add_comm c 0
  | cons p a ih =>
    by_cases e : p.1 = k
    · rw [put1_hit e]
      show p.2 + c + total a = p.2 + total a + c
      rw [Int.add_right_comm]
    · rw [put1_miss e]
      show p.2 + total (put1 k c a) = p.2 + total a + c
      rw [ih, Int.add_assoc]
theorem total_add : ∀ {b a : Tab}, total (addC a b) = total a + total b := by
  intro b
  induction b with
  | nil => exact (Int.add_zero _).symm
  | cons p b ih =>
    intro a
    show total (addC (put1 p.1 p.2 a) b) = total a + (p.2 + total b)
    rw [ih, total_put, Int.add_assoc]
theorem T.tab_total : ∀ t : T, total t.tab = (t.runs.length : Int) := T.by_two (fun _ _ => rfl) fun k p u l r s g W h o tb rn _ hs hg => by
  rw [tb, rn]
  by_cases e : s.ord = g.ord
  · rw [mix_eq e, rmix_eq e, total_add, total_add, List.length_append, List.length_append, hs, hg]; rfl
  · rw [mix_ne e, rmix_ne e, total_add, List.length_append, hs, hg]; rfl
noncomputable def T.due (t : T) (k : Nat) : Nat := t.runs.count (k + 1)
theorem psum_one {a : Nat} (h1 : 1 ≤ a) : ∀ {M : Nat}, a ≤ M → psum (fun k => if k + 1 = a then 1 else 0) M = 1 := by
  intro M
  induction M with
  | zero => exact fun h => absurd (Nat.le_trans h1 h) (by decide)
  | succ M ih =>
    intro h
    show psum _ M + (if M + 1 = a then 1 else 0) = 1
    by_cases e : M + 1 = a
    · rw [if_pos e, psum_zero fun i hi => if_neg fun z => Nat.ne_of_lt hi (Nat.succ.inj (z.trans e.symm))]
    · rw [if_neg e, ih (Nat.le_of_lt_succ (Nat.lt_of_le_of_ne h (Ne.symm e)))]
theorem psum_counts {M : Nat} : ∀ {l : List Nat}, (∀ a ∈ l, 1 ≤ a ∧ a ≤ M) → psum (fun k => l.count (k + 1)) M = l.length := by
  intro l
  induction l with
  | nil => exact fun _ => psum_zero fun _ _ => rfl
  | cons a l ih =>
    intro h
    have e : ∀ k, (a :: l).count (k + 1) = l.count (k + 1) + if k + 1 = a then 1 else 0 := fun k => by
      rw [show a :: l = [a] ++ l from rfl, List.count_append, count1, Nat.add_comm]
      by_cases z : k + 1 = a
      · rw [if_pos z, if_pos z.symm]
      · rw [if_neg z, if_neg (Ne.symm z)]
    rw [psum_congr fun i _ => e i, psum_plus, ih fun x hx => h x (.tail _ hx), psum_one (h a (.head _)).1 (h a (.head _)).2]; rfl
theorem sum_psum {f : Nat → Nat} : ∀ {M : Nat}, ((List.range M).map fun k => (f k : Int)).sum = (psum f M : Int) := by
  intro M
  induction M with
  | zero => rfl
  | succ M ih => rw [List.range_succ, List.map_append, List.sum_append, ih]; exact congrArg _ (Int.add_zero _)
theorem valI_tab {b : Tab} {k : Int} : valI (tK b) (tV b) k = if k ∈ tK b then some (.int (got b k)) else none := by
  unfold valI
  induction b with
  | nil => exact (if_neg nofun).symm
  | cons p b ih =>
    by_cases e : p.1 = k
    · rw [got_hit e, if_pos (e ▸ List.Mem.head _)]; exact find_hit (p := (p.1, D.int p.2)) e
    · rw [got_miss e]
      refine (find_miss (p := (p.1, D.int p.2)) e).trans (ih.trans ?_)
      by_cases q : k ∈ tK b
      · rw [if_pos q, if_pos (.tail _ q)]
      · rw [if_neg q, if_neg (c := k ∈ tK (p :: b)) fun z => (List.mem_cons.mp z).elim (Ne.symm e) q]
theorem eqDct_tab {b : Tab} : ∀ {a : Tab}, Bit (∀ p ∈ a, p.1 ∈ tK b ∧ p.2 = got b p.1) (eqDct (tK b) (tV b) (tK a) (tV a)) := by
  intro a
  induction a with
  | nil => exact .mk .nil ⟨fun _ => nofun, fun _ => rfl⟩
  | cons p a ih =>
    cases ih with
    | mk h e =>
    by_cases q : p.1 ∈ tK b
    · refine .mk (.hit (valI_tab.trans (if_pos q)) .int h) ?_
      rw [Bool.and_eq_true, beq_iff_eq, e]
      exact ⟨fun z x hx => (List.mem_cons.mp hx).elim (fun e => e ▸ ⟨q, z.1⟩) (z.2 x), fun z => ⟨(z p (.head _)).2, fun x hx => z x (.tail _ hx)⟩⟩
    · exact .mk (.miss (valI_tab.trans (if_neg q))) ⟨fnt, fun z => absurd (z p (.head _)).1 q⟩
theorem got_mem : ∀ {a : Tab} {p : Int × Int}, (tK a).Nodup → p ∈ a → got a p.1 = p.2 := by
  intro a
  induction a with
  | nil => exact fun _ h => nomatch h
  | cons q a ih =>
    intro p nd h
    have nd := List.nodup_cons.mp nd
    refine (List.mem_cons.mp h).elim (fun e => e ▸ got_hit rfl) fun h => ?_
    rw [got_miss fun z : q.1 = p.1 => nd.1 (List.mem_map.mpr ⟨p, h, z.symm⟩)]; exact ih nd.2 h
structure Full (a : Tab) (M : Nat) (f : Nat → Nat) : Prop where
  nd : (tK a).Nodup
  keys : Keys a M
  val : ∀ m : Nat, 1 ≤ m → m ≤ M → got a (m : Int) = f m
noncomputable def up1 (M : Nat) : List Int := (List.range M).map fun k => ((k + 1 : Nat) : Int)
theorem up1_nodup {M : Nat} : (up1 M).Nodup := by
  unfold up1
  rw [List.nodup_iff_pairwise_ne, List.pairwise_map]
  exact (List.nodup_iff_pairwise_ne.mp List.nodup_range).imp fun h z => h (Nat.succ.inj (Int.ofNat.inj z))
theorem up1_mem {M : Nat} {j : Int} : j ∈ up1 M ↔ 1 ≤ j ∧ j ≤ M := by
  unfold up1
  rw [List.mem_map]
  refine ⟨fun ⟨k, hk, e⟩ => e ▸ ⟨Int.ofNat_le.mpr (Nat.succ_pos k), Int.ofNat_le.mpr (List.mem_range.mp hk)⟩, fun h => ?_⟩
  obtain ⟨n, rfl⟩ := Int.eq_ofNat_of_zero_le (Int.le_trans (by decide) h.1)
  have h1 : 1 ≤ n := Int.ofNat_le.mp h.1
  exact ⟨n - 1, List.mem_range.mpr (Nat.lt_of_lt_of_le (Nat.sub_lt h1 (by decide)) (Int.ofNat_le.mp h.2)), congrArg _ (Nat.sub_add_cancel h1)⟩
theorem Full.len {a : Tab} {M : Nat} {f : Nat → Nat} (h : Full a M f) : a.length = M := by
  have e := ((List.perm_ext_iff_of_nodup h.nd up1_nodup).mpr fun j => (h.keys j).trans up1_mem.symm).length_eq
  rwa [List.length_map, up1, List.length_map, List.length_range] at e
theorem Full.eq {a b : Tab} {M M' : Nat} {f g : Nat → Nat} (h : Full a M f) (h' : Full b M' g) : Bit (M = M' ∧ ∀ m, 1 ≤ m → m ≤ M → f m = g m) (eqT (tabD a) (tabD b)) := by
  have la : (tK a).length = M := (List.length_map ..).trans h.len
  have lb : (tK b).length = M' := (List.length_map ..).trans h'.len
  by_cases e : M = M'
  · cases eqDct_tab (a := a) (b := b) with
    | mk w z =>
    refine .mk (.dct (la.trans (e.trans lb.symm)) w) (z.trans ⟨fun q => ⟨e, fun m h1 h2 => ?_⟩, fun q p hp => ?_⟩)
    · obtain ⟨p, hp, pe⟩ := List.mem_map.mp ((h.keys (m : Int)).mpr ⟨Int.ofNat_le.mpr h1, Int.ofNat_le.mpr h2⟩)
      have := (got_mem h.nd hp).trans (q p hp).2
      rw [pe, h.val m h1 h2, h'.val m h1 (e ▸ h2)] at this
      exact Int.ofNat.inj this
    · have hk := (h.keys p.1).mp (List.mem_map_of_mem (f := fun x : Int × Int => x.1) hp)
      obtain ⟨m, hm⟩ := Int.eq_ofNat_of_zero_le (Int.le_trans (by decide) hk.1)
      have g1 := got_mem h.nd hp
      rw [hm] at hk g1 ⊢
      have m1 := Int.ofNat_le.mp hk.1
      have m2 := Int.ofNat_le.mp hk.2
      exact ⟨(h'.keys _).mpr (e ▸ hk), by rw [← g1, h.val m m1 m2, h'.val m m1 (e ▸ m2), q.2 m m1 m2]⟩
  · exact .mk (.dctN (la ▸ lb ▸ e)) ⟨fnt, fun z => absurd z.1 e⟩
theorem T.full (t : T) : Full t.tab t.ord fun m => t.runs.count m := ⟨t.tab_nodup, t.tab_keys, fun m _ _ => t.got_count m⟩
theorem T.counts_iff (s t : T) : (s.ord = t.ord ∧ ∀ m, 1 ≤ m → m ≤ s.ord → s.runs.count m = t.runs.count m) ↔ ∀ m, s.runs.count m = t.runs.count m := by
  refine ⟨fun h m => ?_, fun h => ⟨?_, fun m _ _ => h m⟩⟩
  · by_cases q : 1 ≤ m ∧ m ≤ s.ord
    · exact h.2 m q.1 q.2
    · rw [s.runs_no q, t.runs_no (h.1 ▸ q)]
  · have a := s.runs_mem t.ord (List.count_pos_iff.mp (h _ ▸ t.count_top ▸ Nat.one_pos))
    have b := t.runs_mem s.ord (List.count_pos_iff.mp (h _ ▸ s.count_top ▸ Nat.one_pos))
    exact Nat.le_antisymm b.2 a.2
theorem T.eqT_tabs (s t : T) {rs rs' : List Nat} (h : s.runs = rs ++ [s.ord]) (h' : t.runs = rs' ++ [t.ord]) : Bit ((∀ k, rs.count k = rs'.count k) ∧ s.ord = t.ord) (eqT (tabD s.tab) (tabD t.tab)) := by
  cases s.full.eq t.full with
  | mk c e =>
  refine .mk c (e.trans ((T.counts_iff s t).trans ⟨fun w => ?_, fun w m => ?_⟩))
  · have o := ((T.counts_iff s t).mpr w).1
    refine ⟨fun k => ?_, o⟩
    have := w k
    rw [h, h', o, List.count_append, List.count_append] at this
    exact Nat.add_right_cancel this
  · rw [h, h', List.count_append, List.count_append, w.1, w.2]
noncomputable def T.dueT (t : T) : Tab := (List.range t.ord).map fun k => (((k + 1 : Nat) : Int), (t.due k : Int))
theorem T.dueT_full (t : T) : Full t.dueT t.ord fun m => t.runs.count m := by
  have ek : tK t.dueT = up1 t.ord := List.map_map ..
  have nd : (tK t.dueT).Nodup := ek ▸ up1_nodup
  refine ⟨nd, fun j => ek ▸ up1_mem, fun m h1 h2 => ?_⟩
  have hp : ((m : Int), (t.runs.count m : Int)) ∈ t.dueT := List.mem_map.mpr ⟨m - 1, List.mem_range.mpr (Nat.lt_of_lt_of_le (Nat.sub_lt h1 (by decide)) h2), by rw [T.due, Nat.sub_add_cancel h1]⟩
  exact got_mem nd hp
theorem T.eqT_due (t : T) : eqT (tabD t.tab) (tabD t.dueT) true := by
  cases t.full.eq t.dueT_full with
  | mk c e => exact e.mpr ⟨rfl, fun _ _ _ => rfl⟩ ▸ c
theorem B.told_max : ∀ (t : T) (d : Int), (∀ x ∈ t.leanB.told d, x ≤ d + t.ord) ∧ d + t.ord ∈ t.leanB.told d := T.by_two (fun _ _ d => ⟨fun x hx => List.mem_singleton.mp hx ▸ Int.le_refl _, .head _⟩) fun k p u l r s g W h o _ _ _ hs hg d => by
  have s1 := hs (d + 1)
  have g0 := hg d
  rw [W.lb, o]
  have up : ∀ {a b : Nat}, a + 1 ≤ b → d + 1 + (a : Int) ≤ d + b := fun h => by rw [Int.add_assoc, Int.add_comm 1]; exact Int.add_le_add_left (Int.ofNat_le.mpr h) d
  by_cases e : s.ord = g.ord
  · rw [if_pos e]
    have e1 : d + 1 + (s.ord : Int) = d + ((g.ord + 1 : Nat) : Int) := by rw [e, Int.add_assoc, Int.add_comm 1]; rfl
    exact ⟨fun x hx => (List.mem_append.mp hx).elim (fun z => e1 ▸ s1.1 x z) fun z => Int.le_trans (g0.1 x z) (Int.add_le_add_left (Int.ofNat_le.mpr (Nat.le_succ _)) d), List.mem_append_left _ (e1 ▸ s1.2)⟩
  · rw [if_neg e]
    exact ⟨fun x hx => (List.mem_append.mp hx).elim (fun z => Int.le_trans (s1.1 x z) (up (Nat.lt_of_le_of_ne h e))) (g0.1 x), List.mem_append_right _ g0.2⟩
theorem B.told_deep : ∀ (t : T) (d : Nat), t.drawnB.told (d : Int) = (deepT t (d + 1)).map fun n : Nat => (n : Int) := by
  intro t
  induction t with
  | leaf => exact fun d => rfl
  | fork k p u l r il ir =>
    intro d
    cases u with
    | true =>
      show r.drawnB.told ((d + 1 : Nat) : Int) ++ l.drawnB.told d = List.map _ (_ ++ _)
      rw [ir, il, List.map_append]
    | false =>
      show l.drawnB.told ((d + 1 : Nat) : Int) ++ r.drawnB.told d = List.map _ (_ ++ _)
      rw [ir, il, List.map_append]
end
section
variable {t : T} {rs : List Nat} {m o : Nat}
noncomputable def T.PU (t : T) : Nat → List Nat
  | 0 => []
  | M + 1 => t.PU M ++ List.replicate (t.due M) (M + 1)
theorem T.PU_count : ∀ {M : Nat}, (t.PU M).count m = if 1 ≤ m ∧ m ≤ M then t.runs.count m else 0 := by
  intro M
  induction M with
  | zero => exact (if_neg fun z => Nat.not_succ_le_zero _ (Nat.le_trans z.1 z.2)).symm
  | succ M ih =>
    show (_ ++ _ : List Nat).count m = _
    rw [List.count_append, ih, List.count_replicate]
    by_cases e : M + 1 = m
    · subst e
      rw [if_neg fun z => Nat.not_succ_le_self _ z.2, if_pos (beq_self_eq_true _), if_pos ⟨Nat.succ_pos M, Nat.le_refl _⟩, Nat.zero_add]; rfl
    · rw [if_neg (c := (M + 1 == m) = true) fun z => e (eq_of_beq z), Nat.add_zero]
      by_cases q : 1 ≤ m ∧ m ≤ M
      · rw [if_pos q, if_pos ⟨q.1, Nat.le_succ_of_le q.2⟩]
      · rw [if_neg q, if_neg (c := 1 ≤ m ∧ m ≤ M + 1) fun z => q ⟨z.1, Nat.le_of_lt_succ (Nat.lt_of_le_of_ne z.2 (Ne.symm e))⟩]
theorem T.PU_all : (t.PU t.ord).count m = t.runs.count m := by
  rw [T.PU_count]
  by_cases q : 1 ≤ m ∧ m ≤ t.ord
  · rw [if_pos q]
  · rw [if_neg q, t.runs_no q]
theorem T.PU_last (h : t.ord = o + 1) : t.PU t.ord = t.PU o ++ [t.ord] := by
  have d : t.due o = 1 := (congrArg t.runs.count h.symm).trans t.count_top
  rw [h]
  show t.PU o ++ List.replicate (t.due o) (o + 1) = _
  rw [d]; rfl
theorem T.PU_pre (h : t.ord = o + 1) (hr : t.runs = rs ++ [t.ord]) : ∀ k, rs.count k = (t.PU o).count k := fun k => by
  have e : (t.PU t.ord).count k = t.runs.count k := T.PU_all
  rw [T.PU_last h, hr, List.count_append, List.count_append] at e
  exact (Nat.add_right_cancel e).symm
theorem T.PU_mem {M a : Nat} (h : a ∈ t.PU M) : a ≤ M := by
  have : 0 < (t.PU M).count a := List.count_pos_iff.mpr h
  rw [T.PU_count] at this
  by_cases q : 1 ≤ a ∧ a ≤ M
  · exact q.2
  · rw [if_neg q] at this; exact absurd this (Nat.lt_irrefl 0)
theorem tabC_rep {a : Nat} : ∀ {n : Nat}, tabC (List.replicate n a) = (List.replicate n (List.replicate a 32 ++ [9])).flatten := by
  intro n
  induction n with
  | zero => rfl
  | succ n ih => rw [List.replicate_succ, List.replicate_succ, List.flatten_cons, ← ih, List.append_assoc]; rfl
theorem fold_rep {x : Array Nat} : ∀ {n : Nat} {acc : Array Nat}, ((List.replicate n x).foldl (· ++ ·) acc).toList = acc.toList ++ (List.replicate n x.toList).flatten := by
  intro n
  induction n with
  | zero => exact fun {acc} => (List.append_nil _).symm
  | succ n ih =>
    intro acc
    rw [List.replicate_succ, List.foldl_cons, ih, List.replicate_succ, List.flatten_cons, Array.toList_append, List.append_assoc]
theorem mul_cl {x : Str} : ∀ {n : Nat}, cl (Txt.mul x (n : Int)) = (List.replicate n (cl x)).flatten := by
  intro n
  unfold Txt.mul
  by_cases h0 : (n : Int) < 1
  · rw [if_pos h0, Nat.lt_one_iff.mp (Int.ofNat_lt.mp h0)]; rfl
  · rw [if_neg h0]
    by_cases h1 : ((n : Int) == 1 || x.length == 0) = true
    · rw [if_pos h1]
      refine (Bool.or_eq_true_iff.mp h1).elim (fun h1 => ?_) fun h1 => ?_
      · rw [show n = 1 from Int.ofNat.inj (eq_of_beq h1)]; exact (List.append_nil _).symm
      · rw [List.eq_nil_of_length_eq_zero (show (cl x).length = 0 from eq_of_beq h1)]
        exact (List.flatten_eq_nil_iff.mpr fun l hl => (List.mem_replicate.mp hl).2).symm
    · rw [if_neg h1]; exact fold_rep
noncomputable def lineS (k n : Nat) : Str := Txt.mul (leadS [k + 1] ++ sn "\t") (n : Int)
theorem cl_line {k n : Nat} : cl (lineS k n) = tabC (List.replicate n (k + 1)) := by
  rw [lineS, mul_cl, cl_append, tabC_rep]; rfl
theorem cl_join : ∀ {xs : List Str}, cl (PySem.Str.join (sn "") xs) = (xs.map cl).flatten := by
  intro xs
  induction xs with
  | nil => rfl
  | cons x xs ih =>
    cases xs with
    | nil => exact (List.append_nil _).symm
    | cons y r =>
      show cl (x ++ sn "" ++ PySem.Str.join (sn "") (y :: r)) = cl x ++ (List.map cl (y :: r)).flatten
      rw [cl_append, cl_append, ih, List.append_assoc]; rfl
noncomputable def plainL (t : T) : List Str := (List.range t.ord).map fun k => lineS k (t.due k)
noncomputable def plainS (t : T) : Str := PySem.Str.join (sn "") (plainL t)
theorem plain_go : ∀ {M : Nat}, (((List.range M).map fun k => lineS k (t.due k)).map cl).flatten = tabC (t.PU M) := by
  intro M
  induction M with
  | zero => rfl
  | succ M ih =>
    rw [List.range_succ, List.map_append, List.map_append, List.flatten_append, ih]
    show tabC (t.PU M) ++ (cl (lineS M (t.due M)) ++ []) = tabC (_ ++ _)
    rw [List.append_nil, cl_line, tabC_append]
theorem plain_is : cl (plainS t) = tabC (t.PU t.ord) := cl_join.trans plain_go
theorem T.not_pre (hr : t.runs = rs ++ [t.ord]) : t.ord ∉ rs := by
  have e := t.count_top
  rw [hr, List.count_append, List.count_singleton_self] at e
  exact List.count_eq_zero.mp (Nat.add_right_cancel (e.trans (Nat.zero_add 1).symm))
theorem T.pre_mem (hr : t.runs = rs ++ [t.ord]) {a : Nat} (h : a ∈ rs) : 1 ≤ a ∧ a < t.ord :=
  have q := t.runs_mem a (hr ▸ List.mem_append_left _ h)
  ⟨q.1, Nat.lt_of_le_of_ne q.2 fun e => T.not_pre hr (e ▸ h)⟩
theorem T.indent (h : t.ord = o + 1) (hr : t.runs = rs ++ [t.ord]) : psum (fun i => i / m * rs.count i) t.ord + rs.length = psum (fun k => t.due k * ((k + 1) / m + 1)) o := by
  have due : ∀ k, k < o → rs.count (k + 1) = t.due k := fun k hk => by
    rw [T.due, hr, List.count_append, count1, if_neg fun e => Nat.ne_of_lt (Nat.succ_lt_succ hk) (e.symm.trans h)]; rfl
  have sl := psum_counts (M := o) (l := rs) fun a ha => ⟨(T.pre_mem hr ha).1, Nat.le_of_lt_succ (Nat.lt_of_lt_of_eq (T.pre_mem hr ha).2 h)⟩
  have z : psum (fun i => i / m * rs.count i) 1 = 0 := by
    show 0 + 0 / m * _ = 0
    rw [Nat.zero_div, Nat.zero_mul]
  rw [h, Nat.add_comm o 1, psum_add, z, Nat.zero_add, ← sl, ← psum_plus]
  refine psum_congr fun k hk => ?_
  show (1 + k) / m * rs.count (1 + k) + rs.count (k + 1) = _
  rw [Nat.add_comm 1 k, due k hk, Nat.mul_add, Nat.mul_one, Nat.mul_comm]
theorem sum_len {c : Nat} : ∀ {l : List Str}, (∀ x ∈ l, x.length ≤ c) → (l.map fun x : Str => x.length).sum + l.length ≤ l.length * (c + 1) := by
  intro l
  induction l with
  | nil => exact fun _ => Nat.zero_le _
  | cons x l ih =>
    intro h
    have ih := ih fun y hy => h y (.tail _ hy)
    rw [List.map_cons, List.sum_cons, List.length_cons, Nat.succ_mul, Nat.add_comm x.length, Nat.add_add_add_comm]
    exact Nat.add_le_add ih (Nat.succ_le_succ (h x (.head _)))
structure Joined (ss : List Str) (n : Nat) : Prop where
  j : joinF [.str (sn ""), .lst (lS ss)] (.str (PySem.Str.join (sn "") ss))
  l : (PySem.Str.join (sn "") ss).length ≤ n
theorem joinE {ss : List Str} {c n : Nat} (h : ∀ x ∈ ss, x.length ≤ c) (hn : ss.length ≤ n) (hb : n * (c + 1) ≤ 1000000) : Joined ss (n * (c + 1)) := by
  have s := Nat.le_trans (sum_len h) (Nat.mul_le_mul_right (c + 1) hn)
  refine ⟨?_, Nat.le_trans (PySem.StrLaws.join_length_le (sn "") ss) (Nat.le_trans (Nat.add_le_add_left (Nat.zero_le _) _) s)⟩
  have j := joinF.mk (joinOk_of_weight (sep := sn "") (ys := ss) (Nat.le_trans s (Nat.le_trans hb (by decide))) (by decide))
  rwa [show Txt.join (sn "") ss = PySem.Str.join (sn "") ss from PySem.StrLaws.glued_eq_join ..] at j
end
abbrev Ent (σ : St) (i : Nat) (d : D) : Prop := σ[i]? = some (fz d)
noncomputable def numsOf (xs : List Int) : List Int := xs.take 7 ++ [3, 8, 23, 37].drop xs.length
theorem nums_fit {n : Nat} : 4 ≤ min 7 n + (4 - n) ∧ min 7 n + (4 - n) ≤ 7 := by
  by_cases h : n ≤ 4
  · rw [Nat.min_eq_right (Nat.le_trans h (by decide)), Nat.add_sub_cancel' h]; decide
  · rw [Nat.sub_eq_zero_of_le (Nat.le_of_not_le h)]; exact ⟨Nat.le_min.mpr ⟨by decide, Nat.le_of_not_le h⟩, Nat.min_le_left ..⟩
theorem numsOf_len (xs : List Int) : 4 ≤ (numsOf xs).length ∧ (numsOf xs).length ≤ 7 := by
  rw [numsOf, List.length_append, List.length_take, List.length_drop]; exact nums_fit
set_option genInjectivity false in
set_option genSizeOfSpec false in
structure LD where
  nums : List Int
  base : Int
  t : T
  hs : List Str
  ks : List Kid
  ts : List Int
  os : List Nat
  tabs : List Tab
  leads : List Str
  N : Nat
structure Good (d : LD) : Prop where
  H : Hosts d.t d.hs d.ks d.ts d.N
  hN : d.N ≤ 15
  h4 : 9 ≤ d.N
  V : Vals d.t d.N T.ord d.os 0
  a : Vals d.t d.N T.tab d.tabs 0
  b : Vals d.t d.N T.leadV d.leads 0
  river : g_lw_river [.lst (lI d.nums)] (.tup [.lst (lS d.hs), .lst (lK d.ks), .lst (lI d.ts), .lst (lN d.t.bank)])
  begun : g_lw_begun [.lst (lS d.hs), .lst (lK d.ks)] (.tup [.lst (lN d.os), .lst (lL (begunOf d.t d.N))])
  course : g_lw_course [.lst (lS d.hs), .lst (lK d.ks), .lst (lI d.ts)] (.tup [.lst (lT d.tabs), .lst (lS d.leads), pB d.t.leanB, pB d.t.drawnB])
  rounds : g_lw_rounds [.lst (lS d.hs), .lst (lN d.t.bank)] (.lst (lL (begunOf d.t d.N)))
  deep : g_lw_deep [.lst (lK d.ks), .lst (lI d.ts)] (.lst (lN (deepT d.t 1)))
theorem law_data (nums : List Int) (base : Int) (n4 : 4 ≤ nums.length) (n7 : nums.length ≤ 7) : ∃ d : LD, d.nums = nums ∧ d.base = base ∧ Good d := by
  cases g_river nums n7 with
  | @mk t hs ks ts A ok hb hl r =>
  have hN : 2 * nums.length + 1 ≤ 15 := Nat.succ_le_succ (Nat.mul_le_mul_left 2 n7)
  have h9 : 9 ≤ 2 * nums.length + 1 := Nat.succ_le_succ (Nat.mul_le_mul_left 2 n4)
  have H : Hosts t hs ks ts (2 * nums.length + 1) := ⟨A, ok, Nat.succ_pos _, Nat.le_trans hN (by decide), hl⟩
  have os : t.ord ≤ 1000 := Nat.le_trans t.ord_size (A.size ▸ Nat.le_trans hN (by decide))
  cases g_begun A ok H.h1 H.hN os with
  | @mk os' V b =>
  cases g_course H with
  | @mk tabs leads Va Vb c =>
  exact ⟨⟨nums, base, t, hs, ks, ts, os', tabs, leads, 2 * nums.length + 1⟩, rfl, rfl, H, hN, h9, V, Va, Vb, r, b, c, g_rounds H os, g_deep A ok H.h1 (Nat.le_trans hN (by decide))⟩
noncomputable def T.dues (t : T) : List Nat := (List.range t.ord).map t.due
theorem dues_len {t : T} : t.dues.length = t.ord := (List.length_map ..).trans List.length_range
theorem dues_get {t : T} {k : Nat} (h : k < t.ord) : t.dues[k]? = some (t.due k) := by
  rw [T.dues, List.getElem?_map, List.getElem?_range h]; rfl
section
variable {d : LD} {σ : St} {xs : List Int}
theorem eLen {i N : Nat} {α : Type} {f : α → D} {l : List α} (h : Ent σ i (.lst (l.map f))) (e : l.length = N) (hN : N ≤ 1000000) : cFun lenF (cCons (cV i) (cNil)) σ (natD N) true := rt (cFun.mk (.mk (eV h) .mk) (lenN e hN)) rfl
theorem law1 (h0 : Ent σ 0 (.lst (lI xs))) (hl : xs.length ≤ 63) :
    cBin addD (cUpto (cVc 0) (cK (.int 7))) (cFrom (cLst (cCons (cK (.int 3)) (cCons (cK (.int 8)) (cCons (cK (.int 23)) (cCons (cK (.int 37)) (cNil)))))) (cFun lenF (cCons (cV 0) (cNil)))) σ (.lst (lI (numsOf xs))) true := by
  have l0 : (lI xs).length ≤ 63 := List.length_map D.int ▸ hl
  have e : lI (numsOf xs) = (lI xs).take 7 ++ (lI [3, 8, 23, 37]).drop xs.length := by
    show List.map _ (_ ++ _) = _
    rw [List.map_append, List.map_take, List.map_drop]
  rw [e]
  exact rt (cBin.mk (.mk (eC h0) .mk (.lst (n := 7) (Nat.le_trans l0 (by decide)))) (.mk (.mk (.mk .mk (.mk .mk (.mk .mk (.mk .mk .mk))))) (eLen h0 rfl (Nat.le_trans hl (by decide))) (.lst (n := xs.length) (xs := lI [3, 8, 23, 37]) (by decide)))
    (.lst (room (Nat.le_trans (List.length_take_le' ..) l0) (Nat.le_trans (Nat.le_of_eq List.length_drop) (Nat.sub_le 4 _))))) rfl
theorem Good.ord_le (G : Good d) : d.t.ord ≤ 15 := Nat.le_trans d.t.ord_size (G.H.A.size ▸ G.hN)
theorem Good.runs_le (G : Good d) : d.t.runs.length ≤ 15 := Nat.le_trans d.t.runs_size (G.H.A.size ▸ G.hN)
theorem Good.due_le (G : Good d) (k : Nat) : d.t.due k ≤ 15 := Nat.le_trans List.count_le_length G.runs_le
theorem Good.root (G : Good d) : d.t.id = 0 := G.H.A.root G.H.ok G.H.h1
theorem begun_len (G : Good d) (m : Nat) : (sortS (rowTo d.t m d.N)).length = d.t.due m := by
  rw [(sortS_perm _).length_eq, ← (row_perm G.H.A m).length_eq, List.length_map, T.due, T.runs_count]
theorem law5 (G : Good d) (h8 : Ent σ 8 (.lst (lL (begunOf d.t d.N)))) : cLst (cComp (iLst (cV 8)) 1 [none, none, none] none (cFun lenF (cCons (cV 1) (cNil)))) σ (.lst (lN d.t.dues)) true := by
  have ol := Nat.le_trans G.ord_le (show 15 ≤ 1000000 by decide)
  have e : lL (begunOf d.t d.N) = (List.range d.t.ord).map fun m => .lst (lS (sortS (rowTo d.t m d.N))) := List.map_map ..
  rw [e] at h8
  have l : ((List.range d.t.ord).map fun m => D.lst (lS (sortS (rowTo d.t m d.N)))).length ≤ 1000000 := by rw [List.length_map, List.length_range]; exact ol
  have C := compF_map (ix := 1) (elt := cFun lenF (cCons (cV 1) (cNil))) (σ := [none, none, none]) (xs := List.range d.t.ord) (f := fun m => .lst (lS (sortS (rowTo d.t m d.N)))) (g := fun m => natD (d.t.due m)) fun m _ => eLen (i := 1) (f := D.str) rfl (begun_len G m) (Nat.le_trans (G.due_le m) (by decide))
  rw [show (List.range d.t.ord).map (fun m => natD (d.t.due m)) = lN d.t.dues from by rw [T.dues, lN, List.map_map]; rfl] at C
  exact .mk (.mk (b := true) (c := true) (.mk (eV h8) l) C l)
theorem rangeI {i n : Nat} (h : Ent σ i (natD n)) (hn : n ≤ 1000000) : iRange (cCons (cV i) (cNil)) σ ((List.range n).map natD) true := by
  rw [List.range_eq_range', ← rangeL_nat]; exact .mk (.mk (eV h) .mk) (rangeN hn)
theorem co3 {i : Nat} {x : D} {b : Bool} (h : Ent σ i x) : coSt b [none, none, some i] σ = [none, none, fz x] := by
  show [none, none, ((σ[i]?).join).filter fun mv => b || mv.safe] = _
  rw [h]; cases b <;> rfl
theorem co4 {i : Nat} {x : D} {b : Bool} (h : Ent σ i x) : coSt b [none, none, none, some i] σ = [none, none, none, fz x] := by
  show [none, none, none, ((σ[i]?).join).filter fun mv => b || mv.safe] = _
  rw [h]; cases b <;> rfl
theorem co5 {i j : Nat} {x y : D} {b : Bool} (h : Ent σ i x) (h2 : Ent σ j y) : coSt b [none, none, some i, some j] σ = [none, none, fz x, fz y] := by
  show [none, none, ((σ[i]?).join).filter fun mv => b || mv.safe, ((σ[j]?).join).filter fun mv => b || mv.safe] = _
  rw [h, h2]; cases b <;> rfl
noncomputable def dTab (f : Nat → Nat) (j : Nat) : Tab := (List.range j).map fun k => (((k + 1 : Nat) : Int), (f k : Int))
theorem compD_due {fk fv : Ev} {f : Nat → Nat} {M : Nat} (hk : ∀ k, k < M → fk (σ.set 1 (fz (natD k))) (natD (k + 1)) true) (hv : ∀ k, k < M → fv (σ.set 1 (fz (natD k))) (natD (f k)) true) :
    ∀ {n j : Nat}, j + n = M → compD 1 fk fv σ ((List.range' j n).map natD) (tK (dTab f j), tV (dTab f j)) (tK (dTab f M), tV (dTab f M)) := by
  intro n
  induction n with
  | zero => exact fun h => h ▸ .nil
  | succ n ih =>
    intro j h
    have hj : j < M := h ▸ Nat.lt_add_of_pos_right (Nat.succ_pos n)
    have nk : ((j + 1 : Nat) : Int) ∉ tK (dTab f j) := fun z => by
      obtain ⟨p, hp, e⟩ := List.mem_map.mp z
      obtain ⟨k, hk, rfl⟩ := List.mem_map.mp hp
      exact Nat.ne_of_lt (List.mem_range.mp hk) (Nat.succ.inj (Int.ofNat.inj e))
    have e : dTab f (j + 1) = put1 ((j + 1 : Nat) : Int) (f j : Int) (dTab f j) := by rw [put1_new nk, dTab, List.range_succ, List.map_append]; rfl
    have r := ih (j := j + 1) ((Nat.add_right_comm ..).trans h)
    rw [e, ← putZ_new nk] at r
    exact .go (hk j hj) (hv j hj) rfl r
theorem eOr {t u : Tr} (h1 : t σ false) (h2 : u σ false) : tOr t (tOr u (tNil .Or)) σ false := .ff h1 (.ff h2 .mk)
theorem neI {a : Int} : neT (.int a) (.int a) false := .mk (eqI (beq_self_eq_true a))
theorem law8 (G : Good d) (h9 : Ent σ 9 (.lst (lN d.t.dues))) (h10 : Ent σ 10 (natD d.t.ord)) (h11 : Ent σ 11 (.lst (lT d.tabs))) :
    tOr (tCmp neT (cIdx (cVc 11) (cK (.int 0))) (cCompD (iRange (cCons (cV 10) (cNil))) 1 [none, none, some 9] (cBin addD (cV 1) (cK (.int 1))) (cIdx (cVc 2) (cV 1)))) (tOr (tCmp neT (cFun g_count_calls (cCons (cIdx (cVc 11) (cK (.int 0))) (cNil))) (cFun sumF (cCons (cV 9) (cNil)))) (tNil .Or)) σ false := by
  have ol := Nat.le_trans G.ord_le (show 15 ≤ 1000000 by decide)
  have hN := Nat.le_trans G.hN (show 15 ≤ 1000000 by decide)
  have i0 : idxD (.lst (lT d.tabs)) (.int 0) (tabD d.t.tab) := ix (n := 0) (G.a.len ▸ hN) (G.root ▸ G.a.all d.t.self_sub)
  have C := compD_due (fk := cBin addD (cV 1) (cK (.int 1))) (fv := cIdx (cVc 2) (cV 1)) (σ := [none, none, fz (.lst (lN d.t.dues))]) (f := d.t.due) (fun k _ => rt (cBin.mk (eV rfl) .mk .int) rfl) (fun k hk => .mk (eC rfl) (eV rfl) (ix (dues_len ▸ ol) (dues_get hk))) (Nat.zero_add d.t.ord)
  rw [← List.range_eq_range', ← co3 h9 (b := true)] at C
  have CD := cCompD.mk (rangeI h10 ol) C (by rw [List.length_map, List.length_range]; exact ol)
  have su : sumF [.lst (lN d.t.dues)] (.int (total d.t.tab)) := by
    have e : lN d.t.dues = ((List.range d.t.ord).map fun k => (d.t.due k : Int)).map D.int := by rw [T.dues, lN, List.map_map, List.map_map]; rfl
    rw [e, d.t.tab_total, ← psum_counts (M := d.t.ord) d.t.runs_mem, ← show _ = (psum (fun k => d.t.runs.count (k + 1)) d.t.ord : Int) from sum_psum]
    exact .mk
  exact eOr (.mk (.mk (eC h11) .mk i0) CD (.mk d.t.eqT_due)) (.mk (.mk (.mk (.mk (eC h11) .mk i0) .mk) (g_total _)) (.mk (.mk (eV h9) .mk) su) neI)
theorem all_refl {n : Nat} {f : Nat → Bool} (h : ∀ j, f j = true) : (List.range n).all f = true := List.all_eq_true.mpr fun j _ => h j
theorem eqD_refl {n : Nat} {l : List D} (h : ∀ x ∈ l, eqD n x x true) : eqD (n + 1) (.lst l) (.lst l) true := by
  have := eqD.lst (n := n) (xs := l) (ys := l) (fun _ => true) rfl fun j x y h1 h2 => Option.some.inj (h1.symm.trans h2) ▸ h x (List.mem_of_getElem? h1)
  rwa [all_refl fun _ => rfl] at this
theorem eqT_rows {L : List (List Str)} : eqT (.lst (lL L)) (.lst (lL L)) true := .gen (eqD_refl fun x hx => by
  obtain ⟨r, _, rfl⟩ := List.mem_map.mp hx
  exact eqD_refl fun y hy => by
    obtain ⟨s, _, rfl⟩ := List.mem_map.mp hy
    exact (beq_self_eq_true s) ▸ .str)
theorem eqT_nats {L : List Nat} : eqT (.lst (lN L)) (.lst (lN L)) true := .gen (eqD_refl fun x hx => by
  obtain ⟨r, _, rfl⟩ := List.mem_map.mp hx
  exact (beq_self_eq_true (r : Int)) ▸ .int)
noncomputable def LD.forks (d : LD) : List Nat := (List.range d.N).filter fun k => !((d.ks[k]?).getD none).isNone
theorem law10 (G : Good d) (h4 : Ent σ 4 (.lst (lK d.ks))) : cLst (cComp (iRange (cCons (cFun lenF (cCons (cV 4) (cNil))) (cNil))) 1 [none, none, some 4] (some (tCmp neT (cIdx (cVc 2) (cV 1)) (cTup (cNil)))) (cV 1)) σ (.lst (lN d.forks)) true := by
  have hN := Nat.le_trans G.hN (show 15 ≤ 1000000 by decide)
  have C := compF_filter (ix := 1) (t := tCmp neT (cIdx (cVc 2) (cV 1)) (cTup (cNil))) (elt := cV 1) (σ := [none, none, fz (.lst (lK d.ks))]) (f := natD) (g := natD) (p := fun k => !((d.ks[k]?).getD none).isNone) (xs := List.range d.N)
    (fun k hk => by
      obtain ⟨v, hv⟩ := at_some (G.H.A.lk.symm ▸ List.mem_range.mp hk)
      rw [hv]
      exact .mk (.mk (eC rfl) (eV rfl) (ix (G.H.A.lk ▸ hN) hv)) (.mk .mk) (.mk kid_eq)) fun k _ _ => eV rfl
  rw [← co3 h4 (b := true)] at C
  have R : iRange (cCons (cFun lenF (cCons (cV 4) (cNil))) (cNil)) σ ((List.range d.N).map natD) true := by
    rw [List.range_eq_range', ← rangeL_nat]; exact .mk (.mk (eLen h4 G.H.A.lk hN) .mk) (rangeN hN)
  exact .mk (.mk (b := true) (c := true) R C (by rw [List.length_map, List.length_range]; exact hN))
theorem forks_lt {k : Nat} (h : k ∈ d.forks) : k < d.N := List.mem_range.mp (List.mem_filter.mp h).1
theorem Good.forks_le (G : Good d) : d.forks.length ≤ 15 := Nat.le_trans (List.length_filter_le ..) (Nat.le_trans (Nat.le_of_eq List.length_range) G.hN)
theorem Good.forks0 (G : Good d) : d.forks[0]? = some 0 := by
  have k0 := (G.H.A.at' _ d.t.self_sub).k
  rw [G.root] at k0
  have e : (!((d.ks[0]?).getD none).isNone) = true := by
    rw [k0]
    cases h : d.t with
    | leaf k p =>
      have := G.H.A.size
      rw [h] at this
      exact absurd G.h4 (this ▸ (by decide : ¬ 9 ≤ 1))
    | fork => rfl
  obtain ⟨n, hn⟩ := Nat.exists_eq_add_of_le' (Nat.le_trans (by decide : 1 ≤ 9) G.h4)
  rw [LD.forks, hn, List.range_succ_eq_map, List.filter_cons_of_pos (p := fun k => !((d.ks[k]?).getD none).isNone) e]; rfl
end
inductive All2 {α β : Type} (P : α → β → Prop) : List α → List β → Prop
  | nil : All2 P [] []
  | cons {x : α} {y : β} {xs : List α} {ys : List β} (h : P x y) (r : All2 P xs ys) : All2 P (x :: xs) (y :: ys)
section
variable {α β : Type} {P : α → β → Prop} {xs : List α} {ys : List β}
theorem All2.len (h : All2 P xs ys) : ys.length = xs.length := by
  induction h with
  | nil => rfl
  | cons _ _ ih => exact congrArg (· + 1) ih
theorem All2.get (h : All2 P xs ys) : ∀ {i : Nat} {x : α}, xs[i]? = some x → ∃ y, ys[i]? = some y ∧ P x y := by
  induction h with
  | nil => exact fun h => nos h
  | cons h _ ih =>
    intro i x e
    cases i with
    | zero => exact ⟨_, rfl, Option.some.inj e ▸ h⟩
    | succ i => exact ih e
end
theorem compF_ex {α : Type} {ix : Nat} {elt : Ev} {σ : St} {f : α → D} {P : α → D → Prop} : ∀ {xs : List α}, (∀ x ∈ xs, ∃ y, elt (σ.set ix (fz (f x))) y true ∧ P x y) → ∃ ys, compF ix none elt σ (xs.map f) ys true ∧ All2 P xs ys := by
  intro xs
  induction xs with
  | nil => exact fun _ => ⟨[], .nil, .nil⟩
  | cons x xs ih =>
    intro h
    obtain ⟨ys, c, a⟩ := ih fun z hz => h z (.tail _ hz)
    obtain ⟨y, e, p⟩ := h x (.head _)
    exact ⟨y :: ys, .yes (t := none) (b := true) (c := true) rfl e c, .cons p a⟩
inductive GoI (s : T) (w : D) : Prop
  | mk {rs : List Nat} (e : s.runs = rs ++ [s.ord]) (W : Ws rs s.ord w) : GoI s w
inductive EnI (s : T) (w : D) : Prop
  | mk (W : Ws s.runs 1 w) : EnI s w
theorem go_ws {s : T} (h : s.ord ≤ 999) : ∃ w, g_init [.str (leadS s.runs ++ sn "x \t")] w ∧ GoI s w := by
  obtain ⟨rs, e⟩ := s.runs_last
  have c : cl (leadS s.runs ++ sn "x \t") = tabC rs ++ (List.replicate s.ord 32 ++ [120, 32, 9]) := by
    rw [cl_append, cl_lead, e, runC_tab, List.append_assoc]; rfl
  exact (g_ws c (fun a ha => Nat.le_trans (s.runs_mem a (e ▸ List.mem_append_left _ ha)).2 h) ⟨by decide, by decide⟩).imp fun w z => ⟨z.1, .mk e z.2⟩
theorem en_ws {s : T} (h : s.ord ≤ 999) : ∃ w, g_init [.str (leadS s.runs ++ sn "\t x\t")] w ∧ EnI s w := by
  obtain ⟨rs, e⟩ := s.runs_last
  have c : cl (leadS s.runs ++ sn "\t x\t") = tabC s.runs ++ (List.replicate 1 32 ++ [120, 9]) := by
    rw [cl_append, cl_lead, e, runC_tab, tabC_append, List.append_assoc, List.append_assoc]
    exact congrArg _ (List.append_assoc (List.replicate s.ord 32) [9] [32, 120, 9]).symm
  exact (g_ws c (fun a ha => Nat.le_trans (s.runs_mem a ha).2 h) ⟨by decide, by decide⟩).imp fun w z => ⟨z.1, .mk z.2⟩
section
variable {d : LD} {σ : St}
structure SubAt (d : LD) (k : Nat) (s : T) : Prop where
  m : s ∈ d.t.subs
  e : s.id = k
  at' : d.t.at k = s
theorem Good.sub (G : Good d) {k : Nat} (h : k < d.N) : SubAt d k (d.t.at k) := by
  obtain ⟨s, hs, e⟩ := G.H.A.sub_at h
  have a := G.H.A.at_sub hs
  rw [e] at a
  rw [a]; exact ⟨hs, e, a⟩
theorem Good.sord (G : Good d) {s : T} (h : s ∈ d.t.subs) : s.ord ≤ 15 := Nat.le_trans (T.ord_sub h) G.ord_le
theorem law_leads (G : Good d) (h12 : Ent σ 12 (.lst (lS d.leads))) (h15 : Ent σ 15 (.lst (lN d.forks))) {tail : Str} (ht : tail.length ≤ 10) {P : T → D → Prop} (hv : ∀ {s : T}, s.ord ≤ 999 → ∃ w, g_init [.str (leadS s.runs ++ tail)] w ∧ P s w) :
    ∃ ws, cLst (cComp (iLst (cV 15)) 1 [none, none, none, some 12] none (cFun g_init (cCons (cBin addD (cIdx (cVc 3) (cV 1)) (cK (.str tail))) (cNil)))) σ (.lst ws) true ∧ All2 (fun k w => P (d.t.at k) w) d.forks ws := by
  have hN := Nat.le_trans G.hN (show 15 ≤ 1000000 by decide)
  have fl : d.forks.length ≤ 1000000 := Nat.le_trans G.forks_le (by decide)
  obtain ⟨ws, C, A⟩ := compF_ex (ix := 1) (elt := cFun g_init (cCons (cBin addD (cIdx (cVc 3) (cV 1)) (cK (.str tail))) (cNil))) (σ := [none, none, none, fz (.lst (lS d.leads))]) (f := natD) (P := fun k w => P (d.t.at k) w) (xs := d.forks) fun k hk => by
    have S := G.sub (forks_lt hk)
    have ld := G.b.all S.m
    rw [S.e] at ld
    have so := G.sord S.m
    have ll : (d.t.at k).leadV.length ≤ 12288 := Nat.le_trans ((d.t.at k).lead_len (Nat.le_trans (T.size_sub S.m) (G.H.A.size ▸ Nat.le_trans G.hN (by decide)))) (Nat.mul_le_mul_right 64 (Nat.mul_le_mul_left 3 (Nat.le_trans (T.size_sub S.m) (G.H.A.size ▸ Nat.le_trans G.hN (by decide : 15 ≤ 64)))))
    obtain ⟨w, g, p⟩ := hv (Nat.le_trans so (by decide : 15 ≤ 999))
    exact ⟨w, rt (cFun.mk (.mk (.mk (.mk (eC rfl) (eV rfl) (ix (t := D.str) (G.b.len ▸ hN) ld)) .mk (.str (room ll ht))) .mk) g) rfl, p⟩
  rw [← co4 h12 (b := true)] at C
  have l : (lN d.forks).length ≤ 1000000 := List.length_map natD ▸ fl
  exact ⟨ws, .mk (.mk (b := true) (c := true) (.mk (eV h15) l) C l), A⟩
structure Ctx (d : LD) (gs es : List D) (σ : St) : Prop where
  len : σ.length = 38
  a2 : Ent σ 2 (.int d.base)
  a4 : Ent σ 4 (.lst (lK d.ks))
  a5 : Ent σ 5 (.lst (lI d.ts))
  a7 : Ent σ 7 (.lst (lN d.os))
  a9 : Ent σ 9 (.lst (lN d.t.dues))
  a10 : Ent σ 10 (natD d.t.ord)
  a11 : Ent σ 11 (.lst (lT d.tabs))
  a13 : Ent σ 13 (pB d.t.leanB)
  a14 : Ent σ 14 (pB d.t.drawnB)
  a15 : Ent σ 15 (.lst (lN d.forks))
  a16 : Ent σ 16 (.lst gs)
  a17 : Ent σ 17 (.lst es)
theorem ent_ne {i j : Nat} {x y : D} (h : Ent σ i x) (e : j ≠ i) : Ent (σ.set j (fz y)) i x := (List.getElem?_set_ne e).trans h
theorem ent_set {i : Nat} {x : D} (h : i < σ.length) : Ent (σ.set i (fz x)) i x := List.getElem?_set_self h
variable {gs es : List D}
theorem Ctx.set {i : Nat} {x : D} (C : Ctx d gs es σ) (h : 18 ≤ i) : Ctx d gs es (σ.set i (fz x)) := by
  have ne : ∀ {j : Nat}, j < 18 → i ≠ j := fun hj e => Nat.not_lt.mpr h (e ▸ hj)
  exact ⟨List.length_set.trans C.len, ent_ne C.a2 (ne (by decide)), ent_ne C.a4 (ne (by decide)), ent_ne C.a5 (ne (by decide)), ent_ne C.a7 (ne (by decide)), ent_ne C.a9 (ne (by decide)), ent_ne C.a10 (ne (by decide)), ent_ne C.a11 (ne (by decide)), ent_ne C.a13 (ne (by decide)), ent_ne C.a14 (ne (by decide)), ent_ne C.a15 (ne (by decide)), ent_ne C.a16 (ne (by decide)), ent_ne C.a17 (ne (by decide))⟩
theorem Ctx.own {i : Nat} {x : D} (C : Ctx d gs es σ) (h : i < 38) : Ent (σ.set i (fz x)) i x := ent_set (C.len ▸ h)
theorem for_keep {i : Nat} {body : Ex} {P : St → Prop} : ∀ {ds : List D} {σ : St}, (∀ x ∈ ds, ∀ σ, P σ → Run (body (σ.set i (fz x))) P) → P σ → Run (forF i body ds σ) P := by
  intro ds
  induction ds with
  | nil => exact fun _ h => .mk .nil h
  | cons x ds ih =>
    intro σ st h
    cases st x (.head _) σ h with
    | mk e h1 => cases ih (fun y hy => st y (.tail _ hy)) h1 with | mk e2 h2 => exact .mk (.go e (.inl rfl) e2) h2
theorem eMeth {name : Str} {F : List D → D → Prop} {g : Ev} {h : Evs} {rs : List Nat} {a : Nat} {w r : D} {us : List D} {b c : Bool} (W : Ws rs a w) (hn : ∀ v1 v2 v3 v4 v5, valS [sn "is_simple", sn "norm", sn "nt", sn "n", sn "raw"] [v1, v2, v3, v4, v5] name = none) (h1 : g σ w b) (h2 : h σ us c) (h3 : F (w :: us) r) : cMeth 100 name F g h σ r ((b && c) || r.scalar) := by
  cases W with
  | mk => exact .mk h1 (hn ..) h2 h3
theorem nL : ∀ v1 v2 v3 v4 v5, valS [sn "is_simple", sn "norm", sn "nt", sn "n", sn "raw"] [v1, v2, v3, v4, v5] (sn "longest_run_of_spaces") = none := fun _ _ _ _ _ => rfl
theorem nE : ∀ v1 v2 v3 v4 v5, valS [sn "is_simple", sn "norm", sn "nt", sn "n", sn "raw"] [v1, v2, v3, v4, v5] (sn "equal") = none := fun _ _ _ _ _ => rfl
theorem nI : ∀ v1 v2 v3 v4 v5, valS [sn "is_simple", sn "norm", sn "nt", sn "n", sn "raw"] [v1, v2, v3, v4, v5] (sn "indent_level") = none := fun _ _ _ _ _ => rfl
inductive Long (o : Nat) (w : D) : Prop
  | mk {rs : List Nat} {a : Nat} (W : Ws rs a w) (h : ∀ r ∈ rs, r ≤ o) (h2 : a ≤ o) (h3 : a = o ∨ o ∈ rs) : Long o w
theorem GoI.long {s : T} {w : D} (h : GoI s w) : Long s.ord w := by
  cases h with
  | mk e W => exact .mk W (fun r hr => (s.runs_mem r (e ▸ List.mem_append_left _ hr)).2) (Nat.le_refl _) (.inl rfl)
theorem EnI.long {s : T} {w : D} (h : EnI s w) : Long s.ord w := by
  cases h with
  | mk W => exact .mk W (fun r hr => (s.runs_mem r hr).2) s.ord_pos (.inr (s.mem_runs s.ord_pos (Nat.le_refl _)))
theorem fork_ix (G : Good d) {u k : Nat} (hu : d.forks[u]? = some k) : idxD (.lst (lN d.forks)) (natD u) (natD k) := ix (Nat.le_trans G.forks_le (by decide)) hu
theorem law13a (G : Good d) (C : Ctx d gs es σ) {u k : Nat} (hu : d.forks[u]? = some k) (h18 : Ent σ 18 (natD u)) {w : D} (h19 : Ent σ 19 w) (L : Long (d.t.at k).ord w) :
    tCmp neT (cMeth 100 (sn "longest_run_of_spaces") g_longest_run_of_spaces (cV 19) (cNil)) (cIdx (cVc 7) (cIdx (cVc 15) (cV 18))) σ false := by
  have hN := Nat.le_trans G.hN (show 15 ≤ 1000000 by decide)
  have S := G.sub (forks_lt (List.mem_of_getElem? hu))
  have lo := G.V.all S.m
  rw [S.e] at lo
  cases L with
  | mk W h h2 h3 =>
  exact .mk (eMeth W nL (eV h19) .mk (g_long W h h2 h3)) (.mk (eC C.a7) (.mk (eC C.a15) (eV h18) (fork_ix G hu)) (ix (G.V.len ▸ hN) lo)) neI
theorem law13b (G : Good d) (C : Ctx d gs es σ) (gA : All2 (fun k w => GoI (d.t.at k) w) d.forks gs) {u k v j : Nat} (hu : d.forks[u]? = some k) (hv : d.forks[v]? = some j) (h18 : Ent σ 18 (natD u)) (h20 : Ent σ 20 (natD v)) :
    tCmp inotD (cMeth 100 (sn "equal") g_equal (cIdx (cVc 16) (cV 18)) (cCons (cIdx (cVc 16) (cV 20)) (cNil))) (cCmp eqT (cIdx (cVc 11) (cIdx (cVc 15) (cV 18))) (cIdx (cVc 11) (cIdx (cVc 15) (cV 20)))) σ false := by
  have hN := Nat.le_trans G.hN (show 15 ≤ 1000000 by decide)
  have gl : gs.length ≤ 1000000 := gA.len ▸ Nat.le_trans G.forks_le (by decide)
  have tab : ∀ {u k : Nat}, d.forks[u]? = some k → idxD (.lst (lT d.tabs)) (natD k) (tabD (d.t.at k).tab) := fun hu =>
    by
    have S := G.sub (forks_lt (List.mem_of_getElem? hu))
    have lo := G.a.all S.m
    rw [S.e] at lo
    exact ix (G.a.len ▸ hN) lo
  have go : ∀ {u k : Nat}, d.forks[u]? = some k → ∃ w, idxD (.lst gs) (natD u) w ∧ GoI (d.t.at k) w := fun hu =>
    (gA.get hu).imp fun w z => ⟨.lst z.1 (Nat.lt_of_lt_of_le (List.getElem?_eq_some_iff.mp z.1).1 (Nat.le_trans gl (by decide))), z.2⟩
  have t1 := tab hu
  have t2 := tab hv
  obtain ⟨w, i1, g1⟩ := go hu
  obtain ⟨w', i2, g2⟩ := go hv
  cases g1 with
  | mk e W =>
  cases g2 with
  | mk e' W' =>
  cases g_eq W W' with
  | @mk c q z =>
  cases T.eqT_tabs _ _ e e' with
  | @mk c' q' z' =>
  have cc : c = c' := Bool.eq_iff_iff.mpr (z.trans z'.symm)
  subst cc
  have f : inotD (.bool c) (.bool c) false := (show (!(c == c)) = false by rw [beq_self_eq_true]; rfl) ▸ .mk
  exact .mk (eMeth W nE (.mk (eC C.a16) (eV h18) i1) (.mk (.mk (eC C.a16) (eV h20) i2) .mk) q) (.mk (.mk (eC C.a11) (.mk (eC C.a15) (eV h18) (fork_ix G hu)) t1) (.mk (eC C.a11) (.mk (eC C.a15) (eV h20) (fork_ix G hv)) t2) q') f
structure CtxU (d : LD) (gs es : List D) (u : Nat) (σ : St) : Prop where
  C : Ctx d gs es σ
  h : Ent σ 18 (natD u)
theorem CtxU.set {i u : Nat} {x : D} (C : CtxU d gs es u σ) (h : 19 ≤ i) : CtxU d gs es u (σ.set i (fz x)) := ⟨C.C.set (Nat.le_of_succ_le h), ent_ne C.h fun e => Nat.not_succ_le_self _ (e ▸ h)⟩
theorem rangeF15 (G : Good d) (h : Ent σ 15 (.lst (lN d.forks))) : iRange (cCons (cFun lenF (cCons (cV 15) (cNil))) (cNil)) σ ((List.range d.forks.length).map natD) true := by
  have fl : d.forks.length ≤ 1000000 := Nat.le_trans G.forks_le (by decide)
  rw [List.range_eq_range', ← rangeL_nat]; exact .mk (.mk (eLen h rfl fl) .mk) (rangeN fl)
theorem law13 (G : Good d) (gA : All2 (fun k w => GoI (d.t.at k) w) d.forks gs) (eA : All2 (fun k w => EnI (d.t.at k) w) d.forks es) (C : Ctx d gs es σ) : Run (xFor 18 (iRange (cCons (cFun lenF (cCons (cV 15) (cNil))) (cNil))) (b_law3) σ) (Ctx d gs es) := by
  have st : ∀ x ∈ (List.range d.forks.length).map natD, ∀ σ, Ctx d gs es σ → Run (b_law3 (σ.set 18 (fz x))) (Ctx d gs es) := fun x hx σ C => by
    obtain ⟨u, hu, rfl⟩ := List.mem_map.mp hx
    obtain ⟨k, fu⟩ := at_some (List.mem_range.mp hu)
    have C1 : CtxU d gs es u (σ.set 18 (fz (natD u))) := ⟨C.set (Nat.le_refl _), C.own (by decide)⟩
    obtain ⟨w, i1, g1⟩ := gA.get fu
    obtain ⟨w', i2, g2⟩ := eA.get fu
    have ul : u < 1000000000 := Nat.lt_of_lt_of_le (List.mem_range.mp hu) (Nat.le_trans G.forks_le (by decide))
    cases for_keep (i := 19) (body := b_law1) (P := CtxU d gs es u) (ds := [w, w']) (fun x hx σ C => .mk (eSkip (law13a G (C.set (Nat.le_refl _)).C fu (C.set (Nat.le_refl _)).h (C.C.own (by decide)) ((List.mem_cons.mp hx).elim (fun e => e ▸ g1.long) fun hx => List.mem_singleton.mp hx ▸ g2.long)) .mk) (C.set (Nat.le_refl _))) C1 with
    | mk e1 C2 =>
    cases for_keep (i := 20) (body := b_law2) (P := CtxU d gs es u) (ds := (List.range d.forks.length).map natD) (fun x hx σ C => by
      obtain ⟨v, hv, rfl⟩ := List.mem_map.mp hx
      obtain ⟨j, fv⟩ := at_some (List.mem_range.mp hv)
      have C' := C.set (i := 20) (x := natD v) (by decide)
      exact .mk (eSkip (law13b G C'.C gA fu fv C'.h (C.C.own (by decide))) .mk) C') C2 with
    | mk e2 C3 =>
    exact .mk (eGo (eFor (.mk (.mk (.mk (.mk (eC C1.C.a16) (eV C1.h) (.lst i1 ul)) (.mk (.mk (eC C1.C.a17) (eV C1.h) (.lst i2 ul)) .mk))) (Nat.le_of_ble_eq_true rfl)) rfl e1) (eEnd (eFor (rangeF15 G C2.C.a15) rfl e2))) C3.C
  cases for_keep st C with
  | mk e C' => exact .mk (eFor (rangeF15 G C.a15) rfl e) C'
end
section
variable {d : LD} {σ : St} {gs es : List D} {o m : Nat}
theorem line_len {k n : Nat} (h : k ≤ 15) (hn : n ≤ 15) : (lineS k n).length ≤ 255 := by
  show (cl (lineS k n)).length ≤ _
  rw [lineS, mul_cl, List.length_flatten, List.map_replicate, List.sum_replicate_nat]
  exact Nat.le_trans (Nat.mul_le_mul hn (s_add (b := sn "\t") (m := 16) (n := 1) (Nat.le_trans lead_one (Nat.succ_le_succ h)) (Nat.le_refl 1))) (by decide : 15 * 17 ≤ 255)
theorem law14 (G : Good d) (C : Ctx d gs es σ) :
    cMth "str" joinF (cK (.str (sn ""))) (cCons (cLst (cComp (iRange (cCons (cV 10) (cNil))) 1 [none, none, some 9] none (cBin mulD (cBin addD (cBin mulD (cK (.str (sn " "))) (cBin addD (cV 1) (cK (.int 1)))) (cK (.str (sn "\t")))) (cIdx (cVc 2) (cV 1))))) (cNil)) σ (.str (plainS d.t)) true := by
  have ol := Nat.le_trans G.ord_le (show 15 ≤ 1000000 by decide)
  have K := compF_map (ix := 1) (elt := cBin mulD (cBin addD (cBin mulD (cK (.str (sn " "))) (cBin addD (cV 1) (cK (.int 1)))) (cK (.str (sn "\t")))) (cIdx (cVc 2) (cV 1))) (σ := [none, none, fz (.lst (lN d.t.dues))]) (xs := List.range d.t.ord) (f := natD) (g := fun k => .str (lineS k (d.t.due k))) fun k hk => by
    have hk := List.mem_range.mp hk
    have k15 : k + 1 ≤ 15 := Nat.le_trans hk G.ord_le
    exact rt (cBin.mk (.mk (.mk .mk (.mk (eV rfl) .mk .int) (mul_ok (n := k + 1) (Nat.le_trans k15 (by decide)))) .mk (.str (room (Nat.le_trans lead_one k15) (Nat.le_refl 1)))) (.mk (eC rfl) (eV rfl) (ix (dues_len ▸ ol) (dues_get hk)))
      (.str (Nat.le_trans (Nat.mul_le_mul (s_add (b := sn "\t") (m := 15) (n := 1) (Nat.le_trans lead_one k15) (Nat.le_refl 1)) (G.due_le k)) (by decide)) (natS (Nat.le_trans (G.due_le k) (by decide))))) rfl
  rw [show (List.range d.t.ord).map (fun k => D.str (lineS k (d.t.due k))) = lS (plainL d.t) from (List.map_map ..).symm, ← co3 C.a9 (b := true)] at K
  have j := joinE (ss := plainL d.t) (c := 255) (n := 15) (fun x hx => by
    obtain ⟨k, hk, rfl⟩ := List.mem_map.mp hx
    exact line_len (Nat.le_trans (Nat.le_of_lt (List.mem_range.mp hk)) G.ord_le) (G.due_le k)) (Nat.le_trans (Nat.le_of_eq ((List.length_map ..).trans List.length_range)) G.ord_le) (by decide)
  exact rt (cMth.mk .mk rfl (.mk (.mk (.mk (b := true) (c := true) (rangeI C.a10 ol) K (by rw [List.length_map, List.length_range]; exact ol))) .mk) j.j) rfl
theorem plain_len (G : Good d) : (plainS d.t).length ≤ 1000000 := Nat.le_trans (joinE (ss := plainL d.t) (c := 255) (n := 15) (fun x hx => by
    obtain ⟨k, hk, rfl⟩ := List.mem_map.mp hx
    exact line_len (Nat.le_trans (Nat.le_of_lt (List.mem_range.mp hk)) G.ord_le) (G.due_le k)) (Nat.le_trans (Nat.le_of_eq ((List.length_map ..).trans List.length_range)) G.ord_le) (by decide)).l (by decide)
theorem Good.at0 (G : Good d) : d.t.at 0 = d.t := G.root ▸ G.H.A.at_sub d.t.self_sub
theorem Good.pm (G : Good d) {M : Nat} (h : M ≤ 15) : ∀ a ∈ d.t.PU M, a ≤ 999 := fun _ ha => Nat.le_trans (T.PU_mem ha) (Nat.le_trans h (by decide))
theorem law15 (G : Good d) (gA : All2 (fun k w => GoI (d.t.at k) w) d.forks gs) (eA : All2 (fun k w => EnI (d.t.at k) w) d.forks es) (C : Ctx d gs es σ) (h21 : Ent σ 21 (.str (plainS d.t))) :
    tOr (tCmp inotD (cMeth 100 (sn "equal") g_equal (cIdx (cVc 16) (cK (.int 0))) (cCons (cFun g_init (cCons (cUpto (cVc 21) (cUn negD (cK (.int 1)))) (cNil))) (cNil))) (cK (.bool true))) (tOr (tCmp inotD (cMeth 100 (sn "equal") g_equal (cIdx (cVc 17) (cK (.int 0))) (cCons (cFun g_init (cCons (cV 21) (cNil))) (cNil))) (cK (.bool false))) (tNil .Or)) σ false := by
  obtain ⟨o, ho⟩ := Nat.exists_eq_add_of_le' d.t.ord_pos
  have o15 : o ≤ 15 := Nat.le_of_succ_le (Nat.le_trans (Nat.le_of_eq ho.symm) G.ord_le)
  have cut : (cl (plainS d.t)).take ((plainS d.t).length - 1) = tabC (d.t.PU o) ++ (List.replicate d.t.ord 32 ++ []) := by
    show List.take ((cl (plainS d.t)).length - 1) _ = _
    rw [← List.dropLast_eq_take, plain_is, T.PU_last ho, tabC_snoc, ← List.append_assoc, List.dropLast_concat, List.append_nil]
  obtain ⟨w1, i1, W1⟩ := g_ws (s := ⟨((cl (plainS d.t)).take ((plainS d.t).length - 1)).toArray⟩) cut (G.pm o15) trivial
  obtain ⟨w2, i2, W2⟩ := g_ws (s := plainS d.t) (rs := d.t.PU d.t.ord) (a := 0) (rest := []) (plain_is.trans (List.append_nil _).symm) (G.pm G.ord_le) trivial
  obtain ⟨w, j1, g1⟩ := gA.get G.forks0
  obtain ⟨w', j2, g2⟩ := eA.get G.forks0
  rw [G.at0] at g1 g2
  cases g1 with
  | mk e W =>
  cases g2 with
  | mk W' =>
  cases g_eq W W1 with
  | @mk c1 q1 z1 =>
  cases g_eq W' W2 with
  | @mk c2 q2 z2 =>
  have e1 : c1 = true := z1.mpr ⟨T.PU_pre ho e, rfl⟩
  have e2 : c2 = false := Bool.eq_false_iff.mpr fun z => nomatch (z2.mp z).2
  subst e1
  subst e2
  exact eOr (.mk (eMeth W nE (.mk (eC C.a16) .mk (.lst (n := 0) j1 (by decide))) (.mk (.mk (.mk (.mk (eC h21) (.mk .mk .mk) (.str (plain_len G))) .mk) i1) .mk) q1) .mk .mk)
    (.mk (eMeth W' nE (.mk (eC C.a17) .mk (.lst (n := 0) j2 (by decide))) (.mk (.mk (.mk (eV h21) .mk) i2) .mk) q2) .mk .mk)
noncomputable def tabsOf (t : T) (o m : Nat) : Nat := psum (fun k => t.due k * ((k + 1) / m + 1)) o
theorem law16a (G : Good d) (C : Ctx d gs es σ) (ho : d.t.ord = o + 1) (h1 : 1 ≤ m) (h2 : m ≤ 1000) (h22 : Ent σ 22 (natD m)) :
    cFun sumF (cCons (cLst (cComp (iRange (cCons (cBin subD (cV 10) (cK (.int 1))) (cNil))) 1 [none, none, some 9, some 22] none (cBin mulD (cIdx (cVc 2) (cV 1)) (cBin addD (cBin divD (cBin addD (cV 1) (cK (.int 1))) (cV 3)) (cK (.int 1)))))) (cNil)) σ (natD (tabsOf d.t o m)) true := by
  have ol := Nat.le_trans G.ord_le (show 15 ≤ 1000000 by decide)
  have ol2 : o ≤ 1000000 := Nat.le_of_succ_le (Nat.le_trans (Nat.le_of_eq ho.symm) ol)
  have sb : subD (natD d.t.ord) (.int 1) (natD o) := by
    rw [ho, show natD o = .int (((o + 1 : Nat) : Int) - 1) from congrArg D.int (Int.add_sub_cancel (o : Int) 1).symm]; exact .int
  have K := compF_map (ix := 1) (elt := cBin mulD (cIdx (cVc 2) (cV 1)) (cBin addD (cBin divD (cBin addD (cV 1) (cK (.int 1))) (cV 3)) (cK (.int 1)))) (σ := [none, none, fz (.lst (lN d.t.dues)), fz (natD m)]) (xs := List.range o) (f := natD) (g := fun k => natD (d.t.due k * ((k + 1) / m + 1))) fun k hk =>
    rt (cBin.mk (.mk (eC rfl) (eV rfl) (ix (dues_len ▸ ol) (dues_get (ho ▸ Nat.lt_succ_of_lt (List.mem_range.mp hk))))) (.mk (.mk (.mk (eV rfl) .mk .int) (eV rfl) (divN (x := k + 1) h1 (million h2))) .mk .int) (mulN (y := (k + 1) / m + 1) (Nat.le_trans (G.due_le k) (by decide)))) rfl
  have e : (List.range o).map (fun k => natD (d.t.due k * ((k + 1) / m + 1))) = ((List.range o).map fun k => ((d.t.due k * ((k + 1) / m + 1) : Nat) : Int)).map D.int := (List.map_map ..).symm
  rw [e, ← co5 C.a9 h22 (b := true)] at K
  have R : iRange (cCons (cBin subD (cV 10) (cK (.int 1))) (cNil)) σ ((List.range o).map natD) true := by
    rw [List.range_eq_range', ← rangeL_nat]; exact .mk (.mk (.mk (eV C.a10) .mk sb) .mk) (rangeN ol2)
  rw [natD, tabsOf, ← sum_psum]
  exact rt (cFun.mk (.mk (.mk (.mk (b := true) (c := true) R K (by rw [List.length_map, List.length_range]; exact ol2))) .mk) .mk) rfl
theorem law16b (G : Good d) (gA : All2 (fun k w => GoI (d.t.at k) w) d.forks gs) (C : Ctx d gs es σ) (ho : d.t.ord = o + 1) (h1 : 1 ≤ m) (h2 : m ≤ 1000) (h22 : Ent σ 22 (natD m)) (h23 : Ent σ 23 (natD (tabsOf d.t o m))) :
    tCmp neT (cMeth 100 (sn "indent_level") g_indent_level (cIdx (cVc 16) (cK (.int 0))) (cCons (cV 22) (cNil))) (cBin addD (cV 10) (cBin mulD (cV 22) (cV 23))) σ false := by
  obtain ⟨w, j1, g1⟩ := gA.get G.forks0
  rw [G.at0] at g1
  cases g1 with
  | mk e W =>
  have I := g_indent W h1 h2 (M := d.t.ord) fun r hr => (T.pre_mem e hr).2
  rw [T.indent ho e] at I
  exact .mk (eMeth W nI (.mk (eC C.a16) .mk (.lst (n := 0) j1 (by decide))) (.mk (eV h22) .mk) I) (.mk (eV C.a10) (.mk (eV h22) (eV h23) (mulN (million h2))) .int) neI
theorem law16 (G : Good d) (gA : All2 (fun k w => GoI (d.t.at k) w) d.forks gs) (C : Ctx d gs es σ) : Run (xFor 22 (iRange (cCons (cK (.int 1)) (cCons (cBin addD (cV 10) (cK (.int 2))) (cNil)))) (b_law4) σ) (Ctx d gs es) := by
  obtain ⟨o, ho⟩ := Nat.exists_eq_add_of_le' d.t.ord_pos
  cases up_loop (i := 22) (a := 1) (n := d.t.ord + 1) (body := b_law4) (fun _ => Ctx d gs es) C fun j σ hj C => by
    have m1 : 1 ≤ 1 + j := Nat.le_add_right ..
    have m2 : 1 + j ≤ 1000 := Nat.le_trans (Nat.le_of_eq (Nat.add_comm ..)) (Nat.le_trans hj (Nat.le_trans (Nat.succ_le_succ G.ord_le) (by decide)))
    have C1 := C.set (i := 22) (x := natD (1 + j)) (by decide)
    have h22 : Ent (σ.set 22 (fz (natD (1 + j)))) 22 (natD (1 + j)) := C.own (by decide)
    have C2 := C1.set (i := 23) (x := natD (tabsOf d.t o (1 + j))) (by decide)
    exact .nx (eGo (eAsg (law16a G C1 ho m1 m2 h22) rfl) (eSkip (law16b G gA C2 ho m1 m2 (ent_ne h22 (by decide)) (C1.own (by decide))) .mk)) C2
  with
  | mk e C' =>
  have two : rangeF [.int 1, natD (d.t.ord + 2)] (rangeL ((1 : Nat) : Int) 1 (d.t.ord + 1)) := range2 (m := 1) (n := d.t.ord + 2) (by decide) (Nat.le_trans (Nat.add_le_add_right G.ord_le 2) (by decide))
  exact .mk (eFor (.mk (.mk .mk (.mk (.mk (eV C.a10) .mk .int) .mk)) two) rfl e) C'
end
structure Fit (b : B) : Prop where
  told : Told b.pieces 0 (b.told 0) 1
  n : b.pieces.length ≤ 16
  l : ∀ x ∈ b.pieces, x.length ≤ 24
theorem Fit.of {b : B} (h : b.ok) (hs : b.size ≤ 15) : Fit b :=
  have L := B.lens h
  ⟨B.toldOf h, Nat.succ_le_succ (Nat.le_trans L.n hs), fun x hx => (List.mem_cons.mp hx).elim (fun e => e ▸ Nat.le_trans L.h (Nat.le_trans (Nat.add_le_add_left hs 7) (by decide))) fun hx => Nat.le_trans (L.l x hx) (Nat.add_le_add_left hs 9)⟩
section
variable {d : LD} {σ : St} {gs es : List D} {b : B}
theorem Good.fits (G : Good d) : Fit d.t.leanB ∧ Fit d.t.drawnB := by
  have a := T.lean_ok G.H.ok (show okP [sn "local"] from .one)
  have z : d.t.size ≤ 15 := G.H.A.size ▸ G.hN
  have s := d.t.lean_size
  exact ⟨.of a.1 (s.1 ▸ z), .of a.2 (s.2 ▸ z)⟩
theorem Fit.run (F : Fit b) {base : Int} : g_lw_told [pB b, .int base] (.lst (lI (b.told 0))) := g_told F.told (fun x hx => Nat.le_trans (F.l x hx) (by decide)) (Nat.le_trans F.n (by decide))
theorem law17 (G : Good d) (C : Ctx d gs es σ) :
    tOr (tCmp neT (cFun maxF (cCons (cFun g_lw_told (cCons (cV 13) (cCons (cV 2) (cNil)))) (cNil))) (cV 10)) (tOr (tCmp neT (cFun g_lw_told (cCons (cV 14) (cCons (cV 2) (cNil)))) (cFun g_lw_deep (cCons (cV 4) (cCons (cV 5) (cNil))))) (tNil .Or)) σ false := by
  have t1 := G.fits.1.run (base := d.base)
  have t2 := G.fits.2.run (base := d.base)
  have dd : d.t.drawnB.told 0 = (deepT d.t 1).map fun n : Nat => (n : Int) := B.told_deep d.t 0
  rw [dd, show lI ((deepT d.t 1).map fun n : Nat => (n : Int)) = lN (deepT d.t 1) from List.map_map ..] at t2
  have h := B.told_max d.t 0
  rw [Int.zero_add] at h
  have mx := maxF.lst (ns := d.t.leanB.told 0) (List.ne_nil_of_mem h.2)
  rw [maxZ_spec h.2 h.1] at mx
  exact eOr (.mk (.mk (.mk (.mk (.mk (eV C.a13) (.mk (eV C.a2) .mk)) t1) .mk) mx) (eV C.a10) neI) (.mk (.mk (.mk (eV C.a14) (.mk (eV C.a2) .mk)) t2) (.mk (.mk (eV C.a4) (.mk (eV C.a5) .mk)) G.deep) (.mk eqT_nats))
theorem law18a (F : Fit b) {base : Int} (h2 : Ent σ 2 (.int base)) (h24 : Ent σ 24 (pB b)) :
    tCmp neT (cFun g_paren_depth (cCons (cMth "str" encodeF (cBin addD (cMth "str" joinF (cK (.str (sn ""))) (cCons (cV 24) (cNil))) (cK (.str (sn ")")))) (cNil)) (cCons (cV 2) (cNil)))) (cV 2) σ false := by
  have j := joinE F.l F.n (by decide)
  have net := F.told.net_join.append net_close
  have l : (PySem.Str.join (sn "") b.pieces ++ sn ")").length ≤ 1000000 := Nat.le_trans (s_add j.l (n := 1) (Nat.le_refl 1)) (by decide)
  have p := g_paren (d := base) net l
  rw [show base + ((1 : Int) - 0 + -1) = base from Int.add_zero base] at p
  exact .mk (.mk (.mk (.mk (.mk (.mk .mk rfl (.mk (eV h24) .mk) j.j) .mk (.str (room j.l (Nat.le_refl 1)))) rfl .mk (.mk net.asc l)) (.mk (eV h2) .mk)) p) (eV h2) neI
theorem law18 (G : Good d) (C : Ctx d gs es σ) : Run (xFor 24 (iLst (cLst (cCons (cV 13) (cCons (cV 14) (cNil))))) (b_law5) σ) (Ctx d gs es) := by
  cases for_keep (i := 24) (body := b_law5) (P := Ctx d gs es) (ds := [pB d.t.leanB, pB d.t.drawnB]) (fun x hx σ C => by
    have C1 := C.set (i := 24) (x := x) (by decide)
    have h24 : Ent (σ.set 24 (fz x)) 24 x := C.own (by decide)
    refine .mk (eSkip ?_ .mk) C1
    exact (List.mem_cons.mp hx).elim (fun e => law18a G.fits.1 C1.a2 (e ▸ h24)) fun hx => law18a G.fits.2 C1.a2 (List.mem_singleton.mp hx ▸ h24)) C with
  | mk e C' => exact .mk (eFor (.mk (.mk (.mk (eV C.a13) (.mk (eV C.a14) .mk))) (Nat.le_of_ble_eq_true rfl)) rfl e) C'
end
noncomputable def lawSt (xs : List Int) (d : LD) : St := [fz (.lst (lI xs)), fz (.lst (lI d.nums)), fz (.int d.base), fz (.lst (lS d.hs)), fz (.lst (lK d.ks)), fz (.lst (lI d.ts)), fz (.lst (lN d.t.bank)), fz (.lst (lN d.os)), fz (.lst (lL (begunOf d.t d.N))), fz (.lst (lN d.t.dues)), fz (natD d.t.ord), fz (.lst (lT d.tabs)), fz (.lst (lS d.leads)), fz (pB d.t.leanB), fz (pB d.t.drawnB), fz (.lst (lN d.forks))] ++ List.replicate 22 none
set_option maxHeartbeats 4000000 in
theorem law_true (xs : List Int) (hl : xs.length ≤ 63) : g_law [.lst (lI xs)] (.bool true) := by
  obtain ⟨d, en, eb, G⟩ := law_data (numsOf xs) xs.sum (numsOf_len xs).1 (numsOf_len xs).2
  have ol := Nat.le_trans G.ord_le (show 15 ≤ 1000000 by decide)
  have s1 := law1 (σ := fz (.lst (lI xs)) :: List.replicate 37 none) (xs := xs) rfl hl
  rw [← en] at s1
  have s2 : ∀ {σ : St}, Ent σ 0 (.lst (lI xs)) → cFun sumF (cCons (cV 0) (cNil)) σ (.int d.base) true := fun h => by rw [eb]; exact rt (cFun.mk (.mk (eV h) .mk) .mk) rfl
  obtain ⟨gs, a16, gA⟩ := law_leads G (σ := lawSt xs d) rfl rfl (tail := sn "x \t") (by decide) (P := GoI) go_ws
  obtain ⟨es, a17, eA⟩ := law_leads G (σ := (lawSt xs d).set 16 (fz (.lst gs))) rfl rfl (tail := sn "\t x\t") (by decide) (P := EnI) en_ws
  have C : Ctx d gs es (((lawSt xs d).set 16 (fz (.lst gs))).set 17 (fz (.lst es))) := ⟨rfl, rfl, rfl, rfl, rfl, rfl, rfl, rfl, rfl, rfl, rfl, rfl, rfl⟩
  cases law13 G gA eA C with
  | mk f13 C13 =>
  have C14 := C13.set (i := 21) (x := .str (plainS d.t)) (by decide)
  cases law16 G gA C14 with
  | mk f16 C16 =>
  cases law18 G C16 with
  | @mk σ9 f18 C18 =>
  have rest := eGo (eAsg a16 rfl) (eGo (eAsg a17 rfl) (eGo f13 (eGo (eAsg (law14 G C13) rfl) (eSkip (f := xCons (xRet (cK (.bool false))) xNil) (law15 G gA eA C14 (C13.own (by decide))) (eGo f16 (eSkip (f := xCons (xRet (cK (.bool false))) xNil) (law17 G C16) (eGo f18 (eRet (g := xNil) (cK.mk (d := .bool true))))))))))
  refine xFun_ret (σ0 := fz (.lst (lI xs)) :: List.replicate 37 none) (σ' := σ9) rfl ?_ rfl
  refine eGo (eAsg s1 rfl) ?_
  refine eGo (eAsg (s2 rfl) rfl) ?_
  refine eGo (eUnp (.mk (.mk (eV rfl) .mk) G.river) rfl rfl) ?_
  refine eGo (eUnp (.mk (.mk (eV rfl) (.mk (eV rfl) .mk)) G.begun) rfl rfl) ?_
  refine eGo (eAsg (law5 G rfl) rfl) ?_
  refine eGo (eAsg (eLen (f := natD) (l := d.t.dues) rfl dues_len ol) rfl) ?_
  refine eGo (eUnp (.mk (.mk (eV rfl) (.mk (eV rfl) (.mk (eV rfl) .mk))) G.course) rfl rfl) ?_
  refine eSkip (law8 G rfl rfl rfl) ?_
  refine eSkip (.mk (.mk (.mk (eV rfl) (.mk (eV rfl) .mk)) G.rounds) (eV rfl) (.mk eqT_rows)) ?_
  refine eGo (eAsg (law10 G rfl) rfl) ?_
  exact rest
end Mine
namespace Mine
set_option maxHeartbeats 4000000
open PySem PySem.W PySem.Calls PyProof.Rows
theorem well_ints {prog : Program} {w : World} {P : Params} {h : Heap} : ∀ {xs : List Int} {vs : List Value}, WellAll P h vs (ofPys (xs.map PyData.int)) → IsL prog w h (fun _ => True) vs (xs.map .int) := by
  intro xs
  induction xs with
  | nil =>
    intro vs q
    have q : WellAll P h vs .nil := q
    cases q with
    | nil => exact .nil
  | cons x xs ih =>
    intro vs q
    have q : WellAll P h vs (.cons (ofPy (.int x)) (ofPys (xs.map PyData.int))) := q
    cases q with
    | cons a b => exact .cons (by cases a; exact .int _ _) (ih b)
theorem well_list {prog : Program} {w : World} {P : Params} {h : Heap} {v : Value} {xs : List Int} (q : Well P h v (ofPy (PyData.list (xs.map PyData.int)))) : Is prog w h (fun _ => True) v (.lst (xs.map .int)) := by
  cases q with
  | list o r => exact .lst trivial o (well_ints r)
theorem post_ok (as : List WData) : PySem.Challenge.rw_xo0032_01.row.claim.post as (WData.bool true) as = true := by
  show (WShape.has PySem.Challenge.rw_xo0032_01.row.records (WData.bool true) WShape.bool && WTm.holds PySem.Challenge.rw_xo0032_01.row.records (WTm.eq .res (.lit (.bool true))) { args := as, res := some (WData.bool true), after := as }) = true
  simp [WTm.holds, WTm.value, WShape.has]
  refine ⟨⟨.bool, by simp [WShape.arms], rfl⟩, ?_⟩
  have : same (WData.bool true) (WData.bool true) = true := by first | rfl | simp [same] | decide
  rw [this]
theorem join (law_true : ∀ xs : List Int, xs.length ≤ 63 → g_law [.lst (xs.map .int)] (.bool true)) : PySem.Challenge.rw_xo0032_01.Holds := hd (by
  intro w s₀ s₁ mg mb G Y fa o pm cd doc dV kV ho hd hcd hD hmg hg args vals as hpre hlay hrd hwl hlo
  have KX := kIn_of Y
  refine Ground.open G ?_
  intro T B D TE TW
  have hfa : some (Value.ref fa) = some (Value.ref 205) := hmg.symm.trans (mg_of KX T.g rfl)
  clear hmg hD hd hcd
  wrow_args hpre hlay hrd hwl hlo
  rename_i xs _ _ _ _ _ _ _ l _ _ _ _ w1 _ _ _ hlen _
  have fe : fa = 205 := by cases hfa; rfl
  subst fe
  have hx : Is Challenge.rw_xo0032_01.row.prog w s₁.heap (fun _ => True) (.ref l) (.lst (xs.map .int)) := well_list w1
  have lt := law_true xs (by lia)
  have ao : Ao 5 callerA := ⟨rfl, by decide, by decide⟩
  have wd : Wd (_root_.hd.heap_39 w.params) s₁.heap := ⟨KX, ⟨_, T.g⟩, ⟨_, T.b, T.builtins⟩, T.nolimit⟩
  refine wpAny_mono (ok_law (prog := Challenge.rw_xo0032_01.row.prog) (w := w) (P := w.params) callerA _ s₁ (fun _ => True) [.ref l] [.lst (xs.map .int)] (.bool true) ao wd (Nat.zero_le _) (fun _ _ => trivial) (.cons hx .nil) lt) ?_ (fun _ _ e => e)
  intro v s' q
  obtain ⟨k, z⟩ := q
  have hv := z.bool'
  subst hv
  obtain ⟨h', tk, rfl⟩ := k.sh
  exact ⟨.inl ⟨.bool true, .bool true, [], rfl, fun _ => rfl, .bool _, post_ok _, fun _ => ⟨List.nodup_nil, fun _ h => by cases h⟩⟩, .of_keep (fun b o e => k.get e), rfl, .of_eq hg⟩)
end Mine
theorem PySem.Challenge.cw_xo0032_01_holds : PySem.Challenge.rw_xo0032_01.Holds :=
  Mine.join Mine.law_true
